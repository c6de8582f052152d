import PyProof.Rows.All
import Wide.All
import OpenK.AllK
import Wide.FinOn
import Lean
import PySem.Challenge.RW_rt0081_01
set_option Elab.async false
set_option hygiene false in
local macro_rules | `(tactic| walk_at "m1") => `(tactic| first
  | ((with_reducible refine' r_consG ?_); intro Qo hQo Qg hQg)
  | ((with_reducible refine' r_back ?hb ?_); (case hb => assumption))
  | ((with_reducible refine' r_backV ?hb ?_); (case hb => assumption))
  | ((with_reducible refine' r_nil ?_))
  | ((with_reducible refine' r_if ?_))
  | ((with_reducible refine' r_ret ?_))
  | ((with_reducible refine' r_loc ?S ?hv ?_ ?hk ?hl ?hL ?hd); (case S => assumption); (case hv => rfl); (case hk => rfl); (case hl => rfl); (case hL => rfl); (case hd => decide))
  | ((with_reducible refine' boot_name ?G ?e ?hb ?hn ?_ ?hg ?hbu ?hk ?hx ?hd); (case G => exact St.ge (by assumption)); (case e => rfl); (case hb => with_reducible (first | exact PyProof.Rows.boot_isinstance | exact bt_issubclass | exact PySem.boot_len | exact PyProof.Rows.boot_abs | exact PyProof.Rows.boot_sorted | exact PyProof.Rows.boot_max | exact PyProof.Rows.boot_min | exact PyProof.Rows.boot_bytes | exact PyProof.Rows.boot_str | exact PyProof.Rows.boot_type | exact PyProof.Rows.boot_range | exact PyProof.Rows.boot_set | exact PyProof.Rows.boot_list | exact PyProof.Rows.boot_filter | exact PyProof.Rows.boot_tuple | exact PyProof.Rows.boot_map | exact PyProof.Rows.boot_enumerate | exact bt_IndexError)); (case hn => decide); (case hg => rfl); (case hbu => rfl); (case hk => rfl); (case hx => rfl); (case hd => decide))
  | ((with_reducible refine' r_glob ?G ?e ?_ ?hg ?hk ?hx ?hd); (case G => exact St.ge (by assumption)); (case e => rfl); (case hg => rfl); (case hk => rfl); (case hx => rfl); (case hd => decide))
  | ((with_reducible refine' r_str ?S ?_); (case S => assumption); intro tk s S)
  | ((with_reducible refine' r_int ?S ?_); (case S => assumption); intro tk s S)
  | ((with_reducible refine' r_none ?_))
  | ((with_reducible refine' r_negc ?S ?_); (case S => assumption); intro tk s S)
  | ((with_reducible refine' r_bool ?_))
  | ((with_reducible refine' r_args ?_ ?he); (case he => rfl))
  | ((with_reducible refine' r_args0 ?_))
  | ((with_reducible refine' r_truthb ?_))
  | ((with_reducible refine' r_callB ?S ?e ?hb ?hn ?_ ?he ?hp ?hg ?hbu ?hk ?hx ?hd); (case S => assumption); (case e => rfl); (case hb => with_reducible (first | exact PyProof.Rows.boot_isinstance | exact bt_issubclass | exact PySem.boot_len | exact PyProof.Rows.boot_abs | exact PyProof.Rows.boot_sorted | exact PyProof.Rows.boot_max | exact PyProof.Rows.boot_min | exact PyProof.Rows.boot_bytes | exact PyProof.Rows.boot_str | exact PyProof.Rows.boot_type | exact PyProof.Rows.boot_range | exact PyProof.Rows.boot_set | exact PyProof.Rows.boot_list | exact PyProof.Rows.boot_filter | exact PyProof.Rows.boot_tuple | exact PyProof.Rows.boot_map | exact PyProof.Rows.boot_enumerate | exact bt_IndexError)); (case hn => decide); (case he => rfl); (case hp => rfl); (case hg => rfl); (case hbu => rfl); (case hk => rfl); (case hx => rfl); (case hd => decide))
  | ((with_reducible refine' r_callT ?S ?e ?hb ?hn ?_ ?he ?hp ?hg ?hbu ?hk ?hx ?hd); (case S => assumption); (case e => rfl); (case hb => with_reducible (first | exact PyProof.Rows.boot_isinstance | exact bt_issubclass | exact PySem.boot_len | exact PyProof.Rows.boot_abs | exact PyProof.Rows.boot_sorted | exact PyProof.Rows.boot_max | exact PyProof.Rows.boot_min | exact PyProof.Rows.boot_bytes | exact PyProof.Rows.boot_str | exact PyProof.Rows.boot_type | exact PyProof.Rows.boot_range | exact PyProof.Rows.boot_set | exact PyProof.Rows.boot_list | exact PyProof.Rows.boot_filter | exact PyProof.Rows.boot_tuple | exact PyProof.Rows.boot_map | exact PyProof.Rows.boot_enumerate | exact bt_IndexError)); (case hn => decide); (case he => rfl); (case hp => rfl); (case hg => rfl); (case hbu => rfl); (case hk => rfl); (case hx => rfl); (case hd => decide))
  | ((with_reducible refine' r_callK ?S ?e ?hk ?_ ?he ?hp ?hg ?hkd ?hx ?hd); (case S => assumption); (case e => rfl); (case hk => rfl); (case he => rfl); (case hp => rfl); (case hg => rfl); (case hkd => rfl); (case hx => rfl); (case hd => decide))
  | ((with_reducible refine' r_isval ?_ ?he); (case he => rfl))
  | ((with_reducible refine' r_tupd ?_))
  | ((with_reducible refine' r_lstd ?_))
  | ((with_reducible refine' r_newT ?S ?hl ?_); (case S => assumption); (case hl => exact Nat.le_of_ble_eq_true rfl); intro aN s hN S)
  | ((with_reducible refine' r_assign ?_ ?hs); (case hs => rfl))
  | ((with_reducible refine' r_store ?S ?_ ?hk ?hl ?hL); (case S => assumption); (case hk => rfl); (case hl => rfl); (case hL => rfl); intro s S))
set_option hygiene false in
local macro_rules | `(tactic| walk_at "m1") => `(tactic| first
  | ((with_reducible refine' r_asgnN ?_))
  | ((with_reducible refine' r_cmp ?_ ?hm); (case hm => rfl))
  | ((with_reducible refine' r_tcmp ?_ ?hm); (case hm => rfl))
  | ((with_reducible refine' r_tnot ?_))
  | ((with_reducible refine' r_tbool ?_))
  | ((with_reducible refine' r_and0 ?_))
  | ((with_reducible refine' r_or0 ?_))
  | ((with_reducible refine' r_and ?_))
  | ((with_reducible refine' r_or ?_))
  | ((with_reducible refine' r_ifexp ?_))
  | ((with_reducible refine' r_bin ?_))
  | ((with_reducible refine' r_break ?_))
  | ((with_reducible refine' r_continue ?_))
  | ((with_reducible refine' r_expr ?_ ?hi ?hs); (case hi => rfl); (case hs => rfl))
  | ((with_reducible refine' r_eqS ?_))
  | ((with_reducible refine' r_neS ?_))
  | ((with_reducible refine' r_slc ?_))
  | ((with_reducible refine' r_sub ?_ ?hs); (case hs => (intro _ _; rfl)))
  | ((with_reducible refine' r_or2 ?_))
  | ((with_reducible refine' r_and2 ?_))
  | ((with_reducible refine' r_part0 ?_))
  | ((with_reducible refine' r_part1 ?_))
  | ((with_reducible refine' r_meth ?_ ?he); (case he => rfl))
  | ((with_reducible refine' r_m1 ?_ ?he ?hp); (case he => rfl); (case hp => rfl))
  | ((with_reducible refine' r_m0 ?_))
  | ((with_reducible refine' GM.split ?_))
  | ((with_reducible refine' GM.join ?_))
  | ((with_reducible refine' GM.startswith ?_))
  | ((with_reducible refine' GM.endswith ?_))
  | ((with_reducible refine' r_startswith ?_))
  | ((with_reducible refine' r_endswith ?_)))
set_option hygiene false in
local macro_rules | `(tactic| walk_at "m1") => `(tactic| first
  | ((with_reducible refine' r_for ?_ ?hs); (case hs => (intro _; rfl))))
set_option hygiene false in
local macro_rules | `(tactic| walk_at "m1") => `(tactic| first
  | ((with_reducible refine' r_assignT ?_ ?hs ?hw); (case hs => rfl); (case hw => rfl))
  | ((with_reducible refine' r_ord0 ?_))
  | ((with_reducible refine' r_ord1 ?_ ?he); (case he => rfl)))
set_option hygiene false in
local macro_rules | `(tactic| walk_at "m1") => `(tactic| first
  | ((with_reducible refine' r_try ?_))
  | ((with_reducible refine' r_listcomp ?hc ?_ ?hk ?hn ?hs); (case hc => rfl); (case hk => rfl); (case hn => rfl); (case hs => (intro _; rfl)))
  | ((with_reducible refine' r_assignLC ?hsw ?hc ?_ ?hk ?hn ?hs); (case hsw => rfl); (case hc => rfl); (case hk => rfl); (case hn => rfl); (case hs => (intro _; rfl)))
  | ((with_reducible refine' r_setcomp ?hc ?_ ?hk ?hn ?hs); (case hc => rfl); (case hk => rfl); (case hn => rfl); (case hs => (intro _; rfl))))
set_option hygiene false in
local macro_rules | `(tactic| walk_at "m1") => `(tactic| first
  | ((with_reducible refine' r_tests0 ?_))
  | ((with_reducible refine' r_tests1 ?_)))
set_option hygiene false in
local macro_rules | `(tactic| walk_at "m2") => `(tactic| ((fail_if_success (with_reducible refine' r_consF ?_ ?_ ?_)); (walk_at "m1")))
set_option hygiene false in
local macro_rules | `(tactic| walk_at "m1") => `(tactic| first
  | ((with_reducible refine' r_asgnA ?_ ?hs); (case hs => rfl)))
section
open PySem PySem.W PyProof.Rows
set_option maxRecDepth 100000
namespace Mine
noncomputable abbrev pw : Program := PySem.Challenge.pw_rt0081_01
noncomputable abbrev fO (name qual : Str) (params : Arguments) (body : List Stmt) (scope : Scope) (pm : Value) (cd : Addr) : Obj :=
  ⟨.type "function", none, .func ⟨name, qual, params, .stmts body, scope, 3, [], .none, .none, .none, pm, none, .ref cd, .none, 0⟩, #[]⟩
/-- a def of the text: its params, body and scope are read off the program -/
noncomputable abbrev fK {name : Str} {ps : Arguments} {b : List Stmt} {ds : List Expr} {rt : Option Expr} {tp : List TypeParam} {sc : Scope} {ts : Option Scope} {bn : Str} {pos : Pos} (i : Nat) (pm : Value) (cd : Addr)
    (_ : pw.main.body[i]? = some (.FunctionDef name ps b ds rt tp sc ts bn pos)) : Obj := fO name name ps b sc pm cd
noncomputable abbrev fM {cn : Str} {cb : List Expr} {ck : List Keyword} {body : List Stmt} {cd2 : List Expr} {ct : List TypeParam} {csc : Scope} {cts : Option Scope} {cbn : Str} {cst : List Str} {cpos : Pos}
    {name : Str} {ps : Arguments} {b : List Stmt} {ds : List Expr} {rt : Option Expr} {tp : List TypeParam} {sc : Scope} {ts : Option Scope} {bn : Str} {pos : Pos} (i j : Nat) (qual : Str) (pm : Value) (cd : Addr)
    (_ : pw.main.body[i]? = some (.ClassDef cn cb ck body cd2 ct csc cts cbn cst cpos)) (_ : body[j]? = some (.FunctionDef name ps b ds rt tp sc ts bn pos)) : Obj := fO name qual ps b sc pm cd
/-- what the walk knows of the heap -/
noncomputable def KP : Params → Frag := fun P => [
  (nat_lit 2, ⟨.none, none, (.dict #[] 0), #[]⟩),
  (nat_lit 3, ⟨(.type "dict"), none, (.dict #[⟨PyData.keyHash P "__name__", .str "__name__" 165, (.str "law_rt0081_01" 445)⟩, ⟨PyData.keyHash P "__doc__", .str "__doc__" 166, .none⟩, ⟨PyData.keyHash P "__package__", .str "__package__" 167, .none⟩, ⟨PyData.keyHash P "__loader__", .str "__loader__" 168, (.builtin "__main__.__loader__#opaque")⟩, ⟨PyData.keyHash P "__spec__", .str "__spec__" 169, .none⟩, ⟨PyData.keyHash P "__annotations__", .str "__annotations__" 170, (.ref 6)⟩, ⟨PyData.keyHash P "__builtins__", .str "__builtins__" 171, (.ref 4)⟩, ⟨PyData.keyHash P "__file__", .str "__file__" 173, (.str "/claim/cut.py" 172)⟩, ⟨PyData.keyHash P "__cached__", .str "__cached__" 174, .none⟩, ⟨PyData.keyHash P "_wall", .str "_wall" 193, (.ref 21)⟩, ⟨PyData.keyHash P "Entry", .str "Entry" 257, (.ref 59)⟩, ⟨PyData.keyHash P "merge_entries", .str "merge_entries" 266, (.ref 70)⟩, ⟨PyData.keyHash P "_plain_name", .str "_plain_name" 277, (.ref 77)⟩, ⟨PyData.keyHash P "ABCMeta", .str "ABCMeta" 303, (.ref 94)⟩, ⟨PyData.keyHash P "_ABCLike", .str "_ABCLike" 346, (.ref 127)⟩, ⟨PyData.keyHash P "_abc_plain_meta", .str "_abc_plain_meta" 353, (.ref 136)⟩, ⟨PyData.keyHash P "fspath", .str "fspath" 365, (.ref 143)⟩, ⟨PyData.keyHash P "_check_arg_types", .str "_check_arg_types" 378, (.ref 150)⟩, ⟨PyData.keyHash P "_get_sep", .str "_get_sep" 387, (.ref 157)⟩, ⟨PyData.keyHash P "join", .str "join" 398, (.ref 164)⟩, ⟨PyData.keyHash P "splitroot", .str "splitroot" 407, (.ref 171)⟩, ⟨PyData.keyHash P "normpath", .str "normpath" 422, (.ref 178)⟩, ⟨PyData.keyHash P "commonpath", .str "commonpath" 428, (.ref 183)⟩, ⟨PyData.keyHash P "sorted_list_difference", .str "sorted_list_difference" 444, (.ref 190)⟩, ⟨PyData.keyHash P "_law_rule", .str "_law_rule" 456, (.ref 197)⟩, ⟨PyData.keyHash P "_law_drawn", .str "_law_drawn" 462, (.ref 202)⟩, ⟨PyData.keyHash P "_law_entry", .str "_law_entry" 474, (.ref 209)⟩, ⟨PyData.keyHash P "_law_parts", .str "_law_parts" 483, (.ref 216)⟩, ⟨PyData.keyHash P "_law_allowed", .str "_law_allowed" 489, (.ref 221)⟩, ⟨PyData.keyHash P "law", .str "law" 495, (.ref 226)⟩] 30), #[]⟩),
  (nat_lit 34, ⟨(.type "code"), none, (.fields #[(.str "__init__" 208), (.str "Entry.__init__" 209), (.str "/claim/cut.py" 210), (.int 7 0), (.int 1 0), (.int 0 0), (.int 0 0), (.int 3 0), (.ref 29), (.bool true), (.int 181 0), (.ref 30), .none, (.ref 31), (.ref 32), (.ref 33), (.int 212 0), (.int 7 0), (.str "/claim/cut.py" 213)]), #[]⟩),
  (nat_lit 35, fM 2 0 "Entry.__init__" (.str "cpy313.urllib.robotparser" 194) 34 rfl rfl),
  (nat_lit 55, ⟨(.type "code"), none, (.fields #[(.str "allowance" 234), (.str "Entry.allowance" 235), (.str "/claim/cut.py" 236), (.int 41 0), (.int 2 0), (.int 0 0), (.int 0 0), (.int 3 0), (.ref 50), (.bool true), (.int 181 0), (.ref 51), .none, (.ref 52), (.ref 53), (.ref 54), (.int 243 0), (.int 41 0), (.str "/claim/cut.py" 244)]), #[]⟩),
  (nat_lit 56, fM 2 3 "Entry.allowance" (.str "cpy313.urllib.robotparser" 194) 55 rfl rfl),
  (nat_lit 58, ⟨(.type "dict"), none, (.dict #[⟨PyData.keyHash P "__module__", .str "__module__" 203, (.str "cpy313.urllib.robotparser" 194)⟩, ⟨PyData.keyHash P "__firstlineno__", .str "__firstlineno__" 207, (.int 5 206)⟩, ⟨PyData.keyHash P "__init__", .str "__init__" 214, (.ref 35)⟩, ⟨PyData.keyHash P "__str__", .str "__str__" 224, (.ref 42)⟩, ⟨PyData.keyHash P "applies_to", .str "applies_to" 233, (.ref 49)⟩, ⟨PyData.keyHash P "allowance", .str "allowance" 245, (.ref 56)⟩, ⟨PyData.keyHash P "__static_attributes__", .str "__static_attributes__" 250, (.ref 57)⟩, ⟨PyData.keyHash P "__dict__", .str "__dict__" 252, (.ref 60)⟩, ⟨PyData.keyHash P "__weakref__", .str "__weakref__" 254, (.ref 61)⟩, ⟨PyData.keyHash P "__doc__", .str "__doc__" 255, .none⟩] 4), #[]⟩),
  (nat_lit 59, ⟨(.type "type"), none, (.cls ⟨"Entry", [(.type "object")], [(.ref 59), (.type "object")], 58, "Entry", true, [], [], false, none, false⟩), #[none, none, (some (.str "Entry" 196)), (some (.str "Entry" 204)), (some (.builtin "object.__new__")), (some (.bool true))]⟩),
  (nat_lit 69, ⟨(.type "code"), none, (.fields #[(.str "merge_entries" 258), (.str "merge_entries" 259), (.str "/claim/cut.py" 260), (.int 53 0), (.int 2 0), (.int 0 0), (.int 0 0), (.int 3 0), (.ref 64), (.bool true), (.int 181 0), (.ref 65), .none, (.ref 66), (.ref 67), (.ref 68), (.int 264 0), (.int 53 0), (.str "/claim/cut.py" 265)]), #[]⟩),
  (nat_lit 70, fK 3 (.str "cpy313.urllib.robotparser" 194) 69 rfl),
  (nat_lit 142, ⟨(.type "code"), none, (.fields #[(.str "fspath" 356), (.str "fspath" 357), (.str "/claim/cut.py" 358), (.int 91 0), (.int 1 0), (.int 0 0), (.int 0 0), (.int 3 0), (.ref 137), (.bool true), (.int 181 0), (.ref 138), .none, (.ref 139), (.ref 140), (.ref 141), (.int 363 0), (.int 91 0), (.str "/claim/cut.py" 364)]), #[]⟩),
  (nat_lit 143, fK 12 (.str "os" 354) 142 rfl),
  (nat_lit 156, ⟨(.type "code"), none, (.fields #[(.str "_get_sep" 381), (.str "_get_sep" 382), (.str "/claim/cut.py" 383), (.int 120 0), (.int 1 0), (.int 0 0), (.int 0 0), (.int 3 0), (.ref 151), (.bool true), (.int 181 0), (.ref 152), .none, (.ref 153), (.ref 154), (.ref 155), (.int 385 0), (.int 120 0), (.str "/claim/cut.py" 386)]), #[]⟩),
  (nat_lit 157, fK 16 (.str "cpy313.posixpath" 379) 156 rfl),
  (nat_lit 163, ⟨(.type "code"), none, (.fields #[(.str "join" 388), (.str "join" 389), (.str "/claim/cut.py" 390), (.int 125 0), (.int 1 0), (.int 0 0), (.int 0 0), (.int 7 0), (.ref 158), (.bool true), (.int 181 0), (.ref 159), .none, (.ref 160), (.ref 161), (.ref 162), (.int 396 0), (.int 125 0), (.str "/claim/cut.py" 397)]), #[]⟩),
  (nat_lit 164, fK 17 (.str "cpy313.posixpath" 379) 163 rfl),
  (nat_lit 170, ⟨(.type "code"), none, (.fields #[(.str "splitroot" 399), (.str "splitroot" 400), (.str "/claim/cut.py" 401), (.int 142 0), (.int 1 0), (.int 0 0), (.int 0 0), (.int 3 0), (.ref 165), (.bool true), (.int 181 0), (.ref 166), .none, (.ref 167), (.ref 168), (.ref 169), (.int 405 0), (.int 142 0), (.str "/claim/cut.py" 406)]), #[]⟩),
  (nat_lit 171, fK 18 (.str "cpy313.posixpath" 379) 170 rfl),
  (nat_lit 177, ⟨(.type "code"), none, (.fields #[(.str "normpath" 408), (.str "normpath" 409), (.str "/claim/cut.py" 410), (.int 156 0), (.int 1 0), (.int 0 0), (.int 0 0), (.int 3 0), (.ref 172), (.bool true), (.int 181 0), (.ref 173), .none, (.ref 174), (.ref 175), (.ref 176), (.int 420 0), (.int 156 0), (.str "/claim/cut.py" 421)]), #[]⟩),
  (nat_lit 178, fK 19 (.str "cpy313.posixpath" 379) 177 rfl),
  (nat_lit 182, ⟨(.type "code"), none, (.fields #[(.str "commonpath" 423), (.str "commonpath" 424), (.str "/claim/cut.py" 425), (.int 181 0), (.int 1 0), (.int 0 0), (.int 0 0), (.int 3 0), (.ref 179), (.bool true), (.int 181 0), (.ref 180), .none, .none, .none, (.ref 181), (.int 426 0), (.int 181 0), (.str "/claim/cut.py" 427)]), #[]⟩),
  (nat_lit 183, fK 20 (.str "cpy313.posixpath" 379) 182 rfl),
  (nat_lit 189, ⟨(.type "code"), none, (.fields #[(.str "sorted_list_difference" 431), (.str "sorted_list_difference" 432), (.str "/claim/cut.py" 433), (.int 211 0), (.int 2 0), (.int 0 0), (.int 0 0), (.int 3 0), (.ref 184), (.bool true), (.int 181 0), (.ref 185), .none, (.ref 186), (.ref 187), (.ref 188), (.int 442 0), (.int 211 0), (.str "/claim/cut.py" 443)]), #[]⟩),
  (nat_lit 190, fK 22 (.str "cpy313.unittest.util" 429) 189 rfl),
  (nat_lit 196, ⟨(.type "code"), none, (.fields #[(.str "_law_rule" 447), (.str "_law_rule" 448), (.str "/claim/cut.py" 449), (.int 244 0), (.int 2 0), (.int 0 0), (.int 0 0), (.int 3 0), (.ref 191), (.bool true), (.int 181 0), (.ref 192), .none, (.ref 193), (.ref 194), (.ref 195), (.int 454 0), (.int 244 0), (.str "/claim/cut.py" 455)]), #[]⟩),
  (nat_lit 197, fK 24 (.str "law_rt0081_01" 445) 196 rfl),
  (nat_lit 201, ⟨(.type "code"), none, (.fields #[(.str "_law_drawn" 457), (.str "_law_drawn" 458), (.str "/claim/cut.py" 459), (.int 249 0), (.int 1 0), (.int 0 0), (.int 0 0), (.int 3 0), (.ref 198), (.bool true), (.int 181 0), (.ref 199), .none, .none, .none, (.ref 200), (.int 460 0), (.int 249 0), (.str "/claim/cut.py" 461)]), #[]⟩),
  (nat_lit 202, fK 25 (.str "law_rt0081_01" 445) 201 rfl),
  (nat_lit 208, ⟨(.type "code"), none, (.fields #[(.str "_law_entry" 463), (.str "_law_entry" 464), (.str "/claim/cut.py" 465), (.int 263 0), (.int 2 0), (.int 0 0), (.int 0 0), (.int 3 0), (.ref 203), (.bool true), (.int 181 0), (.ref 204), .none, (.ref 205), (.ref 206), (.ref 207), (.int 472 0), (.int 263 0), (.str "/claim/cut.py" 473)]), #[]⟩),
  (nat_lit 209, fK 26 (.str "law_rt0081_01" 445) 208 rfl),
  (nat_lit 215, ⟨(.type "code"), none, (.fields #[(.str "_law_parts" 475), (.str "_law_parts" 476), (.str "/claim/cut.py" 477), (.int 270 0), (.int 1 0), (.int 0 0), (.int 0 0), (.int 3 0), (.ref 210), (.bool true), (.int 181 0), (.ref 211), .none, (.ref 212), (.ref 213), (.ref 214), (.int 481 0), (.int 270 0), (.str "/claim/cut.py" 482)]), #[]⟩),
  (nat_lit 216, fK 27 (.str "law_rt0081_01" 445) 215 rfl),
  (nat_lit 220, ⟨(.type "code"), none, (.fields #[(.str "_law_allowed" 484), (.str "_law_allowed" 485), (.str "/claim/cut.py" 486), (.int 278 0), (.int 2 0), (.int 0 0), (.int 0 0), (.int 3 0), (.ref 217), (.bool true), (.int 181 0), (.ref 218), .none, .none, .none, (.ref 219), (.int 487 0), (.int 278 0), (.str "/claim/cut.py" 488)]), #[]⟩),
  (nat_lit 221, fK 28 (.str "law_rt0081_01" 445) 220 rfl),
  (nat_lit 225, ⟨(.type "code"), none, (.fields #[(.str "law" 490), (.str "law" 491), (.str "/claim/cut.py" 492), (.int 282 0), (.int 1 0), (.int 0 0), (.int 0 0), (.int 3 0), (.ref 222), (.bool true), (.int 181 0), (.ref 223), .none, .none, .none, (.ref 224), (.int 493 0), (.int 282 0), (.str "/claim/cut.py" 494)]), #[]⟩),
  (nat_lit 226, fK 29 (.str "law_rt0081_01" 445) 225 rfl)]
noncomputable abbrev KA : List Addr := [nat_lit 2, nat_lit 3, nat_lit 34, nat_lit 35, nat_lit 55, nat_lit 56, nat_lit 58, nat_lit 59, nat_lit 69, nat_lit 70, nat_lit 142, nat_lit 143, nat_lit 156, nat_lit 157, nat_lit 163, nat_lit 164, nat_lit 170, nat_lit 171, nat_lit 177, nat_lit 178, nat_lit 182, nat_lit 183, nat_lit 189, nat_lit 190, nat_lit 196, nat_lit 197, nat_lit 201, nat_lit 202, nat_lit 208, nat_lit 209, nat_lit 215, nat_lit 216, nat_lit 220, nat_lit 221, nat_lit 225, nat_lit 226]
end Mine
end
section
open PySem PySem.W PySem.Calls PyProof.Rows
set_option maxRecDepth 100000
namespace Mine

noncomputable abbrev Hp := Addr → Option Obj
noncomputable def Sub (g : Hp) (h : Heap) : Prop := ∀ b o, g b = some o → h.get? b = some o
noncomputable def Le (g g' : Hp) : Prop := ∀ b o, g b = some o → g' b = some o
noncomputable def ins (g : Hp) (a : Addr) (o : Obj) : Hp := fun b => if b = a then some o else g b
theorem Le.refl (g : Hp) : Le g g := fun _ _ h => h
theorem Le.trans {a b c : Hp} (h : Le a b) (k : Le b c) : Le a c := fun x o e => k x o (h x o e)
theorem Le.ins {g : Hp} {a : Addr} {o : Obj} (h : g a = none) : Le g (ins g a o) := fun b o' e => by
  unfold Mine.ins
  by_cases hb : b = a
  · subst hb; rw [h] at e; cases e
  · rw [if_neg hb]; exact e
theorem ins_self {g : Hp} {a : Addr} {o : Obj} : ins g a o a = some o := if_pos rfl

/-- the code table of _law_rule -/
noncomputable abbrev tb : Addr := 192
noncomputable abbrev KK (w : World) : Frag := KP w.params

structure GE (w : World) (h : Heap) : Prop where
  K : Frag.In (KK w) h
  g : ∃ mg, h.Ns mainGlobals mg
  b : ∃ mb, h.Ns builtinsNs mb ∧ ∀ x : Str, x ≠ "__name__" → mb x = bootBuiltins x
  lim : h.NoLimit
  bm : ∃ ob, h.get? 4 = some ob ∧ ob.cls = .type "module" ∧ ob.dict = some builtinsNs ∧ ob.data = .plain

noncomputable def Kp (h h' : Heap) : Prop := ∀ b o, b ≠ tb → h.get? b = some o → h'.get? b = some o
theorem Kp.refl (h : Heap) : Kp h h := fun _ _ _ e => e
theorem Kp.trans {a b c : Heap} (h : Kp a b) (k : Kp b c) : Kp a c := fun x o n e => k x o n (h x o n e)

theorem ns_kp {h h' : Heap} {a : Addr} {m : Str → Option Value} (hn : h.Ns a m) (k : Kp h h') (ha : a ≠ tb) : h'.Ns a m := by
  obtain ⟨o, es, ep, e, r⟩ := hn
  exact ⟨o, es, ep, k _ _ ha e, r⟩
theorem KK_tb (w : World) : (KK w).lookup tb = none := rfl
theorem GE.kp {w : World} {h h' : Heap} (G : GE w h) (k : Kp h h') : GE w h' where
  K := fun a o e => k a o (fun q => by subst q; rw [KK_tb] at e; cases e) (G.K a o e)
  g := let ⟨mg, x⟩ := G.g; ⟨mg, ns_kp x k (by decide)⟩
  b := let ⟨mb, x, y⟩ := G.b; ⟨mb, ns_kp x k (by decide), y⟩
  lim := let ⟨mc, x, y⟩ := G.lim; ⟨mc, ns_kp x k (by decide), y⟩
  bm := let ⟨ob, x, y⟩ := G.bm; ⟨ob, k _ _ (by decide) x, y⟩

structure Nx (s s' : Shared) : Prop where
  kp : Kp s.heap s'.heap
  gens : s'.gens = s.gens
  os : s'.os = s.os
theorem Nx.refl (s : Shared) : Nx s s := ⟨Kp.refl _, rfl, rfl⟩
theorem Nx.trans {a b c : Shared} (h : Nx a b) (k : Nx b c) : Nx a c := ⟨h.kp.trans k.kp, k.gens.trans h.gens, k.os.trans h.os⟩

/-- the two lambdas of _law_rule: where they stand, what their code objects are called -/
noncomputable def lams : List (Pos × Str) := [(⟨245, 11, 245, 23⟩, "_law_rule.<locals>.<lambda>"), (⟨246, 22, 246, 89⟩, "_law_rule.<locals>.<lambda>")]
noncomputable def Tab (g : Hp) (h : Heap) : Prop := g tb = none ∧ ∃ ps, h.get? tb = some { cls := .none, data := .fields ps } ∧ TriplesOk ps.toList ∧ ∀ q ∈ lams, codeAmong q.1 ps.toList = none ∨
  ∃ c' o vs t, codeAmong q.1 ps.toList = some (.ref c') ∧ g c' = some o ∧ o.data = .fields vs ∧ vs[1]? = some (.str q.2 t)
theorem Tab.mono {g g' : Hp} {h h' : Heap} (T : Tab g h) (l : Le g g') (hn : g' tb = none) (k : ∀ o, h.get? tb = some o → h'.get? tb = some o) : Tab g' h' := by
  obtain ⟨_, ps, e, t, r⟩ := T
  refine ⟨hn, ps, k _ e, t, fun q hq => (r q hq).imp id ?_⟩
  rintro ⟨c', o, vs, t, a, b, c⟩
  exact ⟨c', o, vs, t, a, l _ _ b, c⟩
theorem Tab.same {g : Hp} {h h' : Heap} (T : Tab g h) (k : ∀ o, h.get? tb = some o → h'.get? tb = some o) : Tab g h' := T.mono (Le.refl g) T.1 k
theorem ins_other {g : Hp} {a b : Addr} {o : Obj} (h : b ≠ a) : ins g a o b = g b := if_neg h

noncomputable def lkp (l : List (Str × Value)) : Str → Option Value := fun y => l.lookup y
noncomputable def setl (x : Str) (v : Value) : List (Str × Value) → List (Str × Value)
  | [] => [(x, v)]
  | (y, u) :: r => if y = x then (x, v) :: r else (y, u) :: setl x v r
theorem lkp_setl (x : Str) (v : Value) (l : List (Str × Value)) : lkp (setl x v l) = fun y => if y = x then some v else lkp l y := by
  funext y
  induction l with
  | nil =>
    by_cases h : y = x
    · simp [lkp, setl, List.lookup_cons, h]
    · have hb : (y == x) = false := beq_eq_false_iff_ne.mpr h
      simp [lkp, setl, List.lookup_cons, h, hb]
  | cons p r ih =>
    obtain ⟨z, u⟩ := p
    simp only [lkp] at ih
    by_cases hz : z = x
    · subst hz
      by_cases h : y = z
      · simp [lkp, setl, List.lookup_cons, h]
      · have hb : (y == z) = false := beq_eq_false_iff_ne.mpr h
        simp [lkp, setl, List.lookup_cons, h, hb]
    · by_cases h : y = z
      · subst h
        simp [lkp, setl, List.lookup_cons, hz]
      · have hb : (y == z) = false := beq_eq_false_iff_ne.mpr h
        simp [lkp, setl, List.lookup_cons, hz, hb, ih]

structure St (w : World) (s₀ : Shared) (g₀ g : Hp) (L : Addr) (lc : List (Str × Value)) (own : List (Addr × Obj)) (s : Shared) : Prop where
  ns : s.heap.Ns L (lkp lc)
  sub : Sub g s.heap
  ob : ∀ p ∈ own, s.heap.get? p.1 = some p.2
  nd : (L :: own.map (·.1)).Nodup
  gL : ∀ b ∈ L :: own.map (·.1), g b = none
  old : ∀ b ∈ L :: own.map (·.1), s₀.heap.get? b = none
  new : ∀ b o, g b = some o → g₀ b = some o ∨ s₀.heap.get? b = none
  le : Le g₀ g
  nx : Nx s₀ s
  ge0 : GE w s₀.heap
  tab : Tab g s.heap
  tab0 : ∃ o, s₀.heap.get? tb = some o

noncomputable def AOk (A : Around) (n : Nat) : Prop := A.handled = none ∧ A.depth + 2 * n ≤ 500 ∧ A.units + 50 * n ≤ 5000
theorem AOk.deeper {A : Around} {n : Nat} {env : Env} (h : AOk A (n + 1)) : AOk (A.deeper env) n := ⟨h.1, by have := h.2.1; show A.depth + 1 + 2 * n ≤ 500; omega, by have := h.2.2; show A.units + 3 + 50 * n ≤ 5000; omega⟩
theorem AOk.in1 {A : Around} {n : Nat} (h : AOk A (n + 1)) : AOk A.in1 n := ⟨h.1, by have := h.2.1; show A.depth + 2 * n ≤ 500; omega, by have := h.2.2; show A.units + 1 + 50 * n ≤ 5000; omega⟩
theorem AOk.less {A : Around} {n m : Nat} (h : AOk A n) (k : m ≤ n) : AOk A m := ⟨h.1, by have := h.2.1; omega, by have := h.2.2; omega⟩
theorem AOk.room {A : Around} {n : Nat} (h : AOk A n) : A.depth < recursionLimit := by have := h.2.1; show A.depth < 1000; omega

/-- what a call hands back: the heap has grown, the base has grown by what is new -/
noncomputable def Out (s : Shared) (g : Hp) (P : Value → Hp → Prop) (v : Value) (s' : Shared) : Prop :=
  Nx s s' ∧ ∃ g', Le g g' ∧ Sub g' s'.heap ∧ (∀ b o, g' b = some o → g b = some o ∨ s.heap.get? b = none) ∧ Tab g' s'.heap ∧ P v g'

noncomputable def Fn (prog : Program) (w : World) (f : Value) (n : Nat) (args : List Value) (Pre : Hp → Heap → Prop) (P : Value → Hp → Prop) : Prop :=
  ∀ A s g, AOk A n → GE w s.heap → Sub g s.heap → Tab g s.heap → Pre g s.heap → wpAny (model prog w) A (call f args) (Out s g P) (fun _ _ => False) s

section
variable {prog : Program} {w : World} {A : Around} {s₀ s s' : Shared} {g₀ g g' : Hp} {L : Addr} {lc lc' : List (Str × Value)} {own own' : List (Addr × Obj)} {E : Value → Shared → Prop} {env : Env} {n : Nat}

theorem St.ge (S : St w s₀ g₀ g L lc own s) : GE w s.heap := S.ge0.kp S.nx.kp
theorem St.off {S : St w s₀ g₀ g L lc own s} {b : Addr} {o : Obj} (e : s₀.heap.get? b = some o) : b ∉ L :: own.map (·.1) := fun h => by rw [S.old b h] at e; cases e
theorem St.tboff (S : St w s₀ g₀ g L lc own s) : tb ∉ L :: own.map (·.1) := by obtain ⟨o, e⟩ := S.tab0; exact St.off (S := S) e

/-- the one step: what is not the frame's or an own object's address is kept -/
theorem St.step (S : St w s₀ g₀ g L lc own s) (hk : ∀ b o, b ∉ L :: own.map (·.1) → s.heap.get? b = some o → s'.heap.get? b = some o) (hg : s'.gens = s.gens) (ho : s'.os = s.os)
    (ns : s'.heap.Ns L (lkp lc')) (hown : ∀ p ∈ own', s'.heap.get? p.1 = some p.2) (hnd : (L :: own'.map (·.1)).Nodup) (hnew : ∀ b ∈ own'.map (·.1), b ∈ own.map (·.1) ∨ s.heap.get? b = none) :
    St w s₀ g₀ g L lc' own' s' where
  ns := ns
  sub := fun b o e => hk b o (fun h => by rw [S.gL b h] at e; cases e) (S.sub b o e)
  ob := hown
  nd := hnd
  gL := fun b hb => by
    rcases List.mem_cons.mp hb with rfl | hb
    · exact S.gL _ (.head _)
    · rcases hnew b hb with h | h
      · exact S.gL b (.tail _ h)
      · cases e : g b with
        | none => rfl
        | some o => have := S.sub b o e; rw [h] at this; cases this
  old := fun b hb => by
    rcases List.mem_cons.mp hb with rfl | hb
    · exact S.old _ (.head _)
    · rcases hnew b hb with h | h
      · exact S.old b (.tail _ h)
      · cases e : s₀.heap.get? b with
        | none => rfl
        | some o =>
          by_cases q : b = tb
          · obtain ⟨_, ps, e', _⟩ := S.tab
            rw [q] at h; rw [h] at e'; cases e'
          · have := S.nx.kp b o q e; rw [h] at this; cases this
  new := S.new
  le := S.le
  nx := ⟨fun b o n e => hk b o (St.off (S := S) e) (S.nx.kp b o n e), hg.trans S.nx.gens, ho.trans S.nx.os⟩
  ge0 := S.ge0
  tab := S.tab.same fun o e => hk tb o S.tboff e
  tab0 := S.tab0

theorem St.toks (S : St w s₀ g₀ g L lc own s) {t : Nat} : St w s₀ g₀ g L lc own { s with toks := t } := S.step (fun _ _ _ e => e) rfl rfl S.ns S.ob S.nd fun _ h => .inl h

/-- the heap grows, nothing that stood is changed -/
theorem St.grow (S : St w s₀ g₀ g L lc own s) (hk : ∀ b o, s.heap.get? b = some o → s'.heap.get? b = some o) (hg : s'.gens = s.gens) (ho : s'.os = s.os) : St w s₀ g₀ g L lc own s' :=
  S.step (fun b o _ e => hk b o e) hg ho (by obtain ⟨o, es, ep, e, r⟩ := S.ns; exact ⟨o, es, ep, hk _ _ e, r⟩) (fun p hp => hk _ _ (S.ob p hp)) S.nd fun _ h => .inl h

/-- what a call gave back is taken in -/
theorem St.out {P : Value → Hp → Prop} {v : Value} (S : St w s₀ g₀ g L lc own s) (O : Out s g P v s') : ∃ g', Le g g' ∧ P v g' ∧ St w s₀ g₀ g' L lc own s' := by
  obtain ⟨N, g', l, sb, nw, tb', p⟩ := O
  have there : ∀ b ∈ L :: own.map (·.1), ∃ o, s.heap.get? b = some o := fun b hb => by
    rcases List.mem_cons.mp hb with rfl | hb
    · obtain ⟨o, _, _, e, _⟩ := S.ns; exact ⟨o, e⟩
    · obtain ⟨p, hp, rfl⟩ := List.mem_map.mp hb; exact ⟨p.2, S.ob p hp⟩
  have ntb : ∀ b ∈ L :: own.map (·.1), b ≠ tb := fun b hb q => S.tboff (q ▸ hb)
  refine ⟨g', l, p, ?_, sb, fun p hp => N.kp _ _ (ntb _ (.tail _ (List.mem_map_of_mem hp))) (S.ob p hp), S.nd, fun b hb => ?_, S.old, fun b o e => ?_, S.le.trans l, S.nx.trans N, S.ge0, tb', S.tab0⟩
  · obtain ⟨o, es, ep, e, r⟩ := S.ns
    exact ⟨o, es, ep, N.kp _ _ (ntb _ (.head _)) e, r⟩
  · cases e : g' b with
    | none => rfl
    | some o =>
      rcases nw b o e with h | h
      · rw [S.gL b hb] at h; cases h
      · obtain ⟨o', q⟩ := there b hb; rw [h] at q; cases q
  · rcases nw b o e with h | h
    · exact S.new b o h
    · refine .inr ?_
      cases e0 : s₀.heap.get? b with
      | none => rfl
      | some o' =>
        by_cases q : b = tb
        · obtain ⟨_, ps, e', _⟩ := S.tab
          rw [q] at h; rw [h] at e'; cases e'
        · have := S.nx.kp b o' q e0; rw [h] at this; cases this

/-- a new object goes onto the own ones -/
theorem St.alloc (S : St w s₀ g₀ g L lc own s) {o : Obj} (hf : o.isFreed = false) {t : Nat} : St w s₀ g₀ g L lc ((s.heap.objs.size, o) :: own) { s with heap := s.heap.push o, toks := t } := by
  have hlt : ∀ b o', s.heap.get? b = some o' → b ≠ s.heap.objs.size := fun b o' e => Nat.ne_of_lt (Heap.lt_size e)
  have hnone : s.heap.get? s.heap.objs.size = none := by
    cases e : s.heap.get? s.heap.objs.size with
    | none => rfl
    | some o' => exact absurd rfl (hlt _ _ e)
  refine S.step (fun b o' _ e => Heap.get?_push_of_some _ e) rfl rfl ?_ ?_ ?_ ?_
  · obtain ⟨o', es, ep, e, r⟩ := S.ns
    exact ⟨o', es, ep, Heap.get?_push_of_some _ e, r⟩
  · intro p hp
    rcases List.mem_cons.mp hp with rfl | hp
    · exact Heap.get?_push_size _ hf
    · exact Heap.get?_push_of_some _ (S.ob p hp)
  · have hn := S.nd
    rw [List.map_cons]
    rw [List.nodup_cons] at hn ⊢
    obtain ⟨h1, h2⟩ := hn
    obtain ⟨oL, _, _, eL, _⟩ := S.ns
    refine ⟨fun h => ?_, List.nodup_cons.mpr ⟨fun h => ?_, h2⟩⟩
    · rcases List.mem_cons.mp h with h | h
      · exact hlt _ _ eL h
      · exact h1 h
    · obtain ⟨p, hp, e⟩ := List.mem_map.mp h
      exact hlt _ _ (S.ob p hp) e
  · intro b hb
    rw [List.map_cons] at hb
    rcases List.mem_cons.mp hb with rfl | hb
    · exact .inr hnone
    · exact .inl hb

/-- an own object is laid down: it is not changed any more -/
theorem St.lay {a : Addr} {o : Obj} (S : St w s₀ g₀ g L lc ((a, o) :: own) s) : St w s₀ g₀ (ins g a o) L lc own s where
  ns := S.ns
  sub := fun b o' e => by
    unfold ins at e
    by_cases h : b = a
    · subst h; rw [if_pos rfl] at e; cases e; exact S.ob (b, o) (.head _)
    · rw [if_neg h] at e; exact S.sub b o' e
  ob := fun p hp => S.ob p (.tail _ hp)
  nd := by
    have hn := S.nd
    simp only [List.map_cons, List.nodup_cons, List.mem_cons, not_or] at hn ⊢
    exact ⟨hn.1.2, hn.2.2⟩
  gL := fun b hb => by
    have hn := S.nd
    simp only [List.map_cons, List.nodup_cons, List.mem_cons, not_or] at hn
    have hba : b ≠ a := by
      rcases List.mem_cons.mp hb with rfl | hb
      · exact hn.1.1
      · exact fun q => hn.2.1 (q ▸ hb)
    unfold ins
    rw [if_neg hba]
    exact S.gL b (by rcases List.mem_cons.mp hb with rfl | hb; exact .head _; exact .tail _ (.tail _ hb))
  old := fun b hb => S.old b (by rcases List.mem_cons.mp hb with rfl | hb; exact .head _; exact .tail _ (.tail _ hb))
  new := fun b o' e => by
    unfold ins at e
    by_cases h : b = a
    · subst h; exact .inr (S.old b (.tail _ (.head _)))
    · rw [if_neg h] at e; exact S.new b o' e
  le := S.le.trans (Le.ins (S.gL a (.tail _ (.head _))))
  nx := S.nx
  ge0 := S.ge0
  tab := S.tab.mono (Le.ins (S.gL a (.tail _ (.head _)))) ((ins_other (fun q : tb = a => S.tboff (by rw [q]; exact .tail _ (.head _)))).trans S.tab.1) fun _ e => e
  tab0 := S.tab0

/-- a new object that stays as it is -/
theorem St.made (S : St w s₀ g₀ g L lc own s) {o : Obj} (hf : o.isFreed = false) {t : Nat} : St w s₀ g₀ (ins g s.heap.objs.size o) L lc own { s with heap := s.heap.push o, toks := t } := (S.alloc hf).lay
theorem St.fresh (S : St w s₀ g₀ g L lc own s) : g s.heap.objs.size = none := by
  cases e : g s.heap.objs.size with
  | none => rfl
  | some o => exact absurd (Heap.lt_size (S.sub _ _ e)) (Nat.lt_irrefl _)

/-- the own objects in another order -/
theorem St.perm (S : St w s₀ g₀ g L lc own s) (h : own'.Perm own) : St w s₀ g₀ g L lc own' s where
  ns := S.ns
  sub := S.sub
  ob := fun p hp => S.ob p (h.mem_iff.mp hp)
  nd := ((h.map (·.1)).cons L).nodup_iff.mpr S.nd
  gL := fun b hb => S.gL b (((h.map (·.1)).cons L).mem_iff.mp hb)
  old := fun b hb => S.old b (((h.map (·.1)).cons L).mem_iff.mp hb)
  new := S.new
  le := S.le
  nx := S.nx
  ge0 := S.ge0
  tab := S.tab
  tab0 := S.tab0

/-- an own object is changed in place -/
theorem St.upd {a : Addr} {o o' : Obj} (S : St w s₀ g₀ g L lc ((a, o) :: own) s) (hs : Heap.SameBut a s.heap s'.heap) (ho' : s'.heap.get? a = some o') (hg : s'.gens = s.gens) (ho : s'.os = s.os) :
    St w s₀ g₀ g L lc ((a, o') :: own) s' := by
  have hn := S.nd
  simp only [List.map_cons, List.nodup_cons, List.mem_cons, not_or] at hn
  refine S.step (fun b o₁ hb e => (hs.2 b fun q => hb (by rw [q]; exact .tail _ (.head _))).trans e) hg ho ?_ ?_ S.nd fun b hb => .inl hb
  · obtain ⟨o₁, es, ep, e, r⟩ := S.ns
    exact ⟨o₁, es, ep, (hs.2 L hn.1.1).trans e, r⟩
  · intro p hp
    rcases List.mem_cons.mp hp with rfl | hp
    · exact ho'
    · exact (hs.2 p.1 fun q => hn.2.1 (by rw [← q]; exact List.mem_map_of_mem hp)).trans (S.ob p (.tail _ hp))

/-- the end of a call -/
theorem St.done (S : St w s₀ g₀ g L lc own s) {P : Value → Hp → Prop} {v : Value} (p : P v g) : Out s₀ g₀ P v s := ⟨S.nx, g, S.le, S.sub, S.new, S.tab, p⟩

-- names
theorem r_loc {x : Str} {p : Pos} {v : Value} {Q : Value → Shared → Prop} (S : St w s₀ g₀ g L lc own s) (hv : lkp lc x = some v) (h : Q v s) (hk : env.scope.kind = .function := by rfl)
    (hl : env.kindOf x = some .local := by rfl) (hL : env.locals = L := by rfl) (hd : (x == ("__debug__" : Str)) = false := by decide) : wpAny (model prog w) A (eval (.Name x p) env) Q E s :=
  wpAny_Name (wpAny_loadName_local hk hl (hL ▸ S.ns) hv h) hd
theorem r_store {x : Str} {v : Value} {Q : Unit → Shared → Prop} (S : St w s₀ g₀ g L lc own s) (h : ∀ s', St w s₀ g₀ g L (setl x v lc) own s' → Q () s') (hk : env.scope.kind = .function := by rfl)
    (hl : env.kindOf x = some .local := by rfl) (hL : env.locals = L := by rfl) : wpAny (model prog w) A (storeName env x v) Q E s := by
  subst hL
  refine wpAny_storeName_local hl S.ns (fun h' hn hs => h _ ?_) (by simp [hk])
  have hnd := S.nd
  rw [List.nodup_cons] at hnd
  refine S.step (fun b o hb e => (hs.2 b fun q => hb (q ▸ .head _)).trans e) rfl rfl (by rw [lkp_setl]; exact hn) (fun p hp => (hs.2 p.1 fun q => hnd.1 (by rw [← q]; exact List.mem_map_of_mem hp)).trans (S.ob p hp)) S.nd fun b hb => .inl hb
theorem r_assign {x : Str} {p pos : Pos} {e : Expr} {Q : Flow → Shared → Prop} (h : wpAny (model prog w) A (eval e env) (fun v s₁ => wpAny (model prog w) A (storeName env x v) (fun _ => Q .next) E s₁) E s)
    (hs : swapsWith e (some (.Name x p)) pos.line env = pure false := by rfl) : wpAny (model prog w) A (exec (.Assign [.Name x p] e pos) env) Q E s := wpAny_Assign_Name h hs
theorem r_glob {x : Str} {p : Pos} {v : Value} {Q : Value → Shared → Prop} (G : GE w s.heap) (e : nsIn (KK w) mainGlobals x = some (some v)) (h : Q v s) (hg : env.globals = mainGlobals := by rfl)
    (hk : env.scope.kind = .function := by rfl) (hx : env.kindOf x = some .globalImplicit := by rfl) (hd : (x == ("__debug__" : Str)) = false := by decide) : wpAny (model prog w) A (eval (.Name x p) env) Q E s := by
  obtain ⟨mg, hm⟩ := G.g
  exact Name_function_global hk hx (loadGlobal_global (env := env) (by rw [hg]; exact hm) (mg_of G.K hm e) h) hd
end
end Mine
end
section
open PySem PySem.W PySem.Calls PyProof.Rows
set_option maxRecDepth 100000
set_option linter.unusedSimpArgs false
set_option linter.unusedVariables false
namespace Mine

noncomputable abbrev retv : Flow → Value := fun fl => match fl with | .ret v => v | _ => .none
noncomputable abbrev F0 : Value → Shared → Prop := fun _ _ => False
noncomputable abbrev lst (vs : List Value) (n : Nat) : Obj := { cls := .type "list", data := .seq vs.toArray n }
noncomputable abbrev tup (vs : List Value) : Obj := { cls := .type "tuple", data := .seq vs.toArray 0 }

/-- a fixed surrounding that all of ours lie under -/
noncomputable def A0 : Around := { handled := none, depth := 500, frames := none, guards := none, units := 5000 }
theorem wk {α : Type} {M : Model} {A : Around} {n : Nat} {t : Sem α} {Q : α → Shared → Prop} {E : Value → Shared → Prop} {s : Shared} (hA : AOk A n) (h : wpAny M A0 t Q E s) : wpAny M A t Q E s := by
  intro Γ p hΓ
  refine h Γ p ⟨hΓ.1.trans (hA.1.trans rfl), ?_, fun l e => (nomatch e), fun l e => (nomatch e), ?_⟩
  · have := hΓ.2.1; have := hA.2.1; show _ ≤ 500; omega
  · have := hΓ.2.2.2.2; have := hA.2.2; show _ ≤ 5000; omega

theorem bt_issubclass : bootBuiltins "issubclass" = some (.builtin "issubclass") := by decide +kernel
theorem bt_IndexError : bootBuiltins "IndexError" = some (.type "IndexError") := by decide +kernel
section
variable {prog : Program} {w : World} {A : Around} {s₀ s s' : Shared} {g₀ g g' : Hp} {L : Addr} {lc lc' : List (Str × Value)} {own own' : List (Addr × Obj)} {E : Value → Shared → Prop} {env : Env} {n : Nat}

/-- a contract at a call -/
theorem r_use {f : Value} {args : List Value} {Pre : Hp → Heap → Prop} {P : Value → Hp → Prop} {Q : Value → Shared → Prop} (S : St w s₀ g₀ g L lc own s) (C : Fn prog w f n args Pre P) (hA : AOk A n) (pre : Pre g s.heap)
    (h : ∀ v g' s', Le g g' → P v g' → St w s₀ g₀ g' L lc own s' → Q v s') : wpAny (model prog w) A (call f args) Q E s :=
  wpAny_mono (C A s g hA S.ge S.sub S.tab pre) (fun v s' O => by obtain ⟨g', l, p, S'⟩ := S.out O; exact h v g' s' l p S') fun _ _ f => f.elim

/-- the surroundings of a def's body -/
@[reducible] def envF (scope : Scope) (L : Addr) (cells : List (Str × Addr)) (qual : Str) (a : Addr) (cd : Value) : Env :=
  { scope, locals := L, globals := mainGlobals, cells, qual := qual ++ ".<locals>.", func := some a, code := cd, frame := some L, builtins := builtinsNs }

/-- a def without cells of its own is entered -/
theorem r_enter {a : Addr} {o : Obj} {name qual : Str} {params : Arguments} {scope : Scope} {closure : List (Str × Addr)} {dV kV doc pm cd ct : Value} {an : Option Addr} {body : List Stmt} {args : List Value} {binds : List (Str × Value)} {P : Value → Hp → Prop}
    (hA : AOk A (n + 1)) (G : GE w s.heap) (sb : Sub g s.heap) (T : Tab g s.heap)
    (ho : s.heap.get? a = some o) (hd : o.data = .func ⟨name, qual, params, .stmts body, scope, mainGlobals, closure, dV, kV, doc, pm, an, cd, ct, builtinsNs⟩) (hcd : s.heap.CodeRec cd qual)
    (hbind : bindArgs ⟨name, qual, params, .stmts body, scope, mainGlobals, closure, dV, kV, doc, pm, an, cd, ct, builtinsNs⟩ ⟨args, []⟩ = pure binds)
    (hcell : (scope.names.all fun x => x.2 != .cell) = true) (hloc : (binds.all fun y => scope.names.lookup y.1 == some .local) = true)
    (h : ∀ A' L s', AOk A' n → St w s g g L binds.reverse [] s' → wpAny (model prog w) A' (execs body (envF scope L closure qual a cd)) (fun fl s' => Out s g P (retv fl) s') F0 s')
    (hco : scope.isCoroutine = false := by rfl) (hgen : scope.isGenerator = false := by rfl) (hk : scope.kind = .function := by rfl) :
    wpAny (model prog w) A (call (.ref a) args) (Out s g P) F0 s := by
  refine wpAny_call (codeAny_call_def hA.room ho hd G.lim hcd rfl (BindsTo.of_eq hbind) (fun x hx => ?_) (fun x hx => ?_) (fun h₀ hns hk => ?_) hco hgen hk)
  · have := List.all_eq_true.mp hcell x hx; simpa using this
  · have := List.all_eq_true.mp hloc x hx; simpa using this
  have hnone : s.heap.get? s.heap.objs.size = none := by
    cases e : s.heap.get? s.heap.objs.size with
    | none => rfl
    | some o' => exact absurd (Heap.lt_size e) (Nat.lt_irrefl _)
  have gnone : g s.heap.objs.size = none := by
    cases e : g s.heap.objs.size with
    | none => rfl
    | some o' => exact absurd (Heap.lt_size (sb _ _ e)) (Nat.lt_irrefl _)
  refine wpAny_mono (h _ s.heap.objs.size _ hA.deeper ⟨hns, fun b o e => hk b o (sb b o e), fun _ hp => (nomatch hp), by simp, fun b hb => ?_, fun b hb => ?_, fun _ _ e => .inl e, Le.refl g, ⟨fun b o _ e => hk b o e, rfl, rfl⟩, G, T.same fun o e => hk _ o e, ?_⟩) (fun fl s' q => q) fun _ _ f => f.elim
  · rw [List.mem_singleton.mp hb]; exact gnone
  · rw [List.mem_singleton.mp hb]; exact hnone
  · obtain ⟨_, ps, e, _⟩ := T; exact ⟨_, e⟩

theorem fn_def {a : Addr} {oc : Value} {od : Option Addr} {osl : Array (Option Value)} {name qual : Str} {params : Arguments} {scope : Scope} {dV kV doc pm cd ct : Value} {an : Option Addr} {body : List Stmt} {args : List Value} (binds : List (Str × Value)) {Pre : Hp → Heap → Prop} {P : Value → Hp → Prop}
    (hK : (KK w).lookup a = some ⟨oc, od, .func ⟨name, qual, params, .stmts body, scope, mainGlobals, [], dV, kV, doc, pm, an, cd, ct, builtinsNs⟩, osl⟩) (hcd : codeIn (KK w) cd qual = true)
    (hbind : bindArgs ⟨name, qual, params, .stmts body, scope, mainGlobals, [], dV, kV, doc, pm, an, cd, ct, builtinsNs⟩ ⟨args, []⟩ = pure binds)
    (hcell : (scope.names.all fun x => x.2 != .cell) = true) (hloc : (binds.all fun y => scope.names.lookup y.1 == some .local) = true)
    (h : ∀ A s₀ g₀ L s, AOk A n → Pre g₀ s₀.heap → St w s₀ g₀ g₀ L binds.reverse [] s → wpAny (model prog w) A (execs body (envF scope L [] qual a cd)) (fun fl s' => Out s₀ g₀ P (retv fl) s') F0 s)
    (hco : scope.isCoroutine = false := by rfl) (hgen : scope.isGenerator = false := by rfl) (hk : scope.kind = .function := by rfl) : Fn prog w (.ref a) (n + 1) args Pre P :=
  fun A s g hA G sb T pre => r_enter hA G sb T (G.K _ _ hK) rfl (codeRec_of G.K hcd) hbind hcell hloc (fun A' L s' hA' S => h A' s g L s' hA' pre S) hco hgen hk

-- constants
theorem r_str {x : Str} {k : Nat} {p : Pos} {Q : Value → Shared → Prop} (S : St w s₀ g₀ g L lc own s) (h : ∀ t s', St w s₀ g₀ g L lc own s' → Q (.str x t) s') : wpAny (model prog w) A (eval (.Constant (.str x) k p) env) Q E s :=
  wpAny_Constant_str (h _ _ S.toks)
theorem r_int {i : Int} {k : Nat} {p : Pos} {Q : Value → Shared → Prop} (S : St w s₀ g₀ g L lc own s) (h : ∀ t s', St w s₀ g₀ g L lc own s' → Q (.int i t) s') : wpAny (model prog w) A (eval (.Constant (.int i) k p) env) Q E s :=
  wpAny_Constant_int (h _ _ S.toks)
theorem r_none {k : Nat} {p : Pos} {Q : Value → Shared → Prop} (h : Q .none s) : wpAny (model prog w) A (eval (.Constant .none k p) env) Q E s := wpAny_pure h
theorem r_bool {b : Bool} {k : Nat} {p : Pos} {Q : Value → Shared → Prop} (h : Q (.bool b) s) : wpAny (model prog w) A (eval (.Constant (.bool b) k p) env) Q E s := wpAny_pure h

-- statements
theorem r_cons {st : Stmt} {rest : List Stmt} {Q : Flow → Shared → Prop} (h : wpAny (model prog w) A (exec st env) (fun f s' => match f with | .next => wpAny (model prog w) A (execs rest env) Q E s' | f => Q f s') E s) :
    wpAny (model prog w) A (execs (st :: rest) env) Q E s := wpAny_execs_cons h
/-- as r_cons, but what comes behind is put under a name: the steps of the statement do not carry it -/
theorem r_consG {st : Stmt} {rest : List Stmt} {Q : Flow → Shared → Prop} (h : ∀ Qo : Flow → Shared → Prop, Qo = Q → ∀ Qg : Flow → Shared → Prop, (Qg = fun f s' => match f with | .next => wpAny (model prog w) A (execs rest env) Qo E s' | f => Qo f s') → wpAny (model prog w) A (exec st env) Qg E s) :
    wpAny (model prog w) A (execs (st :: rest) env) Q E s := r_cons (h _ rfl _ rfl)
theorem r_back {R R' : Flow → Shared → Prop} {f : Flow} {s : Shared} (e : R = R') (h : R' f s) : R f s := by subst e; exact h
theorem r_nil {Q : Flow → Shared → Prop} (h : Q .next s) : wpAny (model prog w) A (execs [] env) Q E s := wpAny_execs_nil h
theorem r_ret {e : Expr} {p : Pos} {Q : Flow → Shared → Prop} (h : wpAny (model prog w) A (eval e env) (fun v => Q (.ret v)) E s) : wpAny (model prog w) A (exec (.Return (some e) p) env) Q E s := wpAny_Return_some h
theorem r_if {test : Expr} {body orelse : List Stmt} {pos : Pos} {Q : Flow → Shared → Prop}
    (h : wpAny (model prog w) A (isTrue test env (eval test env)) (fun b s₂ => match b with | true => wpAny (model prog w) A (execs body env) Q E s₂ | false => wpAny (model prog w) A (execs orelse env) Q E s₂) E s) :
    wpAny (model prog w) A (exec (.If test body orelse pos) env) Q E s := wpAny_If (wpAny_mono h (fun b s₂ q => by cases b <;> exact q) fun _ _ z => z)
theorem r_isval {e : Expr} {Q : Bool → Shared → Prop} (h : wpAny (model prog w) A (eval e env) (fun v s₁ => wpAny (model prog w) A (truthy v) Q E s₁) E s)
    (he : isTrue e env (eval e env) = (do let v ← eval e env; standAt e.pos; holding [v] (truthy v)) := by rfl) : wpAny (model prog w) A (isTrue e env (eval e env)) Q E s := wpAny_isTrue_value h he

-- calls by a name
theorem r_callK {x : Str} {np pos : Pos} {e : Expr} {rest : List Expr} {f : Value} {Q : Value → Shared → Prop} (S : St w s₀ g₀ g L lc own s) (e₁ : nsIn (KK w) mainGlobals x = some (some f)) (hk : keepIn (KK w) f = true)
    (h : wpAny (model prog w) A (spliced (backTo pos (starEach (e :: rest) env))) (fun vs s₁ => GE w s₁.heap ∧ wpAny (model prog w) A (call f vs) Q E s₁) E s)
    (he : starEach (e :: rest) env = (false, eval e env) :: starEach rest env := by rfl) (hplain : (backTo pos (starEach rest env)).any (·.1) = false := by rfl)
    (hg : env.globals = mainGlobals := by rfl) (hkd : env.scope.kind = .function := by rfl) (hx : env.kindOf x = some .globalImplicit := by rfl) (hd : (x == ("__debug__" : Str)) = false := by decide) :
    wpAny (model prog w) A (eval (.Call (.Name x np) (e :: rest) [] pos) env) Q E s := by
  refine wpAny_Call_ofName (r_glob S.ge e₁ ?_ hg hkd hx hd)
  exact callWith_K (first := []) S.ge.K hk (wpAny_mono h (fun vs s₁ q => ⟨q.1.K, q.2⟩) fun _ _ z => z) he hplain
theorem boot_name {x : Str} {p : Pos} {v : Value} {Q : Value → Shared → Prop} (G : GE w s.heap) (e : nsIn (KK w) mainGlobals x = some none) (hb : bootBuiltins x = some v) (hn : x ≠ "__name__") (h : Q v s) (hg : env.globals = mainGlobals := by rfl) (hbu : env.builtins = builtinsNs := by rfl)
    (hk : env.scope.kind = .function := by rfl) (hx : env.kindOf x = some .globalImplicit := by rfl) (hd : (x == ("__debug__" : Str)) = false := by decide) : wpAny (model prog w) A (eval (.Name x p) env) Q E s := by
  obtain ⟨mg, hm⟩ := G.g
  obtain ⟨mb, hmb, hbb⟩ := G.b
  exact Name_function_global hk hx (loadGlobal_builtin (by rw [hg]; exact hm) (mg_none_of G.K hm e) (by rw [hbu]; exact hmb) ((hbb x hn).trans hb) h) hd
theorem r_callB {x : Str} {np pos : Pos} {e : Expr} {rest : List Expr} {id : String} {Q : Value → Shared → Prop} (S : St w s₀ g₀ g L lc own s) (e₁ : nsIn (KK w) mainGlobals x = some none) (hb : bootBuiltins x = some (.builtin id)) (hn : x ≠ "__name__")
    (h : wpAny (model prog w) A (spliced (backTo pos (starEach (e :: rest) env))) (fun vs s₁ => wpAny (model prog w) A (call (.builtin id) vs) Q E s₁) E s)
    (he : starEach (e :: rest) env = (false, eval e env) :: starEach rest env := by rfl) (hplain : (backTo pos (starEach rest env)).any (·.1) = false := by rfl)
    (hg : env.globals = mainGlobals := by rfl) (hbu : env.builtins = builtinsNs := by rfl) (hkd : env.scope.kind = .function := by rfl) (hx : env.kindOf x = some .globalImplicit := by rfl) (hd : (x == ("__debug__" : Str)) = false := by decide) :
    wpAny (model prog w) A (eval (.Call (.Name x np) (e :: rest) [] pos) env) Q E s :=
  wpAny_Call_ofName (boot_name S.ge e₁ hb hn (PyProof.Rows.callWith_builtin1 h he hplain) hg hbu hkd hx hd)
theorem r_callT {x : Str} {np pos : Pos} {e : Expr} {rest : List Expr} {T : String} {Q : Value → Shared → Prop} (S : St w s₀ g₀ g L lc own s) (e₁ : nsIn (KK w) mainGlobals x = some none) (hb : bootBuiltins x = some (.type T)) (hn : x ≠ "__name__")
    (h : wpAny (model prog w) A (spliced (backTo pos (starEach (e :: rest) env))) (fun vs s₁ => wpAny (model prog w) A (call (.type T) vs) Q E s₁) E s)
    (he : starEach (e :: rest) env = (false, eval e env) :: starEach rest env := by rfl) (hplain : (backTo pos (starEach rest env)).any (·.1) = false := by rfl)
    (hg : env.globals = mainGlobals := by rfl) (hbu : env.builtins = builtinsNs := by rfl) (hkd : env.scope.kind = .function := by rfl) (hx : env.kindOf x = some .globalImplicit := by rfl) (hd : (x == ("__debug__" : Str)) = false := by decide) :
    wpAny (model prog w) A (eval (.Call (.Name x np) (e :: rest) [] pos) env) Q E s :=
  wpAny_Call_ofName (boot_name S.ge e₁ hb hn (PyProof.Rows.callWith_type1 h he hplain) hg hbu hkd hx hd)
theorem r_args {pos : Pos} {e : Expr} {rest : List Expr} {Q : List Value → Shared → Prop}
    (h : wpAny (model prog w) A (eval e env) (fun v s₁ => wpAny (model prog w) A (spliced (backTo pos (starEach rest env))) (fun vs s₂ => Q (v :: vs) s₂) E s₁) E s)
    (he : starEach (e :: rest) env = (false, eval e env) :: starEach rest env := by rfl) : wpAny (model prog w) A (spliced (backTo pos (starEach (e :: rest) env))) Q E s := wpAny_items_cons h he
theorem r_args0 {pos : Pos} {Q : List Value → Shared → Prop} (h : Q [] s) : wpAny (model prog w) A (spliced (backTo pos (starEach [] env))) Q E s := wpAny_items_nil h
theorem r_truthb {b : Bool} {Q : Bool → Shared → Prop} (h : Q b s) : wpAny (model prog w) A (truthy (.bool b)) Q E s := wpAny_truthy_bool h
/-- a display's object: Q is told the new reference -/
noncomputable def NewObj (mk : List Value → Obj) (Q : Value → Shared → Prop) (vs : List Value) (s : Shared) : Prop := vs.length ≤ sizeLine ∧ Q (.ref s.heap.objs.size) { s with heap := s.heap.push (mk vs) }
noncomputable def mkTup (vs : List Value) : Obj := { cls := .type "tuple", data := .seq vs.toArray }
noncomputable def mkLst (vs : List Value) : Obj := { cls := .type "list", data := .seq vs.toArray }
theorem r_tupd {elts : List Expr} {k : Nat} {pos : Pos} {Q : Value → Shared → Prop} (h : wpAny (model prog w) A (spliced (backTo pos (starEach elts env))) (NewObj mkTup Q) E s) : wpAny (model prog w) A (eval (.Tuple elts k pos) env) Q E s := wpAny_Tuple h
theorem r_lstd {elts : List Expr} {pos : Pos} {Q : Value → Shared → Prop} (h : wpAny (model prog w) A (spliced (backTo pos (starEach elts env))) (NewObj mkLst Q) E s) : wpAny (model prog w) A (eval (.List elts pos) env) Q E s := wpAny_List h
/-- it stays as it is -/
theorem r_newT {Q : Value → Shared → Prop} {vs : List Value} (S : St w s₀ g₀ g L lc own s) (hl : vs.length ≤ sizeLine) (h : ∀ a s', g a = none → St w s₀ g₀ (ins g a (tup vs)) L lc own s' → Q (.ref a) s') : NewObj mkTup Q vs s :=
  ⟨hl, h _ _ S.fresh (S.made (t := s.toks) rfl)⟩
theorem r_newB {Q : Value → Shared → Prop} {vs : List Value} (S : St w s₀ g₀ g L lc own s) (hl : vs.length ≤ sizeLine) (h : ∀ a s', g a = none → St w s₀ g₀ (ins g a (lst vs 0)) L lc own s' → Q (.ref a) s') : NewObj mkLst Q vs s :=
  ⟨hl, h _ _ S.fresh (S.made (t := s.toks) rfl)⟩
/-- it is the def's own and may be changed -/
theorem r_newL {Q : Value → Shared → Prop} {vs : List Value} (S : St w s₀ g₀ g L lc own s) (hl : vs.length ≤ sizeLine) (h : ∀ a s', St w s₀ g₀ g L lc ((a, lst vs 0) :: own) s' → Q (.ref a) s') : NewObj mkLst Q vs s :=
  ⟨hl, h _ _ (S.alloc (t := s.toks) rfl)⟩
theorem St.at (S : St w s₀ g₀ g L lc own s) {a : Addr} {o : Obj} (e : g a = some o) : s.heap.get? a = some o := S.sub _ _ e
end
end Mine
end
section
open PySem PySem.W PySem.Calls PyProof.Rows
set_option maxRecDepth 100000
set_option linter.unusedSimpArgs false
set_option linter.unusedVariables false
namespace Mine
section
variable {prog : Program} {w : World} {A : Around} {s₀ s s' : Shared} {g₀ g g' : Hp} {L : Addr} {lc lc' : List (Str × Value)} {own own' : List (Addr × Obj)} {E : Value → Shared → Prop} {env : Env} {n : Nat}

theorem St.drop {p : Addr × Obj} (S : St w s₀ g₀ g L lc (p :: own) s) : St w s₀ g₀ g L lc own s where
  ns := S.ns
  sub := S.sub
  ob := fun q hq => S.ob q (.tail _ hq)
  nd := by
    have hn := S.nd
    simp only [List.map_cons, List.nodup_cons, List.mem_cons, not_or] at hn ⊢
    exact ⟨hn.1.2, hn.2.2⟩
  gL := fun b hb => S.gL b (by rcases List.mem_cons.mp hb with rfl | hb; exact .head _; exact .tail _ (.tail _ hb))
  old := fun b hb => S.old b (by rcases List.mem_cons.mp hb with rfl | hb; exact .head _; exact .tail _ (.tail _ hb))
  new := S.new
  le := S.le
  nx := S.nx
  ge0 := S.ge0
  tab := S.tab
  tab0 := S.tab0

/-- all but one own object is kept: that one is given up -/
theorem St.lose {a : Addr} {o : Obj} (S : St w s₀ g₀ g L lc ((a, o) :: own) s) (hk : ∀ b o, b ≠ a → s.heap.get? b = some o → s'.heap.get? b = some o) (hg : s'.gens = s.gens) (ho : s'.os = s.os) : St w s₀ g₀ g L lc own s' := by
  have hn := S.nd
  simp only [List.map_cons, List.nodup_cons, List.mem_cons, not_or] at hn
  have ha : g a = none := S.gL a (.tail _ (.head _))
  have ha0 : s₀.heap.get? a = none := S.old a (.tail _ (.head _))
  refine ⟨?_, fun b o e => hk b o (fun q => by rw [q, ha] at e; cases e) (S.sub b o e), fun p hp => hk p.1 p.2 (fun q => hn.2.1 (by rw [← q]; exact List.mem_map_of_mem hp)) (S.ob p (.tail _ hp)), S.drop.nd, S.drop.gL, S.drop.old, S.new, S.le,
    ⟨fun b o n e => hk b o (fun q => by rw [q, ha0] at e; cases e) (S.nx.kp b o n e), hg.trans S.nx.gens, ho.trans S.nx.os⟩, S.ge0, S.tab.same fun o e => hk tb o (fun q => S.tboff (q ▸ .tail _ (.head _))) e, S.tab0⟩
  obtain ⟨o₁, es, ep, e, r⟩ := S.ns
  exact ⟨o₁, es, ep, hk L _ hn.1.1 e, r⟩

theorem no_err {α : Type} {M : Model} {A : Around} {t : Sem α} {Q : α → Shared → Prop} {E : Value → Shared → Prop} {s : Shared} (h : wpAny M A t Q F0 s) : wpAny M A t Q E s := wpAny_mono h (fun _ _ q => q) fun _ _ f => f.elim

noncomputable def owners : List String := ["enumerate", "zip", "dict_itemiterator", "dict_reverseitemiterator", "odict_iterator", "itertools.zip_longest", "itertools.pairwise"]
theorem letgo {M : Model} {target : Expr} {v : Value} {It : Addr} {o : Obj} {T : String} {Q : Unit → Shared → Prop} (ho : s.heap.get? It = some o) (hc : o.cls = .type T) (hT : owners.contains T = false) (hQ : Q () s) :
    wpAny M A (letOwnedTupleGo target (.ref It) v) Q E s := by
  unfold letOwnedTupleGo
  split
  all_goals first | exact wpAny_pure hQ | skip
  all_goals (
    cases v with
    | ref a =>
      dsimp only
      refine wpAny_bind (wpAny_load ho ?_)
      rw [hc]
      cases hd : o.data with
      | fields vs =>
        dsimp only
        have hT' : (["enumerate", "zip", "dict_itemiterator", "dict_reverseitemiterator", "odict_iterator", "itertools.zip_longest", "itertools.pairwise"].contains T) = false := hT
        rw [hT']
        exact wpAny_pure hQ
      | _ => exact wpAny_pure hQ
    | _ => exact wpAny_pure hQ)

/-- a loop's head: the iterable is reckoned -/
theorem r_for {target iter : Expr} {body orelse : List Stmt} {pos : Pos} {Q : Flow → Shared → Prop}
    (h : wpAny (model prog w) A (eval iter env) (fun x s₁ => wpAny (model prog w) A (pyIter x) (fun it s₂ =>
      codeAny (model prog w) A (.forLoop target it body orelse env) (fun r s' => match r with | .ok f => Q f s' | .error e => cameBackBy (model prog w) A env E e s') s₂) E s₁) E s)
    (hs : ∀ x, foldedSetIterable iter env x = pure x := by intro _; rfl) : wpAny (model prog w) A (exec (.For target iter body orelse pos) env) Q E s := wpAny_For h hs

/-- a loop over a list that the base holds -/
theorem r_forL {target : Expr} {body : List Stmt} {l : Addr} {vs : List Value} {nn : Nat} {Q : Flow → Shared → Prop} (J : Nat → Hp → List (Str × Value) → List (Addr × Obj) → Prop)
    (hA : AOk A n) (S : St w s₀ g₀ g L lc own s) (hl : g l = some (lst vs nn)) (h0 : J 0 g lc own)
    (turn : ∀ i v g' lc' own' It oI s', vs[i]? = some v → Le g g' → J i g' lc' own' → St w s₀ g₀ g' L lc' ((It, oI) :: own') s' →
      wpAny (model prog w) A (assign target env v) (fun _ s₂ => wpAny (model prog w) A (execs body env) (fun f s₃ => match f with
        | .next | .cont => ∃ g'' lc'' own'', Le g' g'' ∧ J (i + 1) g'' lc'' own'' ∧ St w s₀ g₀ g'' L lc'' ((It, oI) :: own'') s₃
        | .brk => Q .next s₃
        | .ret v => Q (.ret v) s₃) F0 s₂) F0 s')
    (done : ∀ g' lc' own' s', Le g g' → J vs.length g' lc' own' → St w s₀ g₀ g' L lc' own' s' → Q .next s') :
    wpAny (model prog w) A (pyIter (.ref l)) (fun it s₂ => codeAny (model prog w) A (.forLoop target it body [] env) (fun r s' => match r with | .ok f => Q f s' | .error e => cameBackBy (model prog w) A env E e s') s₂) E s := by
  refine wpAny_pyIter_list ⟨_, S.sub _ _ hl, rfl, nn, rfl⟩ ?_
  have S1 := S.alloc (o := { cls := .type "list_iterator", data := .fields #[.ref l, .int 0 0] }) (t := s.toks) rfl
  generalize hIt : s.heap.objs.size = It at S1 ⊢
  refine codeAny_forLoop_any (fun k s' => ∃ i g' lc' own' oI, k = vs.length - i ∧ i ≤ vs.length ∧ Le g g' ∧ J i g' lc' own' ∧ St w s₀ g₀ g' L lc' ((It, oI) :: own') s' ∧ oI.cls = .type "list_iterator" ∧ oI.data = .fields #[.ref l, .int i 0]) ?_ vs.length
    ⟨0, g, lc, own, _, rfl, Nat.zero_le _, Le.refl g, h0, S1, rfl, rfl⟩
  rintro k s' ⟨i, g', lc', own', oI, rfl, hi, lg, hJ, S', hc, hd⟩
  have hli : s'.heap.IsList l vs.toArray := ⟨_, S'.sub _ _ (lg _ _ hl), rfl, nn, rfl⟩
  have hit : s'.heap.IsListIter It l i := ⟨oI, S'.ob (It, oI) (.head _), hc, hd⟩
  have hn := S'.nd
  simp only [List.map_cons, List.nodup_cons, List.mem_cons, not_or] at hn
  by_cases hlt : i < vs.length
  · have hx : vs.toArray[i]? = some vs[i] := by simp [hlt]
    refine wpAny_pyNext_list_item hit hli hx fun h' hit' hs' => ?_
    obtain ⟨oI', e1, hc', hd'⟩ := hit'
    have S2 : St w s₀ g₀ g' L lc' ((It, oI') :: own') { s' with heap := h' } := S'.upd hs' e1 rfl rfl
    dsimp only
    refine letgo (T := "list_iterator") e1 hc' (by decide) ?_
    have hv : vs[i]? = some vs[i] := by simp [hlt]
    refine no_err (wpAny_mono (turn i _ g' lc' own' It oI' _ hv lg hJ S2) (fun _ s₂ h₂ => ?_) fun _ _ z => z)
    refine no_err (wpAny_mono h₂ (fun f s₃ h₃ => ?_) fun _ _ z => z)
    cases f with
    | next =>
      obtain ⟨g'', lc'', own'', lg', hJ', S3⟩ := h₃
      exact ⟨vs.length - (i + 1), by omega, i + 1, g'', lc'', own'', oI', rfl, hlt, lg.trans lg', hJ', S3, hc', hd'⟩
    | cont =>
      obtain ⟨g'', lc'', own'', lg', hJ', S3⟩ := h₃
      exact ⟨vs.length - (i + 1), by omega, i + 1, g'', lc'', own'', oI', rfl, hlt, lg.trans lg', hJ', S3, hc', hd'⟩
    | brk => exact h₃
    | ret v => exact h₃
  · obtain rfl : i = vs.length := Nat.le_antisymm hi (Nat.not_lt.mp hlt)
    refine wpAny_pyNext_list_end hA.1 hit hli (by simp) fun h' hx' => ?_
    exact wpAny_execs_nil (done g' lc' own' _ lg hJ (S'.lose hx' rfl rfl))

noncomputable abbrev cellO (v : Option Value) : Obj := { cls := .type "cell", data := .cell v }
noncomputable def cellOwn : Nat → List (Str × NameKind) → List (Addr × Obj) → List (Addr × Obj)
  | _, [], own => own
  | n, (_, kind) :: r, own => if kind == .cell then cellOwn (n + 1) r ((n, cellO none) :: own) else cellOwn n r own
theorem St.cells : ∀ (names : List (Str × NameKind)) {own : List (Addr × Obj)} {s : Shared}, St w s₀ g₀ g L lc own s → St w s₀ g₀ g L lc (cellOwn s.heap.objs.size names own) { s with heap := pushCells s.heap names }
  | [], _, _, S => S
  | (name, kind) :: r, own, s, S => by
    unfold cellOwn pushCells
    split
    · have S1 := S.alloc (o := cellO none) (t := s.toks) rfl
      have := St.cells r S1
      rw [show ({ s with heap := s.heap.push (cellO none), toks := s.toks } : Shared).heap.objs.size = s.heap.objs.size + 1 from Heap.size_push ..] at this
      exact this
    · exact St.cells r S

/-- the parameters are laid one by one -/
noncomputable def SeqS (prog : Program) (w : World) (A : Around) (env : Env) : List (Str × Value) → (Shared → Prop) → Shared → Prop
  | [], Q, s => Q s
  | (x, v) :: r, Q, s => wpAny (model prog w) A (storeName env x v) (fun _ s' => SeqS prog w A env r Q s') F0 s
theorem seqS_forIn (f : Str × Value → PUnit → Sem (ForInStep PUnit)) (hf : ∀ x v u, f (x, v) u = (do storeName env x v; pure (.yield ⟨⟩))) : ∀ (binds : List (Str × Value)) (s : Shared) (Q : PUnit → Shared → Prop) (E : Value → Shared → Prop),
    SeqS prog w A env binds (Q ⟨⟩) s → wpAny (model prog w) A (forIn binds ⟨⟩ f) Q E s
  | [], s, Q, E, h => by rw [List.forIn_nil]; exact wpAny_pure h
  | (x, v) :: r, s, Q, E, h => by
    rw [List.forIn_cons, hf]
    refine wpAny_bind (wpAny_bind (no_err (wpAny_mono h (fun _ s' h' => wpAny_pure ?_) fun _ _ z => z)))
    exact seqS_forIn f hf r s' Q E h'

/-- a def is entered, with cells -/
theorem r_enterC {a : Addr} {o : Obj} {name qual : Str} {params : Arguments} {scope : Scope} {closure : List (Str × Addr)} {dV kV doc pm cd ct : Value} {an : Option Addr} {body : List Stmt} {args : List Value} {binds : List (Str × Value)} {P : Value → Hp → Prop}
    (hA : AOk A (n + 1)) (G : GE w s.heap) (sb : Sub g s.heap) (T : Tab g s.heap)
    (ho : s.heap.get? a = some o) (hd : o.data = .func ⟨name, qual, params, .stmts body, scope, mainGlobals, closure, dV, kV, doc, pm, an, cd, ct, builtinsNs⟩) (hcd : s.heap.CodeRec cd qual)
    (hbind : bindArgs ⟨name, qual, params, .stmts body, scope, mainGlobals, closure, dV, kV, doc, pm, an, cd, ct, builtinsNs⟩ ⟨args, []⟩ = pure binds)
    (h : ∀ A' L s', AOk A' n → St w s g g L [] (cellOwn (L + 1) scope.names []) s' →
      SeqS prog w A.in1 (envF scope L (cellsFrom (L + 1) scope.names closure) qual a cd) binds (fun s'' => wpAny (model prog w) A' (execs body (envF scope L (cellsFrom (L + 1) scope.names closure) qual a cd)) (fun fl s' => Out s g P (retv fl) s') F0 s'' ∧ Nx s s'') s')
    (hco : scope.isCoroutine = false := by rfl) (hgen : scope.isGenerator = false := by rfl) (hk : scope.kind = .function := by rfl) :
    wpAny (model prog w) A (call (.ref a) args) (Out s g P) F0 s := by
  refine wpAny_call (codeAny_call_function hA.room ho hd hco hgen rfl hcd ((BindsTo.of_eq hbind) _ _ _ _ ?_))
  have hnone : s.heap.get? s.heap.objs.size = none := by
    cases e : s.heap.get? s.heap.objs.size with
    | none => rfl
    | some o' => exact absurd (Heap.lt_size e) (Nat.lt_irrefl _)
  have gnone : g s.heap.objs.size = none := by
    cases e : g s.heap.objs.size with
    | none => rfl
    | some o' => exact absurd (Heap.lt_size (sb _ _ e)) (Nat.lt_irrefl _)
  simp only [newFunctionEnv, Option.isSome_none, Bool.false_eq_true, if_false]
  refine wpAny_bind (wpAny_alloc ?_)
  have S0 : St w s g g s.heap.objs.size [] [] { s with heap := s.heap.push { cls := .type "frame", data := .dict #[] } } := by
    refine ⟨Heap.Ns.new s.heap (.type "frame"), fun b o e => Heap.get?_push_of_some _ (sb b o e), fun _ hp => (nomatch hp), by simp, fun b hb => ?_, fun b hb => ?_, fun _ _ e => .inl e, Le.refl g, ⟨fun b o _ e => Heap.get?_push_of_some _ e, rfl, rfl⟩, G, T.same fun o e => Heap.get?_push_of_some _ e, ?_⟩
    · rw [List.mem_singleton.mp hb]; exact gnone
    · rw [List.mem_singleton.mp hb]; exact hnone
    · obtain ⟨_, ps, e, _⟩ := T; exact ⟨_, e⟩
  have S1 := S0.cells scope.names
  refine wpAny_bind (wpAny_layCells _ (fun name kind cells => by cases hkc : kind == NameKind.cell <;> simp [hkc]) _ _ _ _ ?_)
  rw [show ({ s with heap := s.heap.push { cls := .type "frame", data := .dict #[] } } : Shared).heap.objs.size = s.heap.objs.size + 1 from Heap.size_push ..] at S1 ⊢
  have S2 : ∀ env : Env, env = envF scope s.heap.objs.size (cellsFrom (s.heap.objs.size + 1) scope.names closure) qual a cd → AOk (A.deeper env) n := fun env _ => hA.deeper
  refine wpAny_bind (seqS_forIn (env := envF scope s.heap.objs.size (cellsFrom (s.heap.objs.size + 1) scope.names closure) qual a cd) _ (fun _ _ _ => rfl) binds _ _ _ ?_)
  have H := h _ s.heap.objs.size _ (S2 _ rfl) S1
  have conv : ∀ (binds : List (Str × Value)) (Q Q' : Shared → Prop) (s' : Shared), (∀ s'', Q s'' → Q' s'') → SeqS prog w A.in1 (envF scope s.heap.objs.size (cellsFrom (s.heap.objs.size + 1) scope.names closure) qual a cd) binds Q s' →
      SeqS prog w A.in1 (envF scope s.heap.objs.size (cellsFrom (s.heap.objs.size + 1) scope.names closure) qual a cd) binds Q' s' := by
    intro binds
    induction binds with
    | nil => intro Q Q' s' k h; exact k _ h
    | cons p r ih => intro Q Q' s' k h; exact wpAny_mono h (fun _ s'' h' => ih Q Q' s'' k h') fun _ _ z => z
  refine conv binds _ _ _ (fun s'' hq => wpAny_pure ⟨(G.kp hq.2.kp).lim, codeAny_func ?_⟩) H
  exact wpAny_mono hq.1 (fun fl s' q => q) fun _ _ f => f.elim

theorem fn_defC {a : Addr} {oc : Value} {od : Option Addr} {osl : Array (Option Value)} {name qual : Str} {params : Arguments} {scope : Scope} {dV kV doc pm cd ct : Value} {an : Option Addr} {body : List Stmt} {args : List Value} (binds : List (Str × Value)) {Pre : Hp → Heap → Prop} {P : Value → Hp → Prop}
    (hK : (KK w).lookup a = some ⟨oc, od, .func ⟨name, qual, params, .stmts body, scope, mainGlobals, [], dV, kV, doc, pm, an, cd, ct, builtinsNs⟩, osl⟩) (hcd : codeIn (KK w) cd qual = true)
    (hbind : bindArgs ⟨name, qual, params, .stmts body, scope, mainGlobals, [], dV, kV, doc, pm, an, cd, ct, builtinsNs⟩ ⟨args, []⟩ = pure binds)
    (h : ∀ A A₁ s₀ g₀ L s, AOk A n → Pre g₀ s₀.heap → St w s₀ g₀ g₀ L [] (cellOwn (L + 1) scope.names []) s →
      SeqS prog w A₁ (envF scope L (cellsFrom (L + 1) scope.names []) qual a cd) binds (fun s => wpAny (model prog w) A (execs body (envF scope L (cellsFrom (L + 1) scope.names []) qual a cd)) (fun fl s' => Out s₀ g₀ P (retv fl) s') F0 s ∧ Nx s₀ s) s)
    (hco : scope.isCoroutine = false := by rfl) (hgen : scope.isGenerator = false := by rfl) (hk : scope.kind = .function := by rfl) : Fn prog w (.ref a) (n + 1) args Pre P :=
  fun A s g hA G sb T pre => r_enterC hA G sb T (G.K _ _ hK) rfl (codeRec_of G.K hcd) hbind (fun A' L s' hA' S => h A' A.in1 s g L s' hA' pre S) hco hgen hk
theorem r_seq {x : Str} {v : Value} {r : List (Str × Value)} {Q : Shared → Prop} (h : wpAny (model prog w) A (storeName env x v) (fun _ s' => SeqS prog w A env r Q s') F0 s) : SeqS prog w A env ((x, v) :: r) Q s := h
theorem r_seq0 {Q : Shared → Prop} (h : Q s) : SeqS prog w A env [] Q s := h
/-- a cell of the def's own is set -/
theorem r_storeC {x : Str} {v : Value} {c : Addr} {v₀ : Option Value} {Q : Unit → Shared → Prop} (S : St w s₀ g₀ g L lc ((c, cellO v₀) :: own) s) (h : ∀ s' , St w s₀ g₀ g L lc ((c, cellO (some v)) :: own) s' → Q () s') (hk : env.scope.kind = .function := by rfl)
    (hl : env.kindOf x = some .cell := by rfl) (hc : env.cells.lookup x = some c := by rfl) : wpAny (model prog w) A (storeName env x v) Q E s := by
  have e := S.ob (c, cellO v₀) (.head _)
  unfold storeName
  simp only [hl, hk]
  refine wpAny_bind (wpAny_cellOf hc ?_)
  unfold cellSet
  refine wpAny_bind (wpAny_load e ?_)
  dsimp only
  refine wpAny_update e (h _ ?_)
  exact S.upd (Heap.SameBut.update ..) (Heap.get?_update_self _ e rfl) rfl rfl
theorem r_cell {x : Str} {p : Pos} {v : Value} {c : Addr} {Q : Value → Shared → Prop} (hv : s.heap.get? c = some (cellO (some v))) (h : Q v s) (hk : env.scope.kind = .function := by rfl)
    (hl : env.kindOf x = some .cell := by rfl) (hc : env.cells.lookup x = some c := by rfl) (hd : (x == ("__debug__" : Str)) = false := by decide) : wpAny (model prog w) A (eval (.Name x p) env) Q E s :=
  wpAny_Name (wpAny_loadName_cell hk hl hc ⟨_, hv, rfl⟩ h) hd
theorem r_free {x : Str} {p : Pos} {v : Value} {c : Addr} {Q : Value → Shared → Prop} (hv : s.heap.get? c = some (cellO (some v))) (h : Q v s) (hk : env.scope.kind = .function := by rfl)
    (hl : env.kindOf x = some .free := by rfl) (hc : env.cells.lookup x = some c := by rfl) (hd : (x == ("__debug__" : Str)) = false := by decide) (hn : (x == ("__classdict__" : Str)) = false := by decide) : wpAny (model prog w) A (eval (.Name x p) env) Q E s :=
  wpAny_Name (wpAny_loadName_free hk hl hc ⟨_, hv, rfl⟩ h hn) hd

/-- the surroundings of a comprehension's block -/
@[reducible] def compE (scope : Scope) (cl : List (Str × Addr)) (C : Addr) (env : Env) : Env :=
  { scope := relabel scope env, locals := C, globals := env.globals, cells := cellsFrom (C + 1) scope.names cl, qual := env.qual, func := none, code := env.code, frame := env.frame, builtins := env.builtins }
noncomputable def CompK (prog : Program) (w : World) (A : Around) (env : Env) (elt target iter : Expr) (ifs : List Expr) (scope : Scope) (pos : Pos) (cl : List (Str × Addr)) (use : Option (Value → Sem Unit)) (Q : Value → Shared → Prop) (E : Value → Shared → Prop) (it : Value) (s : Shared) : Prop :=
  wpAny (model prog w) A (newList []) (fun acc s₃ => wpAny (model prog w) A (newFunctionEnv scope env.globals cl [] env.qual none .none (some env)) (fun cenv s₄ =>
    codeAny (model prog w) A (.compStart (.ListComp elt [⟨target, iter, ifs, 0⟩] scope pos) 0 it acc { cenv with scope := relabel scope env }) (compPost (model prog w) A E use Q acc cenv.locals) s₄) E s₃) E s
theorem r_listcomp {elt target iter : Expr} {ifs : List Expr} {scope : Scope} {pos : Pos} {cl : List (Str × Addr)} {Q : Value → Shared → Prop} (hclos : closureFor scope env = pure cl)
    (h : wpAny (model prog w) A (eval iter env) (fun x s₁ => wpAny (model prog w) A (pyIter x) (CompK prog w A env elt target iter ifs scope pos cl none Q E) E s₁) E s)
    (hkind : scope.kind = .function := by rfl) (hnames : (scope.names.all fun x => x.2 != .local || scope.names.lookup x.1 == some .local) = true := by rfl) (hs : ∀ x, foldedSetIterable iter env x = pure x := by intro _; rfl) :
    wpAny (model prog w) A (eval (.ListComp elt [⟨target, iter, ifs, 0⟩] scope pos) env) Q E s := by
  rw [eval_ListComp]
  refine wpAny_comprehension_free (use := none) rfl hs hclos hkind (fun x hx hl => ?_) h
  have := List.all_eq_true.mp hnames x hx
  rw [hl] at this
  simpa using this

noncomputable def Tests (prog : Program) (w : World) (A : Around) (env : Env) (ifs : List Expr) (Q : Bool → Shared → Prop) (s : Shared) : Prop :=
  wpAny (model prog w) A (forIn ifs true fun c r => if r = true then do let ok ← isTrue c env (eval c env); pure (ForInStep.yield ok) else pure (ForInStep.yield r)) Q F0 s
theorem r_tests0 {Q : Bool → Shared → Prop} (h : Q true s) : Tests prog w A env [] Q s := wpAny_tests_nil h
theorem r_tests1 {c : Expr} {Q : Bool → Shared → Prop} (h : wpAny (model prog w) A (isTrue c env (eval c env)) Q F0 s) : Tests prog w A env [c] Q s := wpAny_tests_one h

/-- one turn of a comprehension: the item is bound, the tests, the element -/
noncomputable def CTurn (prog : Program) (w : World) (A : Around) (cenv : Env) (target elt : Expr) (ifs : List Expr) (v : Value) (Yes : Value → Shared → Prop) (No : Shared → Prop) (s : Shared) : Prop :=
  wpAny (model prog w) A (assign target cenv v) (fun _ s₂ => Tests prog w A cenv ifs (fun ok s₃ => match ok with | true => wpAny (model prog w) A (eval elt cenv) Yes F0 s₃ | false => No s₃) s₂) F0 s

/-- what a turn hands on is put under a name -/
theorem CTurn.gen {cenv : Env} {target elt : Expr} {ifs : List Expr} {v : Value} {Yes : Value → Shared → Prop} {No : Shared → Prop} (h : ∀ Y : Value → Shared → Prop, Y = Yes → CTurn prog w A cenv target elt ifs v Y No s) : CTurn prog w A cenv target elt ifs v Yes No s := h _ rfl
theorem r_backV {R R' : Value → Shared → Prop} {v : Value} {s : Shared} (e : R = R') (h : R' v s) : R v s := by subst e; exact h
/-- a comprehension's loop, whatever its target -/
theorem compLoop_any {elt target iter : Expr} {ifs : List Expr} {scope : Scope} {pos : Pos} {it acc : Value} {R : Result → Shared → Prop} (I : Nat → Shared → Prop)
    (turn : ∀ n s, I n s → wpAny (model prog w) A (pyNext it) (fun r s₁ => match r with
      | none => R (.ok .next) s₁
      | some v => wpAny (model prog w) A (letOwnedTupleGo target it v) (fun _ s₁' => CTurn prog w A env target elt ifs v
          (fun x s₄ => wpAny (model prog w) A (call (.builtin "list.append") [acc, x]) (fun _ s₅ => ∃ m, m < n ∧ I m s₅) F0 s₄) (fun s₃ => ∃ m, m < n ∧ I m s₃) s₁') F0 s₁) F0 s)
    (n : Nat) (h : I n s) : codeAny (model prog w) A (.compLoop (.ListComp elt [⟨target, iter, ifs, 0⟩] scope pos) 0 it acc env) R s := by
  refine codeAny_loop rfl I (fun n s hI => ?_) n h
  show wpAny _ A ((compTurn (.ListComp elt [⟨target, iter, ifs, 0⟩] scope pos) 0 it acc env).onRaise (fun x => do noteFrame x env; theTreesLotGoes x)) _ _ s
  refine wpAny_noted ?_
  rw [compTurn_list]
  refine wpAny_bind (wpAny_standAt (wpAny_bind (no_err (wpAny_mono (turn n s hI) (fun r s₁ h₁ => ?_) fun _ _ z => z))))
  cases r with
  | none => exact wpAny_pure h₁
  | some v =>
    refine wpAny_bind (no_err (wpAny_mono h₁ (fun _ s₂ h₂ => ?_) fun _ _ z => z))
    refine wpAny_bind (no_err (wpAny_mono h₂ (fun _ s₂ h₂ => ?_) fun _ _ z => z))
    refine wpAny_bind (no_err (wpAny_mono h₂ (fun ok s₃ h₃ => ?_) fun _ _ z => z))
    cases ok with
    | false => exact wpAny_pure ⟨rfl, h₃⟩
    | true => exact wpAny_bind (wpAny_bind (no_err (wpAny_mono h₃ (fun x s₄ h₄ => wpAny_bind (wpAny_mono h₄ (fun _ s₅ h₅ => wpAny_pure (wpAny_pure ⟨rfl, h₅⟩)) fun _ _ z => z.elim)) fun _ _ z => z)))

/-- a fresh object that an inner frame left is the outer frame's own -/
theorem St.addOwn {C : Addr} {oC : Obj} (S : St w s₀ g₀ g L lc own s) (S' : St w s₀ g₀ g' L lc own s') (e : s'.heap.get? C = some oC) (hC : s.heap.get? C = none) (gC : g' C = none) : St w s₀ g₀ g' L lc ((C, oC) :: own) s' where
  ns := S'.ns
  sub := S'.sub
  ob := fun p hp => by
    rcases List.mem_cons.mp hp with rfl | hp
    · exact e
    · exact S'.ob p hp
  nd := by
    have hn := S'.nd
    have there : ∀ b ∈ L :: own.map (·.1), ∃ o, s.heap.get? b = some o := fun b hb => by
      rcases List.mem_cons.mp hb with rfl | hb
      · obtain ⟨o, _, _, e, _⟩ := S.ns; exact ⟨o, e⟩
      · obtain ⟨p, hp, rfl⟩ := List.mem_map.mp hb; exact ⟨p.2, S.ob p hp⟩
    have hCo : C ∉ L :: own.map (·.1) := fun h => by obtain ⟨o, q⟩ := there C h; rw [hC] at q; cases q
    simp only [List.map_cons, List.nodup_cons, List.mem_cons, not_or] at hn hCo ⊢
    exact ⟨⟨fun q => hCo.1 q.symm, hn.1⟩, hCo.2, hn.2⟩
  gL := fun b hb => by
    rcases List.mem_cons.mp hb with rfl | hb
    · exact S'.gL _ (.head _)
    · rcases List.mem_cons.mp hb with rfl | hb
      · exact gC
      · exact S'.gL b (.tail _ hb)
  old := fun b hb => by
    rcases List.mem_cons.mp hb with rfl | hb
    · exact S'.old _ (.head _)
    · rcases List.mem_cons.mp hb with hb | hb
      · rw [show b = C from hb]
        cases e0 : s₀.heap.get? C with
        | none => rfl
        | some o =>
          by_cases q : C = tb
          · obtain ⟨_, ps, e', _⟩ := S.tab
            rw [q] at hC; rw [hC] at e'; cases e'
          · have := S.nx.kp C o q e0; rw [hC] at this; cases this
      · exact S'.old b (.tail _ hb)
  new := S'.new
  le := S'.le
  nx := S'.nx
  ge0 := S'.ge0
  tab := S'.tab
  tab0 := S'.tab0
/-- what the end of a comprehension asks -/
noncomputable def CompFin (prog : Program) (w : World) (A : Around) (use : Option (Value → Sem Unit)) (Q : Value → Shared → Prop) (E : Value → Shared → Prop) (s₀ : Shared) (g₀ g : Hp) (L : Addr) (lc : List (Str × Value)) (own : List (Addr × Obj)) (J : List Value → Hp → Prop) : Prop :=
  ∀ g'' D ys k C oC s'', Le g g'' → g'' D = some (lst ys k) → g D = none → J ys g'' → (∀ h : Heap, h.get? C = some oC → ∃ m, h.Ns C m) → St w s₀ g₀ g'' L lc ((C, oC) :: own) s'' → compPost (model prog w) A E use Q (.ref D) C (.ok .next) s''
theorem compFin_none {Q : Value → Shared → Prop} {J : List Value → Hp → Prop} (done : ∀ g' D ys k s', Le g g' → g' D = some (lst ys k) → g D = none → J ys g' → St w s₀ g₀ g' L lc own s' → Q (.ref D) s') : CompFin prog w A none Q E s₀ g₀ g L lc own J := by
  intro g'' D ys k C oC s'' l e hD hJ hN S
  obtain ⟨m, hm⟩ := hN _ (S.ob (C, oC) (.head _))
  exact ⟨m, hm, fun h' hs => done g'' D ys k _ l e hD hJ (S.lose (s' := { s'' with heap := h' }) (fun b o hb q => (hs.2 b hb).trans q) rfl rfl)⟩
theorem compFin_store {x : Str} {p : Pos} {Q : Value → Shared → Prop} {J : List Value → Hp → Prop} (done : ∀ g' D ys k s', Le g g' → g' D = some (lst ys k) → g D = none → J ys g' → St w s₀ g₀ g' L (setl x (.ref D) lc) own s' → Q .none s') (hk : env.scope.kind = .function)
    (hl : env.kindOf x = some .local) (hL : env.locals = L) : CompFin prog w A (some (assign (.Name x p) env)) Q E s₀ g₀ g L lc own J := by
  intro g'' D ys k C oC s'' l e hD hJ hN S
  show wpAny (model prog w) A (assign (.Name x p) env (.ref D)) _ E s''
  refine wpAny_assign_Name (r_store S (fun s3 S3 => ?_) hk hl hL)
  obtain ⟨m, hm⟩ := hN _ (S3.ob (C, oC) (.head _))
  exact ⟨m, hm, fun h' hs => done g'' D ys k _ l e hD hJ (S3.lose (s' := { s3 with heap := h' }) (fun b o hb q => (hs.2 b hb).trans q) rfl rfl)⟩
/-- a comprehension is given to a name -/
theorem r_assignLC {x : Str} {p : Pos} {elt target iter : Expr} {ifs : List Expr} {scope : Scope} {pos spos : Pos} {cl : List (Str × Addr)} {Q : Flow → Shared → Prop} (hsw : swapsWith (.ListComp elt [⟨target, iter, ifs, 0⟩] scope pos) (some (.Name x p)) spos.line env = pure true) (hclos : closureFor scope env = pure cl)
    (h : wpAny (model prog w) A (eval iter env) (fun x' s₁ => wpAny (model prog w) A (pyIter x') (CompK prog w A env elt target iter ifs scope pos cl (some (assign (.Name x p) env)) (fun _ => Q .next) E) E s₁) E s)
    (hkind : scope.kind = .function := by rfl) (hnames : (scope.names.all fun x => x.2 != .local || scope.names.lookup x.1 == some .local) = true := by rfl) (hs : ∀ x, foldedSetIterable iter env x = pure x := by intro _; rfl) :
    wpAny (model prog w) A (exec (.Assign [.Name x p] (.ListComp elt [⟨target, iter, ifs, 0⟩] scope pos) spos) env) Q E s := by
  rw [exec_Assign_Name_used _ _ _ _ hsw]
  refine wpAny_bind (wpAny_standAt (wpAny_bind ?_))
  show wpAny _ A (do let _ ← comprehension (.ListComp elt [⟨target, iter, ifs, 0⟩] scope pos) scope env _ (newList []) false (eval iter env) (some (assign (.Name x p) env))) _ _ s
  refine wpAny_bind (wpAny_mono (wpAny_comprehension_free (use := some (assign (.Name x p) env)) (Q := fun _ s' => Q .next s') rfl hs hclos hkind (fun x hx hl => ?_) h) (fun _ s' hq => wpAny_pure (wpAny_pure hq)) fun _ _ e => e)
  have := List.all_eq_true.mp hnames x hx
  rw [hl] at this
  simpa using this

/-- the cells of a new scope, behind what is own -/
theorem cellOwn_perm : ∀ (names : List (Str × NameKind)) (m : Nat) (ow : List (Addr × Obj)), (cellOwn m names ow).Perm (ow ++ cellOwn m names []) := by
  intro names
  induction names with
  | nil => intro m ow; simp [cellOwn]
  | cons p r ih =>
    intro m ow
    obtain ⟨nm, kd⟩ := p
    unfold cellOwn
    split
    · refine (ih (m + 1) ((m, cellO none) :: ow)).trans ?_
      refine List.Perm.trans ?_ ((ih (m + 1) [(m, cellO none)]).symm.append_left ow)
      rw [List.cons_append, List.singleton_append]
      exact List.perm_middle.symm
    · exact ih m ow
/-- between the turns of a comprehension -/
inductive CompI (w : World) (s : Shared) (g : Hp) (It D : Addr) (nI : Nat) (itO : Nat → Obj → Prop) (J : Nat → List Value → Hp → Prop) (LC : List (Str × Value) → Prop) (CS : Addr → List (Addr × Obj) → Prop) (k : Nat) (s' : Shared) : Prop
  | mk (i : Nat) (ys : List Value) (g' : Hp) (lc' : List (Str × Value)) (cs : List (Addr × Obj)) (oI : Obj) (k' : Nat) (_ : k = nI - i) (_ : i ≤ nI) (_ : ys.length ≤ i) (_ : Le g g') (_ : itO i oI) (_ : J i ys g') (_ : LC lc') (_ : CS (D + 1) cs)
      (_ : St w s g g' (D + 1) lc' ((It, oI) :: (D, lst ys k') :: cs) s')
theorem r_compAll {elt target iter : Expr} {ifs : List Expr} {scope : Scope} {pos : Pos} {cl : List (Str × Addr)} {use : Option (Value → Sem Unit)} {Q : Value → Shared → Prop} {It : Addr} {nI : Nat}
    (item : Nat → Value → Prop) (itO : Nat → Obj → Prop) (J : Nat → List Value → Hp → Prop) (hJm : ∀ {i ys g g'}, J i ys g → Le g g' → J i ys g') (LC : List (Str × Value) → Prop) (CS : Addr → List (Addr × Obj) → Prop)
    (hA : AOk A n) (S : St w s₀ g₀ g L lc own s) {sI : Shared} {oI₀ : Obj} (SI : St w s₀ g₀ g L lc ((It, oI₀) :: own) sI) (hs0 : ∀ b o, s.heap.get? b = some o → sI.heap.get? b = some o) (hgs : sI.gens = s.gens) (hos : sI.os = s.os) (hnew : s.heap.get? It = none)
    (hi0 : itO 0 oI₀) (hsz : nI ≤ sizeLine) (h0 : J 0 [] g) (hlc : LC []) (hcs : ∀ C, CS C (cellOwn (C + 1) scope.names []))
    (next : ∀ i C lc' D ys k cs g' oI s' (R : Option Value → Shared → Prop), i < nI → Le g g' → itO i oI → St w s g g' C lc' ((It, oI) :: (D, lst ys k) :: cs) s' →
      (∀ v oI' s'', item i v → itO (i + 1) oI' → St w s g g' C lc' ((It, oI') :: (D, lst ys k) :: cs) s'' → (∃ c, oI'.cls = .type c ∧ owners.contains c = false) → R (some v) s'') → wpAny (model prog w) A (pyNext (.ref It)) R F0 s')
    (stop : ∀ C lc' D ys k cs g' oI s' (R : Option Value → Shared → Prop), Le g g' → itO nI oI → St w s g g' C lc' ((It, oI) :: (D, lst ys k) :: cs) s' →
      (∀ s'', St w s g g' C lc' ((D, lst ys k) :: cs) s'' → R none s'') → wpAny (model prog w) A (pyNext (.ref It)) R F0 s')
    (self : ∀ C lc' D ys k cs g' oI s' (R : Value → Shared → Prop), itO 0 oI → St w s g g' C lc' ((It, oI) :: (D, lst ys k) :: cs) s' → R (.ref It) s' → wpAny (model prog w) A (pyIter (.ref It)) R F0 s')
    (turn : ∀ i v ys g' C D k lc' cs oI s', i < nI → item i v → Le g g' → J i ys g' → LC lc' → CS C cs → ys.length ≤ i → St w s g g' C lc' ((It, oI) :: (D, lst ys k) :: cs) s' →
      CTurn prog w A (compE scope cl C env) target elt ifs v
        (fun y s₄ => ∃ g'' lc'' cs', Le g' g'' ∧ J (i + 1) (ys ++ [y]) g'' ∧ LC lc'' ∧ CS C cs' ∧ St w s g g'' C lc'' ((It, oI) :: (D, lst ys k) :: cs') s₄)
        (fun s₄ => ∃ g'' lc'' cs', Le g' g'' ∧ J (i + 1) ys g'' ∧ LC lc'' ∧ CS C cs' ∧ St w s g g'' C lc'' ((It, oI) :: (D, lst ys k) :: cs') s₄) s')
    (fin : CompFin prog w A use Q E s₀ g₀ g L lc own (J nI)) :
    CompK prog w A env elt target iter ifs scope pos cl use Q E (.ref It) sI := by
  unfold CompK
  refine wpAny_newObj_type (hd := by size_fits) ?_
  have hlt : ∀ {h : Heap} {b : Addr} {o : Obj}, h.get? b = some o → b < h.objs.size := fun e => Heap.lt_size e
  have none_of : ∀ b, sI.heap.objs.size ≤ b → s.heap.get? b = none := fun b hb => by
    cases e : s.heap.get? b with
    | none => rfl
    | some o => exact absurd (hlt (hs0 _ _ e)) (Nat.not_lt.mpr hb)
  have gnone_of : ∀ b, s.heap.get? b = none → g b = none := fun b hb => by
    cases e : g b with
    | none => rfl
    | some o => have := S.sub _ _ e; rw [hb] at this; cases this
  have eI : sI.heap.get? It = some oI₀ := SI.ob (It, oI₀) (.head _)
  simp only [newFunctionEnv, Option.isSome_some, if_true]
  refine wpAny_bind (wpAny_alloc ?_)
  generalize hD : sI.heap.objs.size = D at none_of ⊢
  have hItD : It < D := hD ▸ hlt eI
  dsimp only
  generalize hH : sI.heap.push { cls := .type "list", dict := none, data := .seq ([] : List Value).toArray } = H
  have hHs : H.objs.size = D + 1 := by rw [← hH, Heap.size_push, hD]
  have eD : H.get? D = some (lst [] 0) := by rw [← hH, ← hD]; exact Heap.get?_push_size _ rfl
  have keepH : ∀ b o, sI.heap.get? b = some o → H.get? b = some o := fun b o e => by rw [← hH]; exact Heap.get?_push_of_some _ e
  have hC : ({ sI with heap := H } : Shared).heap.objs.size = D + 1 := hHs
  rw [hC]
  have S0 : St w s g g (D + 1) [] [(It, oI₀), (D, lst [] 0)] { sI with heap := H.push { cls := .type "dict", data := .dict #[] } } := by
    have up : ∀ b o, H.get? b = some o → (H.push { cls := .type "dict", data := .dict #[] }).get? b = some o := fun b o e => Heap.get?_push_of_some _ e
    refine ⟨by rw [← hHs]; exact Heap.Ns.new H (.type "dict"), fun b o e => up _ _ (keepH _ _ (hs0 _ _ (S.sub _ _ e))), ?_, ?_, ?_, ?_, fun _ _ e => .inl e, Le.refl g, ⟨fun b o _ e => up _ _ (keepH _ _ (hs0 _ _ e)), hgs, hos⟩, S.ge, ?_, ?_⟩
    · intro p hp
      rcases List.mem_cons.mp hp with rfl | hp
      · exact up _ _ (keepH _ _ eI)
      · rw [List.mem_singleton.mp hp]; exact up _ _ eD
    · simp only [List.map_cons, List.map_nil, List.nodup_cons, List.mem_cons, List.not_mem_nil, or_false, not_or, not_false_eq_true, List.nodup_nil, and_true]
      exact ⟨⟨Nat.ne_of_gt (Nat.lt_succ_of_lt hItD), Nat.succ_ne_self D⟩, Nat.ne_of_lt hItD⟩
    · intro b hb
      simp only [List.map_cons, List.map_nil, List.mem_cons, List.not_mem_nil, or_false] at hb
      rcases hb with rfl | rfl | rfl
      · exact gnone_of _ (none_of _ (Nat.le_succ _))
      · exact gnone_of _ hnew
      · exact gnone_of _ (none_of _ (Nat.le_refl _))
    · intro b hb
      simp only [List.map_cons, List.map_nil, List.mem_cons, List.not_mem_nil, or_false] at hb
      rcases hb with rfl | rfl | rfl
      · exact none_of _ (Nat.le_succ _)
      · exact hnew
      · exact none_of _ (Nat.le_refl _)
    · exact S.tab.same fun o e => up _ _ (keepH _ _ (hs0 _ _ e))
    · obtain ⟨_, ps, e, _⟩ := S.tab; exact ⟨_, e⟩
  have S1 := S0.cells scope.names
  rw [show ({ sI with heap := H.push { cls := .type "dict", data := .dict #[] } } : Shared).heap.objs.size = D + 1 + 1 from by show (H.push _).objs.size = _; rw [Heap.size_push, hHs]] at S1
  refine wpAny_bind (wpAny_layCells _ (fun name kind cells => by cases hkc : kind == NameKind.cell <;> simp [hkc]) _ _ _ _ ?_)
  rw [show ({ sI with heap := H.push { cls := .type "dict", data := .dict #[] } } : Shared).heap.objs.size = D + 1 + 1 from by show (H.push _).objs.size = _; rw [Heap.size_push, hHs]]
  rw [List.forIn_nil]
  refine wpAny_bind (wpAny_pure (wpAny_pure ?_))
  dsimp only
  have S2 : St w s g g (D + 1) [] ((It, oI₀) :: (D, lst [] 0) :: cellOwn (D + 1 + 1) scope.names []) _ := S1.perm (cellOwn_perm scope.names (D + 1 + 1) [(It, oI₀), (D, lst [] 0)]).symm
  generalize ({ sI with heap := pushCells (H.push { cls := .type "dict", data := .dict #[] }) scope.names } : Shared) = s4 at S2 ⊢
  have gD0 : g D = none := gnone_of _ (none_of _ (Nat.le_refl _))
  have loop : codeAny (model prog w) A (.compLoop (.ListComp elt [⟨target, iter, ifs, 0⟩] scope pos) 0 (.ref It) (.ref D) (compE scope cl (D + 1) env)) (compPost (model prog w) A E use Q (.ref D) (D + 1)) s4 := by
    refine compLoop_any (CompI w s g It D nI itO J LC CS) ?_ nI
      ⟨0, [], g, [], _, oI₀, 0, rfl, Nat.zero_le _, Nat.le_refl _, Le.refl g, hi0, h0, hlc, hcs _, S2⟩
    · rintro k s' ⟨i, ys, g', lc', cs, oI, k', rfl, hi, hyl, lg, hit, hJ, hLC, hCS, S'⟩
      by_cases hlt' : i < nI
      · refine no_err (next i _ lc' D ys k' cs g' oI s' _ hlt' lg hit S' fun v oI' s'' hv hit' S'' ⟨cI, hcI, hno⟩ => ?_)
        dsimp only
        refine letgo (S''.ob (It, oI') (.head _)) hcI hno ?_
        refine wpAny_mono (turn i v ys g' _ D k' lc' cs oI' s'' hlt' hv lg hJ hLC hCS hyl S'') (fun _ s₂ h₂ => ?_) fun _ _ z => z
        refine wpAny_mono h₂ (fun ok s₃ h₃ => ?_) fun _ _ z => z
        cases ok with
        | true =>
          refine wpAny_mono h₃ (fun y s₄ h₄ => ?_) fun _ _ z => z
          obtain ⟨g'', lc'', cs', lg', hJ', hLC', hCS', S4⟩ := h₄
          have S5 := S4.perm (List.Perm.swap (It, oI') (D, lst ys k') cs')
          have eD5 := S5.ob (D, lst ys k') (.head _)
          refine append_at (hsz := by show ys.toArray.size ≤ sizeLine; rw [List.size_toArray]; omega) eD5 fun h₅ hs₅ hD₅ => ?_
          have S6 : St w s g g'' (D + 1) lc'' ((D, lst (ys ++ [y]) (k' + 1)) :: (It, oI') :: cs') { s₄ with heap := h₅ } := S5.upd hs₅ (by rw [hD₅]; simp) rfl rfl
          exact ⟨nI - (i + 1), by omega, i + 1, ys ++ [y], g'', lc'', cs', oI', k' + 1, rfl, hlt', by rw [List.length_append, List.length_singleton]; omega, lg.trans lg', hit', hJ', hLC', hCS', S6.perm (List.Perm.swap _ _ _)⟩
        | false =>
          obtain ⟨g'', lc'', cs', lg', hJ', hLC', hCS', S4⟩ := h₃
          exact ⟨nI - (i + 1), by omega, i + 1, ys, g'', lc'', cs', oI', k', rfl, hlt', by omega, lg.trans lg', hit', hJ', hLC', hCS', S4⟩
      · obtain rfl : i = nI := Nat.le_antisymm hi (Nat.not_lt.mp hlt')
        refine no_err (stop _ lc' D ys k' cs g' oI s' _ lg hit S' fun s'' S'' => ?_)
        dsimp only
        have eD := S''.ob (D, lst ys k') (.head _)
        obtain ⟨oC, esC, epC, eC, rC⟩ := S''.ns
        have hn := S''.nd
        simp only [List.map_cons, List.nodup_cons, List.mem_cons, not_or] at hn
        have hCn : s.heap.get? (D + 1) = none := S''.old _ (.head _)
        have hDn : s.heap.get? D = none := S''.old _ (.tail _ (.head _))
        have gCn : g' (D + 1) = none := S''.gL _ (.head _)
        have gDn : g' D = none := S''.gL _ (.tail _ (.head _))
        have O : Out s g (fun v g'' => g'' = ins g' D (lst ys k')) (.ref D) s'' := by
          refine ⟨⟨fun b o n e => S''.nx.kp b o n e, S''.nx.gens, S''.nx.os⟩, ins g' D (lst ys k'), lg.trans (Le.ins gDn), ?_, ?_, ?_, rfl⟩
          · intro b o e
            unfold ins at e
            by_cases hb : b = D
            · subst hb; rw [if_pos rfl] at e; cases e
              exact eD
            · rw [if_neg hb] at e
              exact S''.sub b o e
          · intro b o e
            unfold ins at e
            by_cases hb : b = D
            · subst hb; exact .inr hDn
            · rw [if_neg hb] at e; exact S''.new b o e
          · exact S''.tab.mono (Le.ins gDn) ((ins_other (fun q : tb = D => S''.tboff (by rw [q]; exact .tail _ (.head _)))).trans S''.tab.1) fun o e => e
        obtain ⟨g'', l1, eg, So⟩ := S.out O
        subst eg
        have Sc := S.addOwn So eC hCn (by unfold ins; rw [if_neg (Nat.succ_ne_self D)]; exact gCn)
        exact fin _ D ys k' (D + 1) oC _ l1 ins_self gD0 (hJm hJ (Le.ins gDn)) (fun h e => ⟨_, oC, esC, epC, e, rC⟩) Sc
  refine codeAny_compStart_list loop ?_
  exact no_err (self _ [] D [] 0 _ g oI₀ s4 _ hi0 S2 loop)
end
end Mine
end
section
open PySem PySem.W PySem.Calls PyProof.Rows
set_option maxRecDepth 100000
set_option linter.unusedSimpArgs false
set_option linter.unusedVariables false
namespace Mine
section
variable {prog : Program} {w : World} {A : Around} {s₀ s s' : Shared} {g₀ g g' : Hp} {L : Addr} {lc lc' : List (Str × Value)} {own own' : List (Addr × Obj)} {E : Value → Shared → Prop} {env : Env} {n : Nat}

theorem none_size (s : Shared) : s.heap.get? s.heap.objs.size = none := by
  cases e : s.heap.get? s.heap.objs.size with
  | none => rfl
  | some o' => exact absurd (Heap.lt_size e) (Nat.lt_irrefl _)

/-- a comprehension over a list that the base holds -/
theorem r_compL {elt target iter : Expr} {ifs : List Expr} {scope : Scope} {pos : Pos} {cl : List (Str × Addr)} {use : Option (Value → Sem Unit)} {Q : Value → Shared → Prop} {l : Addr} {vs : List Value} {nn : Nat}
    (J : Nat → List Value → Hp → Prop) (hJm : ∀ {i ys g g'}, J i ys g → Le g g' → J i ys g') (LC : List (Str × Value) → Prop) (CS : Addr → List (Addr × Obj) → Prop)
    (hA : AOk A n) (S : St w s₀ g₀ g L lc own s) (hl : g l = some (lst vs nn)) (hsz : vs.length ≤ sizeLine) (h0 : J 0 [] g) (hlc : LC []) (hcs : ∀ C, CS C (cellOwn (C + 1) scope.names []))
    (turn : ∀ i v ys g' C D k lc' cs It oI s', vs[i]? = some v → Le g g' → J i ys g' → LC lc' → CS C cs → ys.length ≤ i → St w s g g' C lc' ((It, oI) :: (D, lst ys k) :: cs) s' →
      CTurn prog w A (compE scope cl C env) target elt ifs v
        (fun y s₄ => ∃ g'' lc'' cs', Le g' g'' ∧ J (i + 1) (ys ++ [y]) g'' ∧ LC lc'' ∧ CS C cs' ∧ St w s g g'' C lc'' ((It, oI) :: (D, lst ys k) :: cs') s₄)
        (fun s₄ => ∃ g'' lc'' cs', Le g' g'' ∧ J (i + 1) ys g'' ∧ LC lc'' ∧ CS C cs' ∧ St w s g g'' C lc'' ((It, oI) :: (D, lst ys k) :: cs') s₄) s')
    (done : CompFin prog w A use Q E s₀ g₀ g L lc own (J vs.length)) :
    wpAny (model prog w) A (pyIter (.ref l)) (CompK prog w A env elt target iter ifs scope pos cl use Q E) E s := by
  have hl' : s.heap.IsList l vs.toArray := ⟨_, S.sub _ _ hl, rfl, nn, rfl⟩
  refine wpAny_pyIter_list hl' ?_
  have S1 := S.alloc (o := { cls := .type "list_iterator", data := .fields #[.ref l, .int 0 0] }) (t := s.toks) rfl
  refine r_compAll (fun i v => vs[i]? = some v) (fun i o => o.cls = .type "list_iterator" ∧ o.data = .fields #[.ref l, .int i 0]) J hJm LC CS hA S S1 (fun b o e => Heap.get?_push_of_some _ e) rfl rfl (none_size s) ⟨rfl, rfl⟩ hsz h0 hlc hcs ?_ ?_ ?_
    (fun i v ys g' C D k lc' cs oI s' _ hv lg hJ hLC hCS hyl S' => turn i v ys g' C D k lc' cs _ oI s' hv lg hJ hLC hCS hyl S') done
  · intro i C lc' D ys k cs g' oI s' R hi lg ho S' hR
    refine wpAny_pyNext_list_item ⟨oI, S'.ob _ (.head _), ho.1, ho.2⟩ ⟨_, S'.sub _ _ (lg _ _ hl), rfl, nn, rfl⟩ (x := vs[i]) (by simp [hi]) fun h' hit' hs' => ?_
    obtain ⟨oI', e1, hc', hd'⟩ := hit'
    exact hR _ oI' _ (by simp [hi]) ⟨hc', hd'⟩ (S'.upd hs' e1 rfl rfl) ⟨_, hc', by decide⟩
  · intro C lc' D ys k cs g' oI s' R lg ho S' hR
    refine wpAny_pyNext_list_end hA.1 ⟨oI, S'.ob _ (.head _), ho.1, ho.2⟩ ⟨_, S'.sub _ _ (lg _ _ hl), rfl, nn, rfl⟩ (by simp) fun h' hx' => ?_
    exact hR _ (S'.lose hx' rfl rfl)
  · intro C lc' D ys k cs g' oI s' R ho S' hR
    exact wpAny_pyIter_listiter ⟨oI, S'.ob _ (.head _), ho.1, ho.2⟩ hR

noncomputable abbrev rangeO (a b c : Int) (t u v : Tok) : Obj := { cls := .type "range", dict := none, data := .fields #[.int a t, .int b u, .int c v], slots := #[] }
/-- a comprehension over range(m) -/
theorem r_compR {elt target iter : Expr} {ifs : List Expr} {scope : Scope} {pos : Pos} {cl : List (Str × Addr)} {use : Option (Value → Sem Unit)} {Q : Value → Shared → Prop} {r : Addr} {m : Nat} {t u v : Tok}
    (J : Nat → List Value → Hp → Prop) (hJm : ∀ {i ys g g'}, J i ys g → Le g g' → J i ys g') (LC : List (Str × Value) → Prop) (CS : Addr → List (Addr × Obj) → Prop)
    (hA : AOk A n) (S : St w s₀ g₀ g L lc own s) (hl : g r = some (rangeO 0 m 1 t u v)) (hsz : m ≤ sizeLine) (h0 : J 0 [] g) (hlc : LC []) (hcs : ∀ C, CS C (cellOwn (C + 1) scope.names []))
    (turn : ∀ (i : Nat) tk ys g' C D k lc' cs It oI s', i < m → Le g g' → J i ys g' → LC lc' → CS C cs → ys.length ≤ i → St w s g g' C lc' ((It, oI) :: (D, lst ys k) :: cs) s' →
      CTurn prog w A (compE scope cl C env) target elt ifs (.int i tk)
        (fun y s₄ => ∃ g'' lc'' cs', Le g' g'' ∧ J (i + 1) (ys ++ [y]) g'' ∧ LC lc'' ∧ CS C cs' ∧ St w s g g'' C lc'' ((It, oI) :: (D, lst ys k) :: cs') s₄)
        (fun s₄ => ∃ g'' lc'' cs', Le g' g'' ∧ J (i + 1) ys g'' ∧ LC lc'' ∧ CS C cs' ∧ St w s g g'' C lc'' ((It, oI) :: (D, lst ys k) :: cs') s₄) s')
    (done : CompFin prog w A use Q E s₀ g₀ g L lc own (J m)) :
    wpAny (model prog w) A (pyIter (.ref r)) (CompK prog w A env elt target iter ifs scope pos cl use Q E) E s := by
  have hm : (m : Int) < 2 ^ 62 := by have : sizeLine = 16777216 := rfl; omega
  have hrs : Builtin.Range.rangeSize 0 m 1 = m := by rw [rangeSize_one]; split <;> omega
  have fl : ∀ x : Int, 0 ≤ x → x < 2 ^ 62 → Builtin.Range.rangeFitsLong x = true := fun x h1 h2 => by
    unfold Builtin.Range.rangeFitsLong; simp; omega
  have hsmall : Builtin.Range.small 0 m 1 = true := by
    unfold Builtin.Range.small
    rw [hrs, fl 0 (by omega) (by omega), fl m (by omega) hm, fl 1 (by omega) (by omega)]
    simp only [Bool.and_self, Bool.true_and]
    rw [if_pos (by decide), show (m : Int) + (1 - 1) = m by omega, fl m (by omega) hm, Bool.or_true]
  refine wpAny_pyIter_range (t := t) (u := u) (v := v) (S.sub _ _ hl) hsmall ?_
  rw [hrs]
  have S1 := S.alloc (o := { cls := .type "range_iterator", data := .fields #[rawInt 0, rawInt m, rawInt 1] }) (t := s.toks) rfl
  refine r_compAll (fun i x => ∃ tk, x = .int i tk) (fun i o => o = { cls := .type "range_iterator", dict := none, data := .fields #[rawInt i, rawInt ((m : Int) - i), rawInt 1], slots := #[] }) J hJm LC CS hA S S1 (fun b o e => Heap.get?_push_of_some _ e) rfl rfl (none_size s) (by simp) hsz h0 hlc hcs ?_ ?_ ?_
    (fun i x ys g' C D k lc' cs oI s' hi ⟨tk, hx⟩ lg hJ hLC hCS hyl S' => by subst hx; exact turn i tk ys g' C D k lc' cs _ oI s' hi lg hJ hLC hCS hyl S') done
  · intro i C lc' D ys k cs g' oI s' R hi lg ho S' hR
    subst ho
    refine wpAny_pyNext_range_item (S'.ob _ (.head _)) (by omega) fun h' hit' hs' => ?_
    refine hR _ _ _ ⟨_, rfl⟩ ?_ (S'.upd hs' hit' rfl rfl) ⟨_, rfl, by decide⟩
    rw [show ((i : Nat) : Int) + 1 = ((i + 1 : Nat) : Int) by omega, show (m : Int) - i - 1 = (m : Int) - ((i + 1 : Nat) : Int) by omega]
  · intro C lc' D ys k cs g' oI s' R lg ho S' hR
    subst ho
    refine wpAny_pyNext_range_end hA.1 (S'.ob _ (.head _)) (by omega) fun h' hx' => ?_
    exact hR _ (S'.lose hx' rfl rfl)
  · intro C lc' D ys k cs g' oI s' R ho S' hR
    subst ho
    exact wpAny_pyIter_rangeiter (S'.ob _ (.head _)) hR

theorem r_range {m : Int} {tk : Tok} {Q : Value → Shared → Prop} (S : St w s₀ g₀ g L lc own s) (h : ∀ a t v s', g a = none → St w s₀ g₀ (ins g a (rangeO 0 m 1 t tk v)) L lc own s' → Q (.ref a) s') : wpAny (model prog w) A (call (.type "range") [.int m tk]) Q E s :=
  call_range_1 (h _ _ _ _ S.fresh (S.made rfl))

-- method calls
theorem r_meth {o : Expr} {name : Str} {apos pos : Pos} {args : List Expr} {Q : Value → Shared → Prop}
    (h : wpAny (model prog w) A (eval o env) (fun ov s₁ => wpAny (model prog w) A (getMethod ov name (do return (← importBound o env).getD true)) (fun fx s₂ => wpAny (model prog w) A (callWith pos fx.1 fx.2 (backTo pos (starEach args env)) []) Q E s₂) E s₁) E s)
    (he : eval (.Call (.Attribute o name apos) args [] pos) env = (do
      let ov ← eval o env
      standAt apos.atName
      let (f, first) ← holding [ov] (getMethod ov name (do return (← importBound o env).getD true))
      callWith pos f first (backTo pos (starEach args env)) []) := by rfl) : wpAny (model prog w) A (eval (.Call (.Attribute o name apos) args [] pos) env) Q E s := MethodCall_ h he
theorem r_cw1 {pos : Pos} {id : String} {first : List Value} {e : Expr} {rest : List Expr} {Q : Value → Shared → Prop}
    (h : wpAny (model prog w) A (spliced (backTo pos (starEach (e :: rest) env))) (fun vs s₁ => wpAny (model prog w) A (call (.builtin id) (first ++ vs)) Q E s₁) E s)
    (he : starEach (e :: rest) env = (false, eval e env) :: starEach rest env := by rfl) (hplain : (backTo pos (starEach rest env)).any (·.1) = false := by rfl) :
    wpAny (model prog w) A (callWith pos (.builtin id) first (backTo pos (starEach (e :: rest) env)) []) Q E s := callWith_method1 h he hplain
theorem r_cw0 {pos : Pos} {id : String} {first : List Value} {Q : Value → Shared → Prop} (h : wpAny (model prog w) A (call (.builtin id) first) Q E s) :
    wpAny (model prog w) A (callWith pos (.builtin id) first (backTo pos (starEach [] env)) []) Q E s := callWith_method0 h
end
end Mine
end
section
open PySem PySem.W PySem.Calls PyProof.Rows
set_option maxRecDepth 100000
set_option linter.unusedSimpArgs false
set_option linter.unusedVariables false
namespace Mine

noncomputable def mk (l : List Nat) : Str := ⟨l.toArray⟩
theorem mk_inj {a b : List Nat} : mk a = mk b ↔ a = b := by
  constructor
  · intro h; have := congrArg (fun x => x.cps.toList) h; simpa [mk] using this
  · rintro rfl; rfl
theorem mk_len (l : List Nat) : (mk l).length = l.length := by simp [mk, Str.length]
theorem mk_app (a b : List Nat) : mk a ++ mk b = mk (a ++ b) := by
  show (⟨a.toArray ++ b.toArray⟩ : Str) = _
  simp [mk]
theorem mk_toList (l : List Nat) : (mk l).cps.toList = l := by simp [mk]
theorem mk_of (x : Str) : mk x.cps.toList = x := by cases x; simp [mk]
noncomputable def slc {α : Type} (l : List α) (a b : Option Nat) : List α := (l.take (b.getD l.length)).drop (a.getD 0)

theorem sidx (a b : Option Nat) (n : Nat) : Builtin.Str.strSliceIndices (a.map Int.ofNat) (b.map Int.ofNat) 1 n = (List.range (min (b.getD n) n - min (a.getD 0) n)).map (fun k => min (a.getD 0) n + k) := by
  unfold Builtin.Str.strSliceIndices
  have ha : ∀ x : Nat, ¬ ((x : Int) < 0) := fun x => by omega
  have e : ∀ x : Nat, max (0:Int) (min (x:Int) (n:Int)) = ((min x n : Nat) : Int) := fun x => by omega
  have R : ∀ lo hi : Nat, sliceRange (lo : Int) (hi : Int) 1 = (List.range (hi - lo)).map (fun k => lo + k) := by
    intro lo hi
    unfold sliceRange
    simp only [show (1:Int) > 0 by omega, if_true]
    have : ((if (lo:Int) < hi then ((hi:Int) - lo + 1 - 1) / 1 else 0) : Int).toNat = hi - lo := by split <;> omega
    rw [this]
    apply List.map_congr_left
    intro k _
    omega
  cases a <;> cases b <;> simp only [Option.map_none, Option.map_some, Option.getD_none, Option.getD_some, show (1:Int) > 0 by omega, if_true, Int.ofNat_eq_natCast, ha, if_false, e]
  · rw [show (0 : Int) = ((0 : Nat) : Int) from rfl, R]; simp
  · rw [show (0 : Int) = ((0 : Nat) : Int) from rfl, R]; simp
  · rw [R]; simp
  · rw [R]
theorem slc_eq {α : Type} (l : List α) (a b : Option Nat) : slc l a b = (l.drop (min (a.getD 0) l.length)).take (min (b.getD l.length) l.length - min (a.getD 0) l.length) := by
  unfold slc
  rw [List.drop_take]
  by_cases h : a.getD 0 ≤ l.length
  · rw [Nat.min_eq_left h]
    apply List.ext_getElem?
    intro i
    simp only [List.getElem?_take, List.getElem?_drop]
    by_cases h1 : i < b.getD l.length - a.getD 0
    · by_cases h2 : i < min (b.getD l.length) l.length - a.getD 0
      · rw [if_pos h1, if_pos h2]
      · rw [if_pos h1, if_neg h2]; exact List.getElem?_eq_none (by omega)
    · rw [if_neg h1, if_neg (by omega)]
  · rw [List.drop_eq_nil_of_le (by omega), List.drop_eq_nil_of_le (by omega)]; simp
theorem slcText (x : Str) (a b : Option Nat) : StrLaws.sliceText x (a.map Int.ofNat) (b.map Int.ofNat) = mk (slc x.cps.toList a b) := by
  unfold StrLaws.sliceText
  rw [sidx, slc_eq]
  have hl : x.length = x.cps.toList.length := by simp [Str.length]
  rw [← hl]
  generalize hlo : min (a.getD 0) x.length = lo
  generalize hhi : min (b.getD x.length) x.length = hi
  have pk : ((List.range (hi - lo)).map (fun k => lo + k)).filterMap (x.cps[·]?) = (x.cps.toList.drop lo).take (hi - lo) := by
    by_cases h : lo ≤ hi
    · rw [← StrLaws.picks x.cps.toList (hi - lo) lo (by omega)]
      congr 1; funext i; simp
    · rw [show hi - lo = 0 by omega]; simp
  rw [pk]
  split
  · rename_i h
    simp at h
    have : lo = 0 ∧ hi = x.length ∨ x.length = 0 := by omega
    rcases this with ⟨h1, h2⟩ | h0
    · rw [h1, h2, List.drop_zero, hl, Nat.sub_zero, List.take_length]; cases x; simp [mk]
    · have : x.cps.toList = [] := List.eq_nil_of_length_eq_zero (by rw [← hl]; exact h0)
      rw [this]
      have : x.cps = #[] := by simpa using this
      cases x; simp at this; subst this; simp [mk]
  · rfl

section
variable {prog : Program} {w : World} {A : Around} {s₀ s s' : Shared} {g₀ g g' : Hp} {L : Addr} {lc lc' : List (Str × Value)} {own own' : List (Addr × Obj)} {E : Value → Shared → Prop} {env : Env} {n : Nat}

theorem gm_list' {l : Addr} {vs : List Value} {k : Nat} {name : Str} {id : String} {pl : Sem Bool} {Q : Value × List Value → Shared → Prop} (hl : s.heap.get? l = some (lst vs k)) (sl : Slot "list" name id) (ht : typeOf (.builtin id) = pure (.type "method_descriptor"))
    (h : Q (.builtin id, [.ref l]) s) : wpAny (model prog w) A (getMethod (.ref l) name pl) Q E s :=
  getMethod_builtin ⟨_, hl, rfl⟩ PySem.F.plainAttrs_list sl ht (fun a e => by cases e; exact ⟨_, hl, rfl⟩) h

theorem r_asgnN {x : Str} {p : Pos} {v : Value} {Q : Unit → Shared → Prop} (h : wpAny (model prog w) A (storeName env x v) Q E s) : wpAny (model prog w) A (assign (.Name x p) env v) Q E s := wpAny_assign_Name h
theorem r_cmp {l r : Expr} {op : CmpOp} {pos : Pos} {Q : Value → Shared → Prop}
    (h : wpAny (model prog w) A (eval l env) (fun a s₁ => wpAny (model prog w) A (eval r env) (fun b s₂ => wpAny (model prog w) A (compareOp op a b) Q E s₂) E s₁) E s)
    (hm : behindInMarks op r = false := by rfl) : wpAny (model prog w) A (eval (.Compare l [op] [r] pos) env) Q E s := wpAny_Compare1 h hm
theorem r_tcmp {l r : Expr} {op : CmpOp} {pos : Pos} {whole : Sem Value} {Q : Bool → Shared → Prop}
    (h : wpAny (model prog w) A (eval l env) (fun a s₁ => wpAny (model prog w) A (eval r env) (fun b s₂ => wpAny (model prog w) A (compareOp op a b) (fun c s₃ => wpAny (model prog w) A (truthy c) Q E s₃) E s₂) E s₁) E s)
    (hm : behindInMarks op r = false := by rfl) : wpAny (model prog w) A (isTrue (.Compare l [op] [r] pos) env whole) Q E s := wpAny_isTrue_Compare1 h hm
theorem r_tnot {x : Expr} {pos : Pos} {whole : Sem Value} {Q : Bool → Shared → Prop} (h : wpAny (model prog w) A (isTrue x env (eval x env)) (fun b s₁ => Q (!b) s₁) E s) :
    wpAny (model prog w) A (isTrue (.UnaryOp .Not x pos) env whole) Q E s := wpAny_isTrue_Not h
theorem r_tbool {op : BoolOp} {values : List Expr} {pos : Pos} {whole : Sem Value} {Q : Bool → Shared → Prop} (h : wpAny (model prog w) A (allTrue op values env) Q E s) :
    wpAny (model prog w) A (isTrue (.BoolOp op values pos) env whole) Q E s := wpAny_isTrue_BoolOp h
theorem r_and0 {Q : Bool → Shared → Prop} (h : Q true s) : wpAny (model prog w) A (allTrue .And [] env) Q E s := wpAny_allTrue_And_nil h
theorem r_or0 {Q : Bool → Shared → Prop} (h : Q false s) : wpAny (model prog w) A (allTrue .Or [] env) Q E s := wpAny_allTrue_Or_nil h
theorem r_and {x : Expr} {rest : List Expr} {Q : Bool → Shared → Prop}
    (h : wpAny (model prog w) A (isTrue x env (eval x env)) (fun b s₁ => match b with | true => wpAny (model prog w) A (allTrue .And rest env) Q E s₁ | false => Q false s₁) E s) : wpAny (model prog w) A (allTrue .And (x :: rest) env) Q E s :=
  wpAny_allTrue_And_cons (wpAny_mono h (fun b s₁ h₁ => by cases b <;> exact h₁) fun _ _ z => z)
theorem r_or {x : Expr} {rest : List Expr} {Q : Bool → Shared → Prop}
    (h : wpAny (model prog w) A (isTrue x env (eval x env)) (fun b s₁ => match b with | true => Q true s₁ | false => wpAny (model prog w) A (allTrue .Or rest env) Q E s₁) E s) : wpAny (model prog w) A (allTrue .Or (x :: rest) env) Q E s :=
  wpAny_allTrue_Or_cons (wpAny_mono h (fun b s₁ h₁ => by cases b <;> exact h₁) fun _ _ z => z)
theorem r_and2 {x y : Expr} {pos : Pos} {Q : Value → Shared → Prop}
    (h : wpAny (model prog w) A (eval x env) (fun v s₁ => wpAny (model prog w) A (truthy v) (fun t s₂ => match t with | true => wpAny (model prog w) A (eval y env) Q E s₂ | false => Q v s₂) E s₁) E s) :
    wpAny (model prog w) A (eval (.BoolOp .And [x, y] pos) env) Q E s := wpAny_And2 (wpAny_mono h (fun v s₁ h₁ => wpAny_mono h₁ (fun t s₂ h₂ => by cases t <;> exact h₂) fun _ _ z => z) fun _ _ z => z)
theorem r_or2 {x y : Expr} {pos : Pos} {Q : Value → Shared → Prop}
    (h : wpAny (model prog w) A (eval x env) (fun v s₁ => wpAny (model prog w) A (truthy v) (fun t s₂ => match t with | true => Q v s₂ | false => wpAny (model prog w) A (eval y env) Q E s₂) E s₁) E s) :
    wpAny (model prog w) A (eval (.BoolOp .Or [x, y] pos) env) Q E s := wpAny_Or2 (wpAny_mono h (fun v s₁ h₁ => wpAny_mono h₁ (fun t s₂ h₂ => by cases t <;> exact h₂) fun _ _ z => z) fun _ _ z => z)
theorem r_ifexp {test body orelse : Expr} {pos : Pos} {Q : Value → Shared → Prop}
    (h : wpAny (model prog w) A (isTrue test env (eval test env)) (fun b s₁ => match b with | true => wpAny (model prog w) A (eval body env) Q E s₁ | false => wpAny (model prog w) A (eval orelse env) Q E s₁) E s) :
    wpAny (model prog w) A (eval (.IfExp test body orelse pos) env) Q E s := wpAny_IfExp (wpAny_mono h (fun b s₁ h₁ => by cases b <;> exact h₁) fun _ _ z => z)
theorem r_bin {l r : Expr} {op : Operator} {pos : Pos} {Q : Value → Shared → Prop}
    (h : wpAny (model prog w) A (eval l env) (fun a s₁ => wpAny (model prog w) A (eval r env) (fun b s₂ => wpAny (model prog w) A (binaryOp op a b) Q E s₂) E s₁) E s) :
    wpAny (model prog w) A (eval (.BinOp l op r pos) env) Q E s := wpAny_BinOp h
theorem r_aug {x : Str} {pos' pos : Pos} {op : Operator} {value : Expr} {old : Value} {Q : Flow → Shared → Prop} (S : St w s₀ g₀ g L lc own s) (hv : lkp lc x = some old)
    (h : wpAny (model prog w) A (eval value env) (fun v s₂ => wpAny (model prog w) A (inplaceOp op old v) (fun r s₃ => wpAny (model prog w) A (storeName env x r) (fun _ => Q .next) E s₃) E s₂) E s)
    (hk : env.scope.kind = .function := by rfl) (hl : env.kindOf x = some .local := by rfl) (hL : env.locals = L := by rfl) : wpAny (model prog w) A (exec (.AugAssign (.Name x pos') op value pos) env) Q E s :=
  wpAny_AugAssign_Name (wpAny_loadName_local hk hl (hL ▸ S.ns) hv h)
theorem r_break {pos : Pos} {Q : Flow → Shared → Prop} (h : Q .brk s) : wpAny (model prog w) A (exec (.Break pos) env) Q E s := wpAny_Break h
theorem r_continue {pos : Pos} {Q : Flow → Shared → Prop} (h : Q .cont s) : wpAny (model prog w) A (exec (.Continue pos) env) Q E s := wpAny_Continue h
theorem r_expr {e : Expr} {pos : Pos} {Q : Flow → Shared → Prop} (h : wpAny (model prog w) A (eval e env) (fun v s' => match v with | .ref _ => False | _ => Q .next s') E s) (hi : interactive env = false := by rfl) (hs : swapsWith e none pos.line env = pure false := by rfl) :
    wpAny (model prog w) A (exec (.Expr e pos) env) Q E s := wpAny_Expr h hi hs

theorem r_m1 {pos : Pos} {id : String} {a : Value} {e : Expr} {rest : List Expr} {Q : Value → Shared → Prop}
    (h : wpAny (model prog w) A (spliced (backTo pos (starEach (e :: rest) env))) (fun vs s₁ => wpAny (model prog w) A (call (.builtin id) (a :: vs)) Q E s₁) E s)
    (he : starEach (e :: rest) env = (false, eval e env) :: starEach rest env := by rfl) (hplain : (backTo pos (starEach rest env)).any (·.1) = false := by rfl) :
    wpAny (model prog w) A (callWith pos (.builtin id) [a] (backTo pos (starEach (e :: rest) env)) []) Q E s := callWith_method1 (first := [a]) h he hplain
theorem r_m0 {pos : Pos} {id : String} {a : Value} {Q : Value → Shared → Prop} (h : wpAny (model prog w) A (call (.builtin id) [a]) Q E s) :
    wpAny (model prog w) A (callWith pos (.builtin id) [a] (backTo pos (starEach [] env)) []) Q E s := callWith_method0 h
theorem r_neg {x : Expr} {pos : Pos} {Q : Value → Shared → Prop} (h : wpAny (model prog w) A (eval x env) (fun v s₁ => ∃ i t, v = .int i t ∧ Q (.int (-i) s₁.toks) { s₁ with toks := s₁.toks + 1 }) E s) : wpAny (model prog w) A (eval (.UnaryOp .USub x pos) env) Q E s :=
  wpAny_UnaryOp (wpAny_mono h (fun v s₁ h₁ => by obtain ⟨i, t, rfl, h₁⟩ := h₁; exact PyProof.Rows.neg_int h₁) fun _ _ z => z)
theorem r_negc {i : Int} {k : Nat} {p pos : Pos} {Q : Value → Shared → Prop} (S : St w s₀ g₀ g L lc own s) (h : ∀ t s', St w s₀ g₀ g L lc own s' → Q (.int (-i) t) s') : wpAny (model prog w) A (eval (.UnaryOp .USub (.Constant (.int i) k p) pos) env) Q E s :=
  r_neg (r_int S fun t s' S' => ⟨i, t, rfl, h _ _ S'.toks⟩)
-- strings
theorem r_eqS {x y : Str} {t u : Tok} {Q : Value → Shared → Prop} (h : Q (.bool (decide (x = y))) s) : wpAny (model prog w) A (compareOp .Eq (.str x t) (.str y u)) Q E s := PyProof.Rows.eq_str (by rw [show (x == y) = decide (x = y) from by rw [Bool.eq_iff_iff]; simp]; exact h)
theorem r_neS {x y : Str} {t u : Tok} {Q : Value → Shared → Prop} (h : Q (.bool (!decide (x = y))) s) : wpAny (model prog w) A (compareOp .NotEq (.str x t) (.str y u)) Q E s := PyProof.Rows.ne_str (by rw [show (x != y) = !decide (x = y) from by rw [Bool.eq_iff_iff]; simp]; exact h)
theorem r_addS {x y : Str} {t u : Tok} {Q : Value → Shared → Prop} (S : St w s₀ g₀ g L lc own s) (hsz : x.length + y.length ≤ sizeLine) (h : ∀ t' s', St w s₀ g₀ g L lc own s' → Q (.str (x ++ y) t') s') : wpAny (model prog w) A (binaryOp .Add (.str x t) (.str y u)) Q E s :=
  PyProof.Rows.add_str (fun t' tk => h t' _ S.toks) hsz
theorem r_truS {x : Str} {t : Tok} {Q : Bool → Shared → Prop} (S : St w s₀ g₀ g L lc own s) (hsz : x.length ≤ sizeLine) (h : ∀ s', St w s₀ g₀ g L lc own s' → Q (!decide (x = mk [])) s') : wpAny (model prog w) A (truthy (.str x t)) Q E s := by
  refine PySem.P.truthy_str (by have : sizeLine = 16777216 := rfl; omega) ?_
  have e : ((x.length : Int) != 0) = !decide (x = mk []) := by
    rw [Bool.eq_iff_iff]
    have : x = mk [] ↔ x.length = 0 := by
      conv => lhs; rw [← mk_of x, mk_inj]
      simp [Str.length]
    simp [this]
  rw [e]; exact h _ S.toks

/-- what a plain slice needs: a text or a list -/
noncomputable def SlcK (prog : Program) (w : World) (A : Around) (o vl vu : Value) (Q : Value → Shared → Prop) (E : Value → Shared → Prop) (s : Shared) : Prop :=
  (∃ x t l u, o = .str x t ∧ vl = partValue l ∧ vu = partValue u ∧ (sliceMade x t l u none).post Q { s with heap := s.heap.push { cls := .type "slice", data := .fields #[vl, vu, .none] } }) ∨
  (∃ l vs k lo hi, o = .ref l ∧ s.heap.get? l = some (lst vs k) ∧ vs.length ≤ sizeLine ∧ IsPart vl lo ∧ IsPart vu hi ∧
        Q (.ref (s.heap.objs.size + 1)) { s with heap := (s.heap.push { cls := .type "slice", data := .fields #[vl, vu, .none] }).push { cls := .type "list", data := .seq (slicePick vs.toArray lo hi none) } })
theorem r_slc {value : Expr} {lower upper : Option Expr} {p pos : Pos} {Q : Value → Shared → Prop}
    (h : wpAny (model prog w) A (eval value env) (fun o s₁ => wpAny (model prog w) A (evalPart lower env) (fun vl s₂ => wpAny (model prog w) A (evalPart upper env) (fun vu s₃ => SlcK prog w A o vl vu Q E s₃) E s₂) E s₁) E s) :
    wpAny (model prog w) A (eval (.Subscript value (.Slice lower upper none p) pos) env) Q E s := by
  rw [eval_Subscript]
  refine wpAny_bind (wpAny_mono h (fun o s₁ h₁ => wpAny_bind (wpAny_holding (wpAny_Slice (wpAny_mono h₁ (fun vl s₂ h₂ => wpAny_mono h₂ (fun vu s₃ h₃ => ?_) fun _ _ e => e) fun _ _ e => e)))) fun _ _ x => x)
  rw [evalPart_none]
  refine wpAny_pure (wpAny_bind (wpAny_standAt ?_))
  have main : ∀ (T id : String) (i : Value) (s₂ : Shared), typeLookup (.type T) "__getitem__" = pure (some (.builtin id)) → s₂.TypeIs o T → wpAny (model prog w) A (getItem o i) Q E s₂ →
      wpAny (model prog w) A (do
        let r ← subscripted (.Slice lower upper none p) (← getitemInPython o) o i
        letTemporaryGo value o r
        pure r) Q E s₂ := by
    intro T id i s₂ hl hT hg
    have fin : wpAny (model prog w) A (operate [i, o] (getItem o i)) (fun r s₃ => wpAny (model prog w) A (letTemporaryGo value o r >>= fun _ => pure r) Q E s₃) E s₂ :=
      wpAny_operating (wpAny_mono hg (fun r s₃ h₃ => wpAny_bind (wpAny_letTemporaryGo (wpAny_pure h₃))) fun _ _ x => x)
    refine wpAny_bind ?_
    rw [getitemInPython_of_ne hT.not_modules]
    refine wpAny_bind (wpAny_specialOf hT hl ?_)
    first
      | exact wpAny_pure (wpAny_bind fin)
      | exact wpAny_bind (wpAny_pure (wpAny_bind fin))
      | exact wpAny_bind fin
  rcases h₃ with ⟨x, t, l, u, rfl, rfl, rfl, hQ⟩ | ⟨l, vs, k, lo, hi, rfl, hl, hsz, pl, pu, hQ⟩
  · exact main "str" _ _ _ PySem.F.slot_str_getitem.lookup (typeIs_str _ x t) (wpAny_getItem_str_slice (l := l) (u := u) (st := none) ⟨_, Heap.get?_push_size _ rfl, rfl, rfl⟩ rfl hQ)
  · have hl' := Heap.get?_push_of_some ({ cls := .type "slice", data := .fields #[vl, vu, .none] } : Obj) hl
    refine main "list" _ _ _ slot_list_getitem.lookup ⟨_, hl', rfl⟩ (wpAny_getItem_list_slice (lo := lo) (hi := hi) (st := none) ⟨_, hl', rfl, k, rfl⟩ ⟨_, Heap.get?_push_size _ rfl, rfl, rfl⟩ pl pu .none (by simp) ?_ (by simpa using hsz))
    rw [Heap.size_push]
    exact hQ
theorem r_part0 {Q : Value → Shared → Prop} (h : Q .none s) : wpAny (model prog w) A (evalPart none env) Q E s := wpAny_pure h
theorem r_part1 {e : Expr} {Q : Value → Shared → Prop} (h : wpAny (model prog w) A (eval e env) Q E s) : wpAny (model prog w) A (evalPart (some e) env) Q E s := h
theorem r_slcS' {x : Str} {t : Tok} {vl vu : Value} {Q : Value → Shared → Prop} (a b : Option Nat) (l u : Option (Int × Tok)) (S : St w s₀ g₀ g L lc own s) (hl : vl = partValue l) (hu : vu = partValue u)
    (ha : l.map (·.1) = a.map Int.ofNat) (hb : u.map (·.1) = b.map Int.ofNat) (hsz : x.length ≤ sizeLine) (h : ∀ t' s', St w s₀ g₀ g L lc own s' → Q (.str (mk (slc x.cps.toList a b)) t') s') :
    SlcK prog w A (.str x t) vl vu Q E s := by
  refine .inl ⟨x, t, l, u, rfl, hl, hu, ?_⟩
  have S1 := fun k => (S.alloc (o := { cls := .type "slice", data := .fields #[vl, vu, .none] }) (t := k) rfl).drop
  have e := slcText x a b
  rw [← ha, ← hb] at e
  unfold sliceMade slicePicked
  refine post_val_or_str ⟨?_, fun t' k => ?_⟩
  · have e2 : (if (((none : Option (Int × Tok)).map (·.1)).getD 1 == 1 && (Builtin.Str.strSliceIndices (l.map (·.1)) (u.map (·.1)) (((none : Option (Int × Tok)).map (·.1)).getD 1) x.length).length == x.length) = true then x else ⟨((Builtin.Str.strSliceIndices (l.map (·.1)) (u.map (·.1)) (((none : Option (Int × Tok)).map (·.1)).getD 1) x.length).filterMap (x.cps[·]?)).toArray⟩) = mk (slc x.cps.toList a b) := e
    rw [e2, mk_len]
    refine Nat.le_trans ?_ hsz
    unfold slc
    rw [List.length_drop, List.length_take]
    have : x.length = x.cps.toList.length := by simp [Str.length]
    omega
  · have e2 : (if (((none : Option (Int × Tok)).map (·.1)).getD 1 == 1 && (Builtin.Str.strSliceIndices (l.map (·.1)) (u.map (·.1)) (((none : Option (Int × Tok)).map (·.1)).getD 1) x.length).length == x.length) = true then x else ⟨((Builtin.Str.strSliceIndices (l.map (·.1)) (u.map (·.1)) (((none : Option (Int × Tok)).map (·.1)).getD 1) x.length).filterMap (x.cps[·]?)).toArray⟩) = mk (slc x.cps.toList a b) := e
    rw [e2]
    exact h t' _ (S1 k)

-- lists
/-- a slice of a list: into the base -/
theorem r_slcL' {l : Addr} {vs : List Value} {k : Nat} {vl vu : Value} {lo hi : Option Int} {us : List Value} {Q : Value → Shared → Prop} (S : St w s₀ g₀ g L lc own s) (hl : s.heap.get? l = some (lst vs k)) (hsz : vs.length ≤ sizeLine)
    (pl : IsPart vl lo) (pu : IsPart vu hi) (hu : slicePick vs.toArray lo hi none = us.toArray) (h : ∀ a s', g a = none → St w s₀ g₀ (ins g a (lst us 0)) L lc own s' → Q (.ref a) s') :
    SlcK prog w A (.ref l) vl vu Q E s := by
  refine .inr ⟨l, vs, k, lo, hi, rfl, hl, hsz, pl, pu, ?_⟩
  rw [hu]
  have S1 := (S.alloc (o := { cls := .type "slice", data := .fields #[vl, vu, .none] }) (t := s.toks) rfl).drop
  have h1 := S1.fresh
  have S2 := S1.made (o := lst us 0) (t := s.toks) rfl
  rw [show ({ s with heap := s.heap.push { cls := .type "slice", data := .fields #[vl, vu, .none] } } : Shared).heap.objs.size = s.heap.objs.size + 1 from Heap.size_push ..] at h1 S2
  exact h _ _ h1 S2
/-- what an index needs -/
noncomputable def SubK (prog : Program) (w : World) (A : Around) (o i : Value) (Q : Value → Shared → Prop) (E : Value → Shared → Prop) (s : Shared) : Prop :=
  ∃ T id, typeLookup (.type T) "__getitem__" = pure (some (.builtin id)) ∧ s.TypeIs o T ∧ wpAny (model prog w) A (getItem o i) Q E s
theorem r_sub {value slice : Expr} {pos : Pos} {Q : Value → Shared → Prop}
    (h : wpAny (model prog w) A (eval value env) (fun o s₁ => wpAny (model prog w) A (eval slice env) (fun i s₂ => SubK prog w A o i Q E s₂) E s₁) E s)
    (hs : ∀ o i, subscripted slice false o i = operate [o, i] (getItem o i) := by intro _ _; rfl) :
    wpAny (model prog w) A (eval (.Subscript value slice pos) env) Q E s := by
  refine Subscript_ (wpAny_mono h (fun o s₁ h₁ => wpAny_mono h₁ (fun i s₂ h₂ => ?_) fun _ _ e => e) fun _ _ e => e)
  obtain ⟨T, id, hl, hT, hg⟩ := h₂
  unfold subscriptTail
  refine wpAny_bind ?_
  rw [getitemInPython_of_ne hT.not_modules]
  refine wpAny_bind (wpAny_specialOf hT hl ?_)
  have fin : wpAny (model prog w) A (subscripted slice false o i) (fun r s₃ => wpAny (model prog w) A (letTemporaryGo value o r >>= fun _ => pure r) Q E s₃) E s₂ := by
    rw [hs]
    exact wpAny_operating (wpAny_mono hg (fun r s₃ h₃ => wpAny_bind (wpAny_letTemporaryGo (wpAny_pure h₃))) fun _ _ x => x)
  first
    | exact wpAny_pure (wpAny_bind fin)
    | exact wpAny_bind (wpAny_pure (wpAny_bind fin))
    | exact wpAny_bind fin
theorem seqIdx {k n : Nat} (h : k < n) : seqIndex? (k : Int) n = some k := by
  unfold seqIndex?
  simp; omega
theorem r_itemT {t : Addr} {vs : List Value} {k : Nat} {m : Nat} {u : Tok} {x : Value} {Q : Value → Shared → Prop} (ht : s.heap.get? t = some { cls := .type "tuple", data := .seq vs.toArray m }) (hx : vs[k]? = some x) (hk : k < 2 ^ 62) (h : Q x s) :
    SubK prog w A (.ref t) (.int k u) Q E s := by
  have hlt : k < vs.length := by
    rcases List.getElem?_eq_some_iff.mp hx with ⟨h, _⟩; exact h
  have htt : IsTup s.heap t vs.toArray := ⟨_, ht, rfl, m, rfl⟩
  exact ⟨"tuple", _, slot_tuple_getitem.lookup, htt.typeIs, getItem_tuple htt (by omega) (by omega) (by rw [List.size_toArray]; exact seqIdx hlt) (by simpa using hx) h⟩
theorem r_itemL {l : Addr} {vs : List Value} {k : Nat} {m : Nat} {u : Tok} {x : Value} {Q : Value → Shared → Prop} (ht : s.heap.get? l = some (lst vs m)) (hx : vs[k]? = some x) (hk : k < 2 ^ 62) (h : Q x s) :
    SubK prog w A (.ref l) (.int k u) Q E s :=
  ⟨"list", _, slot_list_getitem.lookup, ⟨_, ht, rfl⟩, wpAny_getItem_list ⟨_, ht, rfl, m, rfl⟩ (by omega) (by omega) (by simpa using hx) h⟩
/-- an item of a list, counted from the end -/
theorem r_itemN {l : Addr} {vs : List Value} {m : Nat} {u : Tok} {i : Int} {x : Value} {Q : Value → Shared → Prop} (ht : s.heap.get? l = some (lst vs m)) (hi : i = -1) (hne : vs ≠ []) (hx : vs.getLast? = some x) (h : Q x s) :
    SubK prog w A (.ref l) (.int i u) Q E s := by
  subst hi
  have hpos : 0 < vs.length := List.length_pos_iff.mpr hne
  refine ⟨"list", _, slot_list_getitem.lookup, ⟨_, ht, rfl⟩, wpAny_getItem_list_neg (items := vs.toArray) ⟨_, ht, rfl, m, rfl⟩ (by omega) (by simp; omega) (by omega) ?_ h⟩
  rw [List.getLast?_eq_getElem?] at hx
  rw [List.getElem?_toArray, ← hx]
  congr 1
  simp; omega
theorem r_append {D : Addr} {vs : List Value} {k : Nat} {x : Value} {Q : Value → Shared → Prop} (S : St w s₀ g₀ g L lc ((D, lst vs k) :: own) s) (hsz : vs.length ≤ sizeLine) (h : ∀ s', St w s₀ g₀ g L lc ((D, lst (vs ++ [x]) (k + 1)) :: own) s' → Q .none s') :
    wpAny (model prog w) A (call (.builtin "list.append") [.ref D, x]) Q E s := by
  refine append_at (hsz := by simpa using hsz) (S.ob (D, lst vs k) (.head _)) fun h₅ hs₅ hD₅ => h _ (S.upd hs₅ (by rw [hD₅]; simp) rfl rfl)
theorem r_pop {D : Addr} {p : List Value} {y : Value} {k : Nat} {Q : Value → Shared → Prop} (S : St w s₀ g₀ g L lc ((D, lst (p ++ [y]) k) :: own) s) (hsz : p.length + 1 ≤ sizeLine) (h : ∀ s', St w s₀ g₀ g L lc ((D, lst p (k + 1)) :: own) s' → Q y s') :
    wpAny (model prog w) A (call (.builtin "list.pop") [.ref D]) Q E s := by
  have e := S.ob (D, lst (p ++ [y]) k) (.head _)
  have hk : (p ++ [y]).toArray.size - 1 = p.length := by rw [List.size_toArray, List.length_append]; rfl
  have hy : (p ++ [y]).toArray[(p ++ [y]).toArray.size - 1]? = some y := by rw [hk]; simp
  refine call_meets PySem.F.slot_list_pop ⟨_, e, rfl⟩ PySem.F.entry_list_pop (PySem.F.args_list_pop_1 _) (PySem.MeetsSeq.list_pop_last D _ k y hy (by simpa using hsz)) ⟨e, h _ (S.upd (Heap.SameBut.update ..) ?_ rfl rfl)⟩
  have q := PySem.IsL.update e (fun xs => xs.eraseIdxIfInBounds ((p ++ [y]).toArray.size - 1))
  have e2 : (p ++ [y]).toArray.eraseIdxIfInBounds ((p ++ [y]).toArray.size - 1) = p.toArray := by
    unfold Array.eraseIdxIfInBounds
    rw [hk, dif_pos (by simp)]
    apply Array.toList_inj.mp
    rw [Array.toList_eraseIdx]
    show (p ++ [y]).eraseIdx p.length = p
    rw [List.eraseIdx_append_of_length_le (Nat.le_refl _)]
    simp
  rw [e2] at q
  rw [if_neg (by simp)] at q
  exact q
theorem r_extend {D b : Addr} {vs us : List Value} {k m : Nat} {Q : Value → Shared → Prop} (S : St w s₀ g₀ g L lc ((D, lst vs k) :: own) s) (hb : s.heap.get? b = some (lst us m)) (hsz : vs.length + us.length ≤ sizeLine) (h : ∀ s' k', St w s₀ g₀ g L lc ((D, lst (vs ++ us) k') :: own) s' → Q .none s') :
    wpAny (model prog w) A (call (.builtin "list.extend") [.ref D, .ref b]) Q E s := by
  have e := S.ob (D, lst vs k) (.head _)
  have hsz' : vs.toArray.size + us.toArray.size ≤ sizeLine := by simpa using hsz
  refine call_meets PySem.F.slot_list_extend ⟨_, e, rfl⟩ PySem.F.entry_list_extend (PySem.F.args_list_extend_2 _ _) (AutoSeq1.list_extend_list_list_0 D vs.toArray k b us.toArray m (extend_door hsz') (Nat.le_trans (Nat.le_add_right _ _) hsz')) ⟨e, hb, h _ (if (vs.toArray ++ us.toArray).size == vs.toArray.size then k else k + 1) (S.upd (Heap.SameBut.update ..) ?_ rfl rfl)⟩
  have q := PySem.IsL.update e (fun xs => xs ++ us.toArray)
  have e2 : vs.toArray ++ us.toArray = (vs ++ us).toArray := by simp
  rw [e2] at q ⊢
  exact q
theorem r_truL {l : Addr} {vs : List Value} {k : Nat} {Q : Bool → Shared → Prop} (S : St w s₀ g₀ g L lc own s) (hl : s.heap.get? l = some (lst vs k)) (hsz : vs.length ≤ sizeLine) (h : ∀ s', St w s₀ g₀ g L lc own s' → Q (!vs.isEmpty) s') : wpAny (model prog w) A (truthy (.ref l)) Q E s := by
  refine wpAny_truthy_list (items := vs.toArray) ⟨_, hl, rfl, k, rfl⟩ (by have : sizeLine = 16777216 := rfl; simp; omega) ?_
  have := h _ (S.toks (t := s.toks + 1 + 1))
  simpa using this
theorem r_addL {l b : Addr} {vs us : List Value} {k m : Nat} {Q : Value → Shared → Prop} (S : St w s₀ g₀ g L lc own s) (hl : s.heap.get? l = some (lst vs k)) (hb : s.heap.get? b = some (lst us m)) (hsz : vs.length + us.length ≤ sizeLine)
    (h : ∀ a s', g a = none → St w s₀ g₀ (ins g a (lst (vs ++ us) 0)) L lc own s' → Q (.ref a) s') : wpAny (model prog w) A (binaryOp .Add (.ref l) (.ref b)) Q E s := by
  refine PySem.P.add_list (items := vs.toArray) (items2 := us.toArray) hl hb ?_ (by simpa using hsz)
  have := h _ _ S.fresh (S.made (o := lst (vs ++ us) 0) (t := s.toks) rfl)
  rw [show vs.toArray ++ us.toArray = (vs ++ us).toArray by simp]
  exact this
-- string methods
theorem r_split {x y : Str} {t u : Tok} {Q : Value → Shared → Prop} (S : St w s₀ g₀ g L lc own s) (hy : (y.length == 0) = false) (hsz : x.length + 2 ≤ sizeLine)
    (h : ∀ a l s', l.map (·.1) = Txt.split x y → g a = none → St w s₀ g₀ (ins g a (lst (strValues l) 0)) L lc own s' → Q (.ref a) s') : wpAny (model prog w) A (call (.builtin "str.split") [.str x t, .str y u]) Q E s := by
  have hn : (Builtin.Str.partsBetween x (Builtin.Str.occurrences x y 0 x.length (x.length + 1)) y.length).length ≤ sizeLine := by
    have e1 := StrLaws.occ_length_le x y 0 x.length (x.length + 1)
    rw [length_partsBetween]; omega
  cases h1 : (decide (x.length < y.length) || decide (Builtin.Str.strKind x < Builtin.Str.strKind y))
  · cases hf : (Builtin.Str.occurrences x y 0 x.length (x.length + 1)).isEmpty
    · refine call_meets PySem.F.slot_str_split (typeIs_str _ _ _) PySem.F.entry_str_split (PySem.F.args_str_split_2 _ _) (meets_str_split_sep x y t u h1 hy hf (by omega) hn) ?_
      show wants Q E _ { s with toks := _, heap := s.heap.push { cls := .type "list", data := .seq (strsFrom s.toks (Builtin.Str.partsBetween x (Builtin.Str.occurrences x y 0 x.length (x.length + 1)) y.length)).toArray } }
      rw [strsFrom_eq]
      exact h _ (numbered s.toks _) _ ((numbered_texts _ _).trans ((if_neg (ne_true_of_eq_false h1)).trans (if_neg (ne_true_of_eq_false hf))).symm) S.fresh (S.made rfl)
    · exact call_meets PySem.F.slot_str_split (typeIs_str _ _ _) PySem.F.entry_str_split (PySem.F.args_str_split_2 _ _) (meets_str_split_not_found x y t u h1 hy hf)
        (h _ [(x, t)] _ ((if_neg (ne_true_of_eq_false h1)).trans (if_pos hf)).symm S.fresh (S.made (t := s.toks) rfl))
  · exact call_meets PySem.F.slot_str_split (typeIs_str _ _ _) PySem.F.entry_str_split (PySem.F.args_str_split_2 _ _) (meets_str_split_cannot_occur x y t u h1)
      (h _ [(x, t)] _ (if_pos h1).symm S.fresh (S.made (t := s.toks) rfl))
theorem r_join {x : Str} {t : Tok} {D : Addr} {vs : List Value} {k : Nat} {ys : List Str} {Q : Value → Shared → Prop} (S : St w s₀ g₀ g L lc own s) (hl : s.heap.get? D = some (lst vs k)) (hi : StrsAre vs ys) (hok : (ys.map (·.length)).sum + ys.length * x.length ≤ 16777216)
    (h : ∀ t' s', St w s₀ g₀ g L lc own s' → Q (.str (Txt.join x ys) t') s') : wpAny (model prog w) A (call (.builtin "str.join") [.str x t, .ref D]) Q E s :=
  join_list (items := vs.toArray) ⟨_, hl, rfl, k, rfl⟩ (by simpa using hi) hok fun t' k' => h t' _ S.toks
theorem r_startswith {x y : Str} {t u : Tok} {Q : Value → Shared → Prop} (h : Q (.bool (Txt.startswith x y)) s) : wpAny (model prog w) A (call (.builtin "str.startswith") [.str x t, .str y u]) Q E s := SC.startswith h
theorem r_endswith {x y : Str} {t u : Tok} {Q : Value → Shared → Prop} (h : Q (.bool (Txt.endswith x y)) s) : wpAny (model prog w) A (call (.builtin "str.endswith") [.str x t, .str y u]) Q E s := SC.endswith h

-- unpacking
theorem r_assignT {elts : List Expr} {k : Nat} {p pos : Pos} {e : Expr} {Q : Flow → Shared → Prop}
    (h : wpAny (model prog w) A (eval e env) (fun v s₁ => wpAny (model prog w) A (assign (.Tuple elts k p) env v) (fun _ => Q .next) E s₁) E s)
    (hs : swapsWithSole [.Tuple elts k p] e pos.line env = pure false := by rfl) (hw : swappedStores [.Tuple elts k p] e env = pure none := by rfl) : wpAny (model prog w) A (exec (.Assign [.Tuple elts k p] e pos) env) Q E s :=
  wpAny_Assign_stores h hs hw
noncomputable def InOrd (prog : Program) (w : World) (A : Around) (env : Env) (elts : List Expr) (vs : List Value) (Q : Unit → Shared → Prop) (E : Value → Shared → Prop) (s : Shared) : Prop :=
  wpAny (model prog w) A (assignInOrder ((assignEach elts env).map (·.2)) vs) Q E s
theorem r_ord0 {Q : Unit → Shared → Prop} (h : Q () s) : InOrd prog w A env [] [] Q E s := wpAny_assignInOrder_none h
theorem r_ord1 {e : Expr} {r : List Expr} {x : Value} {xs : List Value} {Q : Unit → Shared → Prop} (h : wpAny (model prog w) A (assign e env x) (fun _ s₁ => InOrd prog w A env r xs Q E s₁) E s)
    (he : assignEach (e :: r) env = (false, assign e env) :: assignEach r env := by rfl) : InOrd prog w A env (e :: r) (x :: xs) Q E s := by
  unfold InOrd
  rw [he]
  exact wpAny_assignInOrder_more h
theorem r_asgnT {elts : List Expr} {k : Nat} {p : Pos} {a : Addr} {vs : List Value} {m : Nat} {Q : Unit → Shared → Prop} (S : St w s₀ g₀ g L lc own s) (hh : AOk A n) (ht : s.heap.get? a = some { cls := .type "tuple", data := .seq vs.toArray m })
    (hn : (assignEach elts env).length = vs.length) (hstar : (assignEach elts env).findIdx? (·.1) = none) (h : ∀ s', St w s₀ g₀ g L lc own s' → InOrd prog w A env elts vs Q E s') :
    wpAny (model prog w) A (assign (.Tuple elts k p) env (.ref a)) Q E s := by
  refine wpAny_assign_Tuple (items := vs.toArray) hh.1 ⟨_, ht, rfl, m, rfl⟩ (by simpa using hn) hstar fun h' hx => ?_
  exact h _ (S.grow (fun b o e => hx b o (Nat.ne_of_lt (Heap.lt_size e)) e) rfl rfl)
theorem St.name (S : St w s₀ g₀ g L lc own s) : ∃ B, B = lc ∧ St w s₀ g₀ g L B own s := ⟨lc, rfl, S⟩
theorem St.swap {p q : Addr × Obj} (S : St w s₀ g₀ g L lc (p :: q :: own) s) : St w s₀ g₀ g L lc (q :: p :: own) s := S.perm (List.Perm.swap p q own)
end
end Mine
end
section
open PySem PySem.W PySem.Calls PyProof.Rows
set_option maxRecDepth 100000
set_option linter.unusedSimpArgs false
set_option linter.unusedVariables false
namespace Mine
section
variable {prog : Program} {w : World} {A : Around} {s₀ s s' : Shared} {g₀ g g' : Hp} {L : Addr} {lc lc' : List (Str × Value)} {own own' : List (Addr × Obj)} {E : Value → Shared → Prop} {env : Env} {n : Nat}
/-- a loop over a tuple that the base holds -/
theorem r_forT {target : Expr} {body : List Stmt} {l : Addr} {vs : List Value} {nn : Nat} {Q : Flow → Shared → Prop} (J : Nat → Hp → List (Str × Value) → List (Addr × Obj) → Prop)
    (hA : AOk A n) (S : St w s₀ g₀ g L lc own s) (hl : g l = some { cls := .type "tuple", data := .seq vs.toArray nn }) (h0 : J 0 g lc own)
    (turn : ∀ i v g' lc' own' It oI s', vs[i]? = some v → Le g g' → J i g' lc' own' → St w s₀ g₀ g' L lc' ((It, oI) :: own') s' →
      wpAny (model prog w) A (assign target env v) (fun _ s₂ => wpAny (model prog w) A (execs body env) (fun f s₃ => match f with
        | .next | .cont => ∃ g'' lc'' own'', Le g' g'' ∧ J (i + 1) g'' lc'' own'' ∧ St w s₀ g₀ g'' L lc'' ((It, oI) :: own'') s₃
        | .brk => Q .next s₃
        | .ret v => Q (.ret v) s₃) F0 s₂) F0 s')
    (done : ∀ g' lc' own' s', Le g g' → J vs.length g' lc' own' → St w s₀ g₀ g' L lc' own' s' → Q .next s') :
    wpAny (model prog w) A (pyIter (.ref l)) (fun it s₂ => codeAny (model prog w) A (.forLoop target it body [] env) (fun r s' => match r with | .ok f => Q f s' | .error e => cameBackBy (model prog w) A env E e s') s₂) E s := by
  refine wpAny_pyIter_tuple ⟨_, S.sub _ _ hl, rfl, nn, rfl⟩ ?_
  have S1 := S.alloc (o := { cls := .type "tuple_iterator", data := .fields #[.ref l, .int 0 0] }) (t := s.toks) rfl
  generalize hIt : s.heap.objs.size = It at S1 ⊢
  refine codeAny_forLoop_any (fun k s' => ∃ i g' lc' own' oI, k = vs.length - i ∧ i ≤ vs.length ∧ Le g g' ∧ J i g' lc' own' ∧ St w s₀ g₀ g' L lc' ((It, oI) :: own') s' ∧ oI.cls = .type "tuple_iterator" ∧ oI.data = .fields #[.ref l, .int i 0]) ?_ vs.length
    ⟨0, g, lc, own, _, rfl, Nat.zero_le _, Le.refl g, h0, S1, rfl, rfl⟩
  rintro k s' ⟨i, g', lc', own', oI, rfl, hi, lg, hJ, S', hc, hd⟩
  have hli : s'.heap.IsTuple l vs.toArray := ⟨_, S'.sub _ _ (lg _ _ hl), rfl, nn, rfl⟩
  have hit : s'.heap.IsTupleIter It l i := ⟨oI, S'.ob (It, oI) (.head _), hc, hd⟩
  have hn := S'.nd
  simp only [List.map_cons, List.nodup_cons, List.mem_cons, not_or] at hn
  by_cases hlt : i < vs.length
  · have hx : vs.toArray[i]? = some vs[i] := by simp [hlt]
    refine wpAny_pyNext_tuple_item hit hli hx fun h' hit' hs' => ?_
    obtain ⟨oI', e1, hc', hd'⟩ := hit'
    have S2 : St w s₀ g₀ g' L lc' ((It, oI') :: own') { s' with heap := h' } := S'.upd hs' e1 rfl rfl
    dsimp only
    refine letgo (T := "tuple_iterator") e1 hc' (by decide) ?_
    have hv : vs[i]? = some vs[i] := by simp [hlt]
    refine no_err (wpAny_mono (turn i _ g' lc' own' It oI' _ hv lg hJ S2) (fun _ s₂ h₂ => ?_) fun _ _ z => z)
    refine no_err (wpAny_mono h₂ (fun f s₃ h₃ => ?_) fun _ _ z => z)
    cases f with
    | next =>
      obtain ⟨g'', lc'', own'', lg', hJ', S3⟩ := h₃
      exact ⟨vs.length - (i + 1), by omega, i + 1, g'', lc'', own'', oI', rfl, hlt, lg.trans lg', hJ', S3, hc', hd'⟩
    | cont =>
      obtain ⟨g'', lc'', own'', lg', hJ', S3⟩ := h₃
      exact ⟨vs.length - (i + 1), by omega, i + 1, g'', lc'', own'', oI', rfl, hlt, lg.trans lg', hJ', S3, hc', hd'⟩
    | brk => exact h₃
    | ret v => exact h₃
  · obtain rfl : i = vs.length := Nat.le_antisymm hi (Nat.not_lt.mp hlt)
    refine wpAny_pyNext_tuple_end hA.1 hit hli (by simp) fun h' hx' => ?_
    exact wpAny_execs_nil (done g' lc' own' _ lg hJ (S'.lose hx' rfl rfl))


theorem ins_ne {g : Hp} {a b : Addr} {o : Obj} (h : b ≠ a) : ins g a o b = g b := if_neg h
/-- a def with a star parameter is entered -/
theorem fn_defS {a : Addr} {oc : Value} {od : Option Addr} {osl : Array (Option Value)} {name qual : Str} {params : Arguments} {scope : Scope} {dV kV doc pm cd ct : Value} {an : Option Addr} {body : List Stmt} {args vs : List Value} (binds : Value → List (Str × Value)) {Pre : Hp → Heap → Prop} {P : Value → Hp → Prop}
    (hK : (KK w).lookup a = some ⟨oc, od, .func ⟨name, qual, params, .stmts body, scope, mainGlobals, [], dV, kV, doc, pm, an, cd, ct, builtinsNs⟩, osl⟩) (hcd : codeIn (KK w) cd qual = true)
    (hbind : bindArgs ⟨name, qual, params, .stmts body, scope, mainGlobals, [], dV, kV, doc, pm, an, cd, ct, builtinsNs⟩ ⟨args, []⟩ = (do let t ← newTuple vs; pure (binds t))) (hvs : vs.length ≤ sizeLine)
    (hcell : (scope.names.all fun x => x.2 != .cell) = true) (hloc : ∀ T, ((binds (.ref T)).all fun y => scope.names.lookup y.1 == some .local) = true)
    (h : ∀ A s₀ g₀ L T s, AOk A n → Pre g₀ s₀.heap → g₀ T = none → St w s₀ g₀ (ins g₀ T (tup vs)) L (binds (.ref T)).reverse [] s → wpAny (model prog w) A (execs body (envF scope L [] qual a cd)) (fun fl s' => Out s₀ g₀ P (retv fl) s') F0 s)
    (hco : scope.isCoroutine = false := by rfl) (hgen : scope.isGenerator = false := by rfl) (hk : scope.kind = .function := by rfl) : Fn prog w (.ref a) (n + 1) args Pre P := by
  intro A s g hA G sb T pre
  refine wpAny_call (codeAny_call_function hA.room (G.K _ _ hK) rfl hco hgen rfl (codeRec_of G.K hcd) ?_)
  rw [hbind]
  refine wpAny_bind (wpAny_newObj_type (hd := by show vs.toArray.size ≤ sizeLine; rw [List.size_toArray]; exact hvs) (wpAny_pure ?_))
  have hnone : ∀ b, s.heap.objs.size ≤ b → s.heap.get? b = none := fun b hb => by
    cases e : s.heap.get? b with
    | none => rfl
    | some o' => exact absurd (Heap.lt_size e) (Nat.not_lt.mpr hb)
  have gnone : ∀ b, s.heap.objs.size ≤ b → g b = none := fun b hb => by
    cases e : g b with
    | none => rfl
    | some o' => have := sb _ _ e; rw [hnone b hb] at this; cases this
  have hsz : (s.heap.push { cls := .type "tuple", data := .seq vs.toArray }).objs.size = s.heap.objs.size + 1 := Heap.size_push ..
  refine wpAny_newFunctionEnv (fun x hx => ?_) (fun x hx => ?_) (fun h₀ hns hsb => ?_) hk
  · have := List.all_eq_true.mp hcell x hx; simpa using this
  · have := List.all_eq_true.mp (hloc _) x hx; simpa using this
  have hk1 : ∀ b o, (s.heap.push { cls := .type "tuple", data := .seq vs.toArray }).get? b = some o → h₀.get? b = some o := fun b o e =>
    (hsb.2 b (Nat.ne_of_lt (Heap.lt_size e))).trans (Heap.get?_push_of_some _ e)
  have hk0 : ∀ b o, s.heap.get? b = some o → h₀.get? b = some o := fun b o e => hk1 b o (Heap.get?_push_of_some _ e)
  have eT : h₀.get? s.heap.objs.size = some (tup vs) := hk1 _ _ (Heap.get?_push_size _ rfl)
  refine ⟨(G.kp (fun b o _ e => hk0 b o e)).lim, codeAny_func ?_⟩
  dsimp only at hns ⊢
  rw [hsz] at hns ⊢
  have S0 : St w s g g (s.heap.objs.size + 1) (binds (.ref s.heap.objs.size)).reverse [(s.heap.objs.size, tup vs)] { s with heap := h₀, toks := s.toks + (binds (.ref s.heap.objs.size)).length } := by
    refine ⟨hns, fun b o e => hk0 b o (sb b o e), fun p hp => ?_, by simp, fun b hb => ?_, fun b hb => ?_, fun _ _ e => .inl e, Le.refl g, ⟨fun b o _ e => hk0 b o e, rfl, rfl⟩, G, T.same fun o e => hk0 _ o e, ?_⟩
    · rw [List.mem_singleton.mp hp]; exact eT
    · simp only [List.map_cons, List.map_nil, List.mem_cons, List.not_mem_nil, or_false] at hb
      rcases hb with rfl | rfl
      · exact gnone _ (Nat.le_succ _)
      · exact gnone _ (Nat.le_refl _)
    · simp only [List.map_cons, List.map_nil, List.mem_cons, List.not_mem_nil, or_false] at hb
      rcases hb with rfl | rfl
      · exact hnone _ (Nat.le_succ _)
      · exact hnone _ (Nat.le_refl _)
    · obtain ⟨_, ps, e, _⟩ := T; exact ⟨_, e⟩
  exact wpAny_mono (h _ s g _ _ _ hA.deeper pre (gnone _ (Nat.le_refl _)) S0.lay) (fun fl s' q => q) fun _ _ f => f.elim
theorem r_try {body : List Stmt} {h₀ : ExceptHandler} {hs : List ExceptHandler} {pos : Pos} {Q : Flow → Shared → Prop} (h : wpAny (model prog w) A (execs body env) Q F0 s) :
    wpAny (model prog w) A (exec (.Try body (h₀ :: hs) [] [] pos) env) Q E s :=
  wpAny_Try_except (wpAny_mono h (fun f s₁ h₁ => by cases f <;> first | exact h₁ | exact wpAny_execs_nil h₁) fun _ _ f => f.elim)
theorem r_iaddS {x y : Str} {t u : Tok} {Q : Value → Shared → Prop} (S : St w s₀ g₀ g L lc own s) (hsz : x.length + y.length ≤ sizeLine) (h : ∀ t' s', St w s₀ g₀ g L lc own s' → Q (.str (x ++ y) t') s') : wpAny (model prog w) A (inplaceOp .Add (.str x t) (.str y u)) Q E s :=
  PyProof.Rows.iadd_str (fun t' tk => h t' _ S.toks) hsz
end
end Mine
end
section
open PySem PySem.W PySem.Calls PyProof.Rows
open AutoSeq1 (wpAny_loadPart')
set_option maxRecDepth 100000
set_option linter.unusedSimpArgs false
set_option linter.unusedVariables false
namespace Mine
theorem slot_map_next : Slot "map" "__next__" "map.__next__" :=
  .of (owner := "map") (n := "__next__") (by rw [typeLookup_type, builtinLookup_eq_fast]; kernel_rfl) (by decide +kernel) (by decide +kernel) (by decide +kernel)
    (by first | exact .inl (by decide +kernel) | exact .inr (by decide +kernel)) (by rw [isSubtype_type]; kernel_rfl)
theorem entry_map_next : entryFor table "map.__next__" = some Builtin.«map.__next__» := entryFor_of_tree (by kernel_rfl)
theorem args_map_next_1 (a : Value) : argsOk "map.__next__" ⟨[a], []⟩ := by
  unfold argsOk; rw [signature?_of (id := "map.__next__") (n := ['_', '_', 't', 'x', 'e', 'n', '_', '_']) (o := ['p', 'a', 'm']) (by kernel_rfl) (show _ = some Manifest.sig_map by kernel_rfl)]; kernel_rfl
theorem slot_map_iter : Slot "map" "__iter__" "map.__iter__" :=
  .of (owner := "map") (n := "__iter__") (by rw [typeLookup_type, builtinLookup_eq_fast]; kernel_rfl) (by decide +kernel) (by decide +kernel) (by decide +kernel)
    (by first | exact .inl (by decide +kernel) | exact .inr (by decide +kernel)) (by rw [isSubtype_type]; kernel_rfl)
theorem args_map_iter_1 (a : Value) : argsOk "map.__iter__" ⟨[a], []⟩ := by
  unfold argsOk; rw [signature?_of (id := "map.__iter__") (n := ['_', '_', 'r', 'e', 't', 'i', '_', '_']) (o := ['p', 'a', 'm']) (by kernel_rfl) (show _ = some Manifest.sig_map by kernel_rfl)]; kernel_rfl
theorem entry_map_iter : entryFor table "map.__iter__" = some Builtin.«dict_keyiterator.__iter__» :=
  entryFor_alias (id' := "dict_keyiterator.__iter__") (by kernel_rfl) (by first | rfl | decide +kernel | (unfold String.splitOn; simp +decide [String.splitOnAux])) (by decide +kernel) (by kernel_rfl)
theorem map_no_len : typeLookup (.type "map") "__len__" = pure none := by rw [typeLookup_type, builtinLookup_eq_fast]; kernel_rfl
theorem map_no_hint : typeLookup (.type "map") "__length_hint__" = pure none := by rw [typeLookup_type, builtinLookup_eq_fast]; kernel_rfl
section
variable {prog : Program} {w : World} {A : Around} {s₀ s s' : Shared} {g₀ g g' : Hp} {L : Addr} {lc lc' : List (Str × Value)} {own own' : List (Addr × Obj)} {E : Value → Shared → Prop} {env : Env} {n : Nat}

theorem forIn_one {α β : Type} (f : α → β → Sem (ForInStep β)) (a : α) (b : β) {Q : β → Shared → Prop} (h : wpAny (model prog w) A (f a b) (fun r s₁ => ∃ c, r = .yield c ∧ Q c s₁) E s) : wpAny (model prog w) A (forIn #[a] b f) Q E s := by
  have e : forIn #[a] b f = forIn [a] b f := by simp
  rw [e, List.forIn_cons]
  refine wpAny_bind (wpAny_mono h (fun r s₁ h₁ => ?_) fun _ _ x => x)
  obtain ⟨c, rfl, hq⟩ := h₁
  show wpAny _ _ (forIn [] c f) _ _ _
  rw [List.forIn_nil]
  exact wpAny_pure hq
noncomputable abbrev mapO (tt : Addr) (f : Value) : Obj := { cls := .type "map", data := .fields #[.ref tt, f] }
noncomputable abbrev litO (l : Addr) (i : Nat) : Obj := { cls := .type "list_iterator", data := .fields #[.ref l, .int i 0] }
theorem listIter_of {h : Heap} {it l : Addr} {i : Nat} {o : Obj} (e : h.get? it = some o) (hc : o.cls = .type "list_iterator") (hd : o.data = .fields #[.ref l, .int i 0]) : h.IsListIter it l i := ⟨o, e, hc, hd⟩

theorem map_item {m tt it l : Addr} {f x : Value} {vs : List Value} {k i : Nat} {oI : Obj} {P : Value → Hp → Prop} {Q : Option Value → Shared → Prop} (S : St w s₀ g₀ g L lc ((it, oI) :: own) s) (hI : oI.cls = .type "list_iterator" ∧ oI.data = .fields #[.ref l, .int i 0])
    (hm : g m = some (mapO tt f)) (ht : g tt = some (tup [.ref it])) (hl : g l = some (lst vs k)) (hx : vs[i]? = some x) (C : Fn prog w f n [x] (fun _ _ => True) P) (hA : AOk A (n + 3))
    (h : ∀ v g' s' oI', Le g g' → P v g' → St w s₀ g₀ g' L lc ((it, oI') :: own) s' → oI'.cls = .type "list_iterator" ∧ oI'.data = .fields #[.ref l, .int ((i + 1 : Nat) : Int) 0] → Q (some v) s') :
    wpAny (model prog w) A (pyNext (.ref m)) Q E s := by
  have hT : s.TypeIs (.ref m) "map" := ⟨_, S.at hm, rfl⟩
  unfold pyNext
  refine wpAny_bind (wpAny_attempt (wpAny_callSpecial?_slot (name := Str.ofString "__next__") hT slot_map_next
    (wpAny_call_entry slot_map_next hT entry_map_next ?_ (args_map_next_1 _))))
  show wpAny _ _ (field (.ref m) 0 >>= _) _ _ _
  refine wpAny_bind (wpAny_field (S.at hm) rfl (x := .ref tt) rfl ?_)
  show wpAny _ _ (seqItems? (.ref tt) >>= _) _ _ _
  refine wpAny_bind (wpAny_seqItems (S.at ht) rfl ?_)
  dsimp only
  refine wpAny_bind (forIn_one _ _ _ ?_)
  refine wpAny_bind (wpAny_holding (wpAny_nextOf_list_item (listIter_of (S.ob (it, oI) (.head _)) hI.1 hI.2) ⟨_, S.at hl, rfl, k, rfl⟩ (by simpa using hx) fun h' hit' hs' => wpAny_pure ⟨_, rfl, ?_⟩))
  obtain ⟨oI', e1, hc', hd'⟩ := hit'
  have S2 : St w s₀ g₀ g L lc ((it, oI') :: own) { s with heap := h' } := S.upd hs' e1 rfl rfl
  refine wpAny_bind (wpAny_field (S2.at hm) rfl (x := f) rfl (wpAny_bind (wpAny_holding ?_)))
  show wpAny _ _ (call f [x]) _ _ _
  refine r_use S2 C (by exact (show AOk A.in1 (n + 2) from hA.in1).less (by omega)) trivial fun v g' s' hle hv S3 => ?_
  refine wpAny_bind (wpAny_letGo ?_)
  exact wpAny_pure ⟨_, rfl, wpAny_pure (h v g' s' oI' hle hv S3 ⟨hc', hd'⟩)⟩
theorem map_end {m tt it l : Addr} {f : Value} {vs : List Value} {k i : Nat} {oI : Obj} {Q : Option Value → Shared → Prop} (S : St w s₀ g₀ g L lc ((it, oI) :: own) s) (hI : oI.cls = .type "list_iterator" ∧ oI.data = .fields #[.ref l, .int i 0])
    (hm : g m = some (mapO tt f)) (ht : g tt = some (tup [.ref it])) (hl : g l = some (lst vs k)) (hx : vs.length ≤ i) (hA : AOk A n)
    (h : ∀ s', St w s₀ g₀ g L lc own s' → Q none s') : wpAny (model prog w) A (pyNext (.ref m)) Q E s := by
  have hT : s.TypeIs (.ref m) "map" := ⟨_, S.at hm, rfl⟩
  unfold pyNext
  refine wpAny_bind (wpAny_attempt (wpAny_callSpecial?_slot (name := Str.ofString "__next__") hT slot_map_next
    (wpAny_call_entry slot_map_next hT entry_map_next ?_ (args_map_next_1 _))))
  show wpAny _ _ (field (.ref m) 0 >>= _) _ _ _
  refine wpAny_bind (wpAny_field (S.at hm) rfl (x := .ref tt) rfl ?_)
  show wpAny _ _ (seqItems? (.ref tt) >>= _) _ _ _
  refine wpAny_bind (wpAny_seqItems (S.at ht) rfl ?_)
  dsimp only
  refine wpAny_bind (forIn_one _ _ _ ?_)
  refine wpAny_bind (wpAny_holding (wpAny_nextOf_list_end hA.1 (listIter_of (S.ob (it, oI) (.head _)) hI.1 hI.2) ⟨_, S.at hl, rfl, k, rfl⟩ (by simpa using hx) fun h' e he' hx' => ?_))
  obtain ⟨o, ho, hc⟩ := hx'
  refine wpAny_bind (wpAny_isInstance (T := "StopIteration") (b := true) ⟨o, ho, hc⟩ isSubtype_stop ?_)
  exact wpAny_pure (h _ (S.lose he' rfl rfl))
theorem pyIter_map {m tt : Addr} {f : Value} {Q : Value → Shared → Prop} (hm : s.heap.get? m = some (mapO tt f)) (h : Q (.ref m) s) : wpAny (model prog w) A (pyIter (.ref m)) Q E s := by
  have hT : s.TypeIs (.ref m) "map" := ⟨_, hm, rfl⟩
  refine wpAny_pyIter_slot hT slot_map_iter (wpAny_call_entry slot_map_iter hT entry_map_iter ?_ (args_map_iter_1 _))
  show wpAny _ _ (ret (.ref m)) _ _ s
  exact wpAny_pure ⟨_, rfl, "map", _, hT, slot_map_next.lookup, h⟩
/-- a map over a list of things that the function gives back as they are -/
theorem map_loop {m tt it l D : Addr} {f res : Value} {vs : List Value} {k : Nat} {R : Result → Shared → Prop} (C : ∀ x ∈ vs, Fn prog w f n [x] (fun _ _ => True) (fun v _ => v = x)) (hA : AOk A (n + 4)) (hsz : vs.length ≤ sizeLine) :
    ∀ (j i c : Nat) {g : Hp} {oI : Obj} {s : Shared}, vs.length - i = j → i ≤ vs.length → St w s₀ g₀ g L lc ((it, oI) :: (D, lst (vs.take i) c) :: own) s → oI.cls = .type "list_iterator" ∧ oI.data = .fields #[.ref l, .int i 0] →
    g m = some (mapO tt f) → g tt = some (tup [.ref it]) → g l = some (lst vs k) → (∀ g' c' s', Le g g' → St w s₀ g₀ g' L lc ((D, lst vs c') :: own) s' → R (.ok (.ret res)) s') →
    codeAny (model prog w) A (.builtin "list.extend.loop" ⟨[.ref D, .ref m, res], []⟩) R s := by
  intro j
  induction j with
  | zero =>
    intro i c g oI s hk hi S hI hm ht hl hR
    have hin : i = vs.length := by omega
    subst hin
    refine codeAny_builtin PySem.F.entry_extend_loop ?_
    rw [Around.under_plainId PySem.F.plain_extend_loop _]
    show wpAny _ A.in1 (pyNext (.ref m) >>= _) _ _ s
    refine wpAny_bind (map_end S hI hm ht hl (Nat.le_refl _) (n := n) ((show AOk A.in1 (n + 3) from hA.in1).less (by omega)) fun s' S' => ?_)
    rw [List.take_length] at S'
    exact wpAny_pure (hR g c s' (Le.refl _) S')
  | succ j ih =>
    intro i c g oI s hk hi S hI hm ht hl hR
    have hlt : i < vs.length := by omega
    refine codeAny_builtin PySem.F.entry_extend_loop ?_
    rw [Around.under_plainId PySem.F.plain_extend_loop _]
    show wpAny _ A.in1 (pyNext (.ref m) >>= _) _ _ s
    refine wpAny_bind (map_item S hI hm ht hl (x := vs[i]) (by simp [hlt]) (C _ (List.getElem_mem hlt)) (show AOk A.in1 (n + 3) from hA.in1) fun v g' s' oI' hle hv S' hI' => ?_)
    subst hv
    show wpAny _ A.in1 (updateSeq D (·.push vs[i]) >>= _) _ _ _
    refine wpAny_bind ?_
    have eD := S'.ob (D, lst (vs.take i) c) (.tail _ (.head _))
    have hsz2 : (vs.take i).toArray.size ≤ sizeLine := by simp; omega
    refine wpAny_updateSeq eD rfl (wpAny_pure ⟨plainId_quiet PySem.F.plain_extend_loop _, ih (i + 1) (c + 1) (by omega) hlt (?_ : St w s₀ g₀ g' L lc ((it, oI') :: (D, lst (vs.take (i + 1)) (c + 1)) :: own) _) hI' (hle _ _ hm) (hle _ _ ht) (hle _ _ hl) fun g'' c' s'' hle' S'' => hR g'' c' s'' (hle.trans hle') S''⟩)
      hsz2 (by rw [Array.size_push]; omega)
    have q := PySem.IsL.update eD (fun xs => xs.push vs[i])
    rw [if_neg (by rw [Array.size_push]; simp)] at q
    have e2 : (vs.take i).toArray.push vs[i] = (vs.take (i + 1)).toArray := by rw [List.take_add_one]; simp [hlt]
    rw [e2] at q
    have q' : (s'.heap.update D (Obj.mapSeq fun xs => xs.push vs[i])).get? D = some (lst (vs.take (i + 1)) (c + 1)) := q
    exact (S'.swap.upd (o' := lst (vs.take (i + 1)) (c + 1)) (s' := { s' with heap := s'.heap.update D (Obj.mapSeq fun xs => xs.push vs[i]), toks := s'.toks }) (Heap.SameBut.update ..) q' rfl rfl).swap
theorem collect_map {m tt it l : Addr} {f : Value} {vs : List Value} {k : Nat} {oI : Obj} {Q : List Value → Shared → Prop} (C : ∀ x ∈ vs, Fn prog w f n [x] (fun _ _ => True) (fun v _ => v = x)) (hA : AOk A (n + 5)) (hsz : vs.length ≤ sizeLine)
    (S : St w s₀ g₀ g L lc ((it, oI) :: own) s) (hI : oI.cls = .type "list_iterator" ∧ oI.data = .fields #[.ref l, .int (0 : Nat) 0]) (hm : g m = some (mapO tt f)) (ht : g tt = some (tup [.ref it])) (hl : g l = some (lst vs k))
    (h : ∀ g' s', Le g g' → St w s₀ g₀ g' L lc own s' → Q vs s') : wpAny (model prog w) A (collect (.ref m)) Q E s := by
  have hT : ∀ s : Shared, s.heap.get? m = some (mapO tt f) → s.TypeIs (.ref m) "map" := fun s h => ⟨_, h, rfl⟩
  unfold collect
  refine wpAny_bind (wpAny_runValue (codeAny_builtin PySem.F.entry_proto_collect ?_))
  rw [Around.under_plainId PySem.F.plain_proto_collect _]
  show wpAny _ A.in1 (newList [] >>= fun l => again (.builtin "list.__iadd__" ⟨[l, .ref m], []⟩)) _ _ s
  refine wpAny_bind (wpAny_newObj_type (hd := by size_fits) ?_)
  have S1 := S.alloc (o := lst [] 0) (t := s.toks) rfl
  generalize hD : s.heap.objs.size = D at S1 ⊢
  refine wpAny_pure ⟨plainId_quiet PySem.F.plain_list_iadd _, codeAny_builtin PySem.F.entry_list_iadd ?_⟩
  rw [Around.under_plainId PySem.F.plain_list_iadd _]
  have hne : D ≠ m := fun e => by
    have := S1.gL D (.tail _ (.head _))
    rw [e, hm] at this; cases this
  show wpAny _ A.in1 (Builtin.List.listExtendWith (.ref D) (.ref m) (.ref D)) _ _ _
  unfold Builtin.List.listExtendWith
  refine wpAny_bind (wpAny_typeOf (hT _ (S1.at hm)) ?_)
  have h1 : Builtin.List.listSameRef (.ref D) (.ref m) = false := by simp [Builtin.List.listSameRef, hne]
  have h2 : (Value.type "map" == Value.type "list") = false := by decide
  have h3 : (Value.type "map" == Value.type "tuple") = false := by decide
  simp only [h1, h2, h3, Bool.or_false, Bool.false_eq_true, if_false]
  refine wpAny_bind (pyIter_map (S1.at hm) ?_)
  refine wpAny_bind (wpAny_holding ?_)
  unfold Builtin.List.listLengthHint
  refine wpAny_bind (wpAny_specialOf (hT _ (S1.at hm)) map_no_len ?_)
  show wpAny _ A.in1 (specialOf (Value.ref m) (Str.ofString "__length_hint__") >>= _) _ _ _
  refine wpAny_bind (wpAny_specialOf (hT _ (S1.at hm)) map_no_hint ?_)
  refine wpAny_pure ?_
  show wpAny _ A.in1 (rule "list.extend.makes-room" >>= fun _ => Builtin.List.listTouch (.ref D) >>= fun _ => again (.builtin "list.extend.loop" ⟨[.ref D, .ref m, .ref D], []⟩)) _ _ _
  refine wpAny_bind (wpAny_rule ?_)
  refine wpAny_bind ?_
  show wpAny _ A.in1 (updateSeq D (·.push .none) >>= fun _ => updateSeq D (·.pop)) _ _ _
  have e1 := S1.ob (D, lst [] 0) (.head _)
  refine wpAny_bind (wpAny_updateSeq e1 rfl ?_)
  have e2 := Heap.get?_update_self (Obj.mapSeq (·.push Value.none)) e1 rfl
  have S2 := S1.upd (s' := { s with heap := Heap.update (s.heap.push (lst [] 0)) D (Obj.mapSeq (·.push Value.none)), toks := s.toks }) (Heap.SameBut.update ..) e2 rfl rfl
  refine wpAny_updateSeq e2 rfl ?_
  have e3 := Heap.get?_update_self (Obj.mapSeq (·.pop)) e2 rfl
  have S3 := S2.upd (s' := { s with heap := Heap.update (Heap.update (s.heap.push (lst [] 0)) D (Obj.mapSeq (·.push Value.none))) D (Obj.mapSeq (·.pop)), toks := s.toks }) (Heap.SameBut.update ..) e3 rfl rfl
  refine wpAny_pure ⟨plainId_quiet PySem.F.plain_extend_loop _, map_loop C (hA.less (by omega)) hsz _ 0 2 rfl (Nat.zero_le _) S3.swap hI hm ht hl fun g' c' s' hle S' => ?_⟩
  show wpAny _ A (load D >>= _) _ _ s'
  refine wpAny_bind (wpAny_load (S'.ob (D, lst vs c') (.head _)) ?_)
  have := h g' s' hle S'.drop
  refine wpAny_pure ?_
  simpa using this
theorem tuple_map {m tt it l : Addr} {f : Value} {vs : List Value} {k : Nat} {oI : Obj} {Q : Value → Shared → Prop} (C : ∀ x ∈ vs, Fn prog w f n [x] (fun _ _ => True) (fun v _ => v = x)) (hA : AOk A (n + 8)) (hsz : vs.length ≤ sizeLine)
    (S : St w s₀ g₀ g L lc ((it, oI) :: own) s) (hI : oI.cls = .type "list_iterator" ∧ oI.data = .fields #[.ref l, .int (0 : Nat) 0]) (hm : g m = some (mapO tt f)) (ht : g tt = some (tup [.ref it])) (hl : g l = some (lst vs k))
    (h : ∀ g' a s', Le g g' → g' a = none → St w s₀ g₀ (ins g' a (tup vs)) L lc own s' → Q (.ref a) s') : wpAny (model prog w) A (call (.type "tuple") [.ref m]) Q E s := by
  refine callType_codes (Q₁ := fun obj s₁ => s₁.TypeIs obj "tuple" ∧ Q obj s₁) PySem.F.called_tuple (PySem.F.typeCall_tuple_1 _) PySem.F.entry_object_init ?_ fun obj s₁ h₁ => ?_
  · refine codeAny_of_tree ?_
    show wpAny _ A.in1.in1 (do checkBuiltinCall "tuple.__new__" ⟨[.type "tuple", .ref m], []⟩; again (.builtin "tuple.__new__" ⟨[.type "tuple", .ref m], []⟩)) _ _ s
    refine wpAny_bind (wpAny_of_eq (PySem.F.newCall_tuple_1 _) (wpAny_pure ⟨plainId_quiet PySem.F.plain_tuple_new _, codeAny_builtin PySem.F.entry_tuple_new ?_⟩))
    rw [Around.under_plainId PySem.F.plain_tuple_new _]
    have hsub := sub_tuple_self
    have hinit := init_tuple_lookup
    have hmh := madeHere_tuple
    have hTI : s.TypeIs (.ref m) "map" := ⟨_, S.at hm, rfl⟩
    have hA2 : AOk A.in1.in1 (n + 5) := (show AOk A.in1.in1 (n + 6) from hA.in1.in1).less (by omega)
    wp_walk using wpAny_typeOf hTI, collect_map C hA2 hsz S hI hm ht hl
    intro g' s' hle S'
    show wpAny _ _ (Builtin.Tuple.tupleExact vs.toArray >>= fun v => ret v) _ _ _
    unfold Builtin.Tuple.tupleExact
    refine wpAny_bind (wpAny_newObj_type ?_ (by show vs.toArray.size ≤ sizeLine; simpa using hsz))
    refine wpAny_pure ?_
    exact ⟨⟨_, Heap.get?_push_size _ rfl, rfl⟩, h g' _ _ hle S'.fresh (S'.made (o := tup vs) (t := s'.toks) rfl)⟩
  · exact ⟨h₁.1, PySem.F.args_object_init_2 obj _, object_init_meets PySem.F.called_tuple.init.lookup PySem.F.called_tuple.made (by decide) prog w A.in1 _ s₁ ⟨h₁.1, rfl, h₁.2⟩⟩
end
end Mine
end
section
open PySem PySem.W PySem.W.X PySem.Calls PyProof.Rows
set_option maxRecDepth 100000
set_option linter.unusedSimpArgs false
set_option linter.unusedVariables false
namespace Mine
local macro_rules | `(tactic| x_close) => `(tactic| solve_by_elim)
theorem issub_str {prog : Program} {w : World} {s : Shared} {t : Addr} {Q E : Value → Shared → Prop} {A : Around} {n : Nat} (hA : AOk A n)
   (ht : s.heap.get? t = some (tup [.type "str", .type "bytes"])) (h : ∀ tk', Q (.bool true) { s with toks := tk' }) : wpAny (model prog w) A (call (.builtin "issubclass") [.type "str", .ref t]) Q E s := by
  obtain ⟨hp, g, d, tk, os⟩ := s
  refine wk hA ?_
  have ht : hp.get? t = some { cls := .type "tuple", data := .seq (List.toArray [.type "str", .type "bytes"]) 0 } := ht
  x_run
section
variable {prog : Program} {w : World} {n : Nat}
theorem c_get_sep (x : Str) (t : Tok) : Fn prog w (.ref 157) (n + 1) [.str x t] (fun _ _ => True) (fun v _ => ∃ t', v = .str "/" t') := by
  refine fn_def [("path", .str x t)] rfl rfl rfl rfl rfl (fun A s₀ g₀ L s hA _ S => ?_)
  repeat walk_at "m1"
  refine IsiPair.str_bytes ?_
  have S := S.toks (t := s.toks + 1)
  repeat walk_at "m1"
  exact St.done (by assumption) ⟨_, rfl⟩
theorem c_fspath (x : Str) (t : Tok) : Fn prog w (.ref 143) (n + 1) [.str x t] (fun _ _ => True) (fun v _ => v = .str x t) := by
  refine fn_def [("path", .str x t)] rfl rfl rfl rfl rfl (fun A s₀ g₀ L s hA _ S => ?_)
  repeat walk_at "m1"
  refine call_type_of (Tx := "str") rfl (by decide +kernel) ?_
  repeat walk_at "m1"
  rename_i a _ _ S
  refine issub_str hA (S.at ins_self) fun tk => ?_
  have S := S.toks (t := tk)
  repeat walk_at "m1"
  exact St.done (by assumption) rfl
end
end Mine
end
section
open PySem PySem.W PySem.Calls PyProof.Rows
set_option maxRecDepth 100000
set_option linter.unusedSimpArgs false
set_option linter.unusedVariables false
namespace Mine
section
variable {prog : Program} {w : World} {n : Nat}
theorem lit_slash : Str.ofString "/" = mk [47] := by decide +kernel
theorem lit_dot : Str.ofString "." = mk [46] := by decide +kernel
theorem lit_dotdot : Str.ofString ".." = mk [46, 46] := by decide +kernel
theorem lit_empty : Str.ofString "" = mk [] := by decide +kernel
theorem c_splitroot (y : List Nat) (t : Tok) (hy : y.head? ≠ some 47) (hl : y.length ≤ 1000) : Fn prog w (.ref 171) (n + 2) [.str (mk (47 :: y)) t] (fun _ _ => True)
   (fun v g => ∃ a t1 t2 t3, v = .ref a ∧ g a = some (tup [.str "" t1, .str "/" t2, .str (mk y) t3])) := by
  have hsz : (mk (47 :: y)).length ≤ sizeLine := by rw [mk_len]; have : sizeLine = 16777216 := rfl; simp; omega
  refine fn_def [("p", .str (mk (47 :: y)) t)] rfl rfl rfl rfl rfl (fun A s₀ g₀ L s hA _ S => ?_)
  repeat walk_at "m1"
  refine ⟨S.ge, r_use S (c_fspath _ _) hA trivial fun v g' s' hle hv S => ?_⟩
  subst hv
  repeat walk_at "m1"
  refine IsiPair.str_bytes ?_
  have S := S.toks (t := s.toks + 1)
  repeat walk_at "m1"
  refine r_slcS' none (some 1) none (some (_, _)) S rfl rfl rfl rfl hsz fun t' s' S => ?_
  rw [show mk (slc (mk (47 :: y)).cps.toList none (some 1)) = mk [47] by simp [slc, mk_toList], ← lit_slash]
  repeat walk_at "m1"
  simp only [decide_true, Bool.not_true]
  repeat walk_at "m1"
  refine r_slcS' (some 1) (some 2) (some (_, _)) (some (_, _)) S rfl rfl rfl rfl hsz fun t' s' S => ?_
  repeat walk_at "m1"
  rw [decide_eq_false (show ¬ (mk (slc (mk (47 :: y)).cps.toList (some 1) (some 2)) = Str.ofString "/") by
    rw [lit_slash, mk_inj]; cases y <;> simp [slc, mk_toList] at hy ⊢; omega)]
  simp only [Bool.not_false]
  repeat walk_at "m1"
  refine r_slcS' (some 1) none (some (_, _)) none S rfl rfl rfl rfl hsz fun t' s' S => ?_
  rw [show mk (slc (mk (47 :: y)).cps.toList (some 1) none) = mk y by simp [slc, mk_toList]]
  repeat walk_at "m1"

  exact S.done ⟨_, _, _, _, rfl, ins_self⟩
end
end Mine
end
section
open PySem PySem.W PySem.Calls PyProof.Rows
namespace Mine
/-- the parts of a text between the slashes -/
noncomputable def splitL : List Nat → List (List Nat)
  | [] => [[]]
  | c :: r => if c = 47 then [] :: splitL r else match splitL r with | [] => [[c]] | h :: t => (c :: h) :: t
noncomputable def joinL : List (List Nat) → List Nat
  | [] => []
  | [p] => p
  | p :: q :: r => p ++ 47 :: joinL (q :: r)
theorem splitL_ne (x : List Nat) : splitL x ≠ [] := by
  cases x with
  | nil => simp [splitL]
  | cons c r => unfold splitL; split; simp; split <;> simp
theorem joinL_cons (p : List Nat) (r : List (List Nat)) (h : r ≠ []) : joinL (p :: r) = p ++ 47 :: joinL r := by
  cases r with
  | nil => exact absurd rfl h
  | cons q r => rfl
theorem joinL_splitL : ∀ x, joinL (splitL x) = x
  | [] => rfl
  | c :: r => by
    have ih := joinL_splitL r
    unfold splitL
    split
    · rename_i h; subst h; rw [joinL_cons _ _ (splitL_ne r), ih]; rfl
    · split
      · rename_i h; exact absurd h (splitL_ne r)
      · rename_i h t hs
        rw [hs] at ih
        cases t with
        | nil => simp [joinL] at ih ⊢; exact ih
        | cons q r' => simp [joinL] at ih ⊢; exact ih
theorem splitL_free : ∀ x, ∀ p ∈ splitL x, 47 ∉ p
  | [] => by simp [splitL]
  | c :: r => by
    have ih := splitL_free r
    unfold splitL
    split
    · intro p hp
      rcases List.mem_cons.mp hp with rfl | hp
      · simp
      · exact ih p hp
    · rename_i hc
      split
      · intro p hp; simp at hp; subst hp; simp; omega
      · rename_i h t hs
        rw [hs] at ih
        intro p hp
        rcases List.mem_cons.mp hp with rfl | hp
        · have := ih h (.head _)
          simp; exact ⟨fun e => hc e.symm, this⟩
        · exact ih p (.tail _ hp)
theorem splitL_app (p : List Nat) (hp : 47 ∉ p) (r : List Nat) : splitL (p ++ 47 :: r) = p :: splitL r := by
  induction p with
  | nil => simp [splitL]
  | cons c p ih =>
    simp at hp
    rw [List.cons_append, splitL, if_neg (fun e => hp.1 e.symm), ih hp.2]
theorem splitL_one (p : List Nat) (hp : 47 ∉ p) : splitL p = [p] := by
  induction p with
  | nil => rfl
  | cons c p ih =>
    simp at hp
    rw [splitL, if_neg (fun e => hp.1 e.symm), ih hp.2]
theorem splitL_joinL : ∀ P : List (List Nat), P ≠ [] → (∀ p ∈ P, 47 ∉ p) → splitL (joinL P) = P
  | [], h, _ => absurd rfl h
  | [p], _, hp => splitL_one p (hp p (.head _))
  | p :: q :: r, _, hp => by
    rw [joinL_cons p (q :: r) (by simp), splitL_app p (hp p (.head _)), splitL_joinL (q :: r) (by simp) fun x hx => hp x (.tail _ hx)]
theorem strjoin_joinL : ∀ P : List (List Nat), Str.join (mk [47]) (P.map mk) = mk (joinL P)
  | [] => rfl
  | [p] => rfl
  | p :: q :: r => by
    have ih := strjoin_joinL (q :: r)
    show mk p ++ mk [47] ++ Str.join (mk [47]) ((q :: r).map mk) = _
    rw [ih, mk_app, mk_app, joinL_cons p (q :: r) (by simp)]
    simp
theorem txtjoin (P : List (List Nat)) : Txt.join (mk [47]) (P.map mk) = mk (joinL P) := by
  unfold Txt.join
  rw [StrLaws.glued_eq_join, strjoin_joinL]
theorem txtsplit (x : List Nat) : Txt.split (mk x) (mk [47]) = (splitL x).map mk := by
  have h1 := StrLaws.join_split (mk x) (mk [47])
  have h2 := StrLaws.split_free (mk x) 47
  have e : ∃ P : List (List Nat), Txt.split (mk x) (mk [47]) = P.map mk := ⟨(Txt.split (mk x) (mk [47])).map (fun s => s.cps.toList), by simp [Function.comp_def, mk_of]⟩
  obtain ⟨P, hP⟩ := e
  rw [show (⟨#[47]⟩ : Str) = mk [47] from rfl] at h2
  rw [hP, strjoin_joinL, mk_inj] at h1
  have hfree : ∀ p ∈ P, 47 ∉ p := fun p hp => by
    have := h2 (mk p) (by rw [hP]; exact List.mem_map_of_mem hp)
    rwa [mk_toList] at this
  have hne : P ≠ [] ∨ P = [] := by cases P <;> simp
  rw [hP]
  rcases hne with hne | rfl
  · rw [← h1, splitL_joinL P hne hfree]
  · exfalso
    have : Txt.split (mk x) (mk [47]) ≠ [] := by
      unfold Txt.split
      split
      · simp
      · split
        · simp
        · obtain ⟨p, r, h⟩ := StrLaws.partsFrom_ne (mk x) (mk [47]).length 0 (Builtin.Str.occurrences (mk x) (mk [47]) 0 (mk x).length ((mk x).length + 1))
          rw [StrLaws.partsBetween_eq, h]; simp
    rw [hP] at this; exact this rfl
/-- one step of the walk over a way's parts -/
noncomputable def stepN (acc : List (List Nat)) (c : List Nat) : List (List Nat) := if c = [46, 46] then acc.dropLast else if c = [] ∨ c = [46] then acc else acc ++ [c]
noncomputable def foldN (P : List (List Nat)) : List (List Nat) := P.foldl stepN []
noncomputable def Good (P : List (List Nat)) : Prop := ∀ p ∈ P, 47 ∉ p ∧ p ≠ [] ∧ p ≠ [46] ∧ p ≠ [46, 46]
theorem Good.step {acc : List (List Nat)} {c : List Nat} (h : Good acc) (hc : 47 ∉ c) : Good (stepN acc c) := by
  unfold stepN
  split
  · exact fun p hp => h p ((List.dropLast_sublist acc).subset hp)
  · split
    · exact h
    · rename_i h1 h2
      intro p hp
      rcases List.mem_append.mp hp with hp | hp
      · exact h p hp
      · rw [List.mem_singleton.mp hp]; simp at h2; exact ⟨hc, h2.1, h2.2, h1⟩
noncomputable def wt (P : List (List Nat)) : Nat := (P.map fun p => p.length + 1).sum
theorem wt_cons (p : List Nat) (r : List (List Nat)) : wt (p :: r) = p.length + 1 + wt r := by simp [wt]
theorem wt_app (a b : List (List Nat)) : wt (a ++ b) = wt a + wt b := by simp [wt]
theorem joinL_len : ∀ P : List (List Nat), (joinL P).length ≤ wt P
  | [] => by simp [joinL]
  | [p] => by simp [joinL, wt]
  | p :: q :: r => by
    have ih := joinL_len (q :: r)
    rw [joinL_cons p (q :: r) (by simp), wt_cons]
    simp; omega
theorem splitL_wt : ∀ x, wt (splitL x) = x.length + 1
  | [] => by simp [splitL, wt]
  | c :: r => by
    have ih := splitL_wt r
    unfold splitL
    split
    · rw [wt_cons, ih]; simp; omega
    · split
      · rename_i h; exact absurd h (splitL_ne r)
      · rename_i h t hs
        rw [hs, wt_cons] at ih
        rw [wt_cons]; simp; omega
theorem stepN_wt (acc : List (List Nat)) (c : List Nat) : wt (stepN acc c) ≤ wt acc + (c.length + 1) := by
  unfold stepN
  split
  · rcases acc.eq_nil_or_concat with rfl | ⟨a, z, hz⟩
    · simp
    · rw [List.concat_eq_append] at hz; subst hz
      simp [wt_app]; omega
  · split
    · omega
    · rw [wt_app, wt_cons]; simp [wt]
theorem foldl_wt (acc P : List (List Nat)) : wt (P.foldl stepN acc) ≤ wt acc + wt P := by
  induction P generalizing acc with
  | nil => simp [wt]
  | cons p r ih =>
    rw [List.foldl_cons, wt_cons]
    have := ih (stepN acc p)
    have := stepN_wt acc p
    omega
theorem foldN_wt (x : List Nat) : wt (foldN (splitL x)) ≤ x.length + 1 := by
  have := foldl_wt [] (splitL x)
  rw [splitL_wt] at this
  simpa [wt, foldN] using this
theorem wt_fits (P : List (List Nat)) : ((P.map mk).map (·.length)).sum + (P.map mk).length = wt P := by
  induction P with
  | nil => simp [wt]
  | cons p r ih => rw [wt_cons, ← ih]; simp [mk_len]; omega
theorem starts1 (x : List Nat) : Txt.startswith (mk x) (mk [47]) = decide (x.head? = some 47) := by
  unfold Txt.startswith
  rw [StrLaws.subAt_eq, mk_toList, mk_toList, mk_len, mk_len]
  cases x with
  | nil => simp
  | cons c r => rw [Bool.eq_iff_iff]; simp
theorem ends1 (x : List Nat) : Txt.endswith (mk x) (mk [47]) = decide (x.getLast? = some 47) := by
  unfold Txt.endswith
  rw [StrLaws.subAt_eq, mk_toList, mk_toList, mk_len, mk_len]
  rcases x.eq_nil_or_concat with rfl | ⟨a, z, hz⟩
  · simp
  · rw [List.concat_eq_append] at hz; subst hz
    rw [Bool.eq_iff_iff]; simp
theorem joinL_snoc (P : List (List Nat)) (p : List Nat) (h : P ≠ []) : joinL (P ++ [p]) = joinL P ++ 47 :: p := by
  induction P with
  | nil => exact absurd rfl h
  | cons q r ih =>
    cases r with
    | nil => rfl
    | cons q' r' =>
      rw [List.cons_append, joinL_cons q _ (by simp), ih (by simp), joinL_cons q (q' :: r') (by simp)]
      simp
theorem joinL_last (P : List (List Nat)) (h : P ≠ []) (hg : ∀ p ∈ P, 47 ∉ p ∧ p ≠ []) : (joinL P).getLast? ≠ some 47 ∧ joinL P ≠ [] := by
  induction P with
  | nil => exact absurd rfl h
  | cons q r ih =>
    have hq := hg q (.head _)
    cases r with
    | nil =>
      refine ⟨fun e => hq.1 (List.mem_of_getLast? e), hq.2⟩
    | cons q' r' =>
      have := ih (by simp) fun p hp => hg p (.tail _ hp)
      rw [joinL_cons q _ (by simp)]
      refine ⟨?_, by simp⟩
      rw [List.getLast?_append, List.getLast?_cons_of_ne_nil this.2]
      intro e
      cases hh : (joinL (q' :: r')).getLast? with
      | none => exact this.2 (List.getLast?_eq_none_iff.mp hh)
      | some z => rw [hh] at e; simp at e; exact this.1 (by rw [hh, e])
end Mine
end
section
open PySem PySem.W PySem.Calls PyProof.Rows
set_option maxRecDepth 100000
set_option linter.unusedSimpArgs false
set_option linter.unusedVariables false
namespace Mine
section
variable {prog : Program} {w : World} {n : Nat}
theorem strsAre_mk {l : List (Str × Tok)} {P : List (List Nat)} (h : l.map (·.1) = P.map mk) : StrsAre (strValues l) (P.map mk) := h ▸ strsAre_of_values l
theorem getElem_are {vs : List Value} {ys : List Str} (h : StrsAre vs ys) {i : Nat} {v : Value} (hv : vs[i]? = some v) : ∃ y t, ys[i]? = some y ∧ v = .str y t := by
  induction h generalizing i with
  | nil => simp at hv
  | cons y t r ih =>
    cases i with
    | zero => simp at hv; exact ⟨y, t, by simp, hv.symm⟩
    | succ i => simp at hv; obtain ⟨y', t', h1, h2⟩ := ih hv; exact ⟨y', t', by simpa using h1, h2⟩
theorem are_dropLast {vs : List Value} {ys : List Str} (h : StrsAre vs ys) : StrsAre vs.dropLast ys.dropLast := by
  induction h with
  | nil => exact .nil
  | cons y t r ih =>
    cases r with
    | nil => exact .nil
    | cons y' t' r' => exact .cons _ _ ih
theorem splitL_len : ∀ x, (splitL x).length ≤ x.length + 1
  | [] => by simp [splitL]
  | c :: r => by
    have ih := splitL_len r
    unfold splitL
    split
    · simp; omega
    · split
      · simp
      · rename_i h t hs; rw [hs] at ih; simp at ih ⊢; omega
theorem foldN_len (acc P : List (List Nat)) : (P.foldl stepN acc).length ≤ acc.length + P.length := by
  induction P generalizing acc with
  | nil => simp
  | cons p r ih =>
    rw [List.foldl_cons]
    refine Nat.le_trans (ih _) ?_
    have : (stepN acc p).length ≤ acc.length + 1 := by unfold stepN; split; simp; omega; split; omega; simp
    simp; omega
noncomputable def LcOr (base : List (Str × Value)) (x : Str) (lc : List (Str × Value)) : Prop := lc = base ∨ ∃ u, lc = base ++ [(x, u)]
theorem LcOr.set {base lc : List (Str × Value)} {x : Str} {v : Value} (h : LcOr base x lc) (h1 : setl x v base = base ++ [(x, v)]) (h2 : ∀ u, setl x v (base ++ [(x, u)]) = base ++ [(x, v)]) : setl x v lc = base ++ [(x, v)] := by
  rcases h with rfl | ⟨u, rfl⟩
  · exact h1
  · exact h2 u
theorem c_law_parts (x : List Nat) (t : Tok) (hl : x.length ≤ 1000) : Fn prog w (.ref 216) (n + 2) [.str (mk x) t] (fun _ _ => True)
   (fun v g => ∃ a vs k, v = .ref a ∧ g a = some (lst vs k) ∧ StrsAre vs ((foldN (splitL x)).map mk)) := by
  have hsz : (mk x).length + 2 ≤ sizeLine := by rw [mk_len]; have : sizeLine = 16777216 := rfl; omega
  refine fn_def [("way", .str (mk x) t)] rfl rfl rfl rfl rfl (fun A s₀ g₀ L s hA _ S => ?_)
  repeat walk_at "m1"
  refine r_newB S (by decide) fun R s hR S => ?_
  repeat walk_at "m1"
  refine r_split S rfl hsz fun l ps s hps hl S => ?_
  rw [lit_slash, txtsplit] at hps
  refine r_forL (fun (i : Nat) (g : Hp) (lc : List (Str × Value)) (own : List (Addr × Obj)) => own = [] ∧ ∃ r vs k, g r = some (lst vs k) ∧ StrsAre vs ((((splitL x).take i).foldl stepN []).map mk) ∧
    LcOr [("way", .str (mk x) t), ("row", .ref r)] "part" lc) hA S ins_self ⟨rfl, R, [], 0, Le.ins hl _ _ ins_self, .nil, .inl rfl⟩ ?_ ?_
  · rintro i v g' lc' own' It oI s' hv hle ⟨rfl, r, vs, k, hr, hvs, hlc⟩ S
    repeat walk_at "m1"
    rw [hlc.set rfl fun _ => rfl] at S
    obtain ⟨y, ty, hy, rfl⟩ := getElem_are (strsAre_mk hps) hv
    rw [List.getElem?_map] at hy
    obtain ⟨c, hc, rfl⟩ := Option.map_eq_some_iff.mp hy
    have hi : i < (splitL x).length := (List.getElem?_eq_some_iff.mp hc).1
    have step : (((splitL x).take (i + 1)).foldl stepN []) = stepN (((splitL x).take i).foldl stepN []) c := by
      rw [List.take_add_one, hc]; simp
    have hlen : vs.length ≤ 1001 := by
      have h1 := foldN_len [] ((splitL x).take i)
      have h2 := hvs.length
      have h3 := splitL_len x
      simp at h1 h2
      omega
    have hlen' : vs.length ≤ sizeLine := by have : sizeLine = 16777216 := rfl; omega
    repeat walk_at "m1"
    rw [lit_dotdot]
    by_cases h1 : c = [46, 46]
    · rw [decide_eq_true (show mk c = mk [46, 46] by rw [h1])]
      repeat walk_at "m1"
      refine r_slcL' S (S.at hr) hlen' .none (.int _ _) (show slicePick vs.toArray none (some (-1)) none = vs.dropLast.toArray by
        rw [show (-1 : Int) = -((1 : Nat) : Int) by rfl, slicePick_butLast _ 1 (by omega)]; simp [List.dropLast_eq_take]) fun r' s hr' S => ?_
      repeat walk_at "m1"
      refine ⟨_, _, _, Le.ins hr', ⟨rfl, r', vs.dropLast, 0, ins_self, ?_, .inr ⟨_, rfl⟩⟩, S⟩
      rw [step, show stepN _ c = (((splitL x).take i).foldl stepN []).dropLast by unfold stepN; rw [if_pos h1], List.map_dropLast]
      exact are_dropLast hvs
    · rw [decide_eq_false (show ¬ mk c = mk [46, 46] by rw [mk_inj]; exact h1)]
      repeat walk_at "m1"
      refine r_newB S (Nat.le_of_ble_eq_true rfl) fun W s hW S => ?_
      repeat walk_at "m1"
      refine notin_list_strs ⟨_, S.at ins_self, rfl, 0, rfl⟩ (.cons _ _ (.cons _ _ .nil)) ?_
      by_cases h2 : c = [] ∨ c = [46]
      · rw [show (!([Str.ofString "", Str.ofString "."].any (· == mk c))) = false by rw [lit_empty, lit_dot]; simp [mk_inj]; rcases h2 with h | h <;> simp [h]]
        repeat walk_at "m1"
        refine ⟨_, _, _, Le.ins hW, ⟨rfl, r, vs, k, Le.ins hW _ _ hr, ?_, .inr ⟨_, rfl⟩⟩, S⟩
        rw [step, show stepN _ c = (((splitL x).take i).foldl stepN []) by unfold stepN; rw [if_neg h1, if_pos h2]]
        exact hvs
      · rw [show (!([Str.ofString "", Str.ofString "."].any (· == mk c))) = true by rw [lit_empty, lit_dot]; simp [mk_inj]; simp at h2; exact ⟨h2.1, fun h => h2.2 h.symm⟩]
        repeat walk_at "m1"
        refine r_newB S (Nat.le_of_ble_eq_true rfl) fun W2 s hW2 S => ?_
        refine r_addL S (S.at (Le.ins hW2 _ _ (Le.ins hW _ _ hr))) (S.at ins_self) (by have : sizeLine = 16777216 := rfl; simp; omega) fun r' s hr' S => ?_
        repeat walk_at "m1"
        refine ⟨_, _, _, ((Le.ins hW).trans (Le.ins hW2)).trans (Le.ins hr'), ⟨rfl, r', _, 0, ins_self, ?_, .inr ⟨_, rfl⟩⟩, S⟩
        rw [step, show stepN _ c = (((splitL x).take i).foldl stepN []) ++ [c] by unfold stepN; rw [if_neg h1, if_neg h2], List.map_append]
        exact hvs.append' (.cons _ _ .nil)
  · rintro g' lc' own' s' hle ⟨rfl, r, vs, k, hr, hvs, hlc⟩ S
    rw [show (strValues ps).length = (splitL x).length by have := (strsAre_mk hps).length; simpa using this, List.take_length] at hvs
    rcases hlc with rfl | ⟨u, rfl⟩
    all_goals
      repeat walk_at "m1"
      exact S.done ⟨r, vs, k, rfl, hr, hvs⟩
end
end Mine
end
section
open PySem PySem.W PySem.Calls PyProof.Rows
set_option maxRecDepth 100000
set_option linter.unusedSimpArgs false
set_option linter.unusedVariables false
namespace Mine
section
variable {prog : Program} {w : World} {n : Nat}
theorem foldN_good (acc P : List (List Nat)) (h : Good acc) (hP : ∀ p ∈ P, 47 ∉ p) : Good (P.foldl stepN acc) := by
  induction P generalizing acc with
  | nil => exact h
  | cons p r ih => exact ih _ (h.step (hP p (.head _))) fun q hq => hP q (.tail _ hq)
theorem splitL_short : ∀ (x p : List Nat), p ∈ splitL x → p.length ≤ x.length
  | [], p, h => by simp [splitL] at h; subst h; simp
  | c :: r, p, h => by
    unfold splitL at h
    split at h
    · rcases List.mem_cons.mp h with rfl | h
      · simp
      · have := splitL_short r p h; simp; omega
    · split at h
      · simp at h; subst h; simp
      · rename_i q t hs
        rcases List.mem_cons.mp h with rfl | h
        · have := splitL_short r q (by rw [hs]; exact .head _); simp; omega
        · have := splitL_short r p (by rw [hs]; exact .tail _ h); simp; omega
theorem are_snoc {vs : List Value} {P : List (List Nat)} (h : StrsAre vs (P.map mk)) : (vs = [] ∧ P = []) ∨ ∃ p a z tz, vs = p ++ [Value.str (mk z) tz] ∧ P = a ++ [z] ∧ StrsAre p (a.map mk) := by
  rcases P.eq_nil_or_concat with rfl | ⟨a, z, hz⟩
  · left; have := h.length; simp at this; exact ⟨by simpa using this, rfl⟩
  · right
    rw [List.concat_eq_append] at hz
    subst hz
    have hl := h.length
    simp at hl
    have h1 : vs.length - 1 < vs.length := by omega
    obtain ⟨y, t, hy, hv⟩ := getElem_are h (List.getElem?_eq_getElem h1)
    rw [List.map_append] at hy
    have : vs.length - 1 = (a.map mk).length := by simp; omega
    rw [this] at hy
    simp at hy
    subst hy
    have hd := are_dropLast h
    refine ⟨vs.dropLast, a, z, t, ?_, by simp, by simpa using hd⟩
    have hne : vs ≠ [] := by intro e; rw [e] at hl; simp at hl
    rw [← hv]
    conv => lhs; rw [← List.dropLast_concat_getLast hne]
    rw [List.getLast_eq_getElem]
set_option maxHeartbeats 4000000 in
theorem c_normpath (y : List Nat) (t : Tok) (hy : y.head? ≠ some 47) (hl : y.length ≤ 900) : Fn prog w (.ref 178) (n + 3) [.str (mk (47 :: y)) t] (fun _ _ => True)
   (fun v g => ∃ t', v = .str (mk (47 :: joinL (foldN (splitL y)))) t') := by
  have hsz : (mk (47 :: y)).length ≤ sizeLine := by rw [mk_len]; have : sizeLine = 16777216 := rfl; simp; omega
  refine fn_def [("path", .str (mk (47 :: y)) t)] rfl rfl rfl rfl rfl (fun A s₀ g₀ L s hA _ S => ?_)
  repeat walk_at "m1"
  refine ⟨S.ge, r_use S (c_fspath _ _) hA trivial fun v g' s hle hv S => ?_⟩
  subst hv
  repeat walk_at "m1"
  refine IsiPair.str_bytes ?_
  have S := S.toks (t := s.toks + 1)
  repeat walk_at "m1"
  refine r_truS S hsz fun s S => ?_
  rw [decide_eq_false (show ¬ mk (47 :: y) = mk [] by rw [mk_inj]; simp)]
  simp only [Bool.not_false, Bool.not_true]
  repeat walk_at "m1"
  refine ⟨S.ge, r_use S (c_splitroot y t hy (by omega)) hA trivial fun v g2 s hle2 hv S => ?_⟩
  obtain ⟨T, t1, t2, t3, rfl, hT⟩ := hv
  refine r_asgnT S hA (S.at hT) rfl rfl fun s S => ?_
  repeat walk_at "m1"
  refine r_split S rfl (by rw [mk_len]; have : sizeLine = 16777216 := rfl; omega) fun l ps s hps hl' S => ?_
  rw [lit_slash, txtsplit] at hps
  repeat walk_at "m1"
  refine r_newL S (Nat.le_of_ble_eq_true rfl) fun D s S => ?_
  repeat walk_at "m1"
  obtain ⟨B, hB, S⟩ := S.name
  refine r_forL (fun (i : Nat) (g : Hp) (lc : List (Str × Value)) (own : List (Addr × Obj)) => ∃ vs k, own = [(D, lst vs k)] ∧ StrsAre vs ((((splitL y).take i).foldl stepN []).map mk) ∧ LcOr B "comp" lc) hA S ins_self ⟨[], 0, rfl, .nil, .inl rfl⟩ ?_ ?_
  · rintro i v g' lc' own' It oI s' hv hle ⟨vs, k, rfl, hvs, hlc⟩ S
    repeat walk_at "m1"
    rw [hlc.set (by rw [hB]; rfl) (by intro u; rw [hB]; rfl), hB] at S
    obtain ⟨yc, ty, hyc, rfl⟩ := getElem_are (strsAre_mk hps) hv
    rw [List.getElem?_map] at hyc
    obtain ⟨c, hc, rfl⟩ := Option.map_eq_some_iff.mp hyc
    have hi : i < (splitL y).length := (List.getElem?_eq_some_iff.mp hc).1
    have step : (((splitL y).take (i + 1)).foldl stepN []) = stepN (((splitL y).take i).foldl stepN []) c := by
      rw [List.take_add_one, hc]; simp
    have hgood : Good (((splitL y).take i).foldl stepN []) := foldN_good _ _ (by intro p hp; cases hp) fun p hp => splitL_free y p (List.mem_of_mem_take hp)
    generalize hacc : ((splitL y).take i).foldl stepN [] = acc at hvs step hgood
    have hlen : vs.length ≤ 1001 := by
      have h1 := foldN_len [] ((splitL y).take i)
      have h2 := hvs.length
      have h3 := splitL_len y
      rw [hacc] at h1
      simp at h1 h2
      omega
    have hlen' : vs.length + 1 ≤ sizeLine := by have : sizeLine = 16777216 := rfl; omega
    have hclen : (mk c).length ≤ sizeLine := by
      have h1 := splitL_short y c (List.mem_of_getElem? hc)
      rw [mk_len]; have : sizeLine = 16777216 := rfl; omega
    repeat walk_at "m1"
    refine r_truS S hclen fun s S => ?_
    by_cases h0 : c = []
    · rw [decide_eq_true (show mk c = mk [] by rw [h0])]
      simp only [Bool.not_true, Bool.not_false]
      repeat walk_at "m1"
      refine ⟨_, _, _, Le.refl _, ⟨vs, k, rfl, ?_, .inr ⟨.str (mk c) ty, ?_⟩⟩, S⟩
      · rw [step, show stepN acc c = acc by unfold stepN; rw [if_neg (by rw [h0]; simp), if_pos (.inl h0)]]; exact hvs
      · rw [hB]
    · rw [decide_eq_false (show ¬ mk c = mk [] by rw [mk_inj]; exact h0)]
      simp only [Bool.not_true, Bool.not_false]
      repeat walk_at "m1"
      rw [lit_dot]
      by_cases h1 : c = [46]
      · rw [decide_eq_true (show mk c = mk [46] by rw [h1])]
        repeat walk_at "m1"
        refine ⟨_, _, _, Le.refl _, ⟨vs, k, rfl, ?_, .inr ⟨.str (mk c) ty, ?_⟩⟩, S⟩
        · rw [step, show stepN acc c = acc by unfold stepN; rw [if_neg (by rw [h1]; simp), if_pos (.inr h1)]]; exact hvs
        · rw [hB]
      · rw [decide_eq_false (show ¬ mk c = mk [46] by rw [mk_inj]; exact h1)]
        repeat walk_at "m1"
        rw [lit_dotdot]
        by_cases h2 : c = [46, 46]
        · rw [decide_eq_true (show mk c = mk [46, 46] by rw [h2])]
          simp only [Bool.not_true, Bool.not_false]
          repeat walk_at "m1"
          refine r_truS S (by rw [lit_slash, mk_len]; have : sizeLine = 16777216 := rfl; simp; omega) fun s S => ?_
          rw [lit_slash, decide_eq_false (show ¬ mk [47] = mk [] by rw [mk_inj]; simp)]
          simp only [Bool.not_true, Bool.not_false]
          repeat walk_at "m1"
          refine r_truL S (S.ob (D, lst vs k) (.tail _ (.head _))) (by omega) fun s S => ?_
          rcases are_snoc hvs with ⟨rfl, rfl⟩ | ⟨p, a, z, tz, rfl, rfl, hp⟩
          · simp only [List.isEmpty_nil, Bool.not_true]
            repeat walk_at "m1"
            refine r_truL S (S.ob (D, lst [] k) (.tail _ (.head _))) (by omega) fun s S => ?_
            simp only [List.isEmpty_nil, Bool.not_true]
            repeat walk_at "m1"
            refine ⟨_, _, _, Le.refl _, ⟨[], k, rfl, ?_, .inr ⟨.str (mk c) ty, ?_⟩⟩, S⟩
            · rw [step, show stepN [] c = [] by unfold stepN; rw [if_pos h2]; rfl]; exact .nil
            · rw [hB]
          · rw [show (!(p ++ [Value.str (mk z) tz]).isEmpty) = true by simp]
            repeat walk_at "m1"
            refine r_itemN (S.ob (D, lst (p ++ [Value.str (mk z) tz]) k) (.tail _ (.head _))) rfl (by simp) (List.getLast?_concat ..) ?_
            repeat walk_at "m1"
            rw [decide_eq_false (show ¬ mk z = Str.ofString ".." by rw [lit_dotdot, mk_inj]; exact (hgood z (by simp)).2.2.2)]
            repeat walk_at "m1"
            refine r_truL S (S.ob (D, lst (p ++ [Value.str (mk z) tz]) k) (.tail _ (.head _))) (by omega) fun s S => ?_
            rw [show (!(p ++ [Value.str (mk z) tz]).isEmpty) = true by simp]
            repeat walk_at "m1"
            refine gm_list' (S.ob (D, lst (p ++ [Value.str (mk z) tz]) k) (.tail _ (.head _))) PySem.F.slot_list_pop PySem.F.type_list_pop ?_
            repeat walk_at "m1"
            refine r_pop S.swap (by simp at hlen'; omega) fun s S => ?_
            repeat walk_at "m1"
            refine ⟨_, _, _, Le.refl _, ⟨p, k + 1, rfl, ?_, .inr ⟨.str (mk c) ty, ?_⟩⟩, S.swap⟩
            · rw [step, show stepN (a ++ [z]) c = a by unfold stepN; rw [if_pos h2]; simp]; exact hp
            · rw [hB]
        · rw [decide_eq_false (show ¬ mk c = mk [46, 46] by rw [mk_inj]; exact h2)]
          simp only [Bool.not_true, Bool.not_false]
          repeat walk_at "m1"
          refine gm_list' (S.ob (D, lst vs k) (.tail _ (.head _))) PySem.F.slot_list_append PySem.F.type_list_append ?_
          repeat walk_at "m1"
          refine r_append S.swap (by omega) fun s S => ?_
          repeat walk_at "m1"
          refine ⟨_, _, _, Le.refl _, ⟨_, k + 1, rfl, ?_, .inr ⟨.str (mk c) ty, ?_⟩⟩, S.swap⟩
          · rw [step, show stepN acc c = acc ++ [c] by unfold stepN; rw [if_neg h2, if_neg (by simp [h0, h1])], List.map_append]
            exact hvs.append' (.cons _ _ .nil)
          · rw [hB]
  · rintro g' lc' own' s' hle ⟨vs, k, rfl, hvs, hlc⟩ S9
    rw [show (strValues ps).length = (splitL y).length by have := (strsAre_mk hps).length; simpa using this, List.take_length] at hvs
    have hw := foldN_wt y
    have hw2 : foldN (splitL y) = List.foldl stepN [] (splitL y) := rfl
    rw [← hw2] at hvs
    generalize hP : foldN (splitL y) = P at hvs hw
    have hj := joinL_len P
    have hbig : sizeLine = 16777216 := rfl
    rcases hlc with rfl | ⟨u, rfl⟩
    all_goals
      rw [hB] at S9
      have S := S9
      repeat walk_at "m1"
      refine r_join S (S.ob (D, lst vs k) (.head _)) hvs (by rw [lit_slash, mk_len]; have := wt_fits P; simp only [List.length_singleton, Nat.mul_one] at this ⊢; omega) fun t' s S => ?_
      rw [lit_slash, txtjoin]
      refine r_addS S (by rw [mk_len, mk_len]; simp; omega) fun t'' s S => ?_
      rw [mk_app]
      repeat walk_at "m1"
      refine r_truS S (by rw [mk_len]; simp; omega) fun s S => ?_
      rw [decide_eq_false (show ¬ mk ([47] ++ joinL P) = mk [] by rw [mk_inj]; simp)]
      simp only [Bool.not_true, Bool.not_false]
      repeat walk_at "m1"
      exact S.drop.done ⟨t'', by rw [hP]; rfl⟩
end
end Mine
end
section
open PySem PySem.W PySem.Calls PyProof.Rows
set_option maxRecDepth 100000
set_option linter.unusedSimpArgs false
set_option linter.unusedVariables false
namespace Mine
section
variable {prog : Program} {w : World} {n : Nat}
set_option maxHeartbeats 4000000 in
theorem c_join (t : Tok) (vs : List Value) (P : List (List Nat)) (hvs : StrsAre vs (P.map mk)) (hP : P ≠ []) (h3 : P.length ≤ 3) (hg : ∀ p ∈ P, 47 ∉ p ∧ p ≠ []) (hw : wt P ≤ 100) : Fn prog w (.ref 164) (n + 3) (.str "/" t :: vs) (fun _ _ => True)
   (fun v g => ∃ t', v = .str (mk (47 :: joinL P)) t') := by
  have hbig : sizeLine = 16777216 := rfl
  have hvl : vs.length = P.length := by simpa using hvs.length
  refine fn_defS (vs := vs) (fun T => [("a", .str "/" t), ("p", T)]) rfl rfl ?_ (by omega) rfl (fun _ => rfl) (fun A s₀ g₀ L T s hA _ hT S => ?_)
  · rcases vs with _ | ⟨v1, _ | ⟨v2, _ | ⟨v3, _ | ⟨v4, r⟩⟩⟩⟩
    · rfl
    · rfl
    · rfl
    · rfl
    · simp at hvl; omega
  repeat walk_at "m1"
  refine ⟨S.ge, r_use S (c_fspath _ _) hA trivial fun v g' s hle hv S => ?_⟩
  subst hv
  repeat walk_at "m1"
  refine ⟨S.ge, r_use S (c_get_sep _ _) hA trivial fun v g2 s hle2 hv S => ?_⟩
  obtain ⟨ts, rfl⟩ := hv
  repeat walk_at "m1"
  obtain ⟨B, hB, S⟩ := S.name
  have hTg : g2 T = some (tup vs) := hle2 _ _ (hle _ _ ins_self)
  refine r_forT (fun (i : Nat) (g : Hp) (lc : List (Str × Value)) (own : List (Addr × Obj)) => own = [] ∧ ∃ t', LcOr (setl "path" (.str (mk (47 :: joinL (P.take i))) t') B) "b" lc) hA S hTg ⟨rfl, t, .inl ?_⟩ ?_ ?_
  · rw [hB, show mk (47 :: joinL (P.take 0)) = Str.ofString "/" by rw [lit_slash]; rfl]; rfl
  · rintro i v g' lc' own' It oI s' hv hle ⟨rfl, tp, hlc⟩ S
    repeat walk_at "m1"
    rw [hlc.set (by rw [hB]; rfl) (by intro u; rw [hB]; rfl), hB] at S
    obtain ⟨yc, ty, hyc, rfl⟩ := getElem_are hvs hv
    rw [List.getElem?_map] at hyc
    obtain ⟨c, hc, rfl⟩ := Option.map_eq_some_iff.mp hyc
    have hcP := List.mem_of_getElem? hc
    repeat walk_at "m1"
    refine ⟨S.ge, r_use S (c_fspath _ _) hA trivial fun v g3 s hle3 hv S => ?_⟩
    subst hv
    repeat walk_at "m1"
    obtain ⟨hc47, hcne⟩ := hg c hcP
    have hi : i < P.length := (List.getElem?_eq_some_iff.mp hc).1
    have htake : P.take (i + 1) = P.take i ++ [c] := by rw [List.take_add_one, hc]; rfl
    have hwt : wt (P.take i) + c.length ≤ 100 := by
      have h1 := wt_app (P.take (i + 1)) (P.drop (i + 1))
      rw [List.take_append_drop, htake, wt_app, wt_cons] at h1
      omega
    have hjl := joinL_len (P.take i)
    rw [lit_slash, starts1, decide_eq_false (show ¬ c.head? = some 47 from fun e => hc47 (List.mem_of_head? e))]
    repeat walk_at "m1"
    refine r_truS S (by rw [mk_len]; simp; omega) fun s S => ?_
    rw [decide_eq_false (show ¬ mk (47 :: joinL (P.take i)) = mk [] by rw [mk_inj]; simp)]
    simp only [Bool.not_true, Bool.not_false]
    repeat walk_at "m1"
    rw [lit_slash, ends1]
    by_cases h0 : i = 0
    · subst h0
      rw [decide_eq_true (show (47 :: joinL (P.take 0)).getLast? = some 47 by simp [joinL])]
      repeat walk_at "m1"
      refine r_aug S rfl ?_
      repeat walk_at "m1"
      refine r_iaddS S (by rw [mk_len, mk_len]; simp only [List.length_cons, List.length_append, List.length_nil]; omega) fun t2 s S => ?_
      rw [mk_app]
      repeat walk_at "m1"
      refine ⟨_, _, _, hle3, ⟨rfl, t2, .inr ⟨.str (mk c) ty, ?_⟩⟩, S⟩
      rw [hB, htake, show (47 :: joinL (P.take 0)) ++ c = 47 :: joinL (P.take 0 ++ [c]) by simp [joinL]]; rfl
    · have hne : P.take i ≠ [] := by
        intro e
        have : (P.take i).length = 0 := by rw [e]; rfl
        rw [List.length_take] at this; omega
      have hlast := joinL_last (P.take i) hne fun p hp => hg p (List.mem_of_mem_take hp)
      rw [decide_eq_false (show ¬ (47 :: joinL (P.take i)).getLast? = some 47 by rw [List.getLast?_cons_of_ne_nil hlast.2]; exact hlast.1)]
      repeat walk_at "m1"
      refine r_aug S rfl ?_
      repeat walk_at "m1"
      refine r_addS S (by rw [lit_slash, mk_len, mk_len]; simp; omega) fun t1 s S => ?_
      rw [lit_slash, mk_app]
      refine r_iaddS S (by rw [mk_len, mk_len]; simp only [List.length_cons, List.length_append, List.length_nil]; omega) fun t2 s S => ?_
      rw [mk_app]
      repeat walk_at "m1"
      refine ⟨_, _, _, hle3, ⟨rfl, t2, .inr ⟨.str (mk c) ty, ?_⟩⟩, S⟩
      rw [hB, htake, joinL_snoc _ _ hne, show (47 :: joinL (P.take i)) ++ ([47] ++ c) = 47 :: (joinL (P.take i) ++ 47 :: c) by simp]; rfl
  · rintro g' lc' own' s' hle ⟨rfl, tp, hlc⟩ S9
    rw [hvl, List.take_length] at hlc
    rcases hlc with rfl | ⟨u, rfl⟩
    all_goals
      rw [hB] at S9
      have S := S9
      repeat walk_at "m1"
      exact S.done ⟨_, rfl⟩
end
end Mine
end
section
open PySem PySem.W PySem.W.X PySem.Calls PyProof.Rows
set_option maxRecDepth 100000
set_option linter.unusedSimpArgs false
set_option linter.unusedVariables false
namespace Mine
section
variable {prog : Program} {w : World} {A : Around} {s₀ s s' : Shared} {g₀ g g' : Hp} {L : Addr} {lc lc' : List (Str × Value)} {own own' : List (Addr × Obj)} {E : Value → Shared → Prop} {env : Env} {n : Nat}
theorem St.mem (S : St w s₀ g₀ g L lc own s) {h' : Heap} {news : List (Addr × Obj)} (pick : List (Addr × Obj)) (D : Mem s.heap h' [] news) (hp : pick.Sublist news) {d : Drawn} {tk : Nat} : St w s₀ g₀ g L lc (pick ++ own) ⟨h', s.gens, d, tk, s.os⟩ := by
  have keep : ∀ b o, s.heap.get? b = some o → h'.get? b = some o := fun b o e => D.keep b o e (by simp [away])
  have hnew : ∀ p ∈ pick, h'.get? p.1 = some p.2 ∧ s.heap.get? p.1 = none := fun p hq => D.nw p (hp.subset hq)
  refine S.step (fun b o _ e => keep b o e) rfl rfl ?_ ?_ ?_ ?_
  · obtain ⟨o, es, ep, e, r⟩ := S.ns; exact ⟨o, es, ep, keep _ _ e, r⟩
  · intro p hq
    rcases List.mem_append.mp hq with hq | hq
    · exact (hnew p hq).1
    · exact keep _ _ (S.ob p hq)
  · have hn := S.nd
    have hd : (pick.map (·.1)).Nodup := by
      have h1 : (pick.map (·.1)).Pairwise (· > ·) := D.ord.sublist (hp.map _)
      exact h1.imp fun h e => by rw [e] at h; exact Nat.lt_irrefl _ h
    have there : ∀ b ∈ L :: own.map (·.1), ∃ o, s.heap.get? b = some o := fun b hb => by
      rcases List.mem_cons.mp hb with rfl | hb
      · obtain ⟨o, _, _, e, _⟩ := S.ns; exact ⟨o, e⟩
      · obtain ⟨p, hp, rfl⟩ := List.mem_map.mp hb; exact ⟨p.2, S.ob p hp⟩
    have hdis : ∀ b ∈ pick.map (·.1), b ∉ L :: own.map (·.1) := fun b hb hb' => by
      obtain ⟨p, hq, rfl⟩ := List.mem_map.mp hb
      obtain ⟨o, e⟩ := there _ hb'
      rw [(hnew p hq).2] at e; cases e
    rw [List.map_append]
    have := List.nodup_append.mpr ⟨hd, hn, fun a ha b hb e => hdis a ha (e ▸ hb)⟩
    exact (List.perm_middle.nodup_iff).mp this
  · intro b hb
    rw [List.map_append] at hb
    rcases List.mem_append.mp hb with hb | hb
    · obtain ⟨p, hq, rfl⟩ := List.mem_map.mp hb; exact .inr (hnew p hq).2
    · exact .inl hb
end
section
set_option hygiene false in
local macro_rules | `(tactic| x_close) => `(tactic| exact KQ _ _ _ _ _ (by assumption))
theorem x_map {prog : Program} {w : World} {E : Value → Shared → Prop} {l f : Addr} {vs : List Value} {k : Nat} {hp : Heap} {gs : Array GenState} {d : Drawn} {tk : Nat} {os : OsState} {Q : Value → Shared → Prop} (hl : hp.get? l = some { cls := .type "list", data := .seq vs.toArray k })
   (KQ : ∀ h' a tt it tk', Mem hp h' [] [(a, mapO tt (.ref f)), (tt, tup [.ref it]), (it, litO l 0)] → Q (.ref a) ⟨h', gs, d, tk', os⟩) : wpAny (model prog w) A0 (call (.type "map") [.ref f, .ref l]) Q E ⟨hp, gs, d, tk, os⟩ := by
  x_run
end
section
variable {prog : Program} {w : World} {A : Around} {s₀ s s' : Shared} {g₀ g g' : Hp} {L : Addr} {lc lc' : List (Str × Value)} {own own' : List (Addr × Obj)} {E : Value → Shared → Prop} {env : Env} {n : Nat}
theorem St.lay1 {a : Addr} {o : Obj} (S : St w s₀ g₀ g L lc ((a, o) :: own) s) : g a = none ∧ St w s₀ g₀ (ins g a o) L lc own s := ⟨S.gL a (.tail _ (.head _)), S.lay⟩
theorem St.names_ne {p q : Addr × Obj} (S : St w s₀ g₀ g L lc (p :: q :: own) s) : p.1 ≠ q.1 := by
  have hn := S.nd
  simp only [List.map_cons, List.nodup_cons, List.mem_cons, not_or] at hn
  exact hn.2.1.1
/-- tuple(map(f, list)) -/
theorem r_mapnew {l f : Addr} {vs : List Value} {k : Nat} {Q : Value → Shared → Prop} (hA : AOk A n) (S : St w s₀ g₀ g L lc own s) (hl : s.heap.get? l = some (lst vs k))
    (h : ∀ a tt it g' s', Le g g' → g' a = some (mapO tt (.ref f)) → g' tt = some (tup [.ref it]) → St w s₀ g₀ g' L lc ((it, litO l 0) :: own) s' → Q (.ref a) s') : wpAny (model prog w) A (call (.type "map") [.ref f, .ref l]) Q E s := by
  obtain ⟨hp, gs, d, tk, os⟩ := s
  refine wk hA (x_map hl fun h' a tt it tk' D => ?_)
  have S1 := S.mem _ D (List.Sublist.refl _) (d := d) (tk := tk')
  obtain ⟨n1, S2⟩ := St.lay1 S1
  obtain ⟨n2, S3⟩ := St.lay1 S2
  refine h a tt it _ _ ((Le.ins n1).trans (Le.ins n2)) (Le.ins n2 _ _ ins_self) ins_self S3
end
end Mine
end
section
open PySem PySem.W PySem.Calls PyProof.Rows
open AutoSeq1 (wpAny_loadPart')
set_option maxRecDepth 100000
set_option linter.unusedSimpArgs false
set_option linter.unusedVariables false
namespace Mine
theorem slot_bool_hash : Slot "bool" "__hash__" "int.__hash__" :=
  .of (owner := "int") (n := "__hash__") (by rw [typeLookup_type, builtinLookup_eq_fast]; kernel_rfl) (by decide +kernel) (by decide +kernel) (by decide +kernel)
    (by first | exact .inl (by decide +kernel) | exact .inr (by decide +kernel)) (by rw [isSubtype_type]; kernel_rfl)
section
variable {prog : Program} {w : World} {A : Around} {E : Value → Shared → Prop} {s : Shared}
theorem hash_true {Q : Int → Shared → Prop} (h : ∀ tk, Q 1 { s with toks := tk }) : wpAny (model prog w) A (pyHash (.bool true)) Q E s := by
  have hT := PySem.typeIs_bool s true
  unfold pyHash
  have hv : [Value.bool true].any Value.onHeap = false := rfl
  refine wpAny_bind ?_
  rw [cRoomFor, if_neg (by rw [hv]; exact Bool.false_ne_true)]; refine wpAny_pure ?_
  refine wpAny_bind (wpAny_specialOf hT slot_bool_hash.lookup ?_)
  show wpAny _ _ (if (some (Value.builtin "int.__hash__") == some Value.none) = true then _ else _) Q E s
  rw [if_neg (by rw [beq_builtin_none]; exact Bool.false_ne_true)]
  refine wpAny_bind (wpAny_specialOf hT slot_bool_hash.lookup ?_)
  show wpAny _ _ (callSpecialIfBoundUnlessNone? (.bool true) "__hash__" _ >>= _) Q E s
  refine wpAny_bind (wpAny_callSpecialIfBoundUnlessNone?_slot hT slot_bool_hash
    (wpAny_call_entry slot_bool_hash hT entry_int_hash
      (show wpAny _ _ (do ret (← mkInt (rawHash 1))) _ _ s from wpAny_ret_mkInt ?_) (args_int_hash _)))
  exact wpAny_pure (h _)
noncomputable abbrev setO (es : Array (Int × Value)) (ep : Nat) (t : SetTable) : Obj := { cls := .type "set", dict := none, data := .set es ep t }
noncomputable def T1 (led : Bool) : SetTable := { mask := 7, place := #[1], dummies := #[], finger := 0, led, moves := 0, plain := true }
theorem lay1 (led : Bool) : layNew (.fresh 0 0 led) #[] 1 (.bool true) = (#[(1, .bool true)], T1 led, false, false) := by cases led <;> decide +kernel
theorem add0 {D : Addr} {led : Bool} {Q : Value → Shared → Prop} (ho : s.heap.get? D = some (setO #[] 0 (.fresh 0 0 led))) (h : ∀ tk h', Heap.SameBut D s.heap h' → h'.get? D = some (setO #[(1, .bool true)] 1 (T1 led)) → Q .none { s with heap := h', toks := tk }) :
    wpAny (model prog w) A (call (.builtin "set.add") [.ref D, .bool true]) Q E s := by
  have hT : s.TypeIs (.ref D) "set" := ⟨_, ho, rfl⟩
  refine wpAny_call_entry PySem.F.slot_set_add hT PySem.F.entry_set_add ?_ (PySem.F.args_set_add_2 _ _)
  unfold Builtin.«set.add» Builtin.Frozenset.oneOther
  simp only [List.isEmpty_nil, bind_assoc]
  unfold Builtin.Frozenset.addrOf setAdd
  refine wpAny_bind (wpAny_pure ?_)
  try dsimp only
  refine wpAny_bind (wpAny_pure ?_)
  try dsimp only
  refine wpAny_bind ?_
  refine wpAny_holding ?_
  refine wpAny_bind (hash_true fun tk => ?_)
  unfold setAddHashed setAddHashedIn
  refine wpAny_holding (wpAny_bind (wpAny_setState_of ho rfl rfl ?_))
  dsimp only
  rw [show byScan (.bool true) #[] = true by decide +kernel]
  simp only [↓reduceIte]
  unfold setAddByScan
  refine wpAny_bind (wpAny_bind (wpAny_rule ?_))
  refine wpAny_bind (wpAny_of_eq (a := ScanMet.absent) rfl ?_)
  dsimp only
  rw [lay1]
  dsimp only
  refine wpAny_bind (wpAny_pure ?_)
  rw [if_pos (show (T1 led).plain = true from rfl), hashByValue_scannable 8 (show (Value.bool true).scannable = true from rfl)]
  refine wpAny_bind (wpAny_pure ?_)
  rw [if_pos (show plainKind (.bool true) = true from rfl)]
  refine wpAny_bind (wpAny_storeSet_of (s := { s with toks := tk }) ho rfl ?_ (by decide))
  rw [if_neg (by cases led <;> decide)]
  refine wpAny_pure (wpAny_pure ?_)
  show wpAny _ _ (ret Value.none) _ _ _
  refine wpAny_pure ⟨_, rfl, h tk _ (Heap.SameBut.update ..) ?_⟩
  have := Heap.get?_update_self (Obj.putSet #[(1, .bool true)] (T1 led)) ho (by rw [putSet_of _ _ rfl]; rfl)
  rw [putSet_of _ _ rfl] at this
  exact this
theorem eqBool_true {Q : Bool → Shared → Prop} (h : Q true s) : wpAny (model prog w) A (eqBool (.bool true) (.bool true)) Q E s := by
  unfold eqBool
  refine wpAny_holding ?_
  rw [if_pos (by decide)]
  exact wpAny_bind (wpAny_rule (wpAny_pure h))
theorem add1 {D : Addr} {led : Bool} {Q : Value → Shared → Prop} (ho : s.heap.get? D = some (setO #[(1, .bool true)] 1 (T1 led))) (h : ∀ tk, Q .none { s with toks := tk }) :
    wpAny (model prog w) A (call (.builtin "set.add") [.ref D, .bool true]) Q E s := by
  have hT : s.TypeIs (.ref D) "set" := ⟨_, ho, rfl⟩
  refine wpAny_call_entry PySem.F.slot_set_add hT PySem.F.entry_set_add ?_ (PySem.F.args_set_add_2 _ _)
  unfold Builtin.«set.add» Builtin.Frozenset.oneOther
  simp only [List.isEmpty_nil, bind_assoc]
  unfold Builtin.Frozenset.addrOf setAdd
  refine wpAny_bind (wpAny_pure ?_)
  try dsimp only
  refine wpAny_bind (wpAny_pure ?_)
  try dsimp only
  refine wpAny_bind ?_
  refine wpAny_holding ?_
  refine wpAny_bind (hash_true fun tk => ?_)
  unfold setAddHashed setAddHashedIn
  refine wpAny_holding (wpAny_bind (wpAny_setState_of ho rfl (by cases led <;> decide) ?_))
  dsimp only
  rw [show byScan (.bool true) #[(1, .bool true)] = true by decide +kernel]
  simp only [↓reduceIte]
  unfold setAddByScan
  refine wpAny_bind (wpAny_bind (wpAny_rule ?_))
  refine wpAny_bind ?_
  show wpAny _ _ (setScanFrom D (.bool true) 1 true [(1, .bool true)] 0) _ _ _
  unfold setScanFrom
  rw [if_pos (by decide)]
  refine wpAny_bind (wpAny_setEpoch_of (s := { s with toks := tk }) ho rfl (by cases led <;> decide) ?_)
  refine wpAny_bind (eqBool_true ?_)
  refine wpAny_pure (wpAny_pure ?_)
  refine wpAny_pure (wpAny_pure ?_)
  exact ⟨_, rfl, h tk⟩
theorem slot_setit_next : Slot "set_iterator" "__next__" "set_iterator.__next__" :=
  .of (owner := "set_iterator") (n := "__next__") (by rw [typeLookup_type, builtinLookup_eq_fast]; kernel_rfl) (by decide +kernel) (by decide +kernel) (by decide +kernel)
    (by first | exact .inl (by decide +kernel) | exact .inr (by decide +kernel)) (by rw [isSubtype_type]; kernel_rfl)
theorem entry_setit_next : entryFor table "set_iterator.__next__" = some Builtin.«set_iterator.__next__» := entryFor_of_tree (by kernel_rfl)
theorem args_setit_next_1 (a : Value) : argsOk "set_iterator.__next__" ⟨[a], []⟩ := by
  unfold argsOk; rw [signature?_of (id := "set_iterator.__next__") (n := ['_', '_', 't', 'x', 'e', 'n', '_', '_']) (o := ['r', 'o', 't', 'a', 'r', 'e', 't', 'i', '_', 't', 'e', 's']) (by kernel_rfl) (show _ = some Manifest.sig_set_iterator by kernel_rfl)]; kernel_rfl
theorem entry_set_iter : entryFor table "set.__iter__" = some Builtin.«frozenset.__iter__» :=
  entryFor_alias (id' := "frozenset.__iter__") (by kernel_rfl) (by first | rfl | decide +kernel | (unfold String.splitOn; simp +decide [String.splitOnAux])) (by decide +kernel) (by kernel_rfl)
noncomputable abbrev led0 (w : World) : Bool := !(w.params.followText "set-order")
noncomputable abbrev sitO (D : Addr) (a b : Int) : Obj := { cls := .type "set_iterator", data := .fields #[rawInt a, rawInt b, .ref D, rawInt 1, rawInt 1] }
theorem new0 {Q : Value → Shared → Prop} (h : Q (.ref s.heap.objs.size) { s with heap := s.heap.push (setO #[] 0 (.fresh 0 0 (led0 w))) }) : wpAny (model prog w) A (newSet (.type "set")) Q E s := by
  unfold newSet setsByText
  refine wpAny_bind (wpAny_bind (wpAny_askSetting (wpAny_pure ?_)))
  dsimp only
  simp only [newObj]
  exact wpAny_bind (wpAny_alloc (wpAny_pure h))
theorem fitsT (led : Bool) : (T1 led).fits (#[((1 : Int), Value.bool true)] : Array (Int × Value)).size = true := by cases led <;> decide
theorem iter1 {D : Addr} {led : Bool} {Q : Value → Shared → Prop} (ho : s.heap.get? D = some (setO #[(1, .bool true)] 1 (T1 led))) (h : Q (.ref s.heap.objs.size) { s with heap := s.heap.push (sitO D 0 0) }) :
    wpAny (model prog w) A (pyIter (.ref D)) Q E s := by
  have hT : s.TypeIs (.ref D) "set" := ⟨_, ho, rfl⟩
  refine wpAny_pyIter_slot hT PySem.F.slot_set_iter (wpAny_call_entry PySem.F.slot_set_iter hT entry_set_iter ?_ (PySem.F.args_set_iter_1 _))
  unfold Builtin.«frozenset.__iter__» Builtin.Frozenset.slot0 Builtin.Frozenset.addrOf Builtin.Frozenset.sizeOf
  refine wpAny_bind (wpAny_bind (wpAny_pure (wpAny_pure ?_)))
  refine wpAny_bind (wpAny_bind (wpAny_setEntries_of ho rfl (fitsT led) (wpAny_pure ?_)))
  refine wpAny_bind ?_
  unfold setDrawn setsByText
  refine wpAny_bind (wpAny_setState_of ho rfl (fitsT led) ?_)
  refine wpAny_bind (wpAny_bind (wpAny_askSetting (wpAny_pure ?_)))
  refine wpAny_pure ?_
  dsimp only
  rw [if_neg (by intro hc; rw [Bool.and_eq_true] at hc; revert hc; cases led <;> exact fun hc => absurd hc.2 (by decide))]
  refine wpAny_bind (wpAny_pure ?_)
  refine wpAny_bind (wpAny_setEpoch_of ho rfl (fitsT led) ?_)
  refine wpAny_bind (wpAny_newObj_type (hd := by size_fits) (wpAny_pure ⟨_, rfl, "set_iterator", _, ⟨_, Heap.get?_push_size _ rfl, rfl⟩, slot_setit_next.lookup, h⟩))
noncomputable def jn (w : World) : Nat := if w.params.followText "set-order" = true then 0 else 2
theorem setWalk1 {D : Addr} {Q : Array (Int × Value) → Shared → Prop} (hf : w.params.followText "set-order" = true) (ho : s.heap.get? D = some (setO #[(1, .bool true)] 1 (T1 (led0 w)))) (h : Q #[(1, .bool true)] s) : wpAny (model prog w) A (setWalk D) Q E s := by
  unfold setWalk setsByText
  refine wpAny_bind (wpAny_setState_of ho rfl (fitsT _) ?_)
  refine wpAny_bind (wpAny_bind (wpAny_askSetting (wpAny_pure ?_)))
  dsimp only
  rw [if_pos (show (model prog w).w.params.followText "set-order" = true from hf)]
  refine wpAny_bind (wpAny_askSetting (wpAny_pure ?_))
  have e : ∀ f : Nat → Nat, pickOrder f #[((1 : Int), Value.bool true)] = #[(1, .bool true)] := by
    intro f
    show pickOrder.go f 1 0 [((1 : Int), Value.bool true)] #[] = _
    unfold pickOrder.go
    rw [show f 0 % [((1 : Int), Value.bool true)].length = 0 from Nat.mod_one _]
    rfl
  rw [e]
  exact h
theorem nextS {D : Addr} {Q : Option (Value × Nat) → Shared → Prop} (ho : s.heap.get? D = some (setO #[(1, .bool true)] 1 (T1 (led0 w)))) (h : Q (some (.bool true, jn w)) s) : wpAny (model prog w) A (setNext D 0 0 1) Q E s := by
  unfold setNext setsByText
  refine wpAny_bind (wpAny_setState_of ho rfl (fitsT _) ?_)
  refine wpAny_bind (wpAny_bind (wpAny_askSetting (wpAny_pure ?_)))
  dsimp only
  unfold jn at h
  cases hf : w.params.followText "set-order" with
  | true =>
    rw [if_pos hf] at h
    rw [if_pos (show (model prog w).w.params.followText "set-order" = true from hf), if_neg (by decide)]
    refine wpAny_bind (setWalk1 hf ho (wpAny_pure ?_))
    exact h
  | false =>
    rw [if_neg (by rw [hf]; decide)] at h
    rw [if_neg (show ¬ ((model prog w).w.params.followText "set-order" = true) by rw [show (model prog w).w.params = w.params from rfl, hf]; decide)]
    have hl : led0 w = true := by show (!(w.params.followText "set-order")) = true; rw [hf]; rfl
    rw [hl]
    rw [if_neg (by decide)]
    refine wpAny_bind (wpAny_of_eq (a := ()) rfl ?_)
    exact wpAny_pure h
theorem nextE {D : Addr} {Q : Option (Value × Nat) → Shared → Prop} (ho : s.heap.get? D = some (setO #[(1, .bool true)] 1 (T1 (led0 w)))) (h : Q none s) : wpAny (model prog w) A (setNext D (jn w) 1 1) Q E s := by
  unfold setNext setsByText
  refine wpAny_bind (wpAny_setState_of ho rfl (fitsT _) ?_)
  refine wpAny_bind (wpAny_bind (wpAny_askSetting (wpAny_pure ?_)))
  dsimp only
  unfold jn
  cases hf : w.params.followText "set-order" with
  | true =>
    rw [if_pos (show (model prog w).w.params.followText "set-order" = true from hf), if_neg (by decide)]
    refine wpAny_bind (setWalk1 hf ho (wpAny_pure ?_))
    exact h
  | false =>
    rw [if_neg (show ¬ ((model prog w).w.params.followText "set-order" = true) by rw [show (model prog w).w.params = w.params from rfl, hf]; decide)]
    have hl : led0 w = true := by show (!(w.params.followText "set-order")) = true; rw [hf]; rfl
    rw [hl]
    rw [if_neg (by decide), if_neg (by decide)]
    refine wpAny_bind (wpAny_of_eq (a := ()) rfl ?_)
    exact wpAny_pure h
theorem sit_item {D it : Addr} {Q : Option Value → Shared → Prop} (hi : s.heap.get? it = some (sitO D 0 0)) (ho : s.heap.get? D = some (setO #[(1, .bool true)] 1 (T1 (led0 w))))
    (h : ∀ h', Heap.SameBut it s.heap h' → h'.get? it = some (sitO D (jn w : Nat) 1) → Q (some (.bool true)) { s with heap := h' }) : wpAny (model prog w) A (pyNext (.ref it)) Q E s := by
  have hT : s.TypeIs (.ref it) "set_iterator" := ⟨_, hi, rfl⟩
  unfold pyNext
  refine wpAny_bind (wpAny_attempt (wpAny_callSpecial?_slot (name := Str.ofString "__next__") hT slot_setit_next
    (wpAny_call_entry slot_setit_next hT entry_setit_next ?_ (args_setit_next_1 _))))
  unfold Builtin.«set_iterator.__next__»
  refine wpAny_bind (wpAny_of_eq (a := (Value.ref it, ([] : List Value))) rfl ?_)
  dsimp only
  refine wpAny_bind (wpAny_fieldsOf hi rfl ?_)
  show wpAny _ _ (setEntries D >>= _) _ _ _
  refine wpAny_bind (wpAny_setEntries_of ho rfl (fitsT _) ?_)
  rw [if_neg (by decide)]
  show wpAny _ _ (setNext D 0 0 1 >>= _) _ _ _
  refine wpAny_bind (nextS ho ?_)
  dsimp only
  refine wpAny_bind (wpAny_setField_rec hi (by simp) fun h₂ he₂ hs₂ => ?_)
  replace he₂ : h₂.get? it = some (sitO D (jn w : Nat) 0) := he₂
  refine wpAny_bind (wpAny_setField_rec he₂ (by simp) fun h₃ he₃ hs₃ => ?_)
  replace he₃ : h₃.get? it = some (sitO D (jn w : Nat) 1) := he₃
  exact wpAny_pure ⟨_, rfl, wpAny_pure (h h₃ (hs₂.trans hs₃) he₃)⟩
theorem sit_end {D it : Addr} {Q : Option Value → Shared → Prop} (hh : A.handled = none) (hi : s.heap.get? it = some (sitO D (jn w : Nat) 1)) (ho : s.heap.get? D = some (setO #[(1, .bool true)] 1 (T1 (led0 w))))
    (h : ∀ h', Heap.ExtBut it s.heap h' → Q none { s with heap := h' }) : wpAny (model prog w) A (pyNext (.ref it)) Q E s := by
  have hT : s.TypeIs (.ref it) "set_iterator" := ⟨_, hi, rfl⟩
  unfold pyNext
  refine wpAny_bind (wpAny_attempt (wpAny_callSpecial?_slot (name := Str.ofString "__next__") hT slot_setit_next
    (wpAny_call_entry slot_setit_next hT entry_setit_next ?_ (args_setit_next_1 _))))
  unfold Builtin.«set_iterator.__next__»
  refine wpAny_bind (wpAny_of_eq (a := (Value.ref it, ([] : List Value))) rfl ?_)
  dsimp only
  refine wpAny_bind (wpAny_fieldsOf hi rfl ?_)
  show wpAny _ _ (setEntries D >>= _) _ _ _
  refine wpAny_bind (wpAny_setEntries_of ho rfl (fitsT _) ?_)
  rw [if_neg (by decide)]
  show wpAny _ _ (setNext D (jn w) 1 1 >>= _) _ _ _
  refine wpAny_bind (nextE ho ?_)
  dsimp only
  refine wpAny_bind (wpAny_setField hi rfl (by simp) ?_)
  show wpAny _ _ (newExc (.type "StopIteration") [] >>= _) _ _ _
  refine wpAny_bind ?_
  simp only [newExc, newTuple]
  refine wpAny_bind (wpAny_newObj_type ?_ (by size_fits))
  refine wpAny_bind (m := firstArgMember _ _) (wpAny_of_eq (a := Value.none) (by first | rfl | (simp only [firstArgMember]; rfl)) ?_)
  refine wpAny_newObj_type ?_ (by size_fits)
  simp only [raiseNew]
  refine wpAny_bind (wpAny_handled ?_)
  first | rw [show A.in1.handled = none from hh] | rw [hh]
  refine wpAny_bind (wpAny_pure (wpAny_throw ?_))
  refine wpAny_bind (wpAny_isInstance (T := "StopIteration") (b := true) ⟨_, Heap.get?_push_size _ rfl, rfl⟩ isSubtype_stop ?_)
  exact wpAny_pure (h _ (((Heap.SameBut.update ..).extBut.push _).push _))
noncomputable def sobj (w : World) (i : Nat) : Obj := if i = 0 then setO #[] 0 (.fresh 0 0 (led0 w)) else setO #[(1, .bool true)] 1 (T1 (led0 w))
theorem addS {D : Addr} {i : Nat} {Q : Value → Shared → Prop} (ho : s.heap.get? D = some (sobj w i)) (h : ∀ tk h', Heap.SameBut D s.heap h' → h'.get? D = some (sobj w (i + 1)) → Q .none { s with heap := h', toks := tk }) :
    wpAny (model prog w) A (call (.builtin "set.add") [.ref D, .bool true]) Q E s := by
  cases i with
  | zero => exact add0 ho fun tk h' hs e => h tk h' hs e
  | succ i => exact add1 ho fun tk => h tk s.heap (Heap.SameBut.refl ..) ho
theorem codeAny_compStart_set {elt target iter ifs rest scope pos it acc} {env : Env} {R : Result → Shared → Prop}
    (h0 : codeAny (model prog w) A (.compLoop (.SetComp elt (⟨target, iter, ifs, 0⟩ :: rest) scope pos) 0 it acc env) R s)
    (h : wpAny (model prog w) A (pyIter it) (fun it' s' => codeAny (model prog w) A (.compLoop (.SetComp elt (⟨target, iter, ifs, 0⟩ :: rest) scope pos) 0 it' acc env) R s')
      (notedBy (model prog w) A env fun x s' => R (.error x) s') s) :
    codeAny (model prog w) A (.compStart (.SetComp elt (⟨target, iter, ifs, 0⟩ :: rest) scope pos) 0 it acc env) R s := by
  refine codeAny_of_tree ?_
  show wpAny _ _ ((compStart (.SetComp elt (⟨target, iter, ifs, 0⟩ :: rest) scope pos) 0 it acc env).onRaise (fun x => do noteFrame x env; standAt theWindowsPlace)) _ _ s
  refine wpAny_notedAt ?_
  unfold compStart
  show wpAny _ _ (ask >>= _) _ _ s
  refine wpAny_bind (wpAny_askSetting (wpAny_ite ?_))
  split
  · first
      | exact wpAny_bind (wpAny_pure (wpAny_pure (And.intro rfl h0)))
      | exact wpAny_pure (And.intro rfl h0)
  · first
      | exact wpAny_bind (wpAny_rule (wpAny_bind (wpAny_standAt (wpAny_bind (wpAny_mono h (fun it' s' h' => wpAny_pure (And.intro rfl h')) fun _ _ x => x)))))
      | (refine wpAny_bind (wpAny_rule ?_); show wpAny _ _ (standAt iter.pos >>= _) _ _ s; exact wpAny_bind (wpAny_standAt (wpAny_bind (wpAny_mono h (fun it' s' h' => wpAny_pure (And.intro rfl h')) fun _ _ x => x))))
theorem compTurn_set (elt target iter : Expr) (scope : Scope) (pos : Pos) (it acc : Value) (env : Env) :
    compTurn (.SetComp elt [⟨target, iter, [], 0⟩] scope pos) 0 it acc env = (do
      standAt iter.pos
      match ← pyNext it with
      | none => pure (.done .next)
      | some v =>
        letOwnedTupleGo target it v
        assign target env v
        (do let v ← eval elt env; standAt elt.pos; let _ ← call (.builtin "set.add") [acc, v])
        again (.compLoop (.SetComp elt [⟨target, iter, [], 0⟩] scope pos) 0 it acc env)) := by rfl
/-- a set's comprehension's loop -/
theorem compLoop_set {env : Env} {elt target iter : Expr} {scope : Scope} {pos : Pos} {it acc : Value} {R : Result → Shared → Prop} (I : Nat → Shared → Prop)
    (turn : ∀ n s, I n s → wpAny (model prog w) A (pyNext it) (fun r s₁ => match r with
      | none => R (.ok .next) s₁
      | some v => wpAny (model prog w) A (letOwnedTupleGo target it v) (fun _ s₁' => wpAny (model prog w) A (assign target env v) (fun _ s₂ => wpAny (model prog w) A (eval elt env)
          (fun x s₄ => wpAny (model prog w) A (call (.builtin "set.add") [acc, x]) (fun _ s₅ => ∃ m, m < n ∧ I m s₅) F0 s₄) F0 s₂) F0 s₁') F0 s₁) F0 s)
    (n : Nat) (h : I n s) : codeAny (model prog w) A (.compLoop (.SetComp elt [⟨target, iter, [], 0⟩] scope pos) 0 it acc env) R s := by
  refine codeAny_loop rfl I (fun n s hI => ?_) n h
  show wpAny _ A ((compTurn (.SetComp elt [⟨target, iter, [], 0⟩] scope pos) 0 it acc env).onRaise (fun x => do noteFrame x env; theTreesLotGoes x)) _ _ s
  refine wpAny_noted ?_
  rw [compTurn_set]
  refine wpAny_bind (wpAny_standAt (wpAny_bind (no_err (wpAny_mono (turn n s hI) (fun r s₁ h₁ => ?_) fun _ _ z => z))))
  cases r with
  | none => exact wpAny_pure h₁
  | some v =>
    refine wpAny_bind (no_err (wpAny_mono h₁ (fun _ s₂ h₂ => ?_) fun _ _ z => z))
    refine wpAny_bind (no_err (wpAny_mono h₂ (fun _ s₂ h₂ => ?_) fun _ _ z => z))
    exact wpAny_bind (wpAny_bind (no_err (wpAny_mono h₂ (fun x s₄ h₄ => wpAny_bind (wpAny_standAt (wpAny_bind (wpAny_mono h₄ (fun _ s₅ h₅ => wpAny_pure (wpAny_pure ⟨rfl, h₅⟩)) fun _ _ z => z.elim)))) fun _ _ z => z)))
noncomputable def CompS (prog : Program) (w : World) (A : Around) (env : Env) (elt target iter : Expr) (scope : Scope) (pos : Pos) (cl : List (Str × Addr)) (Q : Value → Shared → Prop) (E : Value → Shared → Prop) (it : Value) (s : Shared) : Prop :=
  wpAny (model prog w) A (newSet (.type "set")) (fun acc s₃ => wpAny (model prog w) A (newFunctionEnv scope env.globals cl [] env.qual none .none (some env)) (fun cenv s₄ =>
    codeAny (model prog w) A (.compStart (.SetComp elt [⟨target, iter, [], 0⟩] scope pos) 0 it acc { cenv with scope := relabel scope env }) (compPost (model prog w) A E none Q acc cenv.locals) s₄) E s₃) E s
theorem r_setcomp {env : Env} {elt target iter : Expr} {scope : Scope} {pos : Pos} {cl : List (Str × Addr)} {Q : Value → Shared → Prop} (hclos : closureFor scope env = pure cl)
    (h : wpAny (model prog w) A (eval iter env) (fun x s₁ => wpAny (model prog w) A (pyIter x) (CompS prog w A env elt target iter scope pos cl Q E) E s₁) E s)
    (hkind : scope.kind = .function := by rfl) (hnames : (scope.names.all fun x => x.2 != .local || scope.names.lookup x.1 == some .local) = true := by rfl) (hs : ∀ x, foldedSetIterable iter env x = pure x := by intro _; rfl) :
    wpAny (model prog w) A (eval (.SetComp elt [⟨target, iter, [], 0⟩] scope pos) env) Q E s := by
  show wpAny _ A (comprehension (.SetComp elt [⟨target, iter, [], 0⟩] scope pos) scope env _ (newSet (.type "set")) false (eval iter env)) _ _ s
  refine wpAny_comprehension_free (use := none) rfl hs hclos hkind (fun x hx hl => ?_) h
  have := List.all_eq_true.mp hnames x hx
  rw [hl] at this
  simpa using this
end
section
variable {prog : Program} {w : World} {A : Around} {s₀ s s' : Shared} {g₀ g g' : Hp} {L : Addr} {lc lc' : List (Str × Value)} {own own' : List (Addr × Obj)} {E : Value → Shared → Prop} {env : Env} {n : Nat}
/-- between the turns of a set comprehension -/
inductive CompT (w : World) (s : Shared) (g : Hp) (It D : Addr) (nI : Nat) (itO : Nat → Obj → Prop) (LC : List (Str × Value) → Prop) (CS : Addr → List (Addr × Obj) → Prop) (k : Nat) (s' : Shared) : Prop
  | mk (i : Nat) (g' : Hp) (lc' : List (Str × Value)) (cs : List (Addr × Obj)) (oI : Obj) (_ : k = nI - i) (_ : i ≤ nI) (_ : Le g g') (_ : itO i oI) (_ : LC lc') (_ : CS (D + 1) cs)
      (_ : St w s g g' (D + 1) lc' ((It, oI) :: (D, sobj w i) :: cs) s')
theorem r_compSet {elt target iter : Expr} {scope : Scope} {pos : Pos} {cl : List (Str × Addr)} {Q : Value → Shared → Prop} {It : Addr} {nI : Nat}
    (item : Nat → Value → Prop) (itO : Nat → Obj → Prop) (LC : List (Str × Value) → Prop) (CS : Addr → List (Addr × Obj) → Prop)
    (hA : AOk A n) (S : St w s₀ g₀ g L lc own s) {sI : Shared} {oI₀ : Obj} (SI : St w s₀ g₀ g L lc ((It, oI₀) :: own) sI) (hs0 : ∀ b o, s.heap.get? b = some o → sI.heap.get? b = some o) (hgs : sI.gens = s.gens) (hos : sI.os = s.os) (hnew : s.heap.get? It = none)
    (hi0 : itO 0 oI₀) (hlc : LC []) (hcs : ∀ C, CS C (cellOwn (C + 1) scope.names []))
    (next : ∀ i C lc' D oD cs g' oI s' (R : Option Value → Shared → Prop), i < nI → Le g g' → itO i oI → St w s g g' C lc' ((It, oI) :: (D, oD) :: cs) s' →
      (∀ v oI' s'', item i v → itO (i + 1) oI' → St w s g g' C lc' ((It, oI') :: (D, oD) :: cs) s'' → (∃ c, oI'.cls = .type c ∧ owners.contains c = false) → R (some v) s'') → wpAny (model prog w) A (pyNext (.ref It)) R F0 s')
    (stop : ∀ C lc' D oD cs g' oI s' (R : Option Value → Shared → Prop), Le g g' → itO nI oI → St w s g g' C lc' ((It, oI) :: (D, oD) :: cs) s' →
      (∀ s'', St w s g g' C lc' ((D, oD) :: cs) s'' → R none s'') → wpAny (model prog w) A (pyNext (.ref It)) R F0 s')
    (self : ∀ C lc' D oD cs g' oI s' (R : Value → Shared → Prop), itO 0 oI → St w s g g' C lc' ((It, oI) :: (D, oD) :: cs) s' → R (.ref It) s' → wpAny (model prog w) A (pyIter (.ref It)) R F0 s')
    (turn : ∀ i v g' C D oD lc' cs oI s', i < nI → item i v → Le g g' → LC lc' → CS C cs → St w s g g' C lc' ((It, oI) :: (D, oD) :: cs) s' →
      wpAny (model prog w) A (assign target (compE scope cl C env) v) (fun _ s₂ => wpAny (model prog w) A (eval elt (compE scope cl C env))
        (fun y s₄ => y = .bool true ∧ ∃ g'' lc'' cs', Le g' g'' ∧ LC lc'' ∧ CS C cs' ∧ St w s g g'' C lc'' ((It, oI) :: (D, oD) :: cs') s₄) F0 s₂) F0 s')
    (fin : ∀ g' D s', Le g g' → g' D = some (sobj w nI) → St w s₀ g₀ g' L lc own s' → Q (.ref D) s') :
    CompS prog w A env elt target iter scope pos cl Q E (.ref It) sI := by
  unfold CompS
  refine new0 ?_
  have hlt : ∀ {h : Heap} {b : Addr} {o : Obj}, h.get? b = some o → b < h.objs.size := fun e => Heap.lt_size e
  have none_of : ∀ b, sI.heap.objs.size ≤ b → s.heap.get? b = none := fun b hb => by
    cases e : s.heap.get? b with
    | none => rfl
    | some o => exact absurd (hlt (hs0 _ _ e)) (Nat.not_lt.mpr hb)
  have gnone_of : ∀ b, s.heap.get? b = none → g b = none := fun b hb => by
    cases e : g b with
    | none => rfl
    | some o => have := S.sub _ _ e; rw [hb] at this; cases this
  have eI : sI.heap.get? It = some oI₀ := SI.ob (It, oI₀) (.head _)
  simp only [newFunctionEnv, Option.isSome_some, if_true]
  refine wpAny_bind (wpAny_alloc ?_)
  generalize hD : sI.heap.objs.size = D at none_of ⊢
  have hItD : It < D := hD ▸ hlt eI
  dsimp only
  generalize hH : sI.heap.push (setO #[] 0 (.fresh 0 0 (led0 w))) = H
  have hHs : H.objs.size = D + 1 := by rw [← hH, Heap.size_push, hD]
  have eD : H.get? D = some (sobj w 0) := by rw [← hH, ← hD]; exact Heap.get?_push_size _ rfl
  have keepH : ∀ b o, sI.heap.get? b = some o → H.get? b = some o := fun b o e => by rw [← hH]; exact Heap.get?_push_of_some _ e
  have hC : ({ sI with heap := H } : Shared).heap.objs.size = D + 1 := hHs
  rw [hC]
  have S0 : St w s g g (D + 1) [] [(It, oI₀), (D, sobj w 0)] { sI with heap := H.push { cls := .type "dict", data := .dict #[] } } := by
    have up : ∀ b o, H.get? b = some o → (H.push { cls := .type "dict", data := .dict #[] }).get? b = some o := fun b o e => Heap.get?_push_of_some _ e
    refine ⟨by rw [← hHs]; exact Heap.Ns.new H (.type "dict"), fun b o e => up _ _ (keepH _ _ (hs0 _ _ (S.sub _ _ e))), ?_, ?_, ?_, ?_, fun _ _ e => .inl e, Le.refl g, ⟨fun b o _ e => up _ _ (keepH _ _ (hs0 _ _ e)), hgs, hos⟩, S.ge, ?_, ?_⟩
    · intro p hp
      rcases List.mem_cons.mp hp with rfl | hp
      · exact up _ _ (keepH _ _ eI)
      · rw [List.mem_singleton.mp hp]; exact up _ _ eD
    · simp only [List.map_cons, List.map_nil, List.nodup_cons, List.mem_cons, List.not_mem_nil, or_false, not_or, not_false_eq_true, List.nodup_nil, and_true]
      exact ⟨⟨Nat.ne_of_gt (Nat.lt_succ_of_lt hItD), Nat.succ_ne_self D⟩, Nat.ne_of_lt hItD⟩
    · intro b hb
      simp only [List.map_cons, List.map_nil, List.mem_cons, List.not_mem_nil, or_false] at hb
      rcases hb with rfl | rfl | rfl
      · exact gnone_of _ (none_of _ (Nat.le_succ _))
      · exact gnone_of _ hnew
      · exact gnone_of _ (none_of _ (Nat.le_refl _))
    · intro b hb
      simp only [List.map_cons, List.map_nil, List.mem_cons, List.not_mem_nil, or_false] at hb
      rcases hb with rfl | rfl | rfl
      · exact none_of _ (Nat.le_succ _)
      · exact hnew
      · exact none_of _ (Nat.le_refl _)
    · exact S.tab.same fun o e => up _ _ (keepH _ _ (hs0 _ _ e))
    · obtain ⟨_, ps, e, _⟩ := S.tab; exact ⟨_, e⟩
  have S1 := S0.cells scope.names
  rw [show ({ sI with heap := H.push { cls := .type "dict", data := .dict #[] } } : Shared).heap.objs.size = D + 1 + 1 from by show (H.push _).objs.size = _; rw [Heap.size_push, hHs]] at S1
  refine wpAny_bind (wpAny_layCells _ (fun name kind cells => by cases hkc : kind == NameKind.cell <;> simp [hkc]) _ _ _ _ ?_)
  rw [show ({ sI with heap := H.push { cls := .type "dict", data := .dict #[] } } : Shared).heap.objs.size = D + 1 + 1 from by show (H.push _).objs.size = _; rw [Heap.size_push, hHs]]
  rw [List.forIn_nil]
  refine wpAny_bind (wpAny_pure (wpAny_pure ?_))
  dsimp only
  have S2 : St w s g g (D + 1) [] ((It, oI₀) :: (D, sobj w 0) :: cellOwn (D + 1 + 1) scope.names []) _ := S1.perm (cellOwn_perm scope.names (D + 1 + 1) [(It, oI₀), (D, sobj w 0)]).symm
  generalize ({ sI with heap := pushCells (H.push { cls := .type "dict", data := .dict #[] }) scope.names } : Shared) = s4 at S2 ⊢
  have gD0 : g D = none := gnone_of _ (none_of _ (Nat.le_refl _))
  have loop : codeAny (model prog w) A (.compLoop (.SetComp elt [⟨target, iter, [], 0⟩] scope pos) 0 (.ref It) (.ref D) (compE scope cl (D + 1) env)) (compPost (model prog w) A E none Q (.ref D) (D + 1)) s4 := by
    refine compLoop_set (CompT w s g It D nI itO LC CS) ?_ nI
      ⟨0, g, [], _, oI₀, rfl, Nat.zero_le _, Le.refl g, hi0, hlc, hcs _, S2⟩
    · rintro k s' ⟨i, g', lc', cs, oI, rfl, hi, lg, hit, hLC, hCS, S'⟩
      by_cases hlt' : i < nI
      · refine no_err (next i _ lc' D _ cs g' oI s' _ hlt' lg hit S' fun v oI' s'' hv hit' S'' ⟨cI, hcI, hno⟩ => ?_)
        dsimp only
        refine letgo (S''.ob (It, oI') (.head _)) hcI hno ?_
        refine wpAny_mono (turn i v g' _ D _ lc' cs oI' s'' hlt' hv lg hLC hCS S'') (fun _ s₂ h₂ => ?_) fun _ _ z => z
        refine wpAny_mono h₂ (fun y s₄ h₄ => ?_) fun _ _ z => z
        obtain ⟨rfl, g'', lc'', cs', lg', hLC', hCS', S4⟩ := h₄
        have S5 := S4.perm (List.Perm.swap (It, oI') (D, sobj w i) cs')
        have eD5 := S5.ob (D, sobj w i) (.head _)
        refine addS eD5 fun tk h₅ hs₅ hD₅ => ?_
        have S6 : St w s g g'' (D + 1) lc'' ((D, sobj w (i + 1)) :: (It, oI') :: cs') { s₄ with heap := h₅, toks := tk } := S5.upd hs₅ hD₅ rfl rfl
        exact ⟨nI - (i + 1), by omega, i + 1, g'', lc'', cs', oI', rfl, hlt', lg.trans lg', hit', hLC', hCS', S6.perm (List.Perm.swap _ _ _)⟩
      · obtain rfl : i = nI := Nat.le_antisymm hi (Nat.not_lt.mp hlt')
        refine no_err (stop _ lc' D _ cs g' oI s' _ lg hit S' fun s'' S'' => ?_)
        dsimp only
        have eD := S''.ob (D, sobj w i) (.head _)
        obtain ⟨oC, esC, epC, eC, rC⟩ := S''.ns
        have hn := S''.nd
        simp only [List.map_cons, List.nodup_cons, List.mem_cons, not_or] at hn
        have hCn : s.heap.get? (D + 1) = none := S''.old _ (.head _)
        have hDn : s.heap.get? D = none := S''.old _ (.tail _ (.head _))
        have gCn : g' (D + 1) = none := S''.gL _ (.head _)
        have gDn : g' D = none := S''.gL _ (.tail _ (.head _))
        have O : Out s g (fun v g'' => g'' = ins g' D (sobj w i)) (.ref D) s'' := by
          refine ⟨⟨fun b o n e => S''.nx.kp b o n e, S''.nx.gens, S''.nx.os⟩, ins g' D (sobj w i), lg.trans (Le.ins gDn), ?_, ?_, ?_, rfl⟩
          · intro b o e
            unfold ins at e
            by_cases hb : b = D
            · subst hb; rw [if_pos rfl] at e; cases e
              exact eD
            · rw [if_neg hb] at e
              exact S''.sub b o e
          · intro b o e
            unfold ins at e
            by_cases hb : b = D
            · subst hb; exact .inr hDn
            · rw [if_neg hb] at e; exact S''.new b o e
          · exact S''.tab.mono (Le.ins gDn) ((ins_other (fun q : tb = D => S''.tboff (by rw [q]; exact .tail _ (.head _)))).trans S''.tab.1) fun o e => e
        obtain ⟨g'', l1, eg, So⟩ := S.out O
        subst eg
        have Sc := S.addOwn So eC hCn (by unfold ins; rw [if_neg (Nat.succ_ne_self D)]; exact gCn)
        refine ⟨_, ⟨oC, esC, epC, eC, rC⟩, fun h' hs => fin _ D _ l1 ins_self (Sc.lose (s' := { s'' with heap := h' }) (fun b o hb q => (hs.2 b hb).trans q) rfl rfl)⟩
  refine codeAny_compStart_set loop ?_
  exact no_err (self _ [] D _ _ g oI₀ s4 _ hi0 S2 loop)
end
end Mine
end
section
open PySem PySem.W PySem.Calls PyProof.Rows
set_option maxRecDepth 100000
set_option linter.unusedSimpArgs false
set_option linter.unusedVariables false
namespace Mine
section
variable {prog : Program} {w : World} {A : Around} {s₀ s s' : Shared} {g₀ g g' : Hp} {L : Addr} {lc lc' : List (Str × Value)} {own own' : List (Addr × Obj)} {E : Value → Shared → Prop} {env : Env} {n : Nat}
/-- a comprehension over a tuple that the base holds -/
theorem r_compT {elt target iter : Expr} {ifs : List Expr} {scope : Scope} {pos : Pos} {cl : List (Str × Addr)} {use : Option (Value → Sem Unit)} {Q : Value → Shared → Prop} {l : Addr} {vs : List Value} {nn : Nat}
    (J : Nat → List Value → Hp → Prop) (hJm : ∀ {i ys g g'}, J i ys g → Le g g' → J i ys g') (LC : List (Str × Value) → Prop) (CS : Addr → List (Addr × Obj) → Prop)
    (hA : AOk A n) (S : St w s₀ g₀ g L lc own s) (hl : g l = some { cls := .type "tuple", data := .seq vs.toArray nn }) (hsz : vs.length ≤ sizeLine) (h0 : J 0 [] g) (hlc : LC []) (hcs : ∀ C, CS C (cellOwn (C + 1) scope.names []))
    (turn : ∀ i v ys g' C D k lc' cs It oI s', vs[i]? = some v → Le g g' → J i ys g' → LC lc' → CS C cs → ys.length ≤ i → St w s g g' C lc' ((It, oI) :: (D, lst ys k) :: cs) s' →
      CTurn prog w A (compE scope cl C env) target elt ifs v
        (fun y s₄ => ∃ g'' lc'' cs', Le g' g'' ∧ J (i + 1) (ys ++ [y]) g'' ∧ LC lc'' ∧ CS C cs' ∧ St w s g g'' C lc'' ((It, oI) :: (D, lst ys k) :: cs') s₄)
        (fun s₄ => ∃ g'' lc'' cs', Le g' g'' ∧ J (i + 1) ys g'' ∧ LC lc'' ∧ CS C cs' ∧ St w s g g'' C lc'' ((It, oI) :: (D, lst ys k) :: cs') s₄) s')
    (done : CompFin prog w A use Q E s₀ g₀ g L lc own (J vs.length)) :
    wpAny (model prog w) A (pyIter (.ref l)) (CompK prog w A env elt target iter ifs scope pos cl use Q E) E s := by
  have hl' : s.heap.IsTuple l vs.toArray := ⟨_, S.sub _ _ hl, rfl, nn, rfl⟩
  refine wpAny_pyIter_tuple hl' ?_
  have S1 := S.alloc (o := { cls := .type "tuple_iterator", data := .fields #[.ref l, .int 0 0] }) (t := s.toks) rfl
  refine r_compAll (fun i v => vs[i]? = some v) (fun i o => o.cls = .type "tuple_iterator" ∧ o.data = .fields #[.ref l, .int i 0]) J hJm LC CS hA S S1 (fun b o e => Heap.get?_push_of_some _ e) rfl rfl (none_size s) ⟨rfl, rfl⟩ hsz h0 hlc hcs ?_ ?_ ?_
    (fun i v ys g' C D k lc' cs oI s' _ hv lg hJ hLC hCS hyl S' => turn i v ys g' C D k lc' cs _ oI s' hv lg hJ hLC hCS hyl S') done
  · intro i C lc' D ys k cs g' oI s' R hi lg ho S' hR
    refine wpAny_pyNext_tuple_item ⟨oI, S'.ob _ (.head _), ho.1, ho.2⟩ ⟨_, S'.sub _ _ (lg _ _ hl), rfl, nn, rfl⟩ (x := vs[i]) (by simp [hi]) fun h' hit' hs' => ?_
    obtain ⟨oI', e1, hc', hd'⟩ := hit'
    exact hR _ oI' _ (by simp [hi]) ⟨hc', hd'⟩ (S'.upd hs' e1 rfl rfl) ⟨_, hc', by decide⟩
  · intro C lc' D ys k cs g' oI s' R lg ho S' hR
    refine wpAny_pyNext_tuple_end hA.1 ⟨oI, S'.ob _ (.head _), ho.1, ho.2⟩ ⟨_, S'.sub _ _ (lg _ _ hl), rfl, nn, rfl⟩ (by simp) fun h' hx' => ?_
    exact hR _ (S'.lose hx' rfl rfl)
  · intro C lc' D ys k cs g' oI s' R ho S' hR
    exact wpAny_pyIter_tupleiter ⟨oI, S'.ob _ (.head _), ho.1, ho.2⟩ hR


/-- a set's comprehension over a tuple, whose element is always True -/
theorem r_setT {elt target iter : Expr} {scope : Scope} {pos : Pos} {cl : List (Str × Addr)} {Q : Value → Shared → Prop} {l : Addr} {vs : List Value} {nn : Nat} (LC : List (Str × Value) → Prop) (CS : Addr → List (Addr × Obj) → Prop)
    (hA : AOk A n) (S : St w s₀ g₀ g L lc own s) (hl : g l = some { cls := .type "tuple", data := .seq vs.toArray nn }) (hne : vs ≠ []) (hlc : LC []) (hcs : ∀ C, CS C (cellOwn (C + 1) scope.names []))
    (turn : ∀ (i : Nat) v g' C D oD lc' cs It oI s', vs[i]? = some v → Le g g' → LC lc' → CS C cs → St w s g g' C lc' ((It, oI) :: (D, oD) :: cs) s' →
      wpAny (model prog w) A (assign target (compE scope cl C env) v) (fun _ s₂ => wpAny (model prog w) A (eval elt (compE scope cl C env))
        (fun y s₄ => y = .bool true ∧ ∃ g'' lc'' cs', Le g' g'' ∧ LC lc'' ∧ CS C cs' ∧ St w s g g'' C lc'' ((It, oI) :: (D, oD) :: cs') s₄) F0 s₂) F0 s')
    (fin : ∀ g' D s', Le g g' → g' D = some (setO #[(1, .bool true)] 1 (T1 (led0 w))) → St w s₀ g₀ g' L lc own s' → Q (.ref D) s') :
    wpAny (model prog w) A (pyIter (.ref l)) (CompS prog w A env elt target iter scope pos cl Q E) E s := by
  have hl' : s.heap.IsTuple l vs.toArray := ⟨_, S.sub _ _ hl, rfl, nn, rfl⟩
  refine wpAny_pyIter_tuple hl' ?_
  have S1 := S.alloc (o := { cls := .type "tuple_iterator", data := .fields #[.ref l, .int 0 0] }) (t := s.toks) rfl
  refine r_compSet (nI := vs.length) (fun i v => vs[i]? = some v) (fun i o => o.cls = .type "tuple_iterator" ∧ o.data = .fields #[.ref l, .int i 0]) LC CS hA S S1 (fun b o e => Heap.get?_push_of_some _ e) rfl rfl (none_size s) ⟨rfl, rfl⟩ hlc hcs ?_ ?_ ?_
    (fun i v g' C D oD lc' cs oI s' _ hv lg hLC hCS S' => turn i v g' C D oD lc' cs _ oI s' hv lg hLC hCS S') (fun g' D s' lg e S' => fin g' D s' lg (by
      unfold sobj at e
      rw [if_neg (fun q => hne (List.eq_nil_of_length_eq_zero q))] at e
      exact e) S')
  · intro i C lc' D oD cs g' oI s' R hi lg ho S' hR
    refine wpAny_pyNext_tuple_item ⟨oI, S'.ob _ (.head _), ho.1, ho.2⟩ ⟨_, S'.sub _ _ (lg _ _ hl), rfl, nn, rfl⟩ (x := vs[i]) (by simp [hi]) fun h' hit' hs' => ?_
    obtain ⟨oI', e1, hc', hd'⟩ := hit'
    exact hR _ oI' _ (by simp [hi]) ⟨hc', hd'⟩ (S'.upd hs' e1 rfl rfl) ⟨_, hc', by decide⟩
  · intro C lc' D oD cs g' oI s' R lg ho S' hR
    refine wpAny_pyNext_tuple_end hA.1 ⟨oI, S'.ob _ (.head _), ho.1, ho.2⟩ ⟨_, S'.sub _ _ (lg _ _ hl), rfl, nn, rfl⟩ (by simp) fun h' hx' => ?_
    exact hR _ (S'.lose hx' rfl rfl)
  · intro C lc' D oD cs g' oI s' R ho S' hR
    exact wpAny_pyIter_tupleiter ⟨oI, S'.ob _ (.head _), ho.1, ho.2⟩ hR
/-- the one element of {True} -/
theorem r_unpackS {e : Expr} {k : Nat} {p : Pos} {D : Addr} {Q : Unit → Shared → Prop} (hA : AOk A n) (S : St w s₀ g₀ g L lc own s) (hD : s.heap.get? D = some (setO #[(1, .bool true)] 1 (T1 (led0 w))))
    (he : assignEach [e] env = [(false, assign e env)]) (h : ∀ s', St w s₀ g₀ g L lc own s' → InOrd prog w A env [e] [.bool true] Q E s') : wpAny (model prog w) A (assign (.Tuple [e] k p) env (.ref D)) Q E s := by
  rw [arm_assign_Tuple]
  refine wpAny_bind (wpAny_standAt ?_)
  unfold unpack
  rw [he]
  refine wpAny_bind (wpAny_holding ?_)
  show wpAny _ _ (unpackItems (.ref D) 1 none) _ _ _
  unfold unpackItems
  refine wpAny_bind ?_
  unfold notIterableAtAll
  have hT : s.TypeIs (.ref D) "set" := ⟨_, hD, rfl⟩
  refine wpAny_bind (wpAny_specialOf hT PySem.F.slot_set_iter.lookup ?_)
  refine wpAny_pure ?_
  simp only [Bool.false_eq_true, if_false]
  refine wpAny_bind (wpAny_holding (iter1 hD ?_))
  have hDn : D ≠ s.heap.objs.size := Nat.ne_of_lt (Heap.lt_size hD)
  refine wpAny_bind (wpAny_holding ?_)
  show wpAny _ _ (pyNext (.ref s.heap.objs.size) >>= _) _ _ _
  have e1 : (s.heap.push (sitO D 0 0)).get? s.heap.objs.size = some (sitO D 0 0) := Heap.get?_push_size _ rfl
  refine wpAny_bind (sit_item (s := { s with heap := s.heap.push (sitO D 0 0) }) e1 (Heap.get?_push_of_some _ hD) fun h₁ hs₁ e2 => ?_)
  have hD1 : h₁.get? D = some (setO #[(1, .bool true)] 1 (T1 (led0 w))) := (hs₁.2 D hDn).trans (Heap.get?_push_of_some _ hD)
  refine wpAny_bind (wpAny_holding (wpAny_of_eq (a := ([] : List Value)) rfl (wpAny_pure ?_)))
  rw [if_neg (by simp)]
  refine wpAny_bind (wpAny_holding (sit_end (s := { s with heap := h₁ }) hA.1 e2 hD1 fun h₂ he₂ => ?_))
  simp only [Option.isSome_none, Bool.false_eq_true, if_false]
  refine wpAny_pure ?_
  have S1 := h { s with heap := h₂ } (S.grow (fun b o q => he₂ b o (Nat.ne_of_lt (Heap.lt_size q)) ((hs₁.2 b (Nat.ne_of_lt (Heap.lt_size q))).trans (Heap.get?_push_of_some _ q))) rfl rfl)
  unfold InOrd at S1
  rw [he] at S1
  exact S1
end
end Mine
end
section
open PySem PySem.W PySem.Calls PyProof.Rows
open AutoSeq1 (wpAny_loadPart')
set_option maxRecDepth 100000
set_option linter.unusedSimpArgs false
set_option linter.unusedVariables false
namespace Mine
noncomputable def ltL : List (List Nat) → List (List Nat) → Bool
  | [], [] => false
  | [], _ :: _ => true
  | _ :: _, [] => false
  | x :: p, y :: q => if x = y then ltL p q else decide (x < y)
theorem ltL_end {P R : List (List Nat)} {i : Nat} (h1 : i ≤ P.length) (h2 : i ≤ R.length) (h : P.length ≤ i ∨ R.length ≤ i) : ltL (P.drop i) (R.drop i) = decide (P.length < R.length) := by
  rcases h with h | h
  · rw [List.drop_eq_nil_of_le h]
    have hl : (R.drop i).length = R.length - i := List.length_drop ..
    cases hr : R.drop i with
    | nil => rw [hr] at hl; simp at hl; simp [ltL]; omega
    | cons x r => rw [hr] at hl; simp at hl; simp [ltL]; omega
  · rw [List.drop_eq_nil_of_le h]
    have hl : (P.drop i).length = P.length - i := List.length_drop ..
    cases hr : P.drop i with
    | nil => rw [hr] at hl; simp at hl; simp [ltL]; omega
    | cons x r => rw [hr] at hl; simp at hl; simp [ltL]; omega
section
variable {prog : Program} {w : World} {A : Around} {E : Value → Shared → Prop} {s : Shared}
theorem rc_lt {x y : List Nat} {t u : Tok} {Q : Value → Shared → Prop} (h : Q (.bool (decide (x < y))) s) : wpAny (model prog w) A (richCompare .Lt (.str (mk x) t) (.str (mk y) u)) Q E s :=
  richCompare_gives (op := .Lt) (PySem.typeIs_str s _ t) (PySem.typeIs_str s _ u) PySem.F.slot_str_lt PySem.F.entry_str_lt (PySem.F.args_str_lt_2 _ _) (gives_str_lt (mk x) (mk y) t u) (fun e => nomatch e) (by rw [mk_toList, mk_toList]; exact h)
theorem rc_gt {x y : List Nat} {t u : Tok} {Q : Value → Shared → Prop} (h : Q (.bool (decide (y < x))) s) : wpAny (model prog w) A (richCompare .Gt (.str (mk x) t) (.str (mk y) u)) Q E s :=
  richCompare_gives (op := .Gt) (PySem.typeIs_str s _ t) (PySem.typeIs_str s _ u) PySem.F.slot_str_gt PySem.F.entry_str_gt (PySem.F.args_str_gt_2 _ _) (gives_str_gt (mk x) (mk y) t u) (fun e => nomatch e) (by rw [mk_toList, mk_toList]; exact h)
end
noncomputable def gtL (p q : List (List Nat)) : Bool := ltL q p

set_option maxHeartbeats 2000000 in
theorem lt_loop (l b : Addr) (vs us : List Value) (n n2 : Nat) (P R₀ : List (List Nat)) (hv : StrsAre vs (P.map mk)) (hu : StrsAre us (R₀.map mk)) (k : Nat) :
    ∀ i : Nat, P.length - i = k → i ≤ P.length → i ≤ R₀.length → Meets (Builtin.«list.__eq__.loop» ⟨[.ref l, .ref b, rawInt i, rawInt 0], []⟩)
      (fun _ R s => s.heap.get? l = some { cls := .type "list", dict := none, data := .seq vs.toArray n, slots := #[] } ∧ s.heap.get? b = some { cls := .type "list", dict := none, data := .seq us.toArray n2, slots := #[] } ∧
        R (.ok (.ret (.bool (ltL (P.drop i) (R₀.drop i))))) s) := by
  have hvl : vs.length = P.length := by simpa using hv.length
  have hul : us.length = R₀.length := by simpa using hu.length
  have stop : ∀ i : Nat, (P.length ≤ i ∨ R₀.length ≤ i) → i ≤ P.length → i ≤ R₀.length → Meets (Builtin.«list.__eq__.loop» ⟨[.ref l, .ref b, rawInt i, rawInt 0], []⟩)
      (fun _ R s => s.heap.get? l = some { cls := .type "list", dict := none, data := .seq vs.toArray n, slots := #[] } ∧ s.heap.get? b = some { cls := .type "list", dict := none, data := .seq us.toArray n2, slots := #[] } ∧
        R (.ok (.ret (.bool (ltL (P.drop i) (R₀.drop i))))) s) := by
    intro i hi h1 h2 prog w A R s h
    obtain ⟨hp, g, d, tk, os⟩ := s; obtain ⟨hl, hb, h⟩ := h
    wp_walk using wpAny_loadPart' hl, wpAny_loadPart' hb
    have e : ltL (P.drop i) (R₀.drop i) = decide (vs.toArray.size < us.toArray.size) := by
      rw [List.size_toArray, List.size_toArray, hvl, hul]
      exact ltL_end h1 h2 hi
    rw [e] at h
    by_cases hi' : P.length ≤ i
    · have hi1 : vs.toArray[((i : Nat) : Int).toNat]? = none := by simp; omega
      rw [hi1]
      wp_walk using wpAny_loadPart' hl, wpAny_loadPart' hb
      exact h
    · have hlt : i < vs.length := by omega
      have hi1 : vs.toArray[((i : Nat) : Int).toNat]? = some vs[i] := by simp [hlt]
      have hi2 : us.toArray[((i : Nat) : Int).toNat]? = none := by simp; omega
      rw [hi1, hi2]
      wp_walk using wpAny_loadPart' hl, wpAny_loadPart' hb
      exact h
  induction k with
  | zero => intro i hk h1 h2; exact stop i (.inl (by omega)) h1 h2
  | succ k ih =>
    intro i hk h1 h2
    by_cases hR : R₀.length ≤ i
    · exact stop i (.inr hR) h1 h2
    intro prog w A R s h
    obtain ⟨hp, g, d, tk, os⟩ := s; obtain ⟨hl, hb, h⟩ := h
    wp_walk using wpAny_loadPart' hl, wpAny_loadPart' hb
    have hlt : i < vs.length := by omega
    have hlt2 : i < us.length := by omega
    have hi1 : vs.toArray[((i : Nat) : Int).toNat]? = some vs[i] := by simp [hlt]
    have hi2 : us.toArray[((i : Nat) : Int).toNat]? = some us[i] := by simp [hlt2]
    obtain ⟨y1, t1, hy1, e1⟩ := getElem_are hv (List.getElem?_eq_getElem hlt)
    obtain ⟨y2, t2, hy2, e2⟩ := getElem_are hu (List.getElem?_eq_getElem hlt2)
    rw [List.getElem?_map] at hy1 hy2
    obtain ⟨c1, hc1, rfl⟩ := Option.map_eq_some_iff.mp hy1
    obtain ⟨c2, hc2, rfl⟩ := Option.map_eq_some_iff.mp hy2
    have hd1 : P.drop i = c1 :: P.drop (i + 1) := by
      have hh : i < P.length := by omega
      rw [List.drop_eq_getElem_cons hh]; rw [List.getElem?_eq_getElem hh] at hc1; rw [Option.some.inj hc1]
    have hd2 : R₀.drop i = c2 :: R₀.drop (i + 1) := by
      have hh : i < R₀.length := by omega
      rw [List.drop_eq_getElem_cons hh]; rw [List.getElem?_eq_getElem hh] at hc2; rw [Option.some.inj hc2]
    have hc : ((i : Int) + 1) = ((i + 1 : Nat) : Int) := by push_cast; rfl
    rw [hd1, hd2] at h
    rw [hi1, hi2, e1, e2]
    refine wpAny_bind (eqBool_str ?_)
    by_cases hcc : c1 = c2
    · subst hcc
      rw [show (mk c1 == mk c1) = true by simp]
      wp_walk
      rw [hc]
      refine ⟨plainId_quiet MeetsSeq3.plain_eq_loop _, codeAny_builtin MeetsSeq3.entry_eq_loop ?_⟩
      rw [Around.under_plainId MeetsSeq3.plain_eq_loop _]
      exact ih (i + 1) (by omega) (by omega) (by omega) prog w A R _ ⟨hl, hb, by simpa [ltL] using h⟩
    · rw [show (mk c1 == mk c2) = false by rw [beq_eq_false_iff_ne]; intro e; exact hcc (mk_inj.mp e)]
      wp_walk using wpAny_loadPart' hl, wpAny_loadPart' hb
      rw [hi1, hi2, e1, e2]
      show wpAny _ _ (richCompare .Lt (.str (mk c1) t1) (.str (mk c2) t2) >>= fun v => ret v) _ _ _
      refine wpAny_bind (rc_lt ?_)
      refine wpAny_pure ?_
      have hcc' : ¬ c2 = c1 := fun e => hcc e.symm
      simpa [ltL, hcc, hcc'] using h
theorem lt_meets (l b : Addr) (vs us : List Value) (n n2 : Nat) (P R₀ : List (List Nat)) (hv : StrsAre vs (P.map mk)) (hu : StrsAre us (R₀.map mk)) :
    Meets (Builtin.«list.__lt__» ⟨[.ref l, .ref b], []⟩)
      (fun _ R s => s.heap.get? l = some { cls := .type "list", dict := none, data := .seq vs.toArray n, slots := #[] } ∧ s.heap.get? b = some { cls := .type "list", dict := none, data := .seq us.toArray n2, slots := #[] } ∧
        R (.ok (.ret (.bool (ltL P R₀)))) s) := by
  intro prog w A R s h
  obtain ⟨hp, g, d, tk, os⟩ := s; obtain ⟨hl, hb, h⟩ := h
  have f3 := AutoSeq1.sub_list_list
  wp_walk using wpAny_loadPart' hl, wpAny_loadPart' hb
  exact ⟨plainId_quiet MeetsSeq3.plain_eq_loop _, codeAny_builtin MeetsSeq3.entry_eq_loop (by
    rw [Around.under_plainId MeetsSeq3.plain_eq_loop _]
    exact lt_loop l b vs us n n2 P R₀ hv hu _ 0 rfl (Nat.zero_le _) (Nat.zero_le _) prog w A R _ ⟨hl, hb, by simpa using h⟩)⟩
theorem rcL_lt {prog : Program} {w : World} {A : Around} {E : Value → Shared → Prop} {s : Shared} {l b : Addr} {vs us : List Value} {n n2 : Nat} {P R₀ : List (List Nat)} {Q : Value → Shared → Prop} (hu' : A.units < cLine) (hl : s.heap.get? l = some (lst vs n)) (hb : s.heap.get? b = some (lst us n2)) (hv : StrsAre vs (P.map mk)) (hu : StrsAre us (R₀.map mk))
    (h : Q (.bool (ltL P R₀)) s) : wpAny (model prog w) A (richCompare .Lt (.ref l) (.ref b)) Q E s :=
  richCompare_meets_room (T := "list") ⟨_, hl, rfl⟩ ⟨_, hb, rfl⟩ PySem.F.slot_list_lt PySem.F.entry_list_lt (PySem.F.args_list_lt_2 _ _) (lt_meets l b vs us n n2 P R₀ hv hu) ⟨hl, hb, (by intro e; cases e), h⟩ hu'

set_option maxHeartbeats 2000000 in
theorem gt_loop (l b : Addr) (vs us : List Value) (n n2 : Nat) (P R₀ : List (List Nat)) (hv : StrsAre vs (P.map mk)) (hu : StrsAre us (R₀.map mk)) (k : Nat) :
    ∀ i : Nat, P.length - i = k → i ≤ P.length → i ≤ R₀.length → Meets (Builtin.«list.__eq__.loop» ⟨[.ref l, .ref b, rawInt i, rawInt 4], []⟩)
      (fun _ R s => s.heap.get? l = some { cls := .type "list", dict := none, data := .seq vs.toArray n, slots := #[] } ∧ s.heap.get? b = some { cls := .type "list", dict := none, data := .seq us.toArray n2, slots := #[] } ∧
        R (.ok (.ret (.bool (gtL (P.drop i) (R₀.drop i))))) s) := by
  have hvl : vs.length = P.length := by simpa using hv.length
  have hul : us.length = R₀.length := by simpa using hu.length
  have stop : ∀ i : Nat, (P.length ≤ i ∨ R₀.length ≤ i) → i ≤ P.length → i ≤ R₀.length → Meets (Builtin.«list.__eq__.loop» ⟨[.ref l, .ref b, rawInt i, rawInt 4], []⟩)
      (fun _ R s => s.heap.get? l = some { cls := .type "list", dict := none, data := .seq vs.toArray n, slots := #[] } ∧ s.heap.get? b = some { cls := .type "list", dict := none, data := .seq us.toArray n2, slots := #[] } ∧
        R (.ok (.ret (.bool (gtL (P.drop i) (R₀.drop i))))) s) := by
    intro i hi h1 h2 prog w A R s h
    obtain ⟨hp, g, d, tk, os⟩ := s; obtain ⟨hl, hb, h⟩ := h
    wp_walk using wpAny_loadPart' hl, wpAny_loadPart' hb
    have e : gtL (P.drop i) (R₀.drop i) = decide (vs.toArray.size > us.toArray.size) := by
      rw [List.size_toArray, List.size_toArray, hvl, hul]
      exact ltL_end h2 h1 hi.symm
    rw [e] at h
    by_cases hi' : P.length ≤ i
    · have hi1 : vs.toArray[((i : Nat) : Int).toNat]? = none := by simp; omega
      rw [hi1]
      wp_walk using wpAny_loadPart' hl, wpAny_loadPart' hb
      exact h
    · have hlt : i < vs.length := by omega
      have hi1 : vs.toArray[((i : Nat) : Int).toNat]? = some vs[i] := by simp [hlt]
      have hi2 : us.toArray[((i : Nat) : Int).toNat]? = none := by simp; omega
      rw [hi1, hi2]
      wp_walk using wpAny_loadPart' hl, wpAny_loadPart' hb
      exact h
  induction k with
  | zero => intro i hk h1 h2; exact stop i (.inl (by omega)) h1 h2
  | succ k ih =>
    intro i hk h1 h2
    by_cases hR : R₀.length ≤ i
    · exact stop i (.inr hR) h1 h2
    intro prog w A R s h
    obtain ⟨hp, g, d, tk, os⟩ := s; obtain ⟨hl, hb, h⟩ := h
    wp_walk using wpAny_loadPart' hl, wpAny_loadPart' hb
    have hlt : i < vs.length := by omega
    have hlt2 : i < us.length := by omega
    have hi1 : vs.toArray[((i : Nat) : Int).toNat]? = some vs[i] := by simp [hlt]
    have hi2 : us.toArray[((i : Nat) : Int).toNat]? = some us[i] := by simp [hlt2]
    obtain ⟨y1, t1, hy1, e1⟩ := getElem_are hv (List.getElem?_eq_getElem hlt)
    obtain ⟨y2, t2, hy2, e2⟩ := getElem_are hu (List.getElem?_eq_getElem hlt2)
    rw [List.getElem?_map] at hy1 hy2
    obtain ⟨c1, hc1, rfl⟩ := Option.map_eq_some_iff.mp hy1
    obtain ⟨c2, hc2, rfl⟩ := Option.map_eq_some_iff.mp hy2
    have hd1 : P.drop i = c1 :: P.drop (i + 1) := by
      have hh : i < P.length := by omega
      rw [List.drop_eq_getElem_cons hh]; rw [List.getElem?_eq_getElem hh] at hc1; rw [Option.some.inj hc1]
    have hd2 : R₀.drop i = c2 :: R₀.drop (i + 1) := by
      have hh : i < R₀.length := by omega
      rw [List.drop_eq_getElem_cons hh]; rw [List.getElem?_eq_getElem hh] at hc2; rw [Option.some.inj hc2]
    have hc : ((i : Int) + 1) = ((i + 1 : Nat) : Int) := by push_cast; rfl
    rw [hd1, hd2] at h
    rw [hi1, hi2, e1, e2]
    refine wpAny_bind (eqBool_str ?_)
    by_cases hcc : c1 = c2
    · subst hcc
      rw [show (mk c1 == mk c1) = true by simp]
      wp_walk
      rw [hc]
      refine ⟨plainId_quiet MeetsSeq3.plain_eq_loop _, codeAny_builtin MeetsSeq3.entry_eq_loop ?_⟩
      rw [Around.under_plainId MeetsSeq3.plain_eq_loop _]
      exact ih (i + 1) (by omega) (by omega) (by omega) prog w A R _ ⟨hl, hb, by simpa [gtL, ltL] using h⟩
    · rw [show (mk c1 == mk c2) = false by rw [beq_eq_false_iff_ne]; intro e; exact hcc (mk_inj.mp e)]
      wp_walk using wpAny_loadPart' hl, wpAny_loadPart' hb
      rw [hi1, hi2, e1, e2]
      show wpAny _ _ (richCompare .Gt (.str (mk c1) t1) (.str (mk c2) t2) >>= fun v => ret v) _ _ _
      refine wpAny_bind (rc_gt ?_)
      refine wpAny_pure ?_
      have hcc' : ¬ c2 = c1 := fun e => hcc e.symm
      simpa [gtL, ltL, hcc, hcc'] using h
theorem gt_meets (l b : Addr) (vs us : List Value) (n n2 : Nat) (P R₀ : List (List Nat)) (hv : StrsAre vs (P.map mk)) (hu : StrsAre us (R₀.map mk)) :
    Meets (Builtin.«list.__gt__» ⟨[.ref l, .ref b], []⟩)
      (fun _ R s => s.heap.get? l = some { cls := .type "list", dict := none, data := .seq vs.toArray n, slots := #[] } ∧ s.heap.get? b = some { cls := .type "list", dict := none, data := .seq us.toArray n2, slots := #[] } ∧
        R (.ok (.ret (.bool (gtL P R₀)))) s) := by
  intro prog w A R s h
  obtain ⟨hp, g, d, tk, os⟩ := s; obtain ⟨hl, hb, h⟩ := h
  have f3 := AutoSeq1.sub_list_list
  wp_walk using wpAny_loadPart' hl, wpAny_loadPart' hb
  exact ⟨plainId_quiet MeetsSeq3.plain_eq_loop _, codeAny_builtin MeetsSeq3.entry_eq_loop (by
    rw [Around.under_plainId MeetsSeq3.plain_eq_loop _]
    exact gt_loop l b vs us n n2 P R₀ hv hu _ 0 rfl (Nat.zero_le _) (Nat.zero_le _) prog w A R _ ⟨hl, hb, by simpa using h⟩)⟩
theorem rcL_gt {prog : Program} {w : World} {A : Around} {E : Value → Shared → Prop} {s : Shared} {l b : Addr} {vs us : List Value} {n n2 : Nat} {P R₀ : List (List Nat)} {Q : Value → Shared → Prop} (hu' : A.units < cLine) (hl : s.heap.get? l = some (lst vs n)) (hb : s.heap.get? b = some (lst us n2)) (hv : StrsAre vs (P.map mk)) (hu : StrsAre us (R₀.map mk))
    (h : Q (.bool (gtL P R₀)) s) : wpAny (model prog w) A (richCompare .Gt (.ref l) (.ref b)) Q E s :=
  richCompare_meets_room (T := "list") ⟨_, hl, rfl⟩ ⟨_, hb, rfl⟩ PySem.F.slot_list_gt PySem.F.entry_list_gt (PySem.F.args_list_gt_2 _ _) (gt_meets l b vs us n n2 P R₀ hv hu) ⟨hl, hb, (by intro e; cases e), h⟩ hu'
end Mine
end
section
open PySem PySem.W PySem.Calls PyProof.Rows
set_option maxRecDepth 100000
set_option linter.unusedSimpArgs false
set_option linter.unusedVariables false
namespace Mine
section
variable {prog : Program} {w : World} {A : Around} {s₀ s s' : Shared} {g₀ g g' : Hp} {L : Addr} {lc lc' : List (Str × Value)} {own own' : List (Addr × Obj)} {E : Value → Shared → Prop} {env : Env} {n : Nat}
noncomputable def CmpH (prog : Program) (w : World) (op : CmpOp) (g : Hp) (vs : List Value) (bt : Nat → Nat → Bool) : Prop :=
  ∀ (i j : Nat) vi vj A' (m : Nat) (s' : Shared) (Q : Value → Shared → Prop) (E : Value → Shared → Prop), vs[i]? = some vi → vs[j]? = some vj → AOk A' m → Sub g s'.heap → Q (.bool (bt i j)) s' → wpAny (model prog w) A' (richCompare op vi vj) Q E s'

theorem max_loop {it l S : Addr} {vs : List Value} {k0 : Nat} {g : Hp} {R : Result → Shared → Prop} (bt : Nat → Nat → Bool) (hA : AOk A (n + 2)) (hcmp : CmpH prog w .Gt g vs bt) (hl : g l = some (lst vs k0)) :
    ∀ (k j : Nat) (s : Shared) (vb : Value) (c : Nat) (oI : Obj), vs.length - (j + 1) = k → j + 1 ≤ vs.length → oI.cls = .type "list_iterator" ∧ oI.data = .fields #[.ref l, .int ((j + 1 : Nat) : Int) 0] → vs[argBest bt j]? = some vb →
    St w s₀ g₀ g L lc ((it, oI) :: (S, lst [vb, vb] c) :: own) s →
    (∀ v s', vs[argBest bt (vs.length - 1)]? = some v → St w s₀ g₀ g L lc own s' → R (.ok (.ret v)) s') →
    codeAny (model prog w) A (.builtin "max.loop" ⟨[.ref it, .none, .ref S], []⟩) R s := by
  have hname : (toString "max" ++ toString ".loop" : String) = "max.loop" := by decide
  intro k
  induction k with
  | zero =>
    intro j s vb c oI hk hj hI hPb X hR
    have hin : j + 1 = vs.length := by omega
    refine codeAny_builtin PySem.F.entry_max_loop ?_
    rw [Around.under_plainId PySem.F.plain_max_loop _]
    show wpAny _ A.in1 (seqItems? (.ref S) >>= _) _ _ s
    refine wpAny_bind (wpAny_seqItems (X.ob (S, lst [vb, vb] c) (.tail _ (.head _))) rfl ?_)
    show wpAny _ A.in1 (tryCatch (pyNext (.ref it)) _ >>= _) _ _ s
    refine wpAny_bind (wpAny_tryCatch (wpAny_pyNext_list_end (show A.in1.handled = none from hA.1) (listIter_of (X.ob (it, oI) (.head _)) hI.1 hI.2) ⟨_, X.at hl, rfl, k0, rfl⟩ (by simp; omega) fun h' hx => ?_))
    have X1 := X.lose (s' := { s with heap := h' }) hx rfl rfl
    have hS' := X1.ob (S, lst [vb, vb] c) (.head _)
    show wpAny _ A.in1 (updateSeq S (fun _ => #[]) >>= _) _ _ _
    refine wpAny_bind ?_
    refine wpAny_updateSeq hS' rfl (wpAny_bind (wpAny_letGo (wpAny_pure ?_)))
    exact hR vb _ (by rw [← hin]; exact hPb) (X1.lose (s' := { s with heap := h'.update S (Obj.mapSeq fun _ => #[]), toks := s.toks }) (fun b o hb e => (Heap.get?_update_other _ _ (Ne.symm hb)).trans e) rfl rfl)
  | succ k ih =>
    intro j s vb c oI hk hj hI hPb X hR
    have hlt : j + 1 < vs.length := by omega
    refine codeAny_builtin PySem.F.entry_max_loop ?_
    rw [Around.under_plainId PySem.F.plain_max_loop _]
    show wpAny _ A.in1 (seqItems? (.ref S) >>= _) _ _ s
    refine wpAny_bind (wpAny_seqItems (X.ob (S, lst [vb, vb] c) (.tail _ (.head _))) rfl ?_)
    show wpAny _ A.in1 (tryCatch (pyNext (.ref it)) _ >>= _) _ _ s
    refine wpAny_bind (wpAny_tryCatch (wpAny_pyNext_list_item (listIter_of (X.ob (it, oI) (.head _)) hI.1 hI.2) ⟨_, X.at hl, rfl, k0, rfl⟩ (x := vs[j + 1]) (by simp [hlt]) fun h' hit' hs' => ?_))
    obtain ⟨oI', e1, hc', hd'⟩ := hit'
    have X1 : St w s₀ g₀ g L lc ((it, oI') :: (S, lst [vb, vb] c) :: own) { s with heap := h' } := X.upd hs' e1 rfl rfl
    have hS' := X1.ob (S, lst [vb, vb] c) (.tail _ (.head _))
    have hvj : vs[j + 1]? = some vs[j + 1] := by simp [hlt]
    show wpAny _ A.in1 (tryCatch (holding [vs[j + 1], vs[j + 1]] (richCompare .Gt vs[j + 1] vb >>= _)) _ >>= _) _ _ _
    refine wpAny_bind (wpAny_tryCatch (wpAny_holding (wpAny_bind (hcmp (j + 1) (argBest bt j) _ vb _ _ _ _ _ hvj hPb (show AOk A.in1 (n + 1) from hA.in1) X1.sub ?_))))
    refine wpAny_bind (wpAny_holding (wpAny_truthy_bool ?_))
    refine wpAny_bind (wpAny_letGo (wpAny_pure ?_))
    cases hb : bt (j + 1) (argBest bt j) with
    | true =>
      simp only [if_true]
      refine wpAny_bind ?_
      refine wpAny_updateSeq hS' rfl (wpAny_bind (wpAny_letGo ?_))
      rw [hname]
      refine wpAny_pure ⟨plainId_quiet PySem.F.plain_max_loop _, ih (j + 1) _ vs[j + 1] _ oI' (by omega) hlt ⟨hc', hd'⟩ (by simp only [argBest, hb, if_true]; exact hvj) (X1.swap.upd (s' := { s with heap := h'.update S (Obj.mapSeq fun _ => #[vs[j + 1], vs[j + 1]]), toks := s.toks }) (Heap.SameBut.update ..) (Heap.get?_update_self _ hS' rfl) rfl rfl).swap hR⟩
    | false =>
      simp only [Bool.false_eq_true, if_false]
      refine wpAny_bind (wpAny_letGo ?_)
      rw [hname]
      exact wpAny_pure ⟨plainId_quiet PySem.F.plain_max_loop _, ih (j + 1) _ vb c oI' (by omega) hlt ⟨hc', hd'⟩ (by simp only [argBest, hb, Bool.false_eq_true, if_false]; exact hPb) X1 hR⟩
/-- max of a list that the base holds -/
theorem r_max {l : Addr} {vs : List Value} {k0 : Nat} {Q : Value → Shared → Prop} (bt : Nat → Nat → Bool) (hA : AOk A (n + 4)) (hcmp : CmpH prog w .Gt g vs bt) (X : St w s₀ g₀ g L lc own s) (hl : g l = some (lst vs k0)) (hne : vs ≠ [])
    (h : ∀ v s', vs[argBest bt (vs.length - 1)]? = some v → St w s₀ g₀ g L lc own s' → Q v s') : wpAny (model prog w) A (call (.builtin "max") [.ref l]) Q E s := by
  have hname : (toString "max" ++ toString ".loop" : String) = "max.loop" := by decide
  have hpos : 0 < vs.length := List.length_pos_iff.mpr hne
  refine call_function_tree PySem.F.kind_max PySem.F.plain_max PySem.F.entry_max (PySem.F.args_max1 _) ?_
  show wpAny _ A.in1 (Builtin.Builtins.bindParams "max" ["key", "default"] 0 ⟨[], []⟩ >>= _) _ _ s
  refine wpAny_bind (wpAny_of_eq (show Builtin.Builtins.bindParams "max" ["key", "default"] 0 ⟨[], []⟩ = pure [none, none] from rfl) ?_)
  refine wpAny_bind (wpAny_pure ?_)
  refine wpAny_bind (wpAny_pyIter_list ⟨_, X.at hl, rfl, k0, rfl⟩ ?_)
  have X1 := X.alloc (o := { cls := .type "list_iterator", data := .fields #[.ref l, .int 0 0] }) (t := s.toks) rfl
  generalize s.heap.objs.size = it at X1 ⊢
  refine wpAny_bind (wpAny_newObj_type ?_)
  have X2 := X1.alloc (o := lst [] 0) (t := s.toks) rfl
  dsimp only at X2 ⊢
  generalize hS : (s.heap.push { cls := .type "list_iterator", data := .fields #[.ref l, .int 0 0] }).objs.size = S at X2 ⊢
  rw [hname]
  refine wpAny_pure ⟨plainId_quiet PySem.F.plain_max_loop _, ?_⟩
  refine codeAny_builtin PySem.F.entry_max_loop ?_
  rw [Around.under_plainId PySem.F.plain_max_loop _]
  show wpAny _ A.in1 (seqItems? (.ref S) >>= _) _ _ _
  refine wpAny_bind (wpAny_seqItems (X2.ob (S, lst [] 0) (.head _)) rfl ?_)
  show wpAny _ A.in1 (tryCatch (pyNext (.ref it)) _ >>= _) _ _ _
  have X3 := X2.swap
  refine wpAny_bind (wpAny_tryCatch (wpAny_pyNext_list_item (i := 0) (listIter_of (X3.ob _ (.head _)) rfl rfl) ⟨_, X3.at hl, rfl, k0, rfl⟩ (x := vs[0]) (by simp [hpos]) fun h' hit' hs' => ?_))
  obtain ⟨oI', e1, hc', hd'⟩ := hit'
  have X4 := X3.upd hs' e1 rfl rfl (s' := { heap := h', gens := s.gens, drawn := s.drawn, toks := s.toks, os := s.os })
  have hS' := X4.ob (S, lst [] 0) (.tail _ (.head _))
  show wpAny _ A.in1 (updateSeq S (fun _ => #[vs[0], vs[0]]) >>= _) _ _ _
  refine wpAny_bind ?_
  refine wpAny_updateSeq hS' rfl ?_
  rw [hname]
  refine wpAny_pure ⟨plainId_quiet PySem.F.plain_max_loop _, max_loop (n := n + 1) bt (show AOk A (n + 3) from hA.less (by omega)) hcmp hl _ 0 _ vs[0] _ oI' rfl hpos ⟨hc', hd'⟩ (by simp [argBest, hpos]) (X4.swap.upd (s' := { heap := h'.update S (Obj.mapSeq fun _ => #[vs[0], vs[0]]), gens := s.gens, drawn := s.drawn, toks := s.toks, os := s.os }) (Heap.SameBut.update ..) (Heap.get?_update_self _ hS' rfl) rfl rfl).swap fun v s' hv X' => ?_⟩
  exact h v s' hv X'

theorem min_loop {it l S : Addr} {vs : List Value} {k0 : Nat} {g : Hp} {R : Result → Shared → Prop} (bt : Nat → Nat → Bool) (hA : AOk A (n + 2)) (hcmp : CmpH prog w .Lt g vs bt) (hl : g l = some (lst vs k0)) :
    ∀ (k j : Nat) (s : Shared) (vb : Value) (c : Nat) (oI : Obj), vs.length - (j + 1) = k → j + 1 ≤ vs.length → oI.cls = .type "list_iterator" ∧ oI.data = .fields #[.ref l, .int ((j + 1 : Nat) : Int) 0] → vs[argBest bt j]? = some vb →
    St w s₀ g₀ g L lc ((it, oI) :: (S, lst [vb, vb] c) :: own) s →
    (∀ v s', vs[argBest bt (vs.length - 1)]? = some v → St w s₀ g₀ g L lc own s' → R (.ok (.ret v)) s') →
    codeAny (model prog w) A (.builtin "min.loop" ⟨[.ref it, .none, .ref S], []⟩) R s := by
  have hname : (toString "min" ++ toString ".loop" : String) = "min.loop" := by decide
  intro k
  induction k with
  | zero =>
    intro j s vb c oI hk hj hI hPb X hR
    have hin : j + 1 = vs.length := by omega
    refine codeAny_builtin PySem.F.entry_min_loop ?_
    rw [Around.under_plainId PySem.F.plain_min_loop _]
    show wpAny _ A.in1 (seqItems? (.ref S) >>= _) _ _ s
    refine wpAny_bind (wpAny_seqItems (X.ob (S, lst [vb, vb] c) (.tail _ (.head _))) rfl ?_)
    show wpAny _ A.in1 (tryCatch (pyNext (.ref it)) _ >>= _) _ _ s
    refine wpAny_bind (wpAny_tryCatch (wpAny_pyNext_list_end (show A.in1.handled = none from hA.1) (listIter_of (X.ob (it, oI) (.head _)) hI.1 hI.2) ⟨_, X.at hl, rfl, k0, rfl⟩ (by simp; omega) fun h' hx => ?_))
    have X1 := X.lose (s' := { s with heap := h' }) hx rfl rfl
    have hS' := X1.ob (S, lst [vb, vb] c) (.head _)
    show wpAny _ A.in1 (updateSeq S (fun _ => #[]) >>= _) _ _ _
    refine wpAny_bind ?_
    refine wpAny_updateSeq hS' rfl (wpAny_bind (wpAny_letGo (wpAny_pure ?_)))
    exact hR vb _ (by rw [← hin]; exact hPb) (X1.lose (s' := { s with heap := h'.update S (Obj.mapSeq fun _ => #[]), toks := s.toks }) (fun b o hb e => (Heap.get?_update_other _ _ (Ne.symm hb)).trans e) rfl rfl)
  | succ k ih =>
    intro j s vb c oI hk hj hI hPb X hR
    have hlt : j + 1 < vs.length := by omega
    refine codeAny_builtin PySem.F.entry_min_loop ?_
    rw [Around.under_plainId PySem.F.plain_min_loop _]
    show wpAny _ A.in1 (seqItems? (.ref S) >>= _) _ _ s
    refine wpAny_bind (wpAny_seqItems (X.ob (S, lst [vb, vb] c) (.tail _ (.head _))) rfl ?_)
    show wpAny _ A.in1 (tryCatch (pyNext (.ref it)) _ >>= _) _ _ s
    refine wpAny_bind (wpAny_tryCatch (wpAny_pyNext_list_item (listIter_of (X.ob (it, oI) (.head _)) hI.1 hI.2) ⟨_, X.at hl, rfl, k0, rfl⟩ (x := vs[j + 1]) (by simp [hlt]) fun h' hit' hs' => ?_))
    obtain ⟨oI', e1, hc', hd'⟩ := hit'
    have X1 : St w s₀ g₀ g L lc ((it, oI') :: (S, lst [vb, vb] c) :: own) { s with heap := h' } := X.upd hs' e1 rfl rfl
    have hS' := X1.ob (S, lst [vb, vb] c) (.tail _ (.head _))
    have hvj : vs[j + 1]? = some vs[j + 1] := by simp [hlt]
    show wpAny _ A.in1 (tryCatch (holding [vs[j + 1], vs[j + 1]] (richCompare .Lt vs[j + 1] vb >>= _)) _ >>= _) _ _ _
    refine wpAny_bind (wpAny_tryCatch (wpAny_holding (wpAny_bind (hcmp (j + 1) (argBest bt j) _ vb _ _ _ _ _ hvj hPb (show AOk A.in1 (n + 1) from hA.in1) X1.sub ?_))))
    refine wpAny_bind (wpAny_holding (wpAny_truthy_bool ?_))
    refine wpAny_bind (wpAny_letGo (wpAny_pure ?_))
    cases hb : bt (j + 1) (argBest bt j) with
    | true =>
      simp only [if_true]
      refine wpAny_bind ?_
      refine wpAny_updateSeq hS' rfl (wpAny_bind (wpAny_letGo ?_))
      rw [hname]
      refine wpAny_pure ⟨plainId_quiet PySem.F.plain_min_loop _, ih (j + 1) _ vs[j + 1] _ oI' (by omega) hlt ⟨hc', hd'⟩ (by simp only [argBest, hb, if_true]; exact hvj) (X1.swap.upd (s' := { s with heap := h'.update S (Obj.mapSeq fun _ => #[vs[j + 1], vs[j + 1]]), toks := s.toks }) (Heap.SameBut.update ..) (Heap.get?_update_self _ hS' rfl) rfl rfl).swap hR⟩
    | false =>
      simp only [Bool.false_eq_true, if_false]
      refine wpAny_bind (wpAny_letGo ?_)
      rw [hname]
      exact wpAny_pure ⟨plainId_quiet PySem.F.plain_min_loop _, ih (j + 1) _ vb c oI' (by omega) hlt ⟨hc', hd'⟩ (by simp only [argBest, hb, Bool.false_eq_true, if_false]; exact hPb) X1 hR⟩
/-- min of a list that the base holds -/
theorem r_min {l : Addr} {vs : List Value} {k0 : Nat} {Q : Value → Shared → Prop} (bt : Nat → Nat → Bool) (hA : AOk A (n + 4)) (hcmp : CmpH prog w .Lt g vs bt) (X : St w s₀ g₀ g L lc own s) (hl : g l = some (lst vs k0)) (hne : vs ≠ [])
    (h : ∀ v s', vs[argBest bt (vs.length - 1)]? = some v → St w s₀ g₀ g L lc own s' → Q v s') : wpAny (model prog w) A (call (.builtin "min") [.ref l]) Q E s := by
  have hname : (toString "min" ++ toString ".loop" : String) = "min.loop" := by decide
  have hpos : 0 < vs.length := List.length_pos_iff.mpr hne
  refine call_function_tree PySem.F.kind_min PySem.F.plain_min PySem.F.entry_min (PySem.F.args_min1 _) ?_
  show wpAny _ A.in1 (Builtin.Builtins.bindParams "min" ["key", "default"] 0 ⟨[], []⟩ >>= _) _ _ s
  refine wpAny_bind (wpAny_of_eq (show Builtin.Builtins.bindParams "min" ["key", "default"] 0 ⟨[], []⟩ = pure [none, none] from rfl) ?_)
  refine wpAny_bind (wpAny_pure ?_)
  refine wpAny_bind (wpAny_pyIter_list ⟨_, X.at hl, rfl, k0, rfl⟩ ?_)
  have X1 := X.alloc (o := { cls := .type "list_iterator", data := .fields #[.ref l, .int 0 0] }) (t := s.toks) rfl
  generalize s.heap.objs.size = it at X1 ⊢
  refine wpAny_bind (wpAny_newObj_type ?_)
  have X2 := X1.alloc (o := lst [] 0) (t := s.toks) rfl
  dsimp only at X2 ⊢
  generalize hS : (s.heap.push { cls := .type "list_iterator", data := .fields #[.ref l, .int 0 0] }).objs.size = S at X2 ⊢
  rw [hname]
  refine wpAny_pure ⟨plainId_quiet PySem.F.plain_min_loop _, ?_⟩
  refine codeAny_builtin PySem.F.entry_min_loop ?_
  rw [Around.under_plainId PySem.F.plain_min_loop _]
  show wpAny _ A.in1 (seqItems? (.ref S) >>= _) _ _ _
  refine wpAny_bind (wpAny_seqItems (X2.ob (S, lst [] 0) (.head _)) rfl ?_)
  show wpAny _ A.in1 (tryCatch (pyNext (.ref it)) _ >>= _) _ _ _
  have X3 := X2.swap
  refine wpAny_bind (wpAny_tryCatch (wpAny_pyNext_list_item (i := 0) (listIter_of (X3.ob _ (.head _)) rfl rfl) ⟨_, X3.at hl, rfl, k0, rfl⟩ (x := vs[0]) (by simp [hpos]) fun h' hit' hs' => ?_))
  obtain ⟨oI', e1, hc', hd'⟩ := hit'
  have X4 := X3.upd hs' e1 rfl rfl (s' := { heap := h', gens := s.gens, drawn := s.drawn, toks := s.toks, os := s.os })
  have hS' := X4.ob (S, lst [] 0) (.tail _ (.head _))
  show wpAny _ A.in1 (updateSeq S (fun _ => #[vs[0], vs[0]]) >>= _) _ _ _
  refine wpAny_bind ?_
  refine wpAny_updateSeq hS' rfl ?_
  rw [hname]
  refine wpAny_pure ⟨plainId_quiet PySem.F.plain_min_loop _, min_loop (n := n + 1) bt (show AOk A (n + 3) from hA.less (by omega)) hcmp hl _ 0 _ vs[0] _ oI' rfl hpos ⟨hc', hd'⟩ (by simp [argBest, hpos]) (X4.swap.upd (s' := { heap := h'.update S (Obj.mapSeq fun _ => #[vs[0], vs[0]]), gens := s.gens, drawn := s.drawn, toks := s.toks, os := s.os }) (Heap.SameBut.update ..) (Heap.get?_update_self _ hS' rfl) rfl rfl).swap fun v s' hv X' => ?_⟩
  exact h v s' hv X'
end
end Mine
end
section
open PySem PySem.W PySem.Calls PyProof.Rows
set_option maxRecDepth 100000
set_option linter.unusedSimpArgs false
set_option linter.unusedVariables false
namespace Mine
section
variable {prog : Program} {w : World} {A : Around} {s₀ s s' : Shared} {g₀ g g' : Hp} {L : Addr} {lc lc' : List (Str × Value)} {own own' : List (Addr × Obj)} {E : Value → Shared → Prop} {env : Env} {n : Nat}
noncomputable abbrev enumO (it : Addr) (i : Int) (old : Value) : Obj := { cls := .type "enumerate", dict := none, data := .fields #[.none, .bool false, .ref it, rawInt i, .none, old], slots := #[] }
/-- fresh objects go onto the own ones -/
theorem St.news (S : St w s₀ g₀ g L lc own s) (pick : List (Addr × Obj)) (hk : ∀ b o, s.heap.get? b = some o → s'.heap.get? b = some o) (hp : ∀ p ∈ pick, s'.heap.get? p.1 = some p.2 ∧ s.heap.get? p.1 = none) (hd : (pick.map (·.1)).Nodup) (hg : s'.gens = s.gens) (ho : s'.os = s.os) :
    St w s₀ g₀ g L lc (pick ++ own) s' := by
  refine S.step (fun b o _ e => hk b o e) hg ho ?_ ?_ ?_ ?_
  · obtain ⟨o, es, ep, e, r⟩ := S.ns; exact ⟨o, es, ep, hk _ _ e, r⟩
  · intro p hq
    rcases List.mem_append.mp hq with hq | hq
    · exact (hp p hq).1
    · exact hk _ _ (S.ob p hq)
  · have hn := S.nd
    have there : ∀ b ∈ L :: own.map (·.1), ∃ o, s.heap.get? b = some o := fun b hb => by
      rcases List.mem_cons.mp hb with rfl | hb
      · obtain ⟨o, _, _, e, _⟩ := S.ns; exact ⟨o, e⟩
      · obtain ⟨p, hp, rfl⟩ := List.mem_map.mp hb; exact ⟨p.2, S.ob p hp⟩
    have hdis : ∀ b ∈ pick.map (·.1), b ∉ L :: own.map (·.1) := fun b hb hb' => by
      obtain ⟨p, hq, rfl⟩ := List.mem_map.mp hb
      obtain ⟨o, e⟩ := there _ hb'
      rw [(hp p hq).2] at e; cases e
    rw [List.map_append]
    have := List.nodup_append.mpr ⟨hd, hn, fun a ha b hb e => hdis a ha (e ▸ hb)⟩
    exact (List.perm_middle.nodup_iff).mp this
  · intro b hb
    rw [List.map_append] at hb
    rcases List.mem_append.mp hb with hb | hb
    · obtain ⟨p, hq, rfl⟩ := List.mem_map.mp hb; exact .inr (hp p hq).2
    · exact .inl hb
theorem nsize (s : Shared) (k : Nat) : s.heap.get? (s.heap.objs.size + k) = none := by
  cases e : s.heap.get? (s.heap.objs.size + k) with
  | none => rfl
  | some o => exact absurd (Heap.lt_size e) (Nat.not_lt.mpr (Nat.le_add_right _ _))
theorem r_enum {l : Addr} {vs : List Value} {k : Nat} {Q : Value → Shared → Prop} (S : St w s₀ g₀ g L lc own s) (hl : s.heap.get? l = some (lst vs k))
    (h : ∀ e it oI s', oI.cls = .type "list_iterator" ∧ oI.data = .fields #[.ref l, .int ((0 : Nat) : Int) 0] → St w s₀ g₀ g L lc ((it, oI) :: (e, enumO it ((0 : Nat) : Int) .none) :: own) s' → Q (.ref e) s') : wpAny (model prog w) A (call (.type "enumerate") [.ref l]) Q E s := by
  refine call_enumerate_list ⟨_, hl, rfl, k, rfl⟩ fun h' he hit hz hk => ?_
  obtain ⟨oI, e1, hc, hd⟩ := hit
  refine h _ _ oI _ ⟨hc, hd⟩ (S.news (s' := { s with heap := h' }) [(s.heap.objs.size, oI), (s.heap.objs.size + 1, enumO s.heap.objs.size ((0 : Nat) : Int) .none)] hk ?_ (by simp) rfl rfl)
  intro p hp
  simp only [List.mem_cons, List.not_mem_nil, or_false] at hp
  rcases hp with rfl | rfl
  · exact ⟨e1, nsize s 0⟩
  · exact ⟨he, nsize s 1⟩
theorem pyIter_enum {e it : Addr} {i : Int} {old : Value} {Q : Value → Shared → Prop} (he : s.heap.get? e = some (enumO it i old)) (h : Q (.ref e) s) : wpAny (model prog w) A (pyIter (.ref e)) Q E s := by
  have hT : s.TypeIs (.ref e) "enumerate" := ⟨_, he, rfl⟩
  refine wpAny_pyIter_slot hT PySem.F.slot_enumerate_iter (wpAny_call_entry PySem.F.slot_enumerate_iter hT PySem.F.entry_enumerate_iter ?_ (PySem.F.args_enumerate_iter_1 _))
  show wpAny _ _ (ret (.ref e)) _ _ s
  exact wpAny_pure ⟨_, rfl, "enumerate", _, hT, PySem.F.slot_enumerate_next.lookup, h⟩
/-- a loop over enumerate of a list that the base holds -/
theorem r_forE {elts : List Expr} {kk : Nat} {tp : Pos} {body : List Stmt} {e it l : Addr} {oI₀ : Obj} {vs : List Value} {nn : Nat} {Q : Flow → Shared → Prop} (J : Nat → Hp → List (Str × Value) → List (Addr × Obj) → Prop)
    (hA : AOk A n) (S : St w s₀ g₀ g L lc ((it, oI₀) :: (e, enumO it ((0 : Nat) : Int) .none) :: own) s) (hI : oI₀.cls = .type "list_iterator" ∧ oI₀.data = .fields #[.ref l, .int ((0 : Nat) : Int) 0]) (hl : g l = some (lst vs nn)) (h0 : J 0 g lc own)
    (hn : (assignEach elts env).length = 2) (hstar : (assignEach elts env).findIdx? (·.1) = none)
    (turn : ∀ (i : Nat) v tk g' lc' own' oI oE s', vs[i]? = some v → Le g g' → J i g' lc' own' → St w s₀ g₀ g' L lc' ((it, oI) :: (e, oE) :: own') s' →
      InOrd prog w A env elts [.int i tk, v] (fun _ s₂ => wpAny (model prog w) A (execs body env) (fun f s₃ => match f with
        | .next | .cont => ∃ g'' lc'' own'', Le g' g'' ∧ J (i + 1) g'' lc'' own'' ∧ St w s₀ g₀ g'' L lc'' ((it, oI) :: (e, oE) :: own'') s₃
        | .brk => Q .next s₃
        | .ret v => Q (.ret v) s₃) F0 s₂) F0 s')
    (done : ∀ g' lc' own' s', Le g g' → J vs.length g' lc' own' → St w s₀ g₀ g' L lc' own' s' → Q .next s') :
    wpAny (model prog w) A (pyIter (.ref e)) (fun it' s₂ => codeAny (model prog w) A (.forLoop (.Tuple elts kk tp) it' body [] env) (fun r s' => match r with | .ok f => Q f s' | .error x => cameBackBy (model prog w) A env E x s') s₂) E s := by
  refine pyIter_enum (S.ob _ (.tail _ (.head _))) ?_
  refine codeAny_forLoop_any (fun k s' => ∃ i g' lc' own' oI old, k = vs.length - i ∧ i ≤ vs.length ∧ Le g g' ∧ J i g' lc' own' ∧ St w s₀ g₀ g' L lc' ((it, oI) :: (e, enumO it ((i : Nat) : Int) old) :: own') s' ∧ oI.cls = .type "list_iterator" ∧ oI.data = .fields #[.ref l, .int i 0]) ?_ vs.length
    ⟨0, g, lc, own, _, _, rfl, Nat.zero_le _, Le.refl g, h0, S, hI.1, hI.2⟩
  rintro k s' ⟨i, g', lc', own', oI, old, rfl, hi, lg, hJ, S', hc, hd⟩
  have hli : s'.heap.IsList l vs.toArray := ⟨_, S'.sub _ _ (lg _ _ hl), rfl, nn, rfl⟩
  have hit : s'.heap.IsListIter it l i := ⟨oI, S'.ob (it, oI) (.head _), hc, hd⟩
  have he : IsEnum s'.heap e it i old := S'.ob (e, enumO it ((i : Nat) : Int) old) (.tail _ (.head _))
  have hne : e ≠ it := fun q => S'.names_ne q.symm
  by_cases hlt : i < vs.length
  · have hx : vs.toArray[i]? = some vs[i] := by simp [hlt]
    refine wpAny_pyNext_enum_item he hit hli hx hne fun h' he1 hit1 hT1 hz1 hk1 => ?_
    obtain ⟨oI', e1, hc', hd'⟩ := hit1
    dsimp only
    refine wpAny_letOwnedTupleGo_enum he1 fun h2 he2 hs2 => ?_
    have hn0 := S'.nd
    simp only [List.map_cons, List.nodup_cons, List.mem_cons, not_or] at hn0
    have hTn : s'.heap.get? s'.heap.objs.size = none := nsize s' 0
    have hlte : ∀ b o, s'.heap.get? b = some o → b ≠ s'.heap.objs.size := fun b o q => Nat.ne_of_lt (Heap.lt_size q)
    have hTe : s'.heap.objs.size ≠ e := fun q => hlte e _ he q.symm
    have hTi : s'.heap.objs.size ≠ it := fun q => hlte it _ (S'.ob (it, oI) (.head _)) q.symm
    have e12 : h2.get? it = some oI' := (hs2.2 it hne.symm).trans e1
    have hT2 : h2.get? s'.heap.objs.size = some (tup [.int i s'.toks, vs[i]]) := (hs2.2 _ hTe).trans hT1
    have hkk : ∀ b o, b ≠ e → b ≠ it → s'.heap.get? b = some o → h2.get? b = some o := fun b o h1 h3 q => (hs2.2 b h1).trans (hk1 b o h1 h3 q)
    have he2' : h2.get? e = some (enumO it (((i + 1 : Nat) : Nat) : Int) vs[i]) := he2
    have S2 : St w s₀ g₀ g' L lc' ((s'.heap.objs.size, tup [.int i s'.toks, vs[i]]) :: (it, oI') :: (e, enumO it (((i + 1 : Nat) : Nat) : Int) vs[i]) :: own') { s' with heap := h2, toks := s'.toks + 1 } := by
      refine S'.step (fun b o hb q => hkk b o (fun q2 => hb (q2 ▸ .tail _ (.tail _ (.head _)))) (fun q2 => hb (q2 ▸ .tail _ (.head _))) q) rfl rfl ?_ ?_ ?_ ?_
      · obtain ⟨o, es, ep, q, r⟩ := S'.ns
        exact ⟨o, es, ep, hkk _ _ (fun q2 => hn0.1.2.1 q2) (fun q2 => hn0.1.1 q2) q, r⟩
      · intro p hp
        rcases List.mem_cons.mp hp with rfl | hp
        · exact hT2
        · rcases List.mem_cons.mp hp with rfl | hp
          · exact e12
          · rcases List.mem_cons.mp hp with rfl | hp
            · exact he2'
            · have hm : p.1 ∈ own'.map (·.1) := List.mem_map_of_mem hp
              exact hkk _ _ (fun q2 => hn0.2.2.1 (q2 ▸ hm)) (fun q2 => hn0.2.1.2 (q2 ▸ hm)) (S'.ob p (.tail _ (.tail _ hp)))
      · have hL : L ≠ s'.heap.objs.size := by obtain ⟨o, _, _, q, _⟩ := S'.ns; exact hlte _ _ q
        have ho : s'.heap.objs.size ∉ own'.map (·.1) := fun hm => by
          obtain ⟨p, hp, q⟩ := List.mem_map.mp hm
          exact hlte _ _ (S'.ob p (.tail _ (.tail _ hp))) q
        simp only [List.map_cons, List.nodup_cons, List.mem_cons, not_or]
        exact ⟨⟨hL, hn0.1⟩, ⟨hTi, hTe, ho⟩, hn0.2⟩
      · intro b hb
        rcases List.mem_cons.mp hb with hb | hb
        · exact .inr (by rw [show b = s'.heap.objs.size from hb]; exact hTn)
        · exact .inl hb
    have hv : vs[i]? = some vs[i] := by simp [hlt]
    refine no_err (r_asgnT (vs := [.int i s'.toks, vs[i]]) S2 hA (S2.ob _ (.head _)) hn hstar fun s3 S3 => ?_)
    refine wpAny_mono (turn i _ _ g' lc' own' oI' _ _ hv lg hJ S3.drop) (fun _ s₂ h₂ => ?_) fun _ _ z => z
    refine no_err (wpAny_mono h₂ (fun f s₃ h₃ => ?_) fun _ _ z => z)
    cases f with
    | next =>
      obtain ⟨g'', lc'', own'', lg', hJ', S3⟩ := h₃
      exact ⟨vs.length - (i + 1), by omega, i + 1, g'', lc'', own'', oI', _, rfl, hlt, lg.trans lg', hJ', S3, hc', hd'⟩
    | cont =>
      obtain ⟨g'', lc'', own'', lg', hJ', S3⟩ := h₃
      exact ⟨vs.length - (i + 1), by omega, i + 1, g'', lc'', own'', oI', _, rfl, hlt, lg.trans lg', hJ', S3, hc', hd'⟩
    | brk => exact h₃
    | ret v => exact h₃
  · obtain rfl : i = vs.length := Nat.le_antisymm hi (Nat.not_lt.mp hlt)
    refine wpAny_pyNext_enum_end hA.1 he hit hli (by simp) fun h' hx' => ?_
    exact wpAny_execs_nil (done g' lc' own' _ lg hJ (S'.lose (s' := { s' with heap := h' }) hx' rfl rfl).drop)
/-- a loop in a row of statements, cut after it -/
theorem r_consF {target iter : Expr} {body orelse rest : List Stmt} {pos : Pos} {Q : Flow → Shared → Prop} (Mid : Shared → Prop)
    (h1 : wpAny (model prog w) A (exec (.For target iter body orelse pos) env) (fun f s' => match f with | .next => Mid s' | f => Q f s') E s) (h2 : ∀ s', Mid s' → wpAny (model prog w) A (execs rest env) Q E s') :
    wpAny (model prog w) A (execs (.For target iter body orelse pos :: rest) env) Q E s :=
  r_cons (wpAny_mono h1 (fun f s' q => by cases f <;> first | exact h2 s' q | exact q) fun _ _ z => z)
theorem St.nameO (S : St w s₀ g₀ g L lc own s) : ∃ O, O = own ∧ St w s₀ g₀ g L lc O s := ⟨own, rfl, S⟩
end
end Mine
end
section
set_option linter.unusedSimpArgs false
set_option linter.unusedVariables false
namespace Mine
noncomputable def lcp : List (List Nat) → List (List Nat) → List (List Nat)
  | [], _ => []
  | _ :: _, [] => []
  | a :: p, b :: q => if a = b then a :: lcp p q else []
theorem lcp_comm : ∀ p q, lcp p q = lcp q p
  | [], [] => rfl
  | [], _ :: _ => rfl
  | _ :: _, [] => rfl
  | a :: p, b :: q => by
    unfold lcp
    by_cases h : a = b
    · subst h; simp [lcp_comm p q]
    · rw [if_neg h, if_neg (fun e => h e.symm)]
theorem nat_tri (x y : List Nat) (h : x ≠ y) : x < y ∨ y < x := by
  by_cases h1 : x < y
  · exact .inl h1
  · by_cases h2 : y < x
    · exact .inr h2
    · exact absurd (List.le_antisymm (List.not_lt.mp h2) (List.not_lt.mp h1)) h
theorem ltL_tri : ∀ p q, ltL p q = false → ltL q p = false → p = q
  | [], [], _, _ => rfl
  | [], _ :: _, h, _ => by simp [ltL] at h
  | _ :: _, [], _, h => by simp [ltL] at h
  | a :: p, b :: q, h, k => by
    by_cases e : a = b
    · subst e
      simp [ltL] at h k
      rw [ltL_tri p q h k]
    · have e' : ¬ b = a := fun q => e q.symm
      rw [ltL, if_neg e] at h
      rw [ltL, if_neg e'] at k
      rcases nat_tri a b e with h1 | h1
      · simp [h1] at h
      · simp [h1] at k
theorem nat_asymm (x y : List Nat) (h : x < y) : ¬ y < x := fun k => List.lt_asymm h k
theorem ltL_asymm : ∀ p q, ltL p q = true → ltL q p = false
  | [], [], h => by simp [ltL] at h
  | [], _ :: _, _ => rfl
  | _ :: _, [], h => by simp [ltL] at h
  | a :: p, b :: q, h => by
    by_cases e : a = b
    · subst e
      simp [ltL] at h ⊢
      exact ltL_asymm p q h
    · have e' : ¬ b = a := fun q => e q.symm
      rw [ltL, if_neg e] at h
      rw [ltL, if_neg e']
      simp at h ⊢
      exact List.le_of_lt h
theorem ltL_irrefl (p : List (List Nat)) : ltL p p = false := by
  induction p with
  | nil => rfl
  | cons a p ih => simp [ltL, ih]
theorem reach : ∀ (i : Nat) (p q : List (List Nat)), ltL q p = false → i < p.length → p.take i = q.take i → i < q.length
  | 0, p, q, h, hi, _ => by
    cases q with
    | nil => cases p with
      | nil => simp at hi
      | cons a p => simp [ltL] at h
    | cons b q => simp
  | i + 1, p, q, h, hi, ht => by
    cases p with
    | nil => simp at hi
    | cons a p =>
      cases q with
      | nil => simp at ht
      | cons b q =>
        simp at ht
        obtain ⟨rfl, ht⟩ := ht
        simp [ltL] at h
        have := reach i p q h (by simpa using hi) ht
        simpa using this
theorem lcp_stop : ∀ (i : Nat) (p q : List (List Nat)) (a b : List Nat), p.take i = q.take i → p[i]? = some a → q[i]? = some b → a ≠ b → lcp p q = p.take i
  | 0, p, q, a, b, _, ha, hb, hab => by
    cases p with
    | nil => simp at ha
    | cons x p => cases q with
      | nil => simp at hb
      | cons y q => simp at ha hb; subst ha hb; simp [lcp, hab]
  | i + 1, p, q, a, b, ht, ha, hb, hab => by
    cases p with
    | nil => simp at ha
    | cons x p => cases q with
      | nil => simp at hb
      | cons y q =>
        simp at ht ha hb
        obtain ⟨rfl, ht⟩ := ht
        simp [lcp, lcp_stop i p q a b ht ha hb hab]
theorem lcp_all : ∀ (p q : List (List Nat)), p = q.take p.length → lcp p q = p
  | [], _, _ => rfl
  | a :: p, [], h => by simp at h
  | a :: p, b :: q, h => by
    simp at h
    obtain ⟨rfl, h⟩ := h
    simp [lcp]
    exact lcp_all p q h
/-- what commonpath keeps of a path -/
noncomputable def clean (x : List Nat) : List (List Nat) := (splitL x).filter fun c => decide (c ≠ []) && decide (c ≠ [46])
theorem clean_slash (x : List Nat) : clean (47 :: x) = clean x := by simp [clean, splitL]
theorem clean_join {p : List (List Nat)} (h : Good p) : clean (joinL p) = p := by
  unfold clean
  cases p with
  | nil => simp [joinL, splitL]
  | cons a r =>
    rw [splitL_joinL _ (by simp) fun q hq => (h q hq).1, List.filter_eq_self]
    intro q hq
    have := h q hq
    simp [this.2.1, this.2.2.1]
theorem lcp_eq : ∀ (p q : List (List Nat)), lcp p q = p ↔ p = q.take p.length
  | [], _ => by simp [lcp]
  | a :: p, [] => by simp [lcp]
  | a :: p, b :: q => by
    unfold lcp
    by_cases e : a = b
    · subst e; simp [lcp_eq p q]
    · rw [if_neg e]; simp [e]
theorem joinL_inj {p q : List (List Nat)} (hp : Good p) (hq : Good q) (h : joinL p = joinL q) : p = q := by
  rw [← clean_join hp, ← clean_join hq, h]
theorem lcp_good {p q : List (List Nat)} (h : Good p) : Good (lcp p q) := by
  induction p generalizing q with
  | nil => exact h
  | cons a p ih =>
    cases q with
    | nil => intro x hx; simp [lcp] at hx
    | cons b q =>
      unfold lcp
      split
      · intro x hx
        rcases List.mem_cons.mp hx with rfl | hx
        · exact h _ (.head _)
        · exact ih (fun y hy => h y (.tail _ hy)) x hx
      · intro x hx; cases hx
theorem wt_filter (f : List Nat → Bool) (P : List (List Nat)) : wt (P.filter f) ≤ wt P := by
  induction P with
  | nil => simp
  | cons p r ih =>
    rw [List.filter_cons]
    split
    · rw [wt_cons, wt_cons]; omega
    · rw [wt_cons]; omega
theorem wt_lcp : ∀ p q, wt (lcp p q) ≤ wt p
  | [], _ => by simp [lcp]
  | _ :: _, [] => by simp [lcp, wt]
  | a :: p, b :: q => by
    have := wt_lcp p q
    unfold lcp
    split
    · rw [wt_cons, wt_cons]; omega
    · simp [wt]
theorem wt_clean (x : List Nat) : wt (clean x) ≤ x.length + 1 := by
  have := wt_filter (fun c => decide (c ≠ []) && decide (c ≠ [46])) (splitL x)
  rw [splitL_wt] at this
  exact this
end Mine
end
section
open PySem PySem.W PySem.Calls PyProof.Rows
set_option maxRecDepth 100000
set_option linter.unusedSimpArgs false
set_option linter.unusedVariables false
namespace Mine
section
variable {prog : Program} {w : World} {n : Nat}
theorem r_truT {A : Around} {E : Value → Shared → Prop} {s₀ s : Shared} {g₀ g : Hp} {L : Addr} {lc : List (Str × Value)} {own : List (Addr × Obj)} {t : Addr} {vs : List Value} {k : Nat} {Q : Bool → Shared → Prop} (S : St w s₀ g₀ g L lc own s) (hl : s.heap.get? t = some { cls := .type "tuple", data := .seq vs.toArray k }) (hsz : vs.length ≤ sizeLine) (h : ∀ s', St w s₀ g₀ g L lc own s' → Q (!vs.isEmpty) s') : wpAny (model prog w) A (truthy (.ref t)) Q E s := by
  refine truthy_tuple (items := vs.toArray) ⟨_, hl, rfl, k, rfl⟩ (by have : sizeLine = 16777216 := rfl; simp; omega) ?_
  have := h _ (S.toks (t := s.toks + 1 + 1))
  simpa using this
theorem St.reown {s₀ s : Shared} {g₀ g : Hp} {L : Addr} {lc : List (Str × Value)} {own own' : List (Addr × Obj)} (S : St w s₀ g₀ g L lc own s) (h : own = own') : St w s₀ g₀ g L lc own' s := h ▸ S
theorem St.relc {s₀ s : Shared} {g₀ g : Hp} {L : Addr} {lc lc' : List (Str × Value)} {own : List (Addr × Obj)} (S : St w s₀ g₀ g L lc own s) (h : lc = lc') : St w s₀ g₀ g L lc' own s := h ▸ S
/-- a list of references to lists of texts -/
inductive Lol (g : Hp) : List Value → List (List (List Nat)) → Prop
  | nil : Lol g [] []
  | cons {a vs k P ys Ps} : g a = some (lst vs k) → StrsAre vs (P.map mk) → Lol g ys Ps → Lol g (.ref a :: ys) (P :: Ps)
theorem Lol.mono {g g' : Hp} {ys : List Value} {Ps : List (List (List Nat))} (h : Lol g ys Ps) (l : Le g g') : Lol g' ys Ps := by
  induction h with
  | nil => exact .nil
  | cons e s _ ih => exact .cons (l _ _ e) s ih
theorem Lol.snoc {g : Hp} {ys : List Value} {Ps : List (List (List Nat))} {a : Addr} {vs : List Value} {k : Nat} {P : List (List Nat)} (h : Lol g ys Ps) (e : g a = some (lst vs k)) (s : StrsAre vs (P.map mk)) : Lol g (ys ++ [.ref a]) (Ps ++ [P]) := by
  induction h with
  | nil => exact .cons e s .nil
  | cons e' s' _ ih => exact .cons e' s' ih
theorem Lol.length {g : Hp} {ys : List Value} {Ps : List (List (List Nat))} (h : Lol g ys Ps) : ys.length = Ps.length := by
  induction h with
  | nil => rfl
  | cons _ _ _ ih => simp [ih]
theorem Lol.at {g : Hp} {ys : List Value} {Ps : List (List (List Nat))} (h : Lol g ys Ps) {i : Nat} {v : Value} (hv : ys[i]? = some v) : ∃ a vs k P, v = .ref a ∧ Ps[i]? = some P ∧ g a = some (lst vs k) ∧ StrsAre vs (P.map mk) := by
  induction h generalizing i with
  | nil => simp at hv
  | cons e s _ ih =>
    cases i with
    | zero => simp at hv; exact ⟨_, _, _, _, hv.symm, by simp, e, s⟩
    | succ i => simp at hv; obtain ⟨a, vs, k, P, h1, h2, h3⟩ := ih hv; exact ⟨a, vs, k, P, h1, by simpa using h2, h3⟩
theorem are_take {vs : List Value} {ys : List Str} (h : StrsAre vs ys) (i : Nat) : StrsAre (vs.take i) (ys.take i) := by
  induction h generalizing i with
  | nil => simp; exact .nil
  | cons y t r ih =>
    cases i with
    | zero => exact .nil
    | succ i => exact .cons _ _ (ih i)
set_option maxHeartbeats 8000000 in
theorem c_commonpath (x y : List Nat) (t u : Tok) (l : Addr) (hx : x.length ≤ 900) (hy : y.length ≤ 900) : Fn prog w (.ref 183) (n + 12) [.ref l] (fun g _ => g l = some (lst [.str (mk (47 :: x)) t, .str (mk (47 :: y)) u] 0))
   (fun v g => ∃ t', v = .str (mk (47 :: joinL (lcp (clean x) (clean y)))) t') := by
  have hbig : sizeLine = 16777216 := rfl
  refine fn_defC [("paths", .ref l)] rfl rfl rfl (fun A A₁ s₀ g₀ L s hA hl S => ?_)
  refine r_seq (r_store S (fun s S => r_seq0 ⟨?_, S.nx⟩))
  have S := (S.reown (own' := [(L + 2, cellO none), (L + 1, cellO none)]) rfl).relc (lc' := [("paths", .ref l)]) rfl
  repeat walk_at "m1"
  refine r_mapnew hA S (S.at hl) fun a tt it g1 s le1 hm1 ht1 S => ?_
  repeat walk_at "m1"
  refine tuple_map (n := n + 2) (vs := [.str (mk (47 :: x)) t, .str (mk (47 :: y)) u]) (fun v hv => ?_) (hA.less (by omega)) (by simp; omega) S ⟨rfl, rfl⟩ hm1 ht1 (le1 _ _ hl) fun g2 T s le2 hT S => ?_
  · simp at hv
    rcases hv with rfl | rfl
    · exact c_fspath _ _
    · exact c_fspath _ _
  repeat walk_at "m1"
  have S := S.relc (lc' := [("paths", .ref T)]) rfl
  refine r_truT S (S.at ins_self) (by simp; omega) fun s S => ?_
  simp only [List.isEmpty_cons, Bool.not_false, Bool.not_true]
  repeat walk_at "m1"
  refine r_itemT (k := 0) (S.at ins_self) rfl (by decide) ?_
  repeat walk_at "m1"
  refine IsiPair.str_bytes ?_
  have S := S.toks (t := s.toks + 1)
  repeat walk_at "m1"
  refine r_storeC S.swap fun s S => ?_
  repeat walk_at "m1"
  refine r_storeC S.swap fun s S => ?_
  repeat walk_at "m1"
  have c1 := S.ob (L + 1, _) (.tail _ (.head _))
  have n1 : L + 1 ≠ tb := fun e => S.tboff (by rw [← e]; simp)
  have c2 := S.ob (L + 2, _) (.head _)
  have n2 : L + 2 ≠ tb := fun e => S.tboff (by rw [← e]; simp)
  have hvs : StrsAre [.str (mk (47 :: x)) t, .str (mk (47 :: y)) u] ([47 :: x, 47 :: y].map mk) := .cons _ _ (.cons _ _ .nil)
  refine r_compT (fun i ys g => Lol g ys ([splitL (47 :: x), splitL (47 :: y)].take i)) (fun h l => h.mono l) (LcOr [] "path") (fun _ cs => cs = []) hA S ins_self (by simp; omega) .nil (.inl rfl) (fun _ => rfl) ?_ (compFin_store ?_ rfl rfl rfl)
  · rintro i v ys g' C D k lc' cs It oI s' hv lg hJ hLC rfl hyl S
    refine CTurn.gen fun Yq hYq => ?_
    obtain ⟨yc, ty, hyc, rfl⟩ := getElem_are hvs hv
    rw [List.getElem?_map] at hyc
    obtain ⟨z, hz, rfl⟩ := Option.map_eq_some_iff.mp hyc
    have hzl : z.length ≤ 901 := by
      have := List.mem_of_getElem? hz
      simp at this
      rcases this with rfl | rfl <;> simp <;> omega
    have step : [splitL (47 :: x), splitL (47 :: y)].take (i + 1) = [splitL (47 :: x), splitL (47 :: y)].take i ++ [splitL z] := by
      rw [List.take_add_one, show [splitL (47 :: x), splitL (47 :: y)] = [47 :: x, 47 :: y].map splitL from rfl, List.getElem?_map, hz]; rfl
    unfold CTurn
    repeat walk_at "m1"
    have S := S.relc (hLC.set rfl fun _ => rfl)
    repeat walk_at "m1"
    refine r_cell (S.nx.kp _ _ n1 c1) ?_
    repeat walk_at "m1"
    refine r_split S rfl (by rw [mk_len]; omega) fun a ps s hps hga S => ?_
    rw [lit_slash, txtsplit] at hps
    try refine r_backV hYq ?_
    exact ⟨_, _, _, Le.ins hga, by rw [step]; exact (hJ.mono (Le.ins hga)).snoc ins_self (strsAre_mk hps), .inr ⟨_, rfl⟩, rfl, S⟩
  rintro g3 SP1 ys1 k1 s le3 hSP1 _ hJ1 S
  have hJ1 : Lol g3 ys1 [splitL (47 :: x), splitL (47 :: y)] := hJ1
  have S := S.relc (lc' := [("paths", .ref T), ("split_paths", .ref SP1)]) rfl
  repeat walk_at "m1"
  have c1 := S.ob (L + 1, _) (.tail _ (.head _))
  have c2 := S.ob (L + 2, _) (.head _)
  refine r_setT (LcOr [] "p") (fun _ cs => cs = []) hA S (le3 _ _ ins_self) (by simp) (.inl rfl) (fun _ => rfl) ?_ ?_
  · rintro i v g' C D oD lc' cs It oI s' hv lg hLC rfl S
    obtain ⟨yc, ty, hyc, rfl⟩ := getElem_are hvs hv
    rw [List.getElem?_map] at hyc
    obtain ⟨z, hz, rfl⟩ := Option.map_eq_some_iff.mp hyc
    have hzh : z.head? = some 47 := by
      have := List.mem_of_getElem? hz
      simp at this
      rcases this with rfl | rfl <;> rfl
    repeat walk_at "m1"
    have S := S.relc (hLC.set rfl fun _ => rfl)
    repeat walk_at "m1"
    refine r_cell (S.nx.kp _ _ n1 c1) ?_
    repeat walk_at "m1"
    rw [lit_slash, starts1, decide_eq_true hzh]
    exact ⟨rfl, _, _, _, Le.refl _, .inr ⟨_, rfl⟩, rfl, S⟩
  intro g4 SD s le4 hSD S
  refine r_unpackS hA S (S.at hSD) rfl fun s S => ?_
  repeat walk_at "m1"
  have S := S.relc (lc' := [("paths", .ref T), ("split_paths", .ref SP1), ("isabs", .bool true)]) rfl
  have c1 := S.ob (L + 1, _) (.tail _ (.head _))
  have c2 := S.ob (L + 2, _) (.head _)
  have hJ1 := hJ1.mono le4
  refine r_compL (fun i ys g => Lol g ys ([clean x, clean y].take i)) (fun h l => h.mono l) (LcOr [] "s") (fun _ cs => cs = []) hA S (le4 _ _ hSP1) (by rw [hJ1.length]; simp; omega) .nil (.inl rfl) (fun _ => rfl) ?_ (compFin_store ?_ rfl rfl rfl)
  · rintro i v ys g' C D k lc' cs It oI s' hv lg hJ hLC rfl hyl S
    refine CTurn.gen fun Yq hYq => ?_
    obtain ⟨sa, svs, sk, P, rfl, hP, hsa, hsv⟩ := hJ1.at hv
    have hPl : P.length ≤ 1000 ∧ (∀ c ∈ P, c.length ≤ 901) ∧ [clean x, clean y].take (i + 1) = [clean x, clean y].take i ++ [P.filter fun c => decide (c ≠ []) && decide (c ≠ [46])] := by
      have h2 : ∀ z : List Nat, z.length ≤ 901 → P = splitL z → P.length ≤ 1000 ∧ (∀ c ∈ P, c.length ≤ 901) := fun z hz e => by
        subst e
        exact ⟨Nat.le_trans (splitL_len z) (by omega), fun c hc => Nat.le_trans (splitL_short z c hc) hz⟩
      rcases i with _ | _ | i
      · simp at hP
        have := h2 (47 :: x) (by simp; omega) hP.symm
        refine ⟨this.1, this.2, ?_⟩
        rw [← hP]; simp only [List.take_succ_cons, List.take_zero, List.nil_append, ← clean_slash x]; rfl
      · simp at hP
        have := h2 (47 :: y) (by simp; omega) hP.symm
        refine ⟨this.1, this.2, ?_⟩
        rw [← hP]; simp only [List.take_succ_cons, List.take_zero, List.cons_append, List.nil_append, ← clean_slash y]; rfl
      · simp at hP
    obtain ⟨hPl, hPs, step⟩ := hPl
    unfold CTurn
    repeat walk_at "m1"
    have S := S.relc (hLC.set rfl fun _ => rfl)
    repeat walk_at "m1"
    have d2 := S.nx.kp _ _ n2 c2
    refine r_compL (fun j zs g => StrsAre zs (((P.take j).filter fun c => decide (c ≠ []) && decide (c ≠ [46])).map mk)) (fun h _ => h) (LcOr [] "c") (fun _ cs => cs = []) hA S (lg _ _ hsa) (by have := hsv.length; simp at this; omega) .nil (.inl rfl) (fun _ => rfl) ?_ (compFin_none ?_)
    · rintro j v zs g2' C2 D2 k2 lc2 cs2 It2 oI2 s2 hv2 lg2 hJ2 hLC2 rfl hzl S
      refine CTurn.gen fun Yq hYq => ?_
      obtain ⟨yc, ty, hyc, rfl⟩ := getElem_are hsv hv2
      rw [List.getElem?_map] at hyc
      obtain ⟨c, hc, rfl⟩ := Option.map_eq_some_iff.mp hyc
      have hcl := hPs c (List.mem_of_getElem? hc)
      have stepj : (P.take (j + 1)).filter (fun c => decide (c ≠ []) && decide (c ≠ [46])) = (P.take j).filter (fun c => decide (c ≠ []) && decide (c ≠ [46])) ++ (if (decide (c ≠ []) && decide (c ≠ [46])) = true then [c] else []) := by
        rw [List.take_add_one, hc, List.filter_append]; simp [List.filter_cons]
      unfold CTurn
      repeat walk_at "m1"
      have S := S.relc (hLC2.set rfl fun _ => rfl)
      repeat walk_at "m1"
      refine r_truS S (by rw [mk_len]; omega) fun s S => ?_
      by_cases h0 : c = []
      · rw [decide_eq_true (show mk c = mk [] by rw [h0])]
        simp only [Bool.not_true]
        try refine r_backV hYq ?_
        exact ⟨_, _, _, Le.refl _, by rw [stepj, if_neg (by simp [h0]), List.append_nil]; exact hJ2, .inr ⟨_, rfl⟩, rfl, S⟩
      · rw [decide_eq_false (show ¬ mk c = mk [] by rw [mk_inj]; exact h0)]
        simp only [Bool.not_false]
        repeat walk_at "m1"
        refine r_cell (S.nx.kp _ _ n2 d2) ?_
        repeat walk_at "m1"
        rw [lit_dot]
        by_cases h1 : c = [46]
        · rw [decide_eq_true (show mk c = mk [46] by rw [h1])]
          simp only [Bool.not_true]
          try refine r_backV hYq ?_
          exact ⟨_, _, _, Le.refl _, by rw [stepj, if_neg (by simp [h1]), List.append_nil]; exact hJ2, .inr ⟨_, rfl⟩, rfl, S⟩
        · rw [decide_eq_false (show ¬ mk c = mk [46] by rw [mk_inj]; exact h1)]
          simp only [Bool.not_false]
          repeat walk_at "m1"
          try refine r_backV hYq ?_
          exact ⟨_, _, _, Le.refl _, by rw [stepj, if_pos (by simp [h0, h1]), List.map_append]; exact hJ2.append' (.cons _ _ .nil), .inr ⟨_, rfl⟩, rfl, S⟩
    · rintro g5 D5 zs k5 s le5 hD5 _ hJ5 S
      have hJ5' : StrsAre zs (((P.take svs.length).filter fun c => decide (c ≠ []) && decide (c ≠ [46])).map mk) := hJ5
      rw [show svs.length = P.length by simpa using hsv.length, List.take_length] at hJ5'
      try refine r_backV hYq ?_
      exact ⟨_, _, _, le5, by rw [step]; exact (hJ.mono le5).snoc hD5 hJ5', .inr ⟨_, rfl⟩, rfl, S⟩
  rintro g5 SP2 ys2 k2 s le5 hSP2 _ hJ2 S
  have hJ2 : Lol g5 ys2 [clean x, clean y] := by
    have h : Lol g5 ys2 ([clean x, clean y].take ys1.length) := hJ2
    rw [hJ1.length] at h
    exact h
  have S := S.relc (lc' := [("paths", .ref T), ("split_paths", .ref SP2), ("isabs", .bool true)]) rfl
  have hys : ys2.length = 2 := hJ2.length
  have hne : ys2 ≠ [] := by intro e; rw [e] at hys; simp at hys
  have cmpL : CmpH prog w .Lt g5 ys2 (fun i j => ltL ([clean x, clean y].getD i []) ([clean x, clean y].getD j [])) := by
    intro i j vi vj A' m s' Q E hi hj hA' sb hq
    obtain ⟨a1, v1, k1, P1, rfl, hP1, e1, r1⟩ := hJ2.at hi
    obtain ⟨a2, v2, k2, P2, rfl, hP2, e2, r2⟩ := hJ2.at hj
    refine rcL_lt (by have := hA'.2.2; show A'.units < cLine; have : cLine = 9900 := rfl; omega) (sb _ _ e1) (sb _ _ e2) r1 r2 ?_
    dsimp only at hq
    rw [List.getD_eq_getElem?_getD, List.getD_eq_getElem?_getD, hP1, hP2] at hq
    exact hq
  have cmpG : CmpH prog w .Gt g5 ys2 (fun i j => ltL ([clean x, clean y].getD j []) ([clean x, clean y].getD i [])) := by
    intro i j vi vj A' m s' Q E hi hj hA' sb hq
    obtain ⟨a1, v1, k1, P1, rfl, hP1, e1, r1⟩ := hJ2.at hi
    obtain ⟨a2, v2, k2, P2, rfl, hP2, e2, r2⟩ := hJ2.at hj
    refine rcL_gt (by have := hA'.2.2; show A'.units < cLine; have : cLine = 9900 := rfl; omega) (sb _ _ e1) (sb _ _ e2) r1 r2 ?_
    dsimp only at hq
    rw [List.getD_eq_getElem?_getD, List.getD_eq_getElem?_getD, hP1, hP2] at hq
    exact hq
  repeat walk_at "m1"
  refine r_min (n := n) _ (hA.less (by omega)) cmpL S hSP2 hne fun v s hv1 S => ?_
  rw [hys] at hv1
  obtain ⟨a1, v1, k1, P1, rfl, hP1, e1, r1⟩ := hJ2.at hv1
  repeat walk_at "m1"
  refine r_max (n := n) _ (hA.less (by omega)) cmpG S hSP2 hne fun v s hv2 S => ?_
  rw [hys] at hv2
  obtain ⟨a2, v2, k2, P2, rfl, hP2, e2, r2⟩ := hJ2.at hv2
  have hPP : ltL P2 P1 = false ∧ lcp P1 P2 = lcp (clean x) (clean y) := by
    simp only [argBest, List.getD_cons_zero, List.getD_cons_succ] at hP1 hP2
    cases h1 : ltL (clean y) (clean x) with
    | true =>
      have h2 := ltL_asymm _ _ h1
      rw [h1] at hP1
      rw [h2] at hP2
      simp at hP1 hP2
      subst hP1 hP2
      exact ⟨h2, lcp_comm _ _⟩
    | false =>
      rw [h1] at hP1
      simp at hP1
      subst hP1
      cases h2 : ltL (clean x) (clean y) with
      | true => rw [h2] at hP2; simp at hP2; subst hP2; exact ⟨h1, rfl⟩
      | false =>
        rw [h2] at hP2; simp at hP2; subst hP2
        have := ltL_tri _ _ h2 h1
        rw [← this]
        exact ⟨ltL_irrefl _, rfl⟩
  obtain ⟨hlt, hlcp⟩ := hPP
  repeat walk_at "m2"
  have S := S.relc (lc' := [("paths", .ref T), ("split_paths", .ref SP2), ("isabs", .bool true), ("s1", .ref a1), ("s2", .ref a2), ("common", .ref a1)]) rfl
  obtain ⟨O, hO, S⟩ := S.nameO
  refine r_consF (fun s' => ∃ g6 lc6 ac vc kc, Le g5 g6 ∧ g6 ac = some (lst vc kc) ∧ StrsAre vc ((lcp (clean x) (clean y)).map mk) ∧ lkp lc6 "common" = some (.ref ac) ∧ lkp lc6 "isabs" = some (.bool true) ∧ St w s₀ g₀ g6 L lc6 O s') ?_ ?_
  · repeat walk_at "m1"
    refine r_enum S (S.at e1) fun e it oI s hI S => ?_
    repeat walk_at "m1"
    have hB : ∀ (lc : List (Str × Value)) (B : List (Str × Value)), B = ([("paths", .ref T), ("split_paths", .ref SP2), ("isabs", .bool true), ("s1", .ref a1), ("s2", .ref a2), ("common", .ref a1)] : List (Str × Value)) →
      (lc = B ∨ ∃ p q, lc = B ++ ([("i", p), ("c", q)] : List (Str × Value))) → lkp lc "common" = some (.ref a1) ∧ lkp lc "isabs" = some (.bool true) ∧ ∀ p q, setl "c" q (setl "i" p lc) = B ++ ([("i", p), ("c", q)] : List (Str × Value)) := by
      rintro lc B rfl (rfl | ⟨p, q, rfl⟩)
      · exact ⟨rfl, rfl, fun _ _ => rfl⟩
      · exact ⟨rfl, rfl, fun _ _ => rfl⟩
    obtain ⟨B, hBd, S⟩ := S.name
    have hv1l : v1.length = P1.length := by simpa using r1.length
    have hv2l : v2.length = P2.length := by simpa using r2.length
    have hP1l : P1.length ≤ 1000 := by
      have hw : P1 ∈ [clean x, clean y] := List.mem_of_getElem? hP1
      have h1 := List.length_filter_le (fun c => decide (c ≠ []) && decide (c ≠ [46])) (splitL x)
      have h2 := List.length_filter_le (fun c => decide (c ≠ []) && decide (c ≠ [46])) (splitL y)
      have h3 := splitL_len x
      have h4 := splitL_len y
      simp at hw
      rcases hw with rfl | rfl
      · exact Nat.le_trans h1 (by omega)
      · exact Nat.le_trans h2 (by omega)
    refine r_forE (fun (i : Nat) (g : Hp) (lc : List (Str × Value)) (own : List (Addr × Obj)) => own = O ∧ (lc = B ∨ ∃ p q, lc = B ++ ([("i", p), ("c", q)] : List (Str × Value))) ∧ P1.take i = P2.take i) hA S hI e1 ⟨rfl, .inl rfl, by simp⟩ rfl rfl ?_ ?_
    · rintro i v tk g' lc' own' oI oE s' hv lg ⟨rfl, hlc, htake⟩ S
      obtain ⟨yc, ty, hyc, rfl⟩ := getElem_are r1 hv
      rw [List.getElem?_map] at hyc
      obtain ⟨c, hc, rfl⟩ := Option.map_eq_some_iff.mp hyc
      have hi : i < P1.length := (List.getElem?_eq_some_iff.mp hc).1
      have hi2 := reach i P1 P2 hlt hi htake
      have hv2i : v2[i]? = some v2[i] := List.getElem?_eq_getElem (by omega)
      obtain ⟨yc2, ty2, hyc2, hvv⟩ := getElem_are r2 hv2i
      rw [List.getElem?_map] at hyc2
      obtain ⟨c2, hc2, rfl⟩ := Option.map_eq_some_iff.mp hyc2
      rw [hvv] at hv2i
      repeat walk_at "m1"
      have S := S.relc ((hB lc' B hBd hlc).2.2 _ _)
      rw [hBd] at S
      repeat walk_at "m1"
      refine r_itemL (S.at (lg _ _ e2)) hv2i (by omega) ?_
      repeat walk_at "m1"
      by_cases hcc : c = c2
      · rw [decide_eq_true (show mk c = mk c2 by rw [hcc])]
        simp only [Bool.not_true]
        repeat walk_at "m1"
        try refine r_backV hYq ?_
        refine ⟨_, _, _, Le.refl _, ⟨rfl, .inr ⟨.int i tk, .str (mk c) ty, ?_⟩, ?_⟩, S⟩
        · rw [hBd]
        · rw [List.take_add_one, List.take_add_one, htake, hc, hc2, hcc]
      · rw [decide_eq_false (show ¬ mk c = mk c2 by rw [mk_inj]; exact hcc)]
        simp only [Bool.not_false]
        repeat walk_at "m1"
        refine r_slcL' S (S.at (lg _ _ e1)) (by omega) .none (.int _ _) (slicePick_upto' v1.toArray i) fun ac s hac S => ?_
        repeat walk_at "m1"
        try refine r_backV hYq ?_
        refine ⟨_, _, ac, _, 0, (lg.trans (Le.ins hac)), ins_self, ?_, rfl, rfl, S.drop.drop⟩
        rw [← hlcp, lcp_stop i P1 P2 c c2 htake hc hc2 hcc]
        have := are_take r1 i
        simpa using this
    · rintro g' lc' own' s' lg ⟨rfl, hlc, htake⟩ S
      rw [hv1l, List.take_length] at htake
      refine ⟨g', lc', a1, v1, k1, lg, lg _ _ e1, ?_, (hB lc' B hBd hlc).1, (hB lc' B hBd hlc).2.1, S⟩
      rw [← hlcp, lcp_all P1 P2 htake]
      exact r1
  · rintro s ⟨g6, lc6, ac, vc, kc, le6, hac, hvc, hlc1, hlc2, S⟩
    have S := S.reown hO
    have hw1 := wt_lcp (clean x) (clean y)
    have hw2 := wt_clean x
    have hj := joinL_len (lcp (clean x) (clean y))
    generalize hRR : lcp (clean x) (clean y) = R at hvc hw1 hj ⊢
    repeat walk_at "m1"
    refine r_loc S hlc2 ?_
    repeat walk_at "m1"
    refine r_cell (S.ob (L + 1, _) (.tail _ (.head _))) ?_
    repeat walk_at "m1"
    refine r_loc S (by rw [lkp_setl]; exact if_pos rfl) ?_
    repeat walk_at "m1"
    refine r_cell (S.ob (L + 1, _) (.tail _ (.head _))) ?_
    repeat walk_at "m1"
    refine r_loc S (by rw [lkp_setl]; exact (if_neg (by decide)).trans hlc1) ?_
    repeat walk_at "m1"
    refine r_join S (S.at hac) hvc (by rw [lit_slash, mk_len]; have := wt_fits R; simp only [List.length_singleton, Nat.mul_one] at this ⊢; omega) fun t' s S => ?_
    rw [lit_slash, txtjoin]
    refine r_addS S (by rw [mk_len, mk_len]; simp only [List.length_cons, List.length_nil]; omega) fun t'' s S => ?_
    rw [mk_app]
    repeat walk_at "m1"
    exact S.drop.drop.done ⟨t'', by rw [hRR]; rfl⟩
end
end Mine
end
section
open PySem PySem.W PySem.Calls PyProof.Rows
set_option maxRecDepth 100000
set_option linter.unusedSimpArgs false
set_option linter.unusedVariables false
namespace Mine
section
variable {prog : Program} {w : World} {A : Around} {s₀ s s' : Shared} {g₀ g g' : Hp} {L : Addr} {lc lc' : List (Str × Value)} {own own' : List (Addr × Obj)} {E : Value → Shared → Prop} {env : Env} {n : Nat}
theorem GE.hd196 {h : Heap} (G : GE w h) : CodeHd h 196 tb := by
  exact ⟨_, _, Str.ofString "/claim/cut.py", 455, 3, 0, true, 181, 0, G.K 196 _ rfl, rfl, rfl, rfl, rfl, rfl, rfl, rfl, rfl, by decide⟩
theorem GE.bmAt {h : Heap} {mg : Str → Option Value} (G : GE w h) (hm : h.Ns mainGlobals mg) : h.BuiltinsAt mg tb := by
  obtain ⟨ob, e, c, d, p⟩ := G.bm
  exact ⟨4, ob, mg_of G.K hm rfl, by decide, by decide, by decide, e, c, d, p⟩
noncomputable abbrev lamO (qual : Str) (params : Arguments) (body : Expr) (scope : Scope) (clos : List (Str × Addr)) (pm cv ct : Value) : Obj := { cls := .type "function", data := .func (kla_fn "<lambda>" qual params body scope clos pm cv ct) }
theorem among_app {ps : List Value} (h : TriplesOk ps) (p : Pos) (q : List Value) : codeAmong p (ps ++ q) = (codeAmong p ps).or (codeAmong p q) := by
  fun_induction TriplesOk ps with
  | case1 => simp [codeAmong]
  | case2 a t b u x rest ih =>
    simp only [List.cons_append, codeAmong]
    split
    · rfl
    · exact ih h
  | case3 l h1 h2 => exact h.elim
/-- a function is made by a lambda of _law_rule -/
theorem r_mklam {qual : Str} {params : Arguments} {body : Expr} {scope : Scope} {pos : Pos} {firstLine : Nat} {clos : List (Str × Addr)} {Q : Value → Shared → Prop} (S : St w s₀ g₀ g L lc own s) (hcl : closureFor scope env = pure clos) (hge : env.globals = mainGlobals) (hcode : env.code = .ref 196) (hq : (pos, qual) ∈ lams)
    (h : ∀ f c' pm ct g' s', Le g g' → (∃ o vs t, g' c' = some o ∧ o.data = .fields vs ∧ vs[1]? = some (.str qual t)) → St w s₀ g₀ g' L lc ((f, lamO qual params body scope clos pm (.ref c') ct) :: own) s' → Q (.ref f) s') :
    wpAny (model prog w) A (makeFunction "<lambda>" qual params (.expr body) scope env [] [] [] pos firstLine) Q E s := by
  have G := S.ge
  obtain ⟨mg, hm⟩ := G.g
  obtain ⟨hz, ps, eP, ht, hlam⟩ := S.tab
  have eP' : s.heap.get? tb = some (tabObj ps) := eP
  rcases hlam (pos, qual) hq with hnone | ⟨c', o, vs, t, hsome, hgc, hd, hv⟩
  · refine kla_makeFunction hcl hge hm hcode G.hd196 eP' ht hnone (by decide) (G.bmAt hm) fun c' ctv h' tk hx hge' hlt hrec htb => ?_
    obtain ⟨c2, oc, vs, t, e2, hoc, hd, hv⟩ := hrec
    cases e2
    have keep : ∀ b o, b ≠ tb → s.heap.get? b = some o → h'.get? b = some o := fun b o hb e => hx b o hb e
    have hc'n : s.heap.get? c' = none := by
      cases e : s.heap.get? c' with
      | none => rfl
      | some o => exact absurd (Heap.lt_size e) (Nat.not_lt.mpr hge')
    have hctb : c' ≠ tb := fun q => by rw [q, eP] at hc'n; cases hc'n
    have hgc' : g c' = none := by
      cases e : g c' with
      | none => rfl
      | some o => have := S.sub _ _ e; rw [hc'n] at this; cases this
    have hc0 : s₀.heap.get? c' = none := by
      cases e0 : s₀.heap.get? c' with
      | none => rfl
      | some o => have := S.nx.kp c' o hctb e0; rw [hc'n] at this; cases this
    have ntb : ∀ b ∈ L :: own.map (·.1), b ≠ tb := fun b hb q => S.tboff (q ▸ hb)
    have S1 : St w s₀ g₀ (ins g c' oc) L lc own { s with heap := h', toks := tk } := by
      refine ⟨?_, ?_, ?_, S.nd, ?_, S.old, ?_, S.le.trans (Le.ins hgc'), ⟨fun b o hb e => keep b o hb (S.nx.kp b o hb e), S.nx.gens, S.nx.os⟩, S.ge0, ?_, S.tab0⟩
      · obtain ⟨o, es, ep, e, r⟩ := S.ns; exact ⟨o, es, ep, keep _ _ (ntb _ (.head _)) e, r⟩
      · intro b o e
        unfold ins at e
        by_cases hb : b = c'
        · subst hb; rw [if_pos rfl] at e; cases e; exact hoc
        · rw [if_neg hb] at e
          exact keep b o (fun q => by rw [q, hz] at e; cases e) (S.sub b o e)
      · intro p hp
        exact keep _ _ (ntb _ (.tail _ (List.mem_map_of_mem hp))) (S.ob p hp)
      · intro b hb
        have hbc : b ≠ c' := fun q => by
          rcases List.mem_cons.mp hb with hb | hb
          · obtain ⟨o, _, _, e, _⟩ := S.ns; rw [← hb, q, hc'n] at e; cases e
          · obtain ⟨p, hp, hpe⟩ := List.mem_map.mp hb; have := S.ob p hp; rw [hpe, q, hc'n] at this; cases this
        rw [ins_other hbc]; exact S.gL b hb
      · intro b o e
        unfold ins at e
        by_cases hb : b = c'
        · subst hb; exact .inr hc0
        · rw [if_neg hb] at e; exact S.new b o e
      · refine ⟨by rw [ins_other (fun q => hctb q.symm)]; exact hz, ps ++ #[rawInt pos.line, rawInt pos.col, .ref c'], htb, ?_, ?_⟩
        · rw [Array.toList_append]; exact TriplesOk_snoc _ _ _ _ ht
        · intro q hq2
          rw [Array.toList_append]
          rcases hlam q hq2 with hn | ⟨c2, o2, vs2, t2, h1, h2, h3, h4⟩
          · by_cases hqp : q.1 = pos
            · right
              have hqq : q.2 = qual := by
                simp only [lams, List.mem_cons, List.not_mem_nil, or_false] at hq hq2
                rcases hq with hq | hq <;> rcases hq2 with hq2 | hq2
                · rw [hq2]; exact (congrArg Prod.snd hq).symm
                · rw [hq2] at hqp; exact absurd (hqp.trans (congrArg Prod.fst hq)) (by decide)
                · rw [hq2] at hqp; exact absurd (hqp.trans (congrArg Prod.fst hq)) (by decide)
                · rw [hq2]; exact (congrArg Prod.snd hq).symm
              refine ⟨c', oc, vs, t, ?_, ins_self, hd, by rw [hqq]; exact hv⟩
              rw [hqp]
              exact codeAmong_snoc _ ht hnone
            · left
              rw [among_app ht, hn]
              simp only [Option.none_or]
              simp only [lams, List.mem_cons, List.not_mem_nil, or_false] at hq hq2
              have hqp' : (pos.line == q.1.line && pos.col == q.1.col) = false := by
                rcases hq with hq | hq <;> rcases hq2 with hq2 | hq2
                · exact absurd ((congrArg Prod.fst hq2).trans (congrArg Prod.fst hq).symm) hqp
                · rw [hq2, show pos = _ from congrArg Prod.fst hq]; rfl
                · rw [hq2, show pos = _ from congrArg Prod.fst hq]; rfl
                · exact absurd ((congrArg Prod.fst hq2).trans (congrArg Prod.fst hq).symm) hqp
              simp only [codeAmong, rawInt]
              simp only [Bool.and_eq_false_iff, beq_eq_false_iff_ne] at hqp'
              rw [if_neg]
              simp only [Bool.and_eq_true, beq_iff_eq]
              omega
          · right
            refine ⟨c2, o2, vs2, t2, by rw [among_app ht, h1]; rfl, ?_, h3, h4⟩
            exact Le.ins hgc' _ _ h2
    exact h _ c' _ ctv _ _ (Le.ins hgc') ⟨oc, vs, t, ins_self, hd, hv⟩ (S1.alloc (o := lamO qual params body scope clos ((mg "__name__").getD .none) (.ref c') ctv) (t := tk) rfl)
  · refine kla_makeFunctionHit hcl hge hm hcode G.hd196 eP' ht hsome (G.bmAt hm) fun ctv h' tk hk hle => ?_
    have S1 : St w s₀ g₀ g L lc own { s with heap := h', toks := tk } := S.grow hk rfl rfl
    exact h _ c' _ ctv _ _ (Le.refl _) ⟨o, vs, t, hgc, hd, hv⟩ (S1.alloc (o := lamO qual params body scope clos ((mg "__name__").getD .none) (.ref c') ctv) (t := tk) rfl)
end
end Mine
end
section
open PySem PySem.W PySem.Calls PyProof.Rows
open Builtin Builtin.ObjectAttr
set_option maxRecDepth 100000
set_option linter.unusedSimpArgs false
set_option linter.unusedVariables false
namespace Mine
theorem slot_fn_setattr : PySem.Slot "function" "__setattr__" "object.__setattr__" :=
  .of (owner := "object") (n := "__setattr__") (by rw [typeLookup_type, builtinLookup_eq_fast]; kernel_rfl) (by decide +kernel) (by decide +kernel) (by decide +kernel)
    (by first | exact .inl (by decide +kernel) | exact .inr (by decide +kernel)) (by rw [isSubtype_type]; kernel_rfl)
theorem mro_fn : mroOf (.type "function") = pure [.type "function", .type "object"] := by kernel_rfl
theorem pass_fn (self : Value) : refuseLoop self "__setattr__" [.type "function", .type "object"] = pure () := by
  have := PySem.F.store_object.passes self
  kernel_rfl
theorem fn_no_applies : typeLookup (.type "function") "applies_to" = pure none := by rw [typeLookup_type, builtinLookup_eq_fast]; kernel_rfl
theorem fn_no_allowance : typeLookup (.type "function") "allowance" = pure none := by rw [typeLookup_type, builtinLookup_eq_fast]; kernel_rfl
theorem fn_hasdict : typeHasDict (.type "function") = true := by decide +kernel
section
variable {prog : Program} {w : World} {A : Around} {s₀ s s' : Shared} {g₀ g g' : Hp} {L : Addr} {lc lc' : List (Str × Value)} {own own' : List (Addr × Obj)} {E : Value → Shared → Prop} {env : Env} {n : Nat}
noncomputable abbrev funO (fd : FuncData) (d : Option Addr) : Obj := { cls := .type "function", dict := d, data := .func fd }
theorem r_setA {f : Addr} {fd : FuncData} {od : Option Addr} {name : Str} {v : Value} {Q : Unit → Shared → Prop} (S : St w s₀ g₀ g L lc ((f, funO fd od) :: own) s) (hname : typeLookup (.type "function") name = pure none)
    (h : ∀ tk s', St w s₀ g₀ g L lc ((f, funO fd od) :: own) s' → wpAny (model prog w) A.in1 (ownDictForStores (.ref f) >>= fun r => match r with | some d => storeInDict d (.str name tk) name v | none => noDictFor (.ref f) (.type "function") name false)
      (fun fin s'' => ∃ v, fin = .done (.ret v) ∧ Q () s'') E s') : wpAny (model prog w) A (setAttr (.ref f) name v) Q E s := by
  unfold setAttr
  refine wpAny_bind (wpAny_mkText ?_)
  have S1 := S.toks (t := s.toks + 1)
  have hT : Shared.TypeIs { s with toks := s.toks + 1 } (.ref f) "function" := ⟨_, S1.ob (f, funO fd od) (.head _), rfl⟩
  refine wpAny_bind (wpAny_callSpecial?_slot (name := Str.ofString "__setattr__") hT slot_fn_setattr
    (wpAny_call_entry slot_fn_setattr hT PySem.F.store_object.entry ?_ (PySem.F.store_object.args _ _ _)))
  rw [osa_eq, refuse_eq]
  refine wpAny_bind (wpAny_bind (wpAny_typeOf hT (wpAny_bind (wpAny_of_eq mro_fn ?_))))
  rw [pass_fn]
  refine wpAny_pure (wpAny_bind (wpAny_typeOf hT (wpAny_bind (wpAny_of_eq hname (wpAny_bind (wpAny_pure ?_))))))
  show wpAny _ _ (storeInOwnDict (.ref f) (.type "function") (.str name s.toks) name v false) _ _ _
  unfold storeInOwnDict
  refine wpAny_bind (wpAny_of_eq (a := ()) (by first | rfl | kernel_rfl) ?_)
  rw [if_neg (by decide)]
  refine wpAny_mono (h s.toks _ S1) (fun fin s'' q => ?_) fun _ _ z => z
  obtain ⟨v', e, hq⟩ := q
  exact ⟨v', e, wpAny_pure hq⟩
/-- the first field of a function: it gets its dict -/
theorem r_setF1 {f : Addr} {fd : FuncData} {name : Str} {v : Value} {Q : Unit → Shared → Prop} (S : St w s₀ g₀ g L lc ((f, funO fd none) :: own) s) (hname : typeLookup (.type "function") name = pure none)
    (h : ∀ d od s', (∀ h : Heap, h.get? d = some od → h.Ns1 d (lkp [(name, v)])) → St w s₀ g₀ g L lc ((d, od) :: (f, funO fd (some d)) :: own) s' → Q () s') : wpAny (model prog w) A (setAttr (.ref f) name v) Q E s := by
  refine r_setA S hname fun tk s' S => ?_
  have ef := S.ob (f, funO fd none) (.head _)
  refine wpAny_bind ?_
  show wpAny _ _ (instanceDict f true) _ _ _
  unfold instanceDict
  refine wpAny_bind (wpAny_loadPart ef ?_)
  dsimp only
  rw [if_neg (by rw [fn_hasdict]; decide)]
  have S1 := S.alloc (o := { cls := .type "dict", data := .dict #[] }) (t := s'.toks) rfl
  refine wpAny_bind (wpAny_alloc ?_)
  generalize hd : s'.heap.objs.size = d at S1 ⊢
  have ef1 := S1.ob (f, funO fd none) (.tail _ (.head _))
  refine wpAny_bind (wpAny_update ef1 ?_)
  have ef2 := Heap.get?_update_self (fun o : Obj => { o with dict := some d }) ef1 rfl
  have S2 := S1.swap.upd (s' := { s' with heap := Heap.update (s'.heap.push { cls := .type "dict", data := .dict #[] }) f fun o => { o with dict := some d } }) (o' := funO fd (some d)) (Heap.SameBut.update ..) ef2 rfl rfl
  refine wpAny_of_eq (a := some d) (by first | rfl | kernel_rfl) ?_
  dsimp only
  have ed := S2.ob (d, { cls := .type "dict", data := .dict #[] }) (.tail _ (.head _))
  have hns : Heap.Ns (Heap.update (s'.heap.push { cls := .type "dict", data := .dict #[] }) f fun o => { o with dict := some d }) d (fun _ => none) := ⟨_, #[], _, ed, rfl, fun e he => absurd he (by simp), fun _ => rfl⟩
  unfold storeInDict newKeyGuard
  refine wpAny_bind (wpAny_pure (wpAny_bind (wpAny_nsSet1 (Heap.Ns1.of_empty hns) fun h' hn' hs => ?_)))
  obtain ⟨oD, esD, epD, hoD, hdD, hcD⟩ := hn'.count (Within.cons name v Within.nil)
  have S3 := S2.swap.upd (s' := { s' with heap := h', toks := s'.toks + 1 }) (o' := oD) hs hoD rfl rfl
  refine wpAny_bind (wpAny_lookBehind hoD (by rw [hdD]; exact pastItsLine_dict (Nat.le_trans hcD (by rw [List.length_cons, List.length_nil, sizeLine_eq]; omega))) ?_)
  refine wpAny_pure ⟨_, rfl, h d oD _ (fun hh e => ?_) S3⟩
  obtain ⟨o', es, ep, e1, e2, e3, eu, e4⟩ := hn'
  have eo : o' = oD := by rw [hoD] at e1; exact (Option.some.inj e1).symm
  subst eo
  refine ⟨o', es, ep, e, e2, e3, eu, fun y => ?_⟩
  rw [e4 y]
  have := congrFun (lkp_setl name v []) y
  exact this.symm
theorem within1 (x : Str) (u : Value) : Within (lkp [(x, u)]) [x] := by
  have e : lkp [(x, u)] = fun y => if y = x then some u else (fun _ => none) y := lkp_setl x u []
  rw [e]
  exact Within.cons x u Within.nil
/-- one more field of a function -/
theorem r_setF2 {f d : Addr} {fd : FuncData} {od : Obj} {x name : Str} {u v : Value} {Q : Unit → Shared → Prop} (S : St w s₀ g₀ g L lc ((d, od) :: (f, funO fd (some d)) :: own) s) (hname : typeLookup (.type "function") name = pure none)
    (hN : ∀ h : Heap, h.get? d = some od → h.Ns1 d (lkp [(x, u)]))
    (h : ∀ od s', (∀ h : Heap, h.get? d = some od → h.Ns1 d (lkp (setl name v [(x, u)]))) → St w s₀ g₀ g L lc ((d, od) :: (f, funO fd (some d)) :: own) s' → Q () s') : wpAny (model prog w) A (setAttr (.ref f) name v) Q E s := by
  refine r_setA S.swap hname fun tk s' S => ?_
  have ef := S.ob (f, funO fd (some d)) (.head _)
  refine wpAny_bind ?_
  show wpAny _ _ (instanceDict f true) _ _ _
  unfold instanceDict
  refine wpAny_bind (wpAny_loadPart ef ?_)
  dsimp only
  refine wpAny_pure ?_
  dsimp only
  have ed := S.ob (d, od) (.tail _ (.head _))
  unfold storeInDict newKeyGuard
  refine wpAny_bind (wpAny_pure (wpAny_bind (wpAny_nsSet1 (hN _ ed) fun h' hn' hs => ?_)))
  obtain ⟨oD, esD, epD, hoD, hdD, hcD⟩ := hn'.count (Within.cons name v (within1 x u))
  have S3 := S.swap.upd (s' := { s' with heap := h', toks := s'.toks + 1 }) (o' := oD) hs hoD rfl rfl
  refine wpAny_bind (wpAny_lookBehind hoD (by rw [hdD]; exact pastItsLine_dict (Nat.le_trans hcD (by rw [List.length_cons, List.length_cons, List.length_nil, sizeLine_eq]; omega))) ?_)
  refine wpAny_pure ⟨_, rfl, h oD _ (fun hh e => ?_) S3⟩
  obtain ⟨o', es, ep, e1, e2, e3, eu, e4⟩ := hn'
  have eo : o' = oD := by rw [hoD] at e1; exact (Option.some.inj e1).symm
  subst eo
  refine ⟨o', es, ep, e, e2, e3, eu, fun y => ?_⟩
  rw [e4 y]
  have := congrFun (lkp_setl name v [(x, u)]) y
  exact this.symm
theorem r_asgnA {o : Expr} {attr : Str} {p pos : Pos} {e : Expr} {Q : Flow → Shared → Prop}
    (h : wpAny (model prog w) A (eval e env) (fun v s₁ => wpAny (model prog w) A (eval o env) (fun ov s₂ => wpAny (model prog w) A (setAttr ov attr v) (fun _ => Q .next) E s₂) E s₁) E s)
    (hs : swapsWith e (some (.Attribute o attr p)) pos.line env = pure false := by rfl) : wpAny (model prog w) A (exec (.Assign [.Attribute o attr p] e pos) env) Q E s := plainObj_wpAny_Assign_Attribute h hs
theorem r_lam {args : Arguments} {body : Expr} {scope : Scope} {pos : Pos} {clos : List (Str × Addr)} {qual : Str} {Q : Value → Shared → Prop} (S : St w s₀ g₀ g L lc own s) (hcl : closureFor scope env = pure clos) (hqn : env.qual ++ "<lambda>" = qual) (hq : (pos, qual) ∈ lams) (hd : defaultsOf args env = ([], []))
    (h : ∀ f c' pm ct g' s', Le g g' → (∃ o vs t, g' c' = some o ∧ o.data = .fields vs ∧ vs[1]? = some (.str qual t)) → St w s₀ g₀ g' L lc ((f, lamO qual args body scope clos pm (.ref c') ct) :: own) s' → Q (.ref f) s')
    (hge : env.globals = mainGlobals := by rfl) (hcode : env.code = .ref 196 := by rfl) : wpAny (model prog w) A (eval (.Lambda args body scope pos) env) Q E s := by
  rw [arm_eval_Lambda, hd, hqn]
  dsimp only
  refine wpAny_bind (wpAny_pure (wpAny_bind (wpAny_holding (wpAny_pure ?_))))
  exact r_mklam S hcl hge hcode hq h
/-- a lambda is called -/
theorem r_enterE {f c' : Addr} {qual : Str} {params : Arguments} {body : Expr} {scope : Scope} {clos : List (Str × Addr)} {pm ct : Value} {args : List Value} {binds : List (Str × Value)} {P : Value → Hp → Prop}
    (hA : AOk A (n + 1)) (G : GE w s.heap) (sb : Sub g s.heap) (T : Tab g s.heap) (hf : g f = some (lamO qual params body scope clos pm (.ref c') ct)) (hc : ∃ o vs t, g c' = some o ∧ o.data = .fields vs ∧ vs[1]? = some (.str qual t))
    (hbind : bindArgs (kla_fn "<lambda>" qual params body scope clos pm (.ref c') ct) ⟨args, []⟩ = pure binds)
    (hcell : (scope.names.all fun x => x.2 != .cell) = true) (hloc : (binds.all fun y => scope.names.lookup y.1 == some .local) = true)
    (h : ∀ A' L s', AOk A' n → St w s g g L binds.reverse [] s' → wpAny (model prog w) A' (eval body (envF scope L clos qual f (.ref c'))) (fun v s' => Out s g P v s') F0 s')
    (hco : scope.isCoroutine = false := by rfl) (hgen : scope.isGenerator = false := by rfl) (hk : scope.kind = .function := by rfl) :
    wpAny (model prog w) A (call (.ref f) args) (Out s g P) F0 s := by
  obtain ⟨oc, vs, t, hgc, hdc, hvc⟩ := hc
  have hcd : s.heap.CodeRec (.ref c') qual := ⟨c', oc, vs, t, rfl, sb _ _ hgc, hdc, hvc⟩
  refine wpAny_call (kla_callFunE hA.room (sb _ _ hf) rfl hco hgen rfl hcd ?_)
  rw [hbind]
  refine wpAny_pure ?_
  refine wpAny_newFunctionEnv (fun x hx => ?_) (fun x hx => ?_) (fun h₀ hns hsb => ?_) hk
  · have := List.all_eq_true.mp hcell x hx; simpa using this
  · have := List.all_eq_true.mp hloc x hx; simpa using this
  have hk0 : ∀ b o, s.heap.get? b = some o → h₀.get? b = some o := fun b o e => (hsb.2 b (Nat.ne_of_lt (Heap.lt_size e))).trans (Heap.get?_push_of_some _ e)
  have hnone : s.heap.get? s.heap.objs.size = none := none_size s
  have gnone : g s.heap.objs.size = none := by
    cases e : g s.heap.objs.size with
    | none => rfl
    | some o' => have := sb _ _ e; rw [hnone] at this; cases this
  refine ⟨(G.kp (fun b o _ e => hk0 b o e)).lim, kla_codeExpr ?_⟩
  refine wpAny_mono (h _ s.heap.objs.size _ hA.deeper ⟨hns, fun b o e => hk0 b o (sb b o e), fun _ hp => (nomatch hp), by simp, fun b hb => ?_, fun b hb => ?_, fun _ _ e => .inl e, Le.refl g, ⟨fun b o _ e => hk0 b o e, rfl, rfl⟩, G, T.same fun o e => hk0 _ o e, ?_⟩) (fun v s' q => q) fun _ _ f => f.elim
  · rw [List.mem_singleton.mp hb]; exact gnone
  · rw [List.mem_singleton.mp hb]; exact hnone
  · obtain ⟨_, ps, e, _⟩ := T; exact ⟨_, e⟩
end
end Mine
end
section
open PySem PySem.W PySem.Calls PyProof.Rows
set_option maxRecDepth 100000
set_option linter.unusedSimpArgs false
set_option linter.unusedVariables false
namespace Mine
section
variable {prog : Program} {w : World} {n : Nat}
/-- a rule as _law_rule makes it: the path 47 :: x, allowed b -/
noncomputable def RuleAt (prog : Program) (w : World) (g : Hp) (v : Value) (x : List Nat) (b : Bool) : Prop :=
  ∃ f fd d od f2 fd2, v = .ref f ∧ g f = some (funO fd (some d)) ∧ g f2 = some (funO fd2 none) ∧ g d = some od ∧ (∀ h : Heap, h.get? d = some od → h.Ns1 d (lkp [("applies_to", .ref f2), ("allowance", .bool b)])) ∧
    ∀ (y : List Nat) (u : Tok) (n : Nat), y.length ≤ 900 → Fn prog w (.ref f2) (n + 15) [.str (mk (47 :: y)) u] (fun g' _ => Le g g') (fun v _ => ∃ t, v = .int (if joinL (lcp (clean x) (clean y)) = x then ((x.length + 2 : Nat) : Int) else 0) t)
theorem RuleAt.mono {g g' : Hp} {v : Value} {x : List Nat} {b : Bool} (h : RuleAt prog w g v x b) (l : Le g g') : RuleAt prog w g' v x b := by
  obtain ⟨f, fd, d, od, f2, fd2, e, hf, hf2, hd, hN, C⟩ := h
  exact ⟨f, fd, d, od, f2, fd2, e, l _ _ hf, l _ _ hf2, l _ _ hd, hN, fun y u n hy A s gg hA G sb T pre => C y u n hy A s gg hA G sb T (l.trans pre)⟩
set_option maxHeartbeats 8000000 in
theorem c_law_rule (x : List Nat) (t : Tok) (b : Bool) (hx : x.length ≤ 900) : Fn prog w (.ref 197) (n + 1) [.str (mk (47 :: x)) t, .bool b] (fun g _ => True)
   (fun v g => RuleAt prog w g v x b) := by
  have hbig : sizeLine = 16777216 := rfl
  refine fn_defC [("path", .str (mk (47 :: x)) t), ("allowed", .bool b)] rfl rfl rfl (fun A A₁ s₀ g₀ L s hA hl S => ?_)
  have S := S.reown (own' := [(L + 1, cellO none)]) rfl
  refine r_seq (r_storeC S fun s S => r_seq (r_store S (fun s S => r_seq0 ⟨?_, S.nx⟩)))
  have S := S.relc (lc' := [("allowed", .bool b)]) rfl
  repeat walk_at "m1"
  refine r_lam S rfl rfl (.head _) rfl fun f1 c1 pm1 ct1 g1 s le1 hc1 S => ?_
  repeat walk_at "m1"
  refine r_lam S rfl rfl (.tail _ (.head _)) rfl fun f2 c2 pm2 ct2 g2 s le2 hc2 S => ?_
  repeat walk_at "m1"
  refine r_setF1 S.swap fn_no_applies fun d od s hN1 S => ?_
  repeat walk_at "m1"
  refine r_setF2 S fn_no_allowance hN1 fun od2 s hN2 S => ?_
  repeat walk_at "m1"
  obtain ⟨n1, S⟩ := St.lay1 S
  obtain ⟨n2, S⟩ := St.lay1 S
  obtain ⟨n3, S⟩ := St.lay1 S
  obtain ⟨n4, S⟩ := St.lay1 S
  refine S.done ⟨f1, _, d, od2, f2, _, rfl, Le.ins n4 _ _ (Le.ins n3 _ _ ins_self), Le.ins n4 _ _ ins_self, Le.ins n4 _ _ (Le.ins n3 _ _ (Le.ins n2 _ _ ins_self)), hN2, ?_⟩
  intro y u m hy A' s' gg hA' G sb T pre
  have hgf : gg f2 = some _ := pre _ _ (Le.ins n4 _ _ ins_self)
  have hgc : gg (L + 1) = some (cellO (some (.str (mk (47 :: x)) t))) := pre _ _ ins_self
  refine r_enterE (n := m + 14) hA' G sb T hgf ?_ (binds := [("way", .str (mk (47 :: y)) u)]) rfl rfl rfl fun A2 L2 s2 hA2 S => ?_
  · obtain ⟨o, vs, tt, h1, h2, h3⟩ := hc2
    exact ⟨o, vs, tt, pre _ _ (Le.ins n4 _ _ (Le.ins n3 _ _ (Le.ins n2 _ _ (Le.ins n1 _ _ h1)))), h2, h3⟩
  have S := S.relc (lc' := [("way", .str (mk (47 :: y)) u)]) rfl
  repeat walk_at "m1"
  refine r_free (S.at hgc) ?_
  repeat walk_at "m1"
  refine r_newB S (Nat.le_of_ble_eq_true rfl) fun l s hl S => ?_
  repeat walk_at "m1"
  refine ⟨S.ge, r_use S (c_commonpath (n := m + 2) x y t u l hx hy) hA2 ins_self fun v g3 s le3 hv S => ?_⟩
  obtain ⟨t3, rfl⟩ := hv
  have hgc3 := le3 _ _ (Le.ins hl _ _ hgc)
  repeat walk_at "m1"
  refine r_free (S.at hgc3) ?_
  repeat walk_at "m1"
  by_cases he : joinL (lcp (clean x) (clean y)) = x
  · rw [decide_eq_true (show mk (47 :: joinL (lcp (clean x) (clean y))) = mk (47 :: x) by rw [he])]
    repeat walk_at "m1"
    refine r_free (S.at hgc3) ?_
    repeat walk_at "m1"
    refine PyProof.Rows.len_str (by rw [mk_len]; simp only [List.length_cons]; omega) ?_
    have S := S.toks (t := s.toks + 1 + 1)
    repeat walk_at "m1"
    refine PyProof.Rows.add_int ?_
    have S := S.toks (t := s.toks + 1)
    refine S.done ⟨s.toks, ?_⟩
    rw [if_pos he, mk_len]
    rfl
  · rw [decide_eq_false (show ¬ mk (47 :: joinL (lcp (clean x) (clean y))) = mk (47 :: x) by rw [mk_inj]; simpa using he)]
    repeat walk_at "m1"
    refine S.done ⟨tk, ?_⟩
    rw [if_neg he]
end
end Mine
end
section
open PySem PySem.W PySem.Calls PyProof.Rows
open Builtin Builtin.ObjectAttr
set_option maxRecDepth 100000
set_option linter.unusedSimpArgs false
set_option linter.unusedVariables false
namespace Mine
theorem slot_fn_ga : PySem.Slot "function" "__getattribute__" "object.__getattribute__" :=
  .of (owner := "object") (n := "__getattribute__") (by rw [typeLookup_type, builtinLookup_eq_fast]; kernel_rfl) (by decide +kernel) (by decide +kernel) (by decide +kernel)
    (by first | exact .inl (by decide +kernel) | exact .inr (by decide +kernel)) (by rw [isSubtype_type]; kernel_rfl)
theorem entry_ga : entryFor table "object.__getattribute__" = some Builtin.«object.__getattribute__» := entryFor_of_tree (by kernel_rfl)
theorem args_ga (a b : Value) : argsOk "object.__getattribute__" ⟨[a, b], []⟩ := by unfold argsOk; kernel_rfl
theorem fn_no_getattr : typeLookup (.type "function") "__getattr__" = pure none := by rw [typeLookup_type, builtinLookup_eq_fast]; kernel_rfl
theorem canon_ga : (Manifest.canonical "object.__getattribute__" != "object.__getattribute__") = false := by decide +kernel
section
variable {prog : Program} {w : World} {A : Around} {s₀ s s' : Shared} {g₀ g g' : Hp} {L : Addr} {lc lc' : List (Str × Value)} {own own' : List (Addr × Obj)} {E : Value → Shared → Prop} {env : Env} {n : Nat}
/-- an field of a function, out of its own dict -/
theorem r_getF {f d : Addr} {fd : FuncData} {m : Str → Option Value} {name : Str} {v : Value} {ex : Bool} {Q : Value → Shared → Prop} (S : St w s₀ g₀ g L lc own s) (hf : s.heap.get? f = some (funO fd (some d))) (hd : s.heap.Ns d m) (hm : m name = some v) (hname : typeLookup (.type "function") name = pure none)
    (hv : ∀ id, v ≠ .builtin id) (h : ∀ s', St w s₀ g₀ g L lc own s' → Q v s') : wpAny (model prog w) A (getAttr (.ref f) name ex) Q E s := by
  unfold getAttr
  refine wpAny_bind (wpAny_mkText ?_)
  have S1 := S.toks (t := s.toks + 1)
  have hT : Shared.TypeIs { s with toks := s.toks + 1 } (.ref f) "function" := ⟨_, hf, rfl⟩
  unfold getAttrBy
  refine wpAny_holding (wpAny_bind (wpAny_typeOf hT (wpAny_bind (wpAny_of_eq slot_fn_ga.lookup ?_))))
  dsimp only
  rw [if_neg (by simp [onTheHeap])]
  unfold getAttrByItsOwn
  refine wpAny_bind (wpAny_of_eq (a := none) rfl ?_)
  refine wpAny_bind (wpAny_attempt (wpAny_holding ?_))
  unfold callGetattribute
  rw [if_neg (by simp [onTheHeap])]
  unfold boundAndCalled
  refine wpAny_bind (wpAny_of_eq (slot_fn_ga.bind _) ?_)
  refine wpAny_call_entry slot_fn_ga hT entry_ga ?_ (args_ga _ _)
  unfold Builtin.«object.__getattribute__»
  refine wpAny_bind (wpAny_of_eq (a := (Value.ref f, [Value.str name s.toks])) rfl ?_)
  dsimp only
  refine wpAny_bind (wpAny_of_eq (a := name) rfl ?_)
  refine wpAny_bind (wpAny_typeOf hT ?_)
  unfold find
  refine wpAny_bind (wpAny_bind (wpAny_of_eq hname ?_))
  refine wpAny_bind (wpAny_of_eq (a := none) rfl ?_)
  refine wpAny_bind (wpAny_of_eq (a := none) rfl ?_)
  dsimp only
  unfold ownThenClass inOwnDict
  refine wpAny_bind ?_
  refine wpAny_bind ?_
  unfold ObjectAttr.ownDict
  refine wpAny_bind ?_
  show wpAny _ _ (loadPart f _) _ _ _
  refine wpAny_loadPart hf ?_
  show wpAny _ _ (instanceDict f false) _ _ _
  unfold instanceDict
  refine wpAny_bind (wpAny_loadPart hf ?_)
  refine wpAny_pure ?_
  show wpAny _ _ (nsGet d name) _ _ _
  refine wpAny_nsGet hd ?_
  rw [hm]
  refine wpAny_bind (wpAny_rule (wpAny_pure ?_))
  refine wpAny_pure ⟨_, rfl, ?_⟩
  have e : handedOut v = pure v := by
    unfold handedOut
    split
    · rename_i id; exact absurd rfl (hv id)
    · rfl
  show wpAny _ _ (handedOut v) _ _ _
  rw [e]
  exact wpAny_pure (h _ S1)
/-- a call of what stands in a function's own dict -/
theorem r_gmF {f d : Addr} {fd : FuncData} {m : Str → Option Value} {name : Str} {v : Value} {pl : Sem Bool} {Q : Value × List Value → Shared → Prop} (S : St w s₀ g₀ g L lc own s) (hf : s.heap.get? f = some (funO fd (some d))) (hd : s.heap.Ns d m) (hm : m name = some v) (hname : typeLookup (.type "function") name = pure none)
    (hv : ∀ id, v ≠ .builtin id) (h : ∀ s', St w s₀ g₀ g L lc own s' → Q (v, []) s') : wpAny (model prog w) A (getMethod (.ref f) name pl) Q E s := by
  have hT : s.TypeIs (.ref f) "function" := ⟨_, hf, rfl⟩
  unfold getMethod
  refine wpAny_bind (wpAny_specialOf hT slot_fn_ga.lookup ?_)
  dsimp only
  rw [canon_ga, if_neg Bool.false_ne_true]
  refine wpAny_bind (wpAny_specialOf hT fn_no_getattr ?_)
  refine wpAny_bind (wpAny_specialOf hT hname ?_)
  exact wpAny_bind (r_getF S hf hd hm hname hv fun s' S' => wpAny_pure (h s' S'))
/-- an field is read -/
theorem r_attr {o : Expr} {attr : Str} {pos : Pos} {Q : Value → Shared → Prop} (h : wpAny (model prog w) A (eval o env) (fun ov s₁ => wpAny (model prog w) A (getAttr ov attr true) Q E s₁) E s)
    (hb : attributeBase o attr env (eval o env) = eval o env := by rfl) : wpAny (model prog w) A (eval (.Attribute o attr pos) env) Q E s := by
  show wpAny _ _ (attributeBase o attr env (eval o env) >>= _) _ _ _
  rw [hb]
  exact wpAny_bind (wpAny_mono h (fun ov s₁ h₁ => wpAny_bind (wpAny_standAt (wpAny_bind (wpAny_holding (wpAny_mono h₁ (fun r s₂ h₂ => wpAny_bind (wpAny_letTemporaryGo (wpAny_pure h₂))) fun _ _ z => z))))) fun _ _ z => z)
end
end Mine
end
section
open PySem PySem.W PySem.Calls PyProof.Rows
set_option maxRecDepth 100000
set_option linter.unusedSimpArgs false
set_option linter.unusedVariables false
namespace Mine
/-- an Entry's own dict -/
noncomputable abbrev entD (h1 h2 h3 h4 : Int) (u r : Value) (t1 t2 t3 t4 : Tok) (ep : Nat) : Obj := { cls := .type "dict", dict := none, data := .dict (List.toArray [⟨h1, .str "useragents" t1, u⟩, ⟨h2, .str "rulelines" t2, r⟩, ⟨h3, .str "delay" t3, .none⟩, ⟨h4, .str "req_rate" t4, .none⟩]) ep, slots := #[] }
noncomputable abbrev entO (d : Addr) : Obj := { cls := .ref 59, dict := some d, data := .plain }
/-- an object's dict by what it holds -/
noncomputable def DNs (o : Obj) (m : Str → Option Value) : Prop := ∃ es ep, o.data = .dict es ep ∧ StrKeys es ∧ UniqKeys es ∧ ∀ name, nsFind es name = m name
noncomputable abbrev entM (u r : Value) : List (Str × Value) := [("useragents", u), ("rulelines", r), ("delay", .none), ("req_rate", .none)]
theorem DNs.look {o : Obj} {m : Str → Option Value} (h : DNs o m) (x : Str) : lookIn x o = some (m x) := by
  obtain ⟨es, ep, e, k, u, f⟩ := h
  rw [← f x]
  unfold lookIn nsFind
  rw [e]
  dsimp only
  have hr : es.toList.any (·.refKey) = false := by
    rw [List.any_eq_false]
    intro e he
    obtain ⟨n, t, h⟩ := k e (by simpa using he)
    unfold DictEntry.refKey
    rw [h]; simp
  unfold findBy
  rw [hr, show Array.find? (fun e => (fun n v => v.isStr n) x e.key) es = List.find? (fun x_1 => x_1.key.isStr x) es.toList from (Array.find?_toList ..).symm]
  cases List.find? (fun x_1 => x_1.key.isStr x) es.toList <;> simp
theorem DNs.ent (h1 h2 h3 h4 : Int) (u r : Value) (t1 t2 t3 t4 : Tok) (ep : Nat) : DNs (entD h1 h2 h3 h4 u r t1 t2 t3 t4 ep) (lkp (entM u r)) := by
  refine ⟨_, _, rfl, ?_, ?_, ?_⟩
  · intro e he
    simp at he
    rcases he with rfl | rfl | rfl | rfl <;> exact ⟨_, _, rfl⟩
  · unfold UniqKeys
    have q : ∀ (x y n : Str) (t t' : Tok), x ≠ y → (Value.str x t).isStr n = true → (Value.str y t').isStr n = true → False := by
      intro x y n t t' hxy a b
      simp only [Value.isStr, beq_iff_eq] at a b
      exact hxy (a.trans b.symm)
    simp only [List.pairwise_cons, List.mem_cons, List.not_mem_nil, or_false, forall_eq_or_imp, forall_eq, List.Pairwise.nil, and_true, false_imp_iff, implies_true]
    exact ⟨⟨fun n => q _ _ n _ _ (by decide), fun n => q _ _ n _ _ (by decide), fun n => q _ _ n _ _ (by decide)⟩, ⟨fun n => q _ _ n _ _ (by decide), fun n => q _ _ n _ _ (by decide)⟩, fun n => q _ _ n _ _ (by decide)⟩
  · intro x
    unfold nsFind findBy
    simp only [Value.isStr, List.find?_toArray, List.find?_cons, List.find?_nil]
    unfold lkp entM
    simp only [List.lookup_cons, List.lookup_nil]
    rw [show (Str.ofString "useragents" == x) = (x == Str.ofString "useragents") from BEq.comm, show (Str.ofString "rulelines" == x) = (x == Str.ofString "rulelines") from BEq.comm, show (Str.ofString "delay" == x) = (x == Str.ofString "delay") from BEq.comm, show (Str.ofString "req_rate" == x) = (x == Str.ofString "req_rate") from BEq.comm]
    cases x == Str.ofString "useragents" <;> cases x == Str.ofString "rulelines" <;> cases x == Str.ofString "delay" <;> cases x == Str.ofString "req_rate" <;> rfl
noncomputable def EntryAt (w : World) (g : Hp) (e : Addr) (u r : Value) : Prop := ∃ d od, g e = some (entO d) ∧ g d = some od ∧ DNs od (lkp (entM u r))
theorem EntryAt.mono {w : World} {g g' : Hp} {e : Addr} {u r : Value} (h : EntryAt w g e u r) (l : Le g g') : EntryAt w g' e u r := by
  obtain ⟨d, od, h1, h2, h3⟩ := h
  exact ⟨d, od, l _ _ h1, l _ _ h2, h3⟩
section
variable {prog : Program} {w : World} {A : Around} {s₀ s s' : Shared} {g₀ g g' : Hp} {L : Addr} {lc lc' : List (Str × Value)} {own own' : List (Addr × Obj)} {E : Value → Shared → Prop} {env : Env} {n : Nat}
theorem EntryAt.inst {h : Heap} {e : Addr} {u r : Value} (X : EntryAt w g e u r) (sb : Sub g h) : ∃ ox od, InstAt h e ox 59 (some od) ∧ lookIn "rulelines" od = some (some r) ∧ lookIn "useragents" od = some (some u) ∧ lookIn "allowance" od = some none := by
  obtain ⟨d, od, h1, h2, h3⟩ := X
  exact ⟨_, _, ⟨sb _ _ h1, rfl, rfl, sb _ _ h2⟩, h3.look _, h3.look _, h3.look _⟩
theorem r_getI {e : Addr} {u r v : Value} {name : Str} {ex : Bool} {Q : Value → Shared → Prop} (S : St w s₀ g₀ g L lc own s) (X : EntryAt w g e u r) (hn : name = "rulelines" ∧ v = r ∨ name = "useragents" ∧ v = u) (hv : handedIn v = true)
    (h : ∀ s', St w s₀ g₀ g L lc own s' → Q v s') : wpAny (model prog w) A (getAttr (.ref e) name ex) Q E s := by
  unfold getAttr
  refine wpAny_bind (wpAny_mkText ?_)
  have S1 := S.toks (t := s.toks + 1)
  obtain ⟨ox, od, I, l1, l2, _⟩ := X.inst S1.sub
  have hf : findObj (KK w) 59 (some od) name = some (.value v) := by
    rcases hn with ⟨rfl, rfl⟩ | ⟨rfl, rfl⟩
    · show Option.bind (lookIn "rulelines" od) _ = _
      rw [l1]; rfl
    · show Option.bind (lookIn "useragents" od) _ = _
      rw [l2]; rfl
  exact kbm_value (K := KK w) S1.ge.K I rfl hf hv (h _ S1)
theorem r_gmI {e : Addr} {u r : Value} {pl : Sem Bool} {Q : Value × List Value → Shared → Prop} (S : St w s₀ g₀ g L lc own s) (X : EntryAt w g e u r) (h : Q (.ref 56, [.ref e]) s) : wpAny (model prog w) A (getMethod (.ref e) "allowance" pl) Q E s := by
  obtain ⟨ox, od, I, l1, l2, l3⟩ := X.inst S.sub
  refine method_fn (K := KK w) S.ge.K I rfl rfl rfl rfl ?_ h
  show Option.map _ (lookIn "allowance" od) = _
  rw [l3]; rfl
theorem r_cwK1 {pos : Pos} {f : Value} {first : List Value} {e : Expr} {rest : List Expr} {Q : Value → Shared → Prop} (S : St w s₀ g₀ g L lc own s) (hk : keepIn (KK w) f = true)
    (h : wpAny (model prog w) A (spliced (backTo pos (starEach (e :: rest) env))) (fun vs s₁ => GE w s₁.heap ∧ wpAny (model prog w) A (call f (first ++ vs)) Q E s₁) E s)
    (he : starEach (e :: rest) env = (false, eval e env) :: starEach rest env := by rfl) (hplain : (backTo pos (starEach rest env)).any (·.1) = false := by rfl) :
    wpAny (model prog w) A (callWith pos f first (backTo pos (starEach (e :: rest) env)) []) Q E s :=
  callWith_K S.ge.K hk (wpAny_mono h (fun vs s₁ q => ⟨q.1.K, q.2⟩) fun _ _ z => z) he hplain
theorem r_cwF1 {pos : Pos} {f : Addr} {o : Obj} {fd : FuncData} {first : List Value} {e : Expr} {rest : List Expr} {Q : Value → Shared → Prop} (hd : o.data = .func fd)
    (h : wpAny (model prog w) A (spliced (backTo pos (starEach (e :: rest) env))) (fun vs s₁ => s₁.heap.get? f = some o ∧ wpAny (model prog w) A (call (.ref f) (first ++ vs)) Q E s₁) E s)
    (he : starEach (e :: rest) env = (false, eval e env) :: starEach rest env := by rfl) :
    wpAny (model prog w) A (callWith pos (.ref f) first (backTo pos (starEach (e :: rest) env)) []) Q E s := by
  refine callWith_function_kw (o := o) (fd := fd) ?_
  rw [he] at h ⊢
  refine evalArgs_plain ?_
  exact wpAny_mono h (fun vs s₁ q => ⟨⟨q.1, hd⟩, q.2⟩) fun _ _ z => z
end
end Mine
end
section
open PySem PySem.W PySem.Calls PyProof.Rows
set_option maxRecDepth 100000
set_option linter.unusedSimpArgs false
set_option linter.unusedVariables false
namespace Mine
/-- a list of rules -/
inductive RulesAt (prog : Program) (w : World) (g : Hp) : List Value → List (List Nat × Bool) → Prop
  | nil : RulesAt prog w g [] []
  | cons {v x b vs rs} : RuleAt prog w g v x b → RulesAt prog w g vs rs → RulesAt prog w g (v :: vs) ((x, b) :: rs)
theorem RulesAt.mono {prog : Program} {w : World} {g g' : Hp} {vs : List Value} {rs : List (List Nat × Bool)} (h : RulesAt prog w g vs rs) (l : Le g g') : RulesAt prog w g' vs rs := by
  induction h with
  | nil => exact .nil
  | cons r _ ih => exact .cons (r.mono l) ih
theorem RulesAt.length {prog : Program} {w : World} {g : Hp} {vs : List Value} {rs : List (List Nat × Bool)} (h : RulesAt prog w g vs rs) : vs.length = rs.length := by
  induction h with
  | nil => rfl
  | cons _ _ ih => simp [ih]
theorem RulesAt.at {prog : Program} {w : World} {g : Hp} {vs : List Value} {rs : List (List Nat × Bool)} (h : RulesAt prog w g vs rs) {i : Nat} {v : Value} (hv : vs[i]? = some v) : ∃ x b, rs[i]? = some (x, b) ∧ RuleAt prog w g v x b := by
  induction h generalizing i with
  | nil => simp at hv
  | cons r _ ih =>
    cases i with
    | zero => simp at hv; subst hv; exact ⟨_, _, by simp, r⟩
    | succ i => simp at hv; obtain ⟨x, b, h1, h2⟩ := ih hv; exact ⟨x, b, by simpa using h1, h2⟩
theorem RulesAt.append {prog : Program} {w : World} {g : Hp} {vs us : List Value} {rs qs : List (List Nat × Bool)} (h : RulesAt prog w g vs rs) (k : RulesAt prog w g us qs) : RulesAt prog w g (vs ++ us) (rs ++ qs) := by
  induction h with
  | nil => exact k
  | cons r _ ih => exact .cons r ih
noncomputable def hitA (x y : List Nat) : Int := if joinL (lcp (clean x) (clean y)) = x then ((x.length + 2 : Nat) : Int) else 0
noncomputable def stepA (y : List Nat) (a : Int × Bool) (r : List Nat × Bool) : Int × Bool :=
  if hitA r.1 y = 0 then a else if hitA r.1 y > a.1 then (hitA r.1 y, r.2) else if hitA r.1 y = a.1 ∧ a.2 = false then (a.1, r.2) else a
noncomputable def allowF (y : List Nat) (rs : List (List Nat × Bool)) : Bool := (rs.foldl (stepA y) (-1, true)).2
section
variable {prog : Program} {w : World} {n : Nat}
set_option maxHeartbeats 8000000 in
theorem c_allowance (e rl : Addr) (uv : Value) (y : List Nat) (u : Tok) (rvs : List Value) (k : Nat) (rs : List (List Nat × Bool)) (hy : y.length ≤ 900) : Fn prog w (.ref 56) (n + 16) [.ref e, .str (mk (47 :: y)) u]
    (fun g _ => EntryAt w g e uv (.ref rl) ∧ g rl = some (lst rvs k) ∧ RulesAt prog w g rvs rs) (fun v _ => v = .bool (allowF y rs)) := by
  refine fn_def [("self", .ref e), ("filename", .str (mk (47 :: y)) u)] rfl rfl rfl rfl rfl (fun A s₀ g₀ L s hA pre S => ?_)
  obtain ⟨hE, hrl, hR⟩ := pre
  repeat walk_at "m1"
  have S := S.relc (lc' := [("filename", .str (mk (47 :: y)) u), ("self", .ref e), ("best_match", .int (-1) tk), ("allowance", .bool true)]) rfl
  refine r_attr ?_ rfl
  repeat walk_at "m1"
  refine r_getI S hE (.inl ⟨rfl, rfl⟩) rfl fun s S => ?_
  refine r_forL (fun (i : Nat) (g : Hp) (lc : List (Str × Value)) (own : List (Addr × Obj)) => own = [] ∧ ∃ bt al tb, (rs.take i).foldl (stepA y) (-1, true) = (bt, al) ∧
    (lc = ([("filename", .str (mk (47 :: y)) u), ("self", .ref e), ("best_match", .int bt tb), ("allowance", .bool al)] : List (Str × Value)) ∨
      ∃ p q, lc = ([("filename", .str (mk (47 :: y)) u), ("self", .ref e), ("best_match", .int bt tb), ("allowance", .bool al), ("line", p), ("m", q)] : List (Str × Value)))) hA S hrl ⟨rfl, -1, true, tk, rfl, .inl rfl⟩ ?_ ?_
  · rintro i v g' lc' own' It oI s' hv lg ⟨rfl, bt, al, tb, hst, hlc⟩ S
    obtain ⟨x, b, hxb, hrule⟩ := (hR.mono lg).at hv
    obtain ⟨f, fd, d, od, f2, fd2, rfl, hf, hf2, hd, hN, C⟩ := hrule
    have hNs : ∀ s : Shared, s.heap.get? d = some od → s.heap.Ns d (lkp [("applies_to", .ref f2), ("allowance", .bool b)]) := fun s e => by
      obtain ⟨o', es, ep, e1, e2, e3, _, e4⟩ := hN _ e
      exact ⟨o', es, ep, e1, e2, e3, e4⟩
    have step : (rs.take (i + 1)).foldl (stepA y) (-1, true) = stepA y (bt, al) (x, b) := by
      rw [List.take_add_one, hxb]; simp [hst]
    repeat walk_at "m1"
    have hl1 : LcOr ([("filename", .str (mk (47 :: y)) u), ("self", .ref e), ("best_match", .int bt tb), ("allowance", .bool al), ("line", .ref f)] : List (Str × Value)) "m" (setl "line" (.ref f) lc') := by
      rcases hlc with rfl | ⟨p, q, rfl⟩
      · exact .inl rfl
      · exact .inr ⟨q, rfl⟩
    have hl2 : lkp (setl "line" (.ref f) lc') "line" = some (.ref f) ∧ lkp (setl "line" (.ref f) lc') "filename" = some (.str (mk (47 :: y)) u) := by
      rcases hl1 with h | ⟨q, h⟩ <;> rw [h] <;> exact ⟨rfl, rfl⟩
    refine r_loc S hl2.1 ?_
    refine r_gmF S (S.at hf) (hNs _ (S.at hd)) rfl fn_no_applies (fun id h => by cases h) fun s S => ?_
    refine r_cwF1 (o := funO fd2 none) rfl ?_ rfl
    refine r_args ?_ rfl
    refine r_loc S hl2.2 ?_
    repeat walk_at "m1"
    refine ⟨S.at hf2, r_use S (C y u n hy) hA (Le.refl _) fun v g2 s le2 hv S => ?_⟩
    obtain ⟨t2, hv⟩ := hv
    have hv : v = .int (hitA x y) t2 := hv
    subst hv
    generalize hH : hitA x y = H at S
    repeat walk_at "m1"
    have S := S.relc (hl1.set rfl fun _ => rfl)
    repeat walk_at "m1"
    refine PyProof.Rows.truthy_int ?_
    by_cases h0 : H = 0
    · rw [show (H != 0) = false by simp [h0]]
      repeat walk_at "m1"
      exact ⟨_, _, _, le2, ⟨rfl, bt, al, tb, by rw [step]; unfold stepA; rw [hH, if_pos h0], (.inr ⟨.ref f, .int H t2, rfl⟩)⟩, S⟩
    · rw [show (H != 0) = true by simp [h0]]
      repeat walk_at "m1"
      refine PyProof.Rows.gt_int ?_
      repeat walk_at "m1"
      by_cases h1 : bt < H
      · rw [decide_eq_true h1]
        repeat walk_at "m1"
        refine r_attr ?_ rfl
        repeat walk_at "m1"
        refine r_getF S (S.at (le2 _ _ hf)) (hNs _ (S.at (le2 _ _ hd))) rfl fn_no_allowance (fun id h => by cases h) fun s S => ?_
        repeat walk_at "m1"
        exact ⟨_, _, _, le2, ⟨rfl, H, b, t2, by rw [step]; unfold stepA; rw [hH, if_neg h0, if_pos h1], .inr ⟨.ref f, .int H t2, rfl⟩⟩, S⟩
      · rw [decide_eq_false h1]
        repeat walk_at "m1"
        refine PyProof.Rows.eq_int ?_
        repeat walk_at "m1"
        by_cases h2 : H = bt
        · rw [show (H == bt) = true by simp [h2]]
          repeat walk_at "m1"
          cases al with
          | true =>
            simp only [Bool.not_true]
            repeat walk_at "m1"
            exact ⟨_, _, _, le2, ⟨rfl, bt, true, tb, by rw [step]; unfold stepA; rw [hH, if_neg h0, if_neg h1, if_neg (by simp)], .inr ⟨.ref f, .int H t2, rfl⟩⟩, S⟩
          | false =>
            simp only [Bool.not_false]
            repeat walk_at "m1"
            refine r_attr ?_ rfl
            repeat walk_at "m1"
            refine r_getF S (S.at (le2 _ _ hf)) (hNs _ (S.at (le2 _ _ hd))) rfl fn_no_allowance (fun id h => by cases h) fun s S => ?_
            repeat walk_at "m1"
            exact ⟨_, _, _, le2, ⟨rfl, bt, b, tb, by rw [step]; unfold stepA; rw [hH, if_neg h0, if_neg h1, if_pos ⟨h2, rfl⟩], .inr ⟨.ref f, .int H t2, rfl⟩⟩, S⟩
        · rw [show (H == bt) = false by simp [h2]]
          repeat walk_at "m1"
          exact ⟨_, _, _, le2, ⟨rfl, bt, al, tb, by rw [step]; unfold stepA; rw [hH, if_neg h0, if_neg h1, if_neg (fun h => h2 h.1)], .inr ⟨.ref f, .int H t2, rfl⟩⟩, S⟩
  · rintro g' lc' own' s' lg ⟨rfl, bt, al, tb, hst, hlc⟩ S
    rw [hR.length, List.take_length] at hst
    have hal : lkp lc' "allowance" = some (.bool al) := by rcases hlc with rfl | ⟨p, q, rfl⟩ <;> rfl
    repeat walk_at "m1"
    refine r_loc S hal ?_
    repeat walk_at "m1"
    exact S.done (by unfold allowF; rw [hst])
end
end Mine
end
section
open PySem PySem.W PySem.W.X PySem.Calls PyProof.Rows
set_option maxRecDepth 100000
set_option linter.unusedSimpArgs false
set_option linter.unusedVariables false
namespace Mine
section
variable {prog : Program} {w : World} {A : Around} {s₀ s s' : Shared} {g₀ g g' : Hp} {L : Addr} {lc lc' : List (Str × Value)} {own own' : List (Addr × Obj)} {E : Value → Shared → Prop} {env : Env} {n : Nat}
theorem r_callK0 {x : Str} {np pos : Pos} {f : Value} {Q : Value → Shared → Prop} (S : St w s₀ g₀ g L lc own s) (e₁ : nsIn (KK w) mainGlobals x = some (some f)) (hk : keepIn (KK w) f = true) (h : wpAny (model prog w) A (call f []) Q E s)
    (hg : env.globals = mainGlobals := by rfl) (hkd : env.scope.kind = .function := by rfl) (hx : env.kindOf x = some .globalImplicit := by rfl) (hd : (x == ("__debug__" : Str)) = false := by decide) :
    wpAny (model prog w) A (eval (.Call (.Name x np) [] [] pos) env) Q E s := by
  refine wpAny_Call_ofName (r_glob S.ge e₁ ?_ hg hkd hx hd)
  exact callWith_K0 (first := []) S.ge.K hk h
end
end Mine
end
section
open PySem PySem.W PySem.W.X PySem.Calls PyProof.Rows
set_option maxRecDepth 100000
set_option linter.unusedSimpArgs false
set_option linter.unusedVariables false
namespace Mine
section
variable {prog : Program} {w : World} {A : Around} {s₀ s s' : Shared} {g₀ g g' : Hp} {L : Addr} {lc lc' : List (Str × Value)} {own own' : List (Addr × Obj)} {E : Value → Shared → Prop} {env : Env} {n : Nat}
/-- any of an Entry's four fields -/
theorem r_getD {e : Addr} {u r v : Value} {name : Str} {ex : Bool} {Q : Value → Shared → Prop} (S : St w s₀ g₀ g L lc own s) (X : EntryAt w g e u r) (hn : name ∈ (["useragents", "rulelines", "delay", "req_rate"] : List Str)) (hv0 : lkp (entM u r) name = some v) (hv : handedIn v = true)
    (h : ∀ s', St w s₀ g₀ g L lc own s' → Q v s') : wpAny (model prog w) A (getAttr (.ref e) name ex) Q E s := by
  unfold getAttr
  refine wpAny_bind (wpAny_mkText ?_)
  have S1 := S.toks (t := s.toks + 1)
  obtain ⟨d, od, h1, h2, h3⟩ := X
  have hf : findObj (KK w) 59 (some od) name = some (.value v) := by
    have hl := h3.look name
    rw [hv0] at hl
    simp only [List.mem_cons, List.not_mem_nil, or_false] at hn
    rcases hn with rfl | rfl | rfl | rfl
    · show Option.bind (lookIn "useragents" od) _ = _
      rw [hl]; rfl
    · show Option.bind (lookIn "rulelines" od) _ = _
      rw [hl]; rfl
    · show Option.bind (lookIn "delay" od) _ = _
      rw [hl]; rfl
    · show Option.bind (lookIn "req_rate" od) _ = _
      rw [hl]; rfl
  exact kbm_value (K := KK w) S1.ge.K (ox := entO d) ⟨S1.sub _ _ h1, rfl, rfl, S1.sub _ _ h2⟩ rfl hf hv (h _ S1)
end
end Mine
end
section
open PySem PySem.W PySem.Calls PyProof.Rows
set_option maxRecDepth 100000
set_option linter.unusedSimpArgs false
set_option linter.unusedVariables false
namespace Mine
theorem find58 (w : World) {name : Str} (hn : name ∈ (["useragents", "rulelines", "delay", "req_rate", "__setattr__"] : List Str)) : ∃ o es ep, (KK w).lookup 58 = some o ∧ o.data = .dict es ep ∧ StrKeys es ∧ nsFind es name = none := by
  refine ⟨_, _, _, rfl, rfl, ?_, ?_⟩
  · intro e he
    simp at he
    rcases he with rfl | rfl | rfl | rfl | rfl | rfl | rfl | rfl | rfl | rfl <;> exact ⟨_, _, rfl⟩
  · simp only [List.mem_cons, List.not_mem_nil, or_false] at hn
    rcases hn with rfl | rfl | rfl | rfl | rfl <;> rfl
section
variable {prog : Program} {w : World} {A : Around} {s₀ s s' : Shared} {g₀ g g' : Hp} {L : Addr} {lc lc' : List (Str × Value)} {own own' : List (Addr × Obj)} {E : Value → Shared → Prop} {env : Env} {n : Nat}
set_option maxHeartbeats 4000000 in
/-- an field of an own object of Entry is set -/
theorem r_setI {e d : Addr} {od : Obj} {name : Str} {v : Value} {m : List (Str × Value)} {Q : Unit → Shared → Prop} (S : St w s₀ g₀ g L lc ((d, od) :: (e, entO d) :: own) s) (hN : DNs od (lkp m))
    (hname : name ∈ (["useragents", "rulelines", "delay", "req_rate"] : List Str)) {ns : List Str} (hw : Within (lkp m) ns) (hsz : ns.length ≤ 100)
    (h : ∀ od' s', DNs od' (lkp (setl name v m)) → St w s₀ g₀ g L lc ((d, od') :: (e, entO d) :: own) s' → Q () s') : wpAny (model prog w) A (setAttr (.ref e) name v) Q E s := by
  have hx := S.ob (e, entO d) (.tail _ (.head _))
  have hd := S.ob (d, od) (.head _)
  have hC := S.ge.K 59 _ rfl
  obtain ⟨o58, es58, ep58, k58, d58, sk58, f58⟩ := find58 w (name := name) (by simp only [List.mem_cons, List.not_mem_nil, or_false] at hname ⊢; rcases hname with h | h | h | h <;> simp [h])
  have h58 := S.ge.K 58 _ k58
  have hne : d ≠ e := S.names_ne
  have he59 : e ≠ 59 := fun q => by
    have h0 := S.old e (.tail _ (.tail _ (.head _)))
    rw [q] at h0
    have h1 := S.ge0.K 59 _ rfl
    rw [h0] at h1; cases h1
  obtain ⟨es, ep, e1, e2, e3, e4⟩ := hN
  have I : s.heap.Inst e 59 (lkp m) := ⟨_, hx, rfl, (fun c q => by cases q), .inr ⟨d, rfl, hne, ⟨od, es, ep, hd, e1, e2, e3, e4⟩⟩⟩
  have hn : s.heap.Ns 58 (fun y => nsFind es58 y) := ⟨o58, es58, ep58, h58, d58, sk58, fun _ => rfl⟩
  have hset : nsFind es58 "__setattr__" = none := by
    obtain ⟨o', es', ep', k', d', _, f'⟩ := find58 w (name := "__setattr__") (by simp)
    rw [k58] at k'; cases k'
    rw [d58] at d'; cases d'
    exact f'
  have hB : typeLookup (.type "object") name = pure none := by
    simp only [List.mem_cons, List.not_mem_nil, or_false] at hname
    rcases hname with rfl | rfl | rfl | rfl <;> (rw [typeLookup_type, builtinLookup_eq_fast]; kernel_rfl)
  obtain ⟨hp, gs, dr, tk, os⟩ := s
  refine PySem.store_attr PySem.F.store_object hC hn hset f58 hB he59 I (fun h' tk' I' keep same => ?_) hw (by have : sizeLine = 16777216 := rfl; omega)
  obtain ⟨o1, ho1, hc1, hd1, hs1, hdk⟩ := same _ hx
  have ho1' : h'.get? e = some (entO d) := by
    rw [ho1]
    obtain ⟨c, di, da, sl⟩ := o1
    have q := hdk d rfl
    simp only at hc1 hd1 hs1 q
    subst hc1 hd1 hs1 q
    rfl
  obtain ⟨o2, ho2, _, _, hdd⟩ := I'
  rw [ho1'] at ho2; cases ho2
  rcases hdd with ⟨q, _⟩ | ⟨d2, hd2, _, od', es', ep', g1, g2, g3, g4, g5⟩
  · cases q
  · cases hd2
    refine h od' _ ⟨es', ep', g2, g3, g4, fun y => ?_⟩ (S.step (own' := (d, od') :: (e, entO d) :: own) (lc' := lc) (fun b o hb q => keep b o (fun z => hb (by rw [z]; exact .tail _ (.tail _ (.head _)))) (fun o₀ dx z1 z2 => by rw [hx] at z1; cases z1; cases z2; exact fun z => hb (by rw [z]; exact .tail _ (.head _))) q) rfl rfl ?_ ?_ S.nd fun b hb => .inl hb)
    · rw [g5 y]; exact (congrFun (lkp_setl name v m) y).symm
    · have hn := S.nd
      simp only [List.map_cons, List.nodup_cons, List.mem_cons, not_or] at hn
      obtain ⟨oL, es, ep, eL, r⟩ := S.ns
      exact ⟨oL, es, ep, keep L _ (fun z => hn.1.2.1 z) (fun o₀ dx z1 z2 => by rw [hx] at z1; cases z1; cases z2; exact fun z => hn.1.1 z) eL, r⟩
    · have hn := S.nd
      simp only [List.map_cons, List.nodup_cons, List.mem_cons, not_or] at hn
      intro p hp
      rcases List.mem_cons.mp hp with rfl | hp
      · exact g1
      · rcases List.mem_cons.mp hp with rfl | hp
        · exact ho1'
        · have hpm : p.1 ∈ own.map (·.1) := List.mem_map_of_mem hp
          exact keep p.1 _ (fun z => hn.2.2.1 (z ▸ hpm)) (fun o₀ dx z1 z2 => by rw [hx] at z1; cases z1; cases z2; exact fun z => hn.2.1.2 (z ▸ hpm)) (S.ob p (.tail _ (.tail _ hp)))
end
end Mine
end
section
open PySem PySem.W PySem.Calls PyProof.Rows
set_option maxRecDepth 100000
set_option linter.unusedSimpArgs false
set_option linter.unusedVariables false
namespace Mine
theorem within_lkp (l : List (Str × Value)) : PySem.Within (lkp l) (l.map (·.1)) := by
  intro y hy
  induction l with
  | nil => exact absurd rfl hy
  | cons p r ih =>
    obtain ⟨z, u⟩ := p
    by_cases h : y = z
    · subst h; exact .head _
    · have hb : (y == z) = false := beq_eq_false_iff_ne.mpr h
      refine .tail _ (ih ?_)
      simpa [lkp, List.lookup_cons, hb] using hy
section
variable {prog : Program} {w : World} {A : Around} {s₀ s s' : Shared} {g₀ g g' : Hp} {L L' C : Addr} {lc lc' : List (Str × Value)} {own own' : List (Addr × Obj)} {E : Value → Shared → Prop} {env : Env} {n : Nat} {oN : Obj}
/-- a dict's object -/
noncomputable def DictObj (o : Obj) : Prop := ∃ es ep, o.data = .dict es ep
theorem St.rotI {p q r : Addr × Obj} (S : St w s₀ g₀ g L lc (r :: p :: q :: own) s) : St w s₀ g₀ g L lc (p :: q :: r :: own) s :=
  S.perm ((List.perm_append_comm (l₁ := [p, q]) (l₂ := [r])).append_right own)
/-- an own namespace and the frame change places -/
theorem St.switch (S : St w s₀ g₀ g C lc ((L', oN) :: own) s) (hN : ∀ h : Heap, h.get? L' = some oN → h.Ns L' (lkp lc')) :
    ∃ oC, DictObj oC ∧ (∀ h : Heap, h.get? C = some oC → h.Ns C (lkp lc)) ∧ St w s₀ g₀ g L' lc' ((C, oC) :: own) s := by
  obtain ⟨oC, es, ep, eC, dC, kC, fC⟩ := S.ns
  have hn := S.nd
  simp only [List.map_cons, List.nodup_cons, List.mem_cons, not_or] at hn
  have hm : ∀ b, b ∈ L' :: ((C, oC) :: own).map (·.1) → b ∈ C :: ((L', oN) :: own).map (·.1) := fun b hb => by
    simp only [List.map_cons, List.mem_cons] at hb ⊢
    rcases hb with h | h | h
    · exact .inr (.inl h)
    · exact .inl h
    · exact .inr (.inr h)
  refine ⟨oC, ⟨es, ep, dC⟩, fun h e => ⟨oC, es, ep, e, dC, kC, fC⟩, hN _ (S.ob (L', oN) (.head _)), S.sub, fun p hp => ?_, ?_, fun b hb => S.gL b (hm b hb), fun b hb => S.old b (hm b hb), S.new, S.le, S.nx, S.ge0, S.tab, S.tab0⟩
  · rcases List.mem_cons.mp hp with rfl | hp
    · exact eC
    · exact S.ob p (.tail _ hp)
  · simp only [List.map_cons, List.nodup_cons, List.mem_cons, not_or]
    exact ⟨⟨fun q => hn.1.1 q.symm, hn.2.1⟩, hn.1.2, hn.2.2⟩
/-- a def is entered, the caller's frame is an own object meanwhile -/
theorem r_enterXc {a : Addr} {o : Obj} {name qual : Str} {params : Arguments} {scope : Scope} {dV kV doc pm cd ct : Value} {an : Option Addr} {body : List Stmt} {args : List Value} {binds : List (Str × Value)} {R : Result → Shared → Prop}
    (hA : AOk A (n + 1)) (S : St w s₀ g₀ g C lc own s)
    (ho : s.heap.get? a = some o) (hd : o.data = .func ⟨name, qual, params, .stmts body, scope, mainGlobals, [], dV, kV, doc, pm, an, cd, ct, builtinsNs⟩) (hcd : s.heap.CodeRec cd qual)
    (hbind : bindArgs ⟨name, qual, params, .stmts body, scope, mainGlobals, [], dV, kV, doc, pm, an, cd, ct, builtinsNs⟩ ⟨args, []⟩ = pure binds)
    (hcell : (scope.names.all fun x => x.2 != .cell) = true) (hloc : (binds.all fun y => scope.names.lookup y.1 == some .local) = true)
    (h : ∀ L' oC s', DictObj oC → (∀ h : Heap, h.get? C = some oC → h.Ns C (lkp lc)) → St w s₀ g₀ g L' binds.reverse ((C, oC) :: own) s' → wpAny (model prog w) (A.deeper (envF scope L' [] qual a cd)) (execs body (envF scope L' [] qual a cd)) (fun fl s' => R (.ok (.ret (retv fl))) s') F0 s')
    (hco : scope.isCoroutine = false := by rfl) (hgen : scope.isGenerator = false := by rfl) (hk : scope.kind = .function := by rfl) :
    codeAny (model prog w) A (.call (.ref a) ⟨args, []⟩) R s := by
  refine codeAny_call_def hA.room ho hd S.ge.lim hcd rfl (BindsTo.of_eq hbind) (fun x hx => ?_) (fun x hx => ?_) (fun h₀ hns hk => ?_) hco hgen hk
  · have := List.all_eq_true.mp hcell x hx; simpa using this
  · have := List.all_eq_true.mp hloc x hx; simpa using this
  have hnone : s.heap.get? s.heap.objs.size = none := none_size s
  obtain ⟨oN, esN, epN, eN, dN, kN, fN⟩ := hns
  have S1 := S.news (s' := { s with heap := h₀ }) [(s.heap.objs.size, oN)] hk (fun p hp => by rw [List.mem_singleton.mp hp]; exact ⟨eN, hnone⟩) (by simp) rfl rfl
  obtain ⟨oC, hoC, hNC, S2⟩ := St.switch (lc' := binds.reverse) S1 fun h e => ⟨oN, esN, epN, e, dN, kN, fN⟩
  refine wpAny_mono (h _ oC _ hoC hNC (S2.toks (t := _))) (fun fl s' q => q) fun _ _ f => f.elim
theorem r_setM {e d : Addr} {od : Obj} {name : Str} {m m' : List (Str × Value)} {v : Value} {Q : Unit → Shared → Prop} (S : St w s₀ g₀ g L lc ((d, od) :: (e, entO d) :: own) s) (hN : DNs od (lkp m))
    (hname : name ∈ (["useragents", "rulelines", "delay", "req_rate"] : List Str)) (hset : setl name v m = m') (hm : m.length ≤ 100 := by exact Nat.le_of_ble_eq_true rfl)
    (h : ∀ od' s', DNs od' (lkp m') → St w s₀ g₀ g L lc ((d, od') :: (e, entO d) :: own) s' → Q () s') : wpAny (model prog w) A (setAttr (.ref e) name v) Q E s :=
  r_setI S hN hname (within_lkp _) (by rw [List.length_map]; exact hm) fun od' s' hN' S' => h od' s' (by rw [← hset]; exact hN') S'
theorem AOk.make {c : Code} (h : AOk A (n + 1)) (h1 : c.weight ≤ 1) (h2 : c.cUnits ≤ 40) : AOk (A.under c) n := ⟨h.1, by have := h.2.1; show A.depth + c.weight + 2 * n ≤ 500; omega, by have := h.2.2; show A.units + c.cUnits + 50 * n ≤ 5000; omega⟩
set_option maxHeartbeats 4000000 in
/-- Entry(): its object, its dict and its two lists are the def's own -/
theorem r_entryA {Q : Value → Shared → Prop} (hA : AOk A (n + 2)) (S : St w s₀ g₀ g L lc own s)
    (h : ∀ e d od u r s', DNs od (lkp (entM (.ref u) (.ref r))) → St w s₀ g₀ g L lc ((d, od) :: (e, entO d) :: (r, lst [] 0) :: (u, lst [] 0) :: own) s' → Q (.ref e) s') : wpAny (model prog w) A (call (.ref 59) []) Q E s := by
  have X := S.ge.K
  have S1 := (S.alloc (o := emptyDict) (t := s.toks) rfl)
  have S2 := (S1.alloc (o := entO s.heap.objs.size) (t := s.toks) rfl).swap
  rw [show ({ s with heap := s.heap.push emptyDict, toks := s.toks } : Shared).heap.objs.size = s.heap.objs.size + 1 from Heap.size_push ..] at S2
  obtain ⟨hp, gs, dr, tk, os⟩ := s
  refine wpAny_call (make_core (makes_of X rfl) (looks_findIn X rfl) (fun self => bind_fn X self rfl) (.inl rfl) ?_)
  dsimp only at S2 ⊢
  generalize hp.objs.size = d at S2 ⊢
  generalize d + 1 = e at S2 ⊢
  refine r_enterXc (n := n) (binds := [("self", .ref e)]) (hA.make (by decide) (by decide)) S2 (S2.ge.K 35 _ rfl) rfl (codeRec_of S2.ge.K rfl) rfl rfl rfl fun L' oC s hoC hNC S => ?_
  have hN : DNs emptyDict (lkp []) := ⟨#[], 0, rfl, (by intro e he; simp at he), (by unfold UniqKeys; simp), fun y => rfl⟩
  have S := S.rotI
  repeat walk_at "m1"
  refine r_newL S (Nat.le_of_ble_eq_true rfl) fun u s S => ?_
  repeat walk_at "m1"
  refine r_setM S.rotI hN (by simp) (m' := [("useragents", .ref u)]) rfl (h := fun od s hN S => ?_)
  repeat walk_at "m1"
  refine r_newL S (Nat.le_of_ble_eq_true rfl) fun r s S => ?_
  repeat walk_at "m1"
  refine r_setM S.rotI hN (by simp) (m' := [("useragents", .ref u), ("rulelines", .ref r)]) rfl (h := fun od s hN S => ?_)
  repeat walk_at "m1"
  refine r_setM S hN (by simp) (m' := [("useragents", .ref u), ("rulelines", .ref r), ("delay", .none)]) rfl (h := fun od s hN S => ?_)
  repeat walk_at "m1"
  refine r_setM S hN (by simp) (m' := entM (.ref u) (.ref r)) rfl (h := fun od s hN S => ?_)
  repeat walk_at "m1"
  refine ⟨rfl, ?_⟩
  obtain ⟨_, _, _, S⟩ := St.switch (lc' := lc) (S.perm ((List.perm_append_comm (l₁ := [(L, oC)]) (l₂ := [(d, od), (e, entO d), (r, lst [] 0), (u, lst [] 0)])).append_right own)) hNC
  exact h e d od u r s hN S.drop
/-- the same, its dict and itself laid down -/
theorem r_entry {Q : Value → Shared → Prop} (hA : AOk A (n + 2)) (S : St w s₀ g₀ g L lc own s)
    (h : ∀ e u r g' s', Le g g' → EntryAt w g' e (.ref u) (.ref r) → St w s₀ g₀ g' L lc ((r, lst [] 0) :: (u, lst [] 0) :: own) s' → Q (.ref e) s') : wpAny (model prog w) A (call (.ref 59) []) Q E s :=
  r_entryA hA S fun e d od u r s' hN S' => by
    obtain ⟨n1, S3⟩ := St.lay1 S'
    obtain ⟨n2, S4⟩ := St.lay1 S3
    exact h e u r _ _ ((Le.ins n1).trans (Le.ins n2)) ⟨d, od, ins_self, Le.ins n2 _ _ ins_self, hN⟩ S4
/-- the same, its lists left -/
theorem r_entryO {Q : Value → Shared → Prop} (hA : AOk A (n + 2)) (S : St w s₀ g₀ g L lc own s)
    (h : ∀ e d od u r s', DNs od (lkp (entM (.ref u) (.ref r))) → St w s₀ g₀ g L lc ((d, od) :: (e, entO d) :: own) s' → Q (.ref e) s') : wpAny (model prog w) A (call (.ref 59) []) Q E s :=
  r_entryA hA S fun e d od u r s' hN S' => h e d od u r s' hN (S'.perm ((List.perm_append_comm (l₁ := [(r, lst [] 0), (u, lst [] 0)]) (l₂ := [(d, od), (e, entO d)])).append_right own)).drop.drop
end
end Mine
end
section
open PySem PySem.W PySem.Calls PyProof.Rows
set_option maxRecDepth 100000
set_option linter.unusedSimpArgs false
set_option linter.unusedVariables false
namespace Mine
/-- a list of pairs (path, allowed) as _law_drawn makes them -/
inductive PairsAt (g : Hp) : List Value → List (List Nat × Bool) → Prop
  | nil : PairsAt g [] []
  | cons {a x b t vs rs} : g a = some (tup [.str (mk (47 :: x)) t, .bool b]) → PairsAt g vs rs → PairsAt g (.ref a :: vs) ((x, b) :: rs)
theorem PairsAt.mono {g g' : Hp} {vs : List Value} {rs : List (List Nat × Bool)} (h : PairsAt g vs rs) (l : Le g g') : PairsAt g' vs rs := by
  induction h with
  | nil => exact .nil
  | cons e _ ih => exact .cons (l _ _ e) ih
theorem PairsAt.length {g : Hp} {vs : List Value} {rs : List (List Nat × Bool)} (h : PairsAt g vs rs) : vs.length = rs.length := by
  induction h with
  | nil => rfl
  | cons _ _ ih => simp [ih]
theorem PairsAt.at {g : Hp} {vs : List Value} {rs : List (List Nat × Bool)} (h : PairsAt g vs rs) {i : Nat} {v : Value} (hv : vs[i]? = some v) : ∃ a x b t, v = .ref a ∧ rs[i]? = some (x, b) ∧ g a = some (tup [.str (mk (47 :: x)) t, .bool b]) := by
  induction h generalizing i with
  | nil => simp at hv
  | cons r _ ih =>
    cases i with
    | zero => simp at hv; subst hv; exact ⟨_, _, _, _, rfl, by simp, r⟩
    | succ i => simp at hv; obtain ⟨a, x, b, t, h1, h2, h3⟩ := ih hv; exact ⟨a, x, b, t, h1, by simpa using h2, h3⟩
/-- the locals, with two more of them or without -/
noncomputable def Shp2 (base : List (Str × Value)) (x y : Str) (lc : List (Str × Value)) : Prop := lc = base ∨ ∃ p q, lc = base ++ [(x, p), (y, q)]
section
variable {prog : Program} {w : World} {n : Nat}
set_option maxHeartbeats 8000000 in
theorem c_law_entry (rl al : Addr) (rvs avs : List Value) (k k2 : Nat) (rs : List (List Nat × Bool)) (as : List (List Nat)) (hrs : ∀ p ∈ rs, p.1.length ≤ 900) (hl : rs.length ≤ 1000) (hl2 : as.length ≤ 1000) : Fn prog w (.ref 209) (n + 3) [.ref rl, .ref al]
    (fun g _ => g rl = some (lst rvs k) ∧ PairsAt g rvs rs ∧ g al = some (lst avs k2) ∧ StrsAre avs (as.map mk))
    (fun v g => ∃ e u r us rs' ku kr, v = .ref e ∧ EntryAt w g e (.ref u) (.ref r) ∧ g u = some (lst us ku) ∧ StrsAre us (as.map mk) ∧ g r = some (lst rs' kr) ∧ RulesAt prog w g rs' rs) := by
  have hbig : sizeLine = 16777216 := rfl
  refine fn_def [("rules", .ref rl), ("agents", .ref al)] rfl rfl rfl rfl rfl (fun A s₀ g₀ L s hA pre S => ?_)
  obtain ⟨hrl, hP, hal, hA2⟩ := pre
  repeat walk_at "m2"
  refine r_callK0 S rfl rfl ?_
  refine r_entry hA S fun e u r g1 s le1 hE S => ?_
  repeat walk_at "m2"
  refine r_consF (fun s' => ∃ g' lc' rs' k', Le g1 g' ∧ St w s₀ g₀ g' L lc' [(r, lst rs' k'), (u, lst [] 0)] s' ∧ RulesAt prog w g' rs' rs ∧ Shp2 [("agents", .ref al), ("rules", .ref rl), ("entry", .ref e)] "path" "allowed" lc') ?_ ?_
  · refine r_for ?_ (fun _ => rfl)
    repeat walk_at "m1"
    refine r_forL (fun i g' lc' own' => ∃ rs' k', own' = [(r, lst rs' k'), (u, lst [] 0)] ∧ RulesAt prog w g' rs' (rs.take i) ∧ Shp2 [("agents", .ref al), ("rules", .ref rl), ("entry", .ref e)] "path" "allowed" lc') hA S (le1 _ _ hrl) ⟨_, _, rfl, .nil, .inl rfl⟩ ?_ ?_
    · rintro i v g' lc' own' It oI s' hv lg ⟨rs', k', rfl, hR, hlc⟩ S
      obtain ⟨a, x, b, t, rfl, hx, ha⟩ := hP.at hv
      refine r_asgnT S hA (S.at (lg _ _ (le1 _ _ ha))) rfl rfl fun s S => ?_
      repeat walk_at "m1"
      have hl1 : setl "allowed" (.bool b) (setl "path" (.str (mk (47 :: x)) t) lc') = ([("agents", .ref al), ("rules", .ref rl), ("entry", .ref e), ("path", .str (mk (47 :: x)) t), ("allowed", .bool b)] : List (Str × Value)) := by
        rcases hlc with rfl | ⟨p, q, rfl⟩ <;> rfl
      have S := S.relc hl1
      repeat walk_at "m1"
      refine r_attr ?_ rfl
      repeat walk_at "m1"
      refine r_getI S (hE.mono lg) (.inl ⟨rfl, rfl⟩) rfl fun s S => ?_
      refine gm_list' (S.ob (r, lst rs' k') (.tail _ (.head _))) PySem.F.slot_list_append PySem.F.type_list_append ?_
      repeat walk_at "m1"
      have hxm : (x, b) ∈ rs := List.mem_of_getElem? hx
      refine ⟨S.ge, r_use S (c_law_rule x t b (hrs _ hxm)) hA trivial fun v g2 s le2 hv2 S => ?_⟩
      repeat walk_at "m1"
      refine r_append (vs := rs') (k := k') (S.perm (List.Perm.swap _ _ _)) ?_ fun s S => ?_
      · have := hR.length; rw [List.length_take] at this; rw [hbig]; omega
      repeat walk_at "m1"
      refine ⟨_, _, _, le2, ⟨_, _, rfl, ?_, .inr ⟨_, _, rfl⟩⟩, S.perm (List.Perm.swap _ _ _)⟩
      rw [List.take_add_one, hx]
      exact (hR.mono le2).append (.cons hv2 .nil)
    · rintro g' lc' own' s' lg ⟨rs', k', rfl, hR, hlc⟩ S
      rw [hP.length, List.take_length] at hR
      exact ⟨_, _, _, _, lg, S, hR, hlc⟩
  · rintro s' ⟨g', lc', rs', k', lg, S, hR, hlc⟩
    refine r_consF (fun s' => ∃ g2 lc2 us k2, Le g' g2 ∧ St w s₀ g₀ g2 L lc2 [(r, lst rs' k'), (u, lst us k2)] s' ∧ StrsAre us (as.map mk) ∧ lkp lc2 "entry" = some (.ref e)) ?_ ?_
    · refine r_for ?_ (fun _ => rfl)
      have hl0 : lkp lc' "agents" = some (.ref al) ∧ lkp lc' "entry" = some (.ref e) := by rcases hlc with rfl | ⟨p, q, rfl⟩ <;> exact ⟨rfl, rfl⟩
      refine r_loc S hl0.1 ?_
      refine r_forL (fun i g2 lc2 own' => ∃ us k2, own' = [(r, lst rs' k'), (u, lst us k2)] ∧ StrsAre us ((as.take i).map mk) ∧ lkp lc2 "entry" = some (.ref e)) hA S (lg _ _ (le1 _ _ hal)) ⟨_, _, rfl, .nil, hl0.2⟩ ?_ ?_
      · rintro i v g2 lc2 own' It oI s' hv lg2 ⟨us, k2, rfl, hU, hle⟩ S
        obtain ⟨y, ty, hy, rfl⟩ := getElem_are hA2 hv
        repeat walk_at "m1"
        refine r_attr ?_ rfl
        have hl1 : lkp (setl "agent" (.str y ty) lc2) "entry" = some (.ref e) := by rw [lkp_setl]; exact hle
        have hl3 : lkp (setl "agent" (.str y ty) lc2) "agent" = some (.str y ty) := by rw [lkp_setl]; rfl
        refine r_loc S hl1 ?_
        refine r_getI S ((hE.mono lg).mono lg2) (.inr ⟨rfl, rfl⟩) rfl fun s S => ?_
        refine gm_list' (S.ob (u, lst us k2) (.tail _ (.tail _ (.head _)))) PySem.F.slot_list_append PySem.F.type_list_append ?_
        repeat walk_at "m1"
        refine r_loc S hl3 ?_
        repeat walk_at "m1"
        have pm : List.Perm [(It, oI), (r, lst rs' k'), (u, lst us k2)] [(u, lst us k2), (It, oI), (r, lst rs' k')] := (List.perm_append_comm (l₁ := [(It, oI), (r, lst rs' k')]) (l₂ := [(u, lst us k2)]))
        refine r_append (vs := us) (k := k2) (S.perm pm.symm) ?_ fun s S => ?_
        · have := hU.length; simp [List.length_take] at this; rw [hbig]; omega
        repeat walk_at "m1"
        have pm2 : List.Perm [(It, oI), (r, lst rs' k'), (u, lst (us ++ [.str y ty]) (k2 + 1))] [(u, lst (us ++ [.str y ty]) (k2 + 1)), (It, oI), (r, lst rs' k')] := (List.perm_append_comm (l₁ := [(It, oI), (r, lst rs' k')]) (l₂ := [(u, lst (us ++ [Value.str y ty]) (k2 + 1))]))
        refine ⟨_, _, [(r, lst rs' k'), (u, lst (us ++ [.str y ty]) (k2 + 1))], Le.refl _, ⟨us ++ [.str y ty], k2 + 1, rfl, ?_, hl1⟩, S.perm pm2⟩
        rw [List.map_take, List.take_add_one, hy, ← List.map_take]
        exact StrsAre.append' hU (.cons _ _ .nil)
      · rintro g2 lc2 own' s' lg2 ⟨us, k2, rfl, hU, hle⟩ S
        rw [show avs.length = as.length by simpa using hA2.length, List.take_length] at hU
        exact ⟨_, _, _, _, lg2, S, hU, hle⟩
    · rintro s' ⟨g2, lc2, us, k2, lg2, S, hU, hle⟩
      repeat walk_at "m1"
      refine r_loc S hle ?_
      obtain ⟨n1, S⟩ := St.lay1 S
      obtain ⟨n2, S⟩ := St.lay1 S
      have l12 : Le g2 (ins (ins g2 r (lst rs' k')) u (lst us k2)) := (Le.ins n1).trans (Le.ins n2)
      repeat walk_at "m1"
      exact S.done ⟨e, u, r, us, rs', _, _, rfl, ((hE.mono lg).mono lg2).mono l12, ins_self, hU, Le.ins n2 _ _ ins_self, (hR.mono lg2).mono l12⟩
end
end Mine
end
section
open PySem PySem.W PySem.Calls PyProof.Rows
set_option maxRecDepth 100000
set_option linter.unusedSimpArgs false
set_option linter.unusedVariables false
namespace Mine
theorem slot_filter_next : Slot "filter" "__next__" "filter.__next__" :=
  .of (owner := "filter") (n := "__next__") (by rw [typeLookup_type, builtinLookup_eq_fast]; kernel_rfl) (by decide +kernel) (by decide +kernel) (by decide +kernel)
    (by first | exact .inl (by decide +kernel) | exact .inr (by decide +kernel)) (by rw [isSubtype_type]; kernel_rfl)
theorem entry_filter_next : entryFor table "filter.__next__" = some Builtin.«filter.__next__» := entryFor_of_tree (by kernel_rfl)
theorem args_filter_next_1 (a : Value) : argsOk "filter.__next__" ⟨[a], []⟩ := by
  unfold argsOk; rw [signature?_of (id := "filter.__next__") (n := ['_', '_', 't', 'x', 'e', 'n', '_', '_']) (o := ['r', 'e', 't', 'l', 'i', 'f']) (by kernel_rfl) (show _ = some Manifest.sig_filter by kernel_rfl)]; kernel_rfl
theorem slot_filter_iter : Slot "filter" "__iter__" "filter.__iter__" :=
  .of (owner := "filter") (n := "__iter__") (by rw [typeLookup_type, builtinLookup_eq_fast]; kernel_rfl) (by decide +kernel) (by decide +kernel) (by decide +kernel)
    (by first | exact .inl (by decide +kernel) | exact .inr (by decide +kernel)) (by rw [isSubtype_type]; kernel_rfl)
theorem args_filter_iter_1 (a : Value) : argsOk "filter.__iter__" ⟨[a], []⟩ := by
  unfold argsOk; rw [signature?_of (id := "filter.__iter__") (n := ['_', '_', 'r', 'e', 't', 'i', '_', '_']) (o := ['r', 'e', 't', 'l', 'i', 'f']) (by kernel_rfl) (show _ = some Manifest.sig_filter by kernel_rfl)]; kernel_rfl
theorem entry_filter_iter : entryFor table "filter.__iter__" = some Builtin.«dict_keyiterator.__iter__» :=
  entryFor_alias (id' := "dict_keyiterator.__iter__") (by kernel_rfl) (by first | rfl | decide +kernel | (unfold String.splitOn; simp +decide [String.splitOnAux])) (by decide +kernel) (by kernel_rfl)
theorem filter_no_len : typeLookup (.type "filter") "__len__" = pure none := by rw [typeLookup_type, builtinLookup_eq_fast]; kernel_rfl
theorem filter_no_hint : typeLookup (.type "filter") "__length_hint__" = pure none := by rw [typeLookup_type, builtinLookup_eq_fast]; kernel_rfl
theorem plain_filter_next : plainId "filter.__next__" = true := by decide +kernel
section
variable {prog : Program} {w : World} {A : Around} {s₀ s s' : Shared} {g₀ g g' : Hp} {L : Addr} {lc lc' : List (Str × Value)} {own own' : List (Addr × Obj)} {E : Value → Shared → Prop} {env : Env} {n : Nat}
noncomputable abbrev filO (f : Value) (it : Addr) : Obj := { cls := .type "filter", data := .fields #[f, .ref it] }
theorem next_item {it l : Addr} {x : Value} {vs : List Value} {k i : Nat} {oI : Obj} {Q : Option Value → Shared → Prop} (S : St w s₀ g₀ g L lc ((it, oI) :: own) s) (hI : oI.cls = .type "list_iterator" ∧ oI.data = .fields #[.ref l, .int i 0])
    (hl : s.heap.get? l = some (lst vs k)) (hx : vs[i]? = some x)
    (h : ∀ s' oI', St w s₀ g₀ g L lc ((it, oI') :: own) s' → oI'.cls = .type "list_iterator" ∧ oI'.data = .fields #[.ref l, .int ((i + 1 : Nat) : Int) 0] → Q (some x) s') :
    wpAny (model prog w) A (callSpecial? (.ref it) "__next__") Q E s := by
  have ho := S.ob (it, oI) (.head _)
  have hT : s.TypeIs (.ref it) "list_iterator" := ⟨_, ho, hI.1⟩
  refine wpAny_callSpecial?_slot (name := Str.ofString "__next__") hT slot_listiter_next (wpAny_call_entry slot_listiter_next hT entry_listiter_next ?_ (args_listiter_next _))
  show wpAny _ _ (field (.ref it) 0 >>= _) _ _ s
  refine wpAny_bind (wpAny_field ho hI.2 (x := .ref l) rfl ?_)
  show wpAny _ _ (if (Value.ref l == Value.none) = true then _ else _) _ _ s
  rw [if_neg (show ¬ ((Value.ref l == Value.none) = true) from Bool.false_ne_true)]
  show wpAny _ _ (field (.ref it) 1 >>= _) _ _ s
  refine wpAny_bind (wpAny_field ho hI.2 (x := .int i 0) rfl ?_)
  show wpAny _ _ (seqItems? (.ref l) >>= _) _ _ s
  refine wpAny_bind (wpAny_seqItems hl rfl ?_)
  have hx' : vs.toArray[i]? = some x := by simpa using hx
  simp only [Int.toNat_natCast, hx']
  refine wpAny_bind (wpAny_setField ho hI.2 (by simp) (wpAny_pure ⟨x, rfl, ?_⟩))
  have e1 := Heap.get?_update_self (Obj.mapFields (·.setIfInBounds 1 (rawInt ((i : Int) + 1)))) ho (Obj.isFreed_of_fields (Obj.data_mapFields hI.2 _))
  refine h _ (oI.mapFields (·.setIfInBounds 1 (rawInt ((i : Int) + 1)))) (S.upd (Heap.SameBut.update ..) e1 rfl rfl) ⟨(Obj.cls_mapFields ..).trans hI.1, by rw [Obj.data_mapFields hI.2]; simp [rawInt]⟩
theorem next_end {it l : Addr} {vs : List Value} {k i : Nat} {oI : Obj} {Q : Option Value → Shared → Prop} (S : St w s₀ g₀ g L lc ((it, oI) :: own) s) (hI : oI.cls = .type "list_iterator" ∧ oI.data = .fields #[.ref l, .int i 0])
    (hl : s.heap.get? l = some (lst vs k)) (hx : vs.length ≤ i) (hA : AOk A n)
    (h : ∀ s' e, St w s₀ g₀ g L lc own s' → (∃ o, s'.heap.get? e = some o ∧ o.cls = .type "StopIteration") → E (.ref e) s') :
    wpAny (model prog w) A (callSpecial? (.ref it) "__next__") Q E s := by
  have ho := S.ob (it, oI) (.head _)
  have hT : s.TypeIs (.ref it) "list_iterator" := ⟨_, ho, hI.1⟩
  refine wpAny_callSpecial?_slot (name := Str.ofString "__next__") hT slot_listiter_next (wpAny_call_entry slot_listiter_next hT entry_listiter_next ?_ (args_listiter_next _))
  show wpAny _ _ (field (.ref it) 0 >>= _) _ _ s
  refine wpAny_bind (wpAny_field ho hI.2 (x := .ref l) rfl ?_)
  show wpAny _ _ (if (Value.ref l == Value.none) = true then _ else _) _ _ s
  rw [if_neg (show ¬ ((Value.ref l == Value.none) = true) from Bool.false_ne_true)]
  show wpAny _ _ (field (.ref it) 1 >>= _) _ _ s
  refine wpAny_bind (wpAny_field ho hI.2 (x := .int i 0) rfl ?_)
  show wpAny _ _ (seqItems? (.ref l) >>= _) _ _ s
  refine wpAny_bind (wpAny_seqItems hl rfl ?_)
  have hx' : vs.toArray[i]? = none := by simpa using hx
  simp only [Int.toNat_natCast, hx']
  refine wpAny_bind (wpAny_rule (wpAny_bind (wpAny_setField ho hI.2 (by simp) ?_)))
  show wpAny _ _ (newExc (.type "StopIteration") [] >>= _) _ _ _
  refine wpAny_bind ?_
  simp only [newExc, newTuple]
  refine wpAny_bind (wpAny_newObj_type ?_ (by size_fits))
  refine wpAny_bind (m := firstArgMember _ _) (wpAny_of_eq (a := Value.none) (by first | rfl | (simp only [firstArgMember]; rfl)) ?_)
  refine wpAny_newObj_type ?_ (by size_fits)
  refine wpAny_raiseNew_none hA.1 ?_
  have e1 := Heap.get?_update_self (Obj.mapFields (·.setIfInBounds 0 Value.none)) ho (Obj.isFreed_of_fields (Obj.data_mapFields hI.2 _))
  refine h _ _ (S.lose (((Heap.SameBut.update ..).extBut.push _).push _) rfl rfl) ⟨_, Heap.get?_push_size _ rfl, rfl⟩
theorem pyIter_filter {F it : Addr} {f : Value} {Q : Value → Shared → Prop} (hm : s.heap.get? F = some (filO f it)) (h : Q (.ref F) s) : wpAny (model prog w) A (pyIter (.ref F)) Q E s := by
  have hT : s.TypeIs (.ref F) "filter" := ⟨_, hm, rfl⟩
  refine wpAny_pyIter_slot hT slot_filter_iter (wpAny_call_entry slot_filter_iter hT entry_filter_iter ?_ (args_filter_iter_1 _))
  show wpAny _ _ (ret (.ref F)) _ _ s
  exact wpAny_pure ⟨_, rfl, "filter", _, hT, slot_filter_next.lookup, h⟩
/-- what decides: f told p of each item -/
noncomputable def Decides (prog : Program) (w : World) (n : Nat) (g₁ : Hp) (f : Value) (vs : List Value) (p : Value → Bool) : Prop := ∀ x ∈ vs, Fn prog w f n [x] (fun g' _ => Le g₁ g') (fun v _ => v = .bool (p x))
/-- filter.__next__ at the place i -/
theorem filt_code {F it l a : Addr} {vs : List Value} {k : Nat} {g₁ : Hp} {p : Value → Bool} {R : Result → Shared → Prop} (C : Decides prog w n g₁ (.ref a) vs p) (hA : AOk A (n + 3)) :
    ∀ (j i : Nat) {g : Hp} {oI : Obj} {s : Shared}, vs.length - i = j → Le g₁ g → St w s₀ g₀ g L lc ((it, oI) :: own) s → oI.cls = .type "list_iterator" ∧ oI.data = .fields #[.ref l, .int i 0] →
    g F = some (filO (.ref a) it) → g l = some (lst vs k) →
    (∀ m x g' s' oI', m < vs.length → (vs.drop i).filter p = x :: (vs.drop (m + 1)).filter p → Le g g' → St w s₀ g₀ g' L lc ((it, oI') :: own) s' → oI'.cls = .type "list_iterator" ∧ oI'.data = .fields #[.ref l, .int ((m + 1 : Nat) : Int) 0] → R (.ok (.ret x)) s') →
    (∀ g' s' e, (vs.drop i).filter p = [] → Le g g' → St w s₀ g₀ g' L lc own s' → (∃ o, s'.heap.get? e = some o ∧ o.cls = .type "StopIteration") → R (.error (.ref e)) s') →
    codeAny (model prog w) A (.builtin "filter.__next__" ⟨[.ref F], []⟩) R s := by
  intro j
  induction j with
  | zero =>
    intro i g oI s hj l1 S hI hF hl hitem hstop
    refine codeAny_builtin entry_filter_next ?_
    rw [Around.under_plainId plain_filter_next _]
    show wpAny _ A.in1 (field (.ref F) 0 >>= _) _ _ s
    refine wpAny_bind (wpAny_field (S.at hF) rfl (x := .ref a) rfl ?_)
    show wpAny _ A.in1 (field (.ref F) 1 >>= _) _ _ s
    refine wpAny_bind (wpAny_field (S.at hF) rfl (x := .ref it) rfl ?_)
    refine wpAny_bind (next_end S hI (S.at hl) (by omega) (show AOk A.in1 (n + 2) from hA.in1) fun s' e S' he => ?_)
    exact hstop g s' e (by rw [List.drop_eq_nil_of_le (by omega)]; rfl) (Le.refl _) S' he
  | succ j ih =>
    intro i g oI s hj l1 S hI hF hl hitem hstop
    have hlt : i < vs.length := by omega
    have hdrop : vs.drop i = vs[i] :: vs.drop (i + 1) := List.drop_eq_getElem_cons hlt
    refine codeAny_builtin entry_filter_next ?_
    rw [Around.under_plainId plain_filter_next _]
    show wpAny _ A.in1 (field (.ref F) 0 >>= _) _ _ s
    refine wpAny_bind (wpAny_field (S.at hF) rfl (x := .ref a) rfl ?_)
    show wpAny _ A.in1 (field (.ref F) 1 >>= _) _ _ s
    refine wpAny_bind (wpAny_field (S.at hF) rfl (x := .ref it) rfl ?_)
    refine wpAny_bind (next_item S hI (S.at hl) (x := vs[i]) (by simp [hlt]) fun s1 oI1 S1 hI1 => ?_)
    dsimp only
    refine wpAny_bind (wpAny_holding ?_)
    rw [if_neg (show ¬ ((Value.ref a == Value.none || Value.ref a == Value.type "bool") = true) from Bool.false_ne_true)]
    refine wpAny_bind (r_use S1 (C vs[i] (List.getElem_mem hlt)) ((show AOk A.in1 (n + 2) from hA.in1).less (by omega)) l1 fun v g' s2 l2 hv S2 => ?_)
    subst hv
    refine wpAny_holding (wpAny_truthy_bool ?_)
    by_cases hp : p vs[i] = true
    · rw [if_pos hp]
      refine wpAny_pure ?_
      exact hitem i vs[i] g' s2 oI1 hlt (by rw [hdrop, List.filter_cons_of_pos hp]) l2 S2 hI1
    · rw [if_neg hp]
      refine wpAny_pure ⟨plainId_quiet plain_filter_next _, ih (i + 1) (by omega) (l1.trans l2) S2 hI1 (l2 _ _ hF) (l2 _ _ hl) (fun m x g'' s' oI' hm he l3 S' hI' => ?_) (fun g'' s' e he l3 S' hx => ?_)⟩
      · exact hitem m x g'' s' oI' hm (by rw [hdrop, List.filter_cons_of_neg hp]; exact he) (l2.trans l3) S' hI'
      · exact hstop g'' s' e (by rw [hdrop, List.filter_cons_of_neg hp]; exact he) (l2.trans l3) S' hx
/-- next(filter) -/
theorem filt_next {F it l a : Addr} {vs : List Value} {k i : Nat} {g₁ : Hp} {p : Value → Bool} {oI : Obj} {Q : Option Value → Shared → Prop} (C : Decides prog w n g₁ (.ref a) vs p) (hA : AOk A (n + 3)) (l1 : Le g₁ g)
    (S : St w s₀ g₀ g L lc ((it, oI) :: own) s) (hI : oI.cls = .type "list_iterator" ∧ oI.data = .fields #[.ref l, .int i 0]) (hF : g F = some (filO (.ref a) it)) (hl : g l = some (lst vs k))
    (hitem : ∀ m x g' s' oI', m < vs.length → (vs.drop i).filter p = x :: (vs.drop (m + 1)).filter p → Le g g' → St w s₀ g₀ g' L lc ((it, oI') :: own) s' → oI'.cls = .type "list_iterator" ∧ oI'.data = .fields #[.ref l, .int ((m + 1 : Nat) : Int) 0] → Q (some x) s')
    (hstop : ∀ g' s', (vs.drop i).filter p = [] → Le g g' → St w s₀ g₀ g' L lc own s' → Q none s') : wpAny (model prog w) A (pyNext (.ref F)) Q E s := by
  have hT : s.TypeIs (.ref F) "filter" := ⟨_, S.at hF, rfl⟩
  unfold pyNext
  refine wpAny_bind (wpAny_attempt (wpAny_callSpecial?_slot (name := Str.ofString "__next__") hT slot_filter_next (wpAny_call ?_)))
  refine codeAny_of_tree ?_
  show wpAny _ A.in1 (do checkBuiltinCall "filter.__next__" ⟨[.ref F], []⟩; again (.builtin "filter.__next__" ⟨[.ref F], []⟩)) _ _ s
  refine wpAny_bind (slot_filter_next.check _ _ _ _ _ _ _ _ hT (args_filter_next_1 _) ?_)
  refine wpAny_pure ⟨plainId_quiet plain_filter_next _, filt_code C hA _ i rfl l1 S hI hF hl (fun m x g' s' oI' hm he l2 S' hI' => ?_) (fun g' s' e he l2 S' hx => ?_)⟩
  · exact wpAny_pure (hitem m x g' s' oI' hm he l2 S' hI')
  · obtain ⟨o, ho, hc⟩ := hx
    refine wpAny_bind (wpAny_isInstance (T := "StopIteration") (b := true) ⟨o, ho, hc⟩ isSubtype_stop ?_)
    exact wpAny_pure (hstop g' s' he l2 S')
theorem filt_loop {F it l a D : Addr} {vs : List Value} {k : Nat} {g₁ : Hp} {p : Value → Bool} {res : Value} {R : Result → Shared → Prop} (C : Decides prog w n g₁ (.ref a) vs p) (hA : AOk A (n + 4)) (hsz : vs.length ≤ sizeLine) :
    ∀ (j i c : Nat) {acc : List Value} {g : Hp} {oI : Obj} {s : Shared}, vs.length - i = j → i ≤ vs.length → acc ++ (vs.drop i).filter p = vs.filter p → Le g₁ g → St w s₀ g₀ g L lc ((it, oI) :: (D, lst acc c) :: own) s → oI.cls = .type "list_iterator" ∧ oI.data = .fields #[.ref l, .int i 0] →
    g F = some (filO (.ref a) it) → g l = some (lst vs k) → (∀ g' c' s', Le g g' → St w s₀ g₀ g' L lc ((D, lst (vs.filter p) c') :: own) s' → R (.ok (.ret res)) s') →
    codeAny (model prog w) A (.builtin "list.extend.loop" ⟨[.ref D, .ref F, res], []⟩) R s := by
  intro j
  induction j using Nat.strongRecOn with
  | ind j ih =>
    intro i c acc g oI s hj hi hacc l1 S hI hF hl hR
    refine codeAny_builtin PySem.F.entry_extend_loop ?_
    rw [Around.under_plainId PySem.F.plain_extend_loop _]
    show wpAny _ A.in1 (pyNext (.ref F) >>= _) _ _ s
    refine wpAny_bind (filt_next C (show AOk A.in1 (n + 3) from hA.in1) l1 S hI hF hl (fun m x g' s' oI' hm he l2 S' hI' => ?_) (fun g' s' he l2 S' => ?_))
    · show wpAny _ A.in1 (updateSeq D (·.push x) >>= _) _ _ _
      have him : i ≤ m := by
        rcases Nat.lt_or_ge m i with h | h
        · exfalso
          have h1 : ((vs.drop i).filter p).length ≤ (vs.drop (m + 1)).length - 0 := Nat.le_trans (List.length_filter_le _ _) (by simp; omega)
          have h2 : ((vs.drop i).filter p).length ≤ ((vs.drop (m + 1)).filter p).length := by
            have hsub : (vs.drop i).Sublist (vs.drop (m + 1)) := by
              have : vs.drop i = (vs.drop (m + 1)).drop (i - (m + 1)) := by rw [List.drop_drop]; congr 1; omega
              rw [this]; exact List.drop_sublist ..
            exact (hsub.filter p).length_le
          rw [he] at h2
          rw [List.length_cons] at h2; omega
        · exact h
      have eD := S'.ob (D, lst acc c) (.tail _ (.head _))
      have hal : acc.length ≤ vs.length := by
        have := congrArg List.length hacc
        rw [List.length_append] at this
        have := List.length_filter_le p vs
        omega
      have hal2 : acc.length + 1 ≤ vs.length := by
        have h0 := congrArg List.length hacc
        rw [List.length_append, he, List.length_cons] at h0
        have := List.length_filter_le p vs
        omega
      refine wpAny_bind (wpAny_updateSeq eD rfl (wpAny_pure ⟨plainId_quiet PySem.F.plain_extend_loop _, ih (vs.length - (m + 1)) (by omega) (m + 1) (c + 1) (acc := acc ++ [x]) rfl hm ?_ (l1.trans l2) ((?_ : St w s₀ g₀ g' L lc ((it, oI') :: (D, lst (acc ++ [x]) (c + 1)) :: own) _)) hI' (l2 _ _ hF) (l2 _ _ hl) fun g'' c' s'' l3 S'' => hR g'' c' s'' (l2.trans l3) S''⟩)
        (by simp; omega) (by rw [Array.size_push]; simp; omega))
      · rw [List.append_assoc, List.singleton_append, ← he]; exact hacc
      · have q := PySem.IsL.update eD (fun xs => xs.push x)
        rw [if_neg (by rw [Array.size_push]; simp)] at q
        have e2 : acc.toArray.push x = (acc ++ [x]).toArray := by simp
        rw [e2] at q
        have q' : (s'.heap.update D (Obj.mapSeq fun xs => xs.push x)).get? D = some (lst (acc ++ [x]) (c + 1)) := q
        exact (S'.swap.upd (o' := lst (acc ++ [x]) (c + 1)) (s' := { s' with heap := s'.heap.update D (Obj.mapSeq fun xs => xs.push x), toks := s'.toks }) (Heap.SameBut.update ..) q' rfl rfl).swap
    · rw [he, List.append_nil] at hacc
      rw [hacc] at S'
      exact wpAny_pure (hR g' c s' l2 S')
/-- list(filter(f, list)) -/
theorem r_listfilter {F it l a : Addr} {vs : List Value} {k : Nat} {g₁ : Hp} {p : Value → Bool} {oI : Obj} {Q : Value → Shared → Prop} (C : Decides prog w n g₁ (.ref a) vs p) (hA : AOk A (n + 8)) (hsz : vs.length ≤ sizeLine) (l1 : Le g₁ g)
    (S : St w s₀ g₀ g L lc ((it, oI) :: own) s) (hI : oI.cls = .type "list_iterator" ∧ oI.data = .fields #[.ref l, .int (0 : Nat) 0]) (hF : g F = some (filO (.ref a) it)) (hl : g l = some (lst vs k))
    (h : ∀ g' D c s', Le g g' → St w s₀ g₀ g' L lc ((D, lst (vs.filter p) c) :: own) s' → Q (.ref D) s') : wpAny (model prog w) A (call (.type "list") [.ref F]) Q E s := by
  refine callType_codes (Q₁ := fun obj s₁ => obj = .ref s.heap.objs.size ∧ s₁ = { s with heap := s.heap.push { cls := .type "list", data := .seq #[] } }) PySem.F.called_list (PySem.F.typeCall_list_1 _) PySem.F.entry_list_init
    (code_list_new _ ⟨rfl, rfl⟩) fun obj s₁ h₁ => ?_
  obtain ⟨rfl, rfl⟩ := h₁
  have S1 := S.alloc (o := lst [] 0) (t := s.toks) rfl
  generalize hD : s.heap.objs.size = D at S1 ⊢
  have eD := S1.ob (D, lst [] 0) (.head _)
  refine ⟨⟨_, eD, rfl⟩, PySem.F.args_list_init_2 _ _, ?_⟩
  show wpAny _ _ (do let old ← Builtin.List.listItems (.ref D); Builtin.List.listUpdate (.ref D) (fun _ => #[]); letGo old.toList.reverse; Builtin.List.listExtendWith (.ref D) (.ref F) .none) _ _ _
  refine wpAny_bind ?_
  unfold Builtin.List.listItems
  refine wpAny_bind (wpAny_seqItems eD rfl (wpAny_pure ?_))
  show wpAny _ _ (updateSeq D (fun _ => #[]) >>= fun _ => letGo (#[] : Array Value).toList.reverse >>= fun _ => Builtin.List.listExtendWith (.ref D) (.ref F) .none) _ _ _
  refine wpAny_bind (wpAny_updateSeq eD rfl ?_)
  have e0 := Heap.get?_update_self (Obj.mapSeq (fun _ => (#[] : Array Value))) eD rfl
  have S2 := S1.upd (s' := { s with heap := Heap.update (s.heap.push (lst [] 0)) D (Obj.mapSeq fun _ => #[]), toks := s.toks }) (Heap.SameBut.update ..) e0 rfl rfl
  refine wpAny_bind (wpAny_letGo ?_)
  have hne : D ≠ F := fun e => by
    have := S1.gL D (.tail _ (.head _))
    rw [e, hF] at this; cases this
  have hT : ∀ s : Shared, s.heap.get? F = some (filO (.ref a) it) → s.TypeIs (.ref F) "filter" := fun s h => ⟨_, h, rfl⟩
  unfold Builtin.List.listExtendWith
  refine wpAny_bind (wpAny_typeOf (hT _ (S2.at hF)) ?_)
  have h1 : Builtin.List.listSameRef (.ref D) (.ref F) = false := by simp [Builtin.List.listSameRef, hne]
  have h2 : (Value.type "filter" == Value.type "list") = false := by decide
  have h3 : (Value.type "filter" == Value.type "tuple") = false := by decide
  simp only [h1, h2, h3, Bool.or_false, Bool.false_eq_true, if_false]
  refine wpAny_bind (pyIter_filter (S2.at hF) ?_)
  refine wpAny_bind (wpAny_holding ?_)
  unfold Builtin.List.listLengthHint
  refine wpAny_bind (wpAny_specialOf (hT _ (S2.at hF)) filter_no_len ?_)
  show wpAny _ _ (specialOf (Value.ref F) (Str.ofString "__length_hint__") >>= _) _ _ _
  refine wpAny_bind (wpAny_specialOf (hT _ (S2.at hF)) filter_no_hint ?_)
  refine wpAny_pure ?_
  show wpAny _ _ (rule "list.extend.makes-room" >>= fun _ => Builtin.List.listTouch (.ref D) >>= fun _ => again (.builtin "list.extend.loop" ⟨[.ref D, .ref F, .none], []⟩)) _ _ _
  refine wpAny_bind (wpAny_rule ?_)
  refine wpAny_bind ?_
  show wpAny _ _ (updateSeq D (·.push .none) >>= fun _ => updateSeq D (·.pop)) _ _ _
  have e1 := S2.ob (D, _) (.head _)
  refine wpAny_bind (wpAny_updateSeq e1 rfl ?_)
  have e2 := Heap.get?_update_self (Obj.mapSeq (·.push Value.none)) e1 rfl
  have S3 := S2.upd (s' := { s with heap := Heap.update (Heap.update (s.heap.push (lst [] 0)) D (Obj.mapSeq fun _ => #[])) D (Obj.mapSeq (·.push Value.none)), toks := s.toks }) (Heap.SameBut.update ..) e2 rfl rfl
  refine wpAny_updateSeq e2 rfl ?_
  have e3 := Heap.get?_update_self (Obj.mapSeq (·.pop)) e2 rfl
  have S4 := S3.upd (s' := { s with heap := Heap.update (Heap.update (Heap.update (s.heap.push (lst [] 0)) D (Obj.mapSeq fun _ => #[])) D (Obj.mapSeq (·.push Value.none))) D (Obj.mapSeq (·.pop)), toks := s.toks }) (Heap.SameBut.update ..) e3 rfl rfl
  have hA3 : AOk A.in1 (n + 4) := (show AOk A.in1 (n + 7) from hA.in1).less (by omega)
  refine wpAny_pure ⟨plainId_quiet PySem.F.plain_extend_loop _, filt_loop (own := own) (acc := []) C hA3 hsz _ 0 _ rfl (Nat.zero_le _) (by simp) l1 S4.swap hI hF hl fun g' c' s' l2 S' => ?_⟩
  exact ⟨rfl, h g' D c' s' l2 S'⟩
end
end Mine
end
section
open PySem PySem.W PySem.W.X PySem.Calls PyProof.Rows
set_option maxRecDepth 100000
set_option linter.unusedSimpArgs false
set_option linter.unusedVariables false
namespace Mine
noncomputable abbrev bmO (D : Addr) : Obj := { cls := .type "builtin_function_or_method", data := .fields #[.builtin "set.__contains__", .ref D] }
/-- a set of one text -/
noncomputable def Set1 (o : Obj) (y : Str) : Prop := ∃ hh tz ep t, o = { cls := .type "set", data := .set #[(hh, .str y tz)] ep t } ∧ t.place.size = 1 ∧ t.fill ≤ t.mask
section
set_option hygiene false in
local macro_rules | `(tactic| x_close) => `(tactic| exact KQ _)
set_option maxHeartbeats 4000000 in
theorem x_bmX {prog : Program} {w : World} {hp : Heap} {gs : Array GenState} {dr : Drawn} {tk : Nat} {os : OsState} {Q E : Value → Shared → Prop} 
 {B D : Addr} {hh : Int} {ep : Nat} {t : SetTable} {tx tz : Tok} (h1 : t.place.size = 1) (h2 : t.fill ≤ t.mask)
 (f5 : hp.get? D = some { cls := .type "set", data := .set #[(hh, .str "y" tz)] ep t })
 (f6 : hp.get? B = some { cls := .type "builtin_function_or_method", data := .fields #[.builtin "set.__contains__", .ref D] })
 (KQ : ∀ tk', Q (.bool false) ⟨hp, gs, dr, tk', os⟩) : wpAny (model prog w) A0 (call (.ref B) [.str "x" tx]) Q E ⟨hp, gs, dr, tk, os⟩ := by
  x_run
set_option maxHeartbeats 4000000 in
theorem x_bmY {prog : Program} {w : World} {hp : Heap} {gs : Array GenState} {dr : Drawn} {tk : Nat} {os : OsState} {Q E : Value → Shared → Prop} 
 {B D : Addr} {hh : Int} {ep : Nat} {t : SetTable} {tx tz : Tok} (h1 : t.place.size = 1) (h2 : t.fill ≤ t.mask)
 (f5 : hp.get? D = some { cls := .type "set", data := .set #[(hh, .str "y" tz)] ep t })
 (f6 : hp.get? B = some { cls := .type "builtin_function_or_method", data := .fields #[.builtin "set.__contains__", .ref D] })
 (KQ : ∀ tk', Q (.bool true) ⟨hp, gs, dr, tk', os⟩) : wpAny (model prog w) A0 (call (.ref B) [.str "y" tx]) Q E ⟨hp, gs, dr, tk, os⟩ := by
  x_run
end
section
set_option hygiene false in
local macro_rules | `(tactic| x_close) => `(tactic| exact KQ _ _ _ (by assumption))
set_option maxHeartbeats 4000000 in
theorem x_getC {prog : Program} {w : World} {hp : Heap} {gs : Array GenState} {dr : Drawn} {tk : Nat} {os : OsState} {Q E : Value → Shared → Prop}
 {D : Addr} {es : Array (Int × Value)} {ep : Nat} {t : SetTable} {tt : Tok}
 (f5 : hp.get? D = some { cls := .type "set", data := .set es ep t })
 (KQ : ∀ h' a tk', Mem hp h' [] [(a, bmO D)] → Q (.ref a) ⟨h', gs, dr, tk', os⟩) : wpAny (model prog w) A0 (call (.builtin "set.__getattribute__") [.ref D, .str "__contains__" tt]) Q E ⟨hp, gs, dr, tk, os⟩ := by
  x_run
end
section
set_option hygiene false in
local macro_rules | `(tactic| x_close) => `(tactic| exact KQ _ _ _ _ (by assumption))
set_option maxHeartbeats 4000000 in
theorem x_filter {prog : Program} {w : World} {hp : Heap} {gs : Array GenState} {dr : Drawn} {tk : Nat} {os : OsState} {Q E : Value → Shared → Prop}
 {u1 b : Addr} {k1 : Nat} {vs : List Value}
 (f5 : hp.get? u1 = some { cls := .type "list", data := .seq vs.toArray k1 })
 (KQ : ∀ h' a it tk', Mem hp h' [] [(a, filO (.ref b) it), (it, litO u1 0)] → Q (.ref a) ⟨h', gs, dr, tk', os⟩) : wpAny (model prog w) A0 (call (.type "filter") [.ref b, .ref u1]) Q E ⟨hp, gs, dr, tk, os⟩ := by
  x_run
end
theorem slot_set_ga : PySem.Slot "set" "__getattribute__" "set.__getattribute__" :=
  .of (owner := "set") (n := "__getattribute__") (by rw [typeLookup_type, builtinLookup_eq_fast]; kernel_rfl) (by decide +kernel) (by decide +kernel) (by decide +kernel)
    (by first | exact .inl (by decide +kernel) | exact .inr (by decide +kernel)) (by rw [isSubtype_type]; kernel_rfl)
section
variable {prog : Program} {w : World} {A : Around} {s₀ s s' : Shared} {g₀ g g' : Hp} {L : Addr} {lc lc' : List (Str × Value)} {own own' : List (Addr × Obj)} {E : Value → Shared → Prop} {env : Env} {n : Nat}
/-- set.__contains__ as a value -/
theorem r_getC {D : Addr} {es : Array (Int × Value)} {ep : Nat} {t : SetTable} {ex : Bool} {Q : Value → Shared → Prop} (hA : AOk A (n + 2)) (S : St w s₀ g₀ g L lc own s) (hD : s.heap.get? D = some { cls := .type "set", data := .set es ep t })
    (h : ∀ B s', g B = none → St w s₀ g₀ (ins g B (bmO D)) L lc own s' → Q (.ref B) s') : wpAny (model prog w) A (getAttr (.ref D) "__contains__" ex) Q E s := by
  unfold getAttr
  refine wpAny_bind (wpAny_mkText ?_)
  have S1 := S.toks (t := s.toks + 1)
  have hT : Shared.TypeIs { s with toks := s.toks + 1 } (.ref D) "set" := ⟨_, hD, rfl⟩
  unfold getAttrBy
  refine wpAny_holding (wpAny_bind (wpAny_typeOf hT (wpAny_bind (wpAny_of_eq slot_set_ga.lookup ?_))))
  dsimp only
  rw [if_neg (by simp [onTheHeap])]
  unfold getAttrByItsOwn
  refine wpAny_bind (wpAny_of_eq (a := none) rfl ?_)
  refine wpAny_bind (wpAny_attempt (wpAny_holding ?_))
  unfold callGetattribute
  rw [if_neg (by simp [onTheHeap])]
  unfold boundAndCalled
  refine wpAny_bind (wpAny_of_eq (slot_set_ga.bind _) ?_)
  refine wk (n := n) (hA.less (by omega)) ?_
  obtain ⟨hp, gs, dr, tk, os⟩ := s
  refine x_getC hD fun h' a tk' M => ?_
  have S2 := S1.mem [(a, bmO D)] M (List.Sublist.refl _) (d := dr) (tk := tk')
  obtain ⟨na, S3⟩ := St.lay1 S2
  show wpAny _ _ (handedOut (.ref a)) _ _ _
  exact wpAny_pure (h a _ na S3)
/-- filter(f, list) -/
theorem r_filter {l b : Addr} {vs : List Value} {k : Nat} {Q : Value → Shared → Prop} (hA : AOk A n) (S : St w s₀ g₀ g L lc own s) (hl : s.heap.get? l = some (lst vs k))
    (h : ∀ F it s', g F = none → St w s₀ g₀ (ins g F (filO (.ref b) it)) L lc ((it, litO l 0) :: own) s' → Q (.ref F) s') : wpAny (model prog w) A (call (.type "filter") [.ref b, .ref l]) Q E s := by
  refine wk hA ?_
  obtain ⟨hp, gs, dr, tk, os⟩ := s
  refine x_filter hl fun h' a it tk' M => ?_
  have S2 := S.mem [(a, filO (.ref b) it), (it, litO l 0)] M (List.Sublist.refl _) (d := dr) (tk := tk')
  obtain ⟨na, S3⟩ := St.lay1 S2
  exact h a it _ na S3
theorem decides_xy {D B : Addr} {oD : Obj} {tx ty : Tok} (hS : Set1 oD "y") (hD : g D = some oD) (hB : g B = some (bmO D)) : Decides prog w n g (.ref B) [.str "x" tx, .str "y" ty] (fun v => v.isStr "y") := by
  obtain ⟨hh, tz, ep, t, rfl, h1, h2⟩ := hS
  intro x hx A s g' hA G sb T pre
  refine wk hA ?_
  obtain ⟨hp, gs, dr, tk, os⟩ := s
  have e1 : hp.get? D = _ := sb _ _ (pre _ _ hD)
  have e2 : hp.get? B = _ := sb _ _ (pre _ _ hB)
  simp only [List.mem_cons, List.not_mem_nil, or_false] at hx
  have done : ∀ (b : Bool) tk', b = x.isStr "y" → Out (⟨hp, gs, dr, tk, os⟩ : Shared) g' (fun v _ => v = .bool (x.isStr "y")) (.bool b) ⟨hp, gs, dr, tk', os⟩ := fun b tk' e =>
    ⟨⟨fun _ _ _ q => q, rfl, rfl⟩, g', Le.refl _, sb, fun _ _ q => .inl q, T, by rw [e]⟩
  rcases hx with rfl | rfl
  · exact x_bmX h1 h2 e1 e2 fun tk' => done false tk' rfl
  · exact x_bmY h1 h2 e1 e2 fun tk' => done true tk' rfl
end
end Mine
end
section
open PySem PySem.W PySem.Calls PyProof.Rows
set_option maxRecDepth 100000
set_option linter.unusedSimpArgs false
set_option linter.unusedVariables false
namespace Mine
section
variable {prog : Program} {w : World} {A : Around} {s₀ s s' : Shared} {g₀ g g' : Hp} {L : Addr} {lc lc' : List (Str × Value)} {own own' : List (Addr × Obj)} {E : Value → Shared → Prop} {env : Env} {n : Nat}
theorem set1_of {o : Obj} {y : Str} (h : o.SetObjOf (PySem.strKind prog w) (fun k => decide (k = y)) 1) : Set1 o y := by
  obtain ⟨hex, es, ep, t, hd, hel, hmem, hn, hf⟩ := h
  obtain ⟨c, di, da, sl⟩ := o
  obtain ⟨h1, h2, h3⟩ := hex
  simp only at h1 h2 h3 hd
  subst h1 h2 h3 hd
  obtain ⟨l⟩ := es
  have hl : l.length = 1 := hn
  obtain ⟨e, rfl⟩ := List.length_eq_one_iff.mp hl
  obtain ⟨⟨k, hk, _⟩, _⟩ := hel e (by simp)
  have hk2 := (hmem k).mpr ⟨e, by simp, hk⟩
  have : k = y := by simpa using hk2
  subst this
  obtain ⟨tz, hz⟩ := Value.isStrOf_shape hk
  obtain ⟨hh, v⟩ := e
  simp only at hz
  subst hz
  have hf' : (t.place.size == 1 && decide (t.fill ≤ t.mask)) = true := hf
  rw [Bool.and_eq_true, beq_iff_eq, decide_eq_true_eq] at hf'
  exact ⟨hh, tz, ep, t, rfl, hf'.1, hf'.2⟩
theorem pyNext_item {it l : Addr} {x : Value} {vs : List Value} {k i : Nat} {oI : Obj} {Q : Option Value → Shared → Prop} (S : St w s₀ g₀ g L lc ((it, oI) :: own) s) (hI : oI.cls = .type "list_iterator" ∧ oI.data = .fields #[.ref l, .int i 0])
    (hl : s.heap.get? l = some (lst vs k)) (hx : vs[i]? = some x)
    (h : ∀ s' oI', St w s₀ g₀ g L lc ((it, oI') :: own) s' → oI'.cls = .type "list_iterator" ∧ oI'.data = .fields #[.ref l, .int ((i + 1 : Nat) : Int) 0] → Q (some x) s') : wpAny (model prog w) A (pyNext (.ref it)) Q E s := by
  unfold pyNext
  exact wpAny_bind (wpAny_attempt (next_item S hI hl hx fun s' oI' S' hI' => wpAny_pure (h s' oI' S' hI')))
theorem pyNext_end {it l : Addr} {vs : List Value} {k i : Nat} {oI : Obj} {Q : Option Value → Shared → Prop} (S : St w s₀ g₀ g L lc ((it, oI) :: own) s) (hI : oI.cls = .type "list_iterator" ∧ oI.data = .fields #[.ref l, .int i 0])
    (hl : s.heap.get? l = some (lst vs k)) (hx : vs.length ≤ i) (hA : AOk A n)
    (h : ∀ s', St w s₀ g₀ g L lc own s' → Q none s') : wpAny (model prog w) A (pyNext (.ref it)) Q E s := by
  unfold pyNext
  refine wpAny_bind (wpAny_attempt (next_end S hI hl hx hA fun s' e S' he => ?_))
  obtain ⟨o, ho, hc⟩ := he
  exact wpAny_bind (wpAny_isInstance (T := "StopIteration") (b := true) ⟨o, ho, hc⟩ isSubtype_stop (wpAny_pure (h s' S')))
set_option maxHeartbeats 4000000 in
/-- set([y]) -/
theorem r_setone {l : Addr} {y : Str} {ty : Tok} {k : Nat} {Q : Value → Shared → Prop} (hA : AOk A (n + 5)) (S : St w s₀ g₀ g L lc own s) (hl : g l = some (lst [.str y ty] k))
    (h : ∀ D oD s', Set1 oD y → St w s₀ g₀ g L lc ((D, oD) :: own) s' → Q (.ref D) s') : wpAny (model prog w) A (call (.type "set") [.ref l]) Q E s := by
  obtain ⟨c, tl, hmro⟩ := PySem.F.called_set.mro
  have hmade := PySem.F.called_set.made
  have hsub := PySem.F.called_set.sub
  refine wpAny_call (codeAny_of_tree ?_)
  show wpAny _ _ (callAny (.type "set") _) _ _ _
  refine wpAny_pure ⟨Code.quiet_builtin _ (by decide +kernel), codeAny_builtin PySem.F.entry_type_call ?_⟩
  rw [Around.under_plain (weight_type_call_type "set" [.ref l] []) rfl]
  have h1 := PySem.F.called_set.notType
  have h2 := PySem.F.called_set.canCreate
  have hct := PySem.F.typeCall_set_1 (.ref l)
  repeat (any_goals (first | assumption | wp_step))
  refine codeAny_mono (code_set_new_1 (.ref l) (E := E) (Q₁ := fun obj s₁ => ∃ led : Bool, obj = .ref s.heap.objs.size ∧ s₁ = { s with heap := s.heap.push { cls := .type "set", dict := none, data := .set #[] 0 (.fresh 0 0 led) } }) fun led => ⟨led, rfl, rfl⟩) fun r s₁ hr => ?_
  cases r with
  | error e => exact hr
  | ok fl =>
    cases fl with
    | ret obj =>
      obtain ⟨led, rfl, rfl⟩ := hr
      have S1 := S.alloc (o := { cls := .type "set", dict := none, data := .set #[] 0 (.fresh 0 0 led) }) (t := s.toks) rfl
      generalize hD : s.heap.objs.size = D at S1 ⊢
      have hSet := S1.ob (D, _) (.head _)
      have hT : Shared.TypeIs { s with heap := s.heap.push { cls := .type "set", dict := none, data := .set #[] 0 (.fresh 0 0 led) } } (.ref D) "set" := ⟨_, hSet, rfl⟩
      have hli := PySem.F.called_set.init.lookup
      have hbi := PySem.F.called_set.init.bind (.ref D)
      repeat (any_goals (first | assumption | wp_step))
      refine codeAny_mono (codeAny_call_builtin (R := wants (fun r s₂ => r = .none ∧ ∃ oD, Set1 oD y ∧ St w s₀ g₀ g L lc ((D, oD) :: own) s₂) E) PySem.F.called_set.init.plain PySem.F.entry_set_init (check_set_init_1 hT ?_)) fun r₂ s₂ hr₂ => ?_
      · have hl1 := S1.at hl
        have hsls := PySem.F.sub_list_set
        have hslf := PySem.F.sub_list_frozenset
        have hne : (Value.type "list" == Value.type "dict") = false := by decide
        have hL1 : (s.heap.push { cls := .type "set", dict := none, data := .set #[] 0 (.fresh 0 0 led) }).IsList l [Value.str y ty].toArray := ⟨_, hl1, rfl, k, rfl⟩
        unfold Builtin.«set.__init__» noKeywords Builtin.Frozenset.updateFrom
        generalize hPI : pyIter = PI
        wp_walk
        subst hPI
        refine wpAny_pyIter_list hL1 ?_
        have S2 := S1.alloc (o := { cls := .type "list_iterator", data := .fields #[.ref l, .int 0 0] }) (t := s.toks) rfl
        generalize hI : ({ s with heap := s.heap.push { cls := .type "set", dict := none, data := .set #[] 0 (.fresh 0 0 led) }, toks := s.toks } : Shared).heap.objs.size = I at S2
        have hI' : (s.heap.push { cls := .type "set", dict := none, data := .set #[] 0 (.fresh 0 0 led) }).objs.size = I := hI
        refine wpAny_bind (wpAny_runValue ?_)
        refine codeAny_builtin PyProof.Rows.F.entry_set_update_loop ?_
        rw [Around.under_plainId PyProof.Rows.F.plain_set_update_loop _]
        show wpAny _ _ (pyNext (.ref I) >>= _) _ _ _
        refine wpAny_bind (pyNext_item S2 ⟨rfl, rfl⟩ (S2.at hl) (i := 0) (x := .str y ty) rfl fun s3 oI3 S3 hI3 => ?_)
        show wpAny _ _ (holding [Value.str y ty] (setAdd D (.str y ty)) >>= _) _ _ _
        refine wpAny_bind (wpAny_holding ?_)
        unfold setAdd
        refine wpAny_holding ?_
        have hkey : (PySem.strKind prog w).is y (.str y ty) = true := by show Value.isStrOf y (.str y ty) = true; simp [Value.isStrOf]
        refine wpAny_bind ((PySem.strKind prog w).pyHash (k := y) hkey ?_)
        have S4 := (S3.toks (t := s3.toks + 1)).swap
        have hS0 : Heap.SetOf (PySem.strKind prog w) ({ s3 with toks := s3.toks + 1 } : Shared).heap D (fun _ => false) 0 := (PyProof.Rows.setObjOf_fresh (knd := PySem.strKind prog w) led).setOf (S4.ob (D, _) (.head _)) (by unfold scanBound; omega)
        refine wpAny_setAddHashed_of (knd := PySem.strKind prog w) (s := { s3 with toks := s3.toks + 1 }) hkey rfl hS0 (by unfold scanBound; omega) fun h5 hsb hS5 => ?_
        obtain ⟨o5, ho5, hso5⟩ := hS5.objOf
        have S5 := (S4.upd (s' := { s3 with heap := h5, toks := s3.toks + 1 }) hsb ho5 rfl rfl).swap
        have hset : Set1 o5 y := by
          refine set1_of (prog := prog) (w := w) ?_
          have e : (fun k' => (fun _ => false) k' || decide (k' = y)) = fun k => decide (k = y) := by funext k; simp
          have := hso5
          simpa using this
        refine wpAny_pure ⟨plainId_quiet PyProof.Rows.F.plain_set_update_loop _, ?_⟩
        refine codeAny_builtin PyProof.Rows.F.entry_set_update_loop ?_
        rw [Around.under_plainId PyProof.Rows.F.plain_set_update_loop _]
        show wpAny _ _ (pyNext (.ref I) >>= _) _ _ _
        refine wpAny_bind (pyNext_end (n := n) S5 hI3 (S5.at hl) (by simp) ((show AOk A.in1.in1.in1 (n + 2) from hA.in1.in1.in1).less (by omega)) fun s6 S6 => ?_)
        show wpAny _ _ (ret Value.none) _ _ _
        refine wpAny_pure ?_
        show wpAny _ _ (pure ()) _ _ _
        refine wpAny_pure ?_
        show wpAny _ _ (ret Value.none) _ _ _
        exact wpAny_pure ⟨rfl, o5, hset, S6⟩
      · cases r₂ with
        | error e => exact hr₂
        | ok fl₂ =>
          cases fl₂ with
          | ret r =>
            obtain ⟨rfl, oD, hS', S'⟩ := hr₂
            repeat (any_goals (first | assumption | wp_step))
            exact h _ _ _ hS' S'
          | _ => exact hr₂.elim
    | _ => exact hr.elim
end
end Mine
end
section
open PySem PySem.W PySem.Calls PyProof.Rows
set_option maxRecDepth 100000
set_option linter.unusedSimpArgs false
set_option linter.unusedVariables false
namespace Mine
section
variable {prog : Program} {w : World} {A : Around} {s₀ s s' : Shared} {g₀ g g' : Hp} {L : Addr} {lc lc' : List (Str × Value)} {own own' : List (Addr × Obj)} {E : Value → Shared → Prop} {env : Env} {n : Nat}
theorem r_setI' {e d : Addr} {od : Obj} {name : Str} {u r v : Value} {u' r' : Value} {Q : Unit → Shared → Prop} (S : St w s₀ g₀ g L lc ((d, od) :: (e, entO d) :: own) s) (hN : DNs od (lkp (entM u r)))
    (hname : name ∈ (["useragents", "rulelines", "delay", "req_rate"] : List Str)) (hset : setl name v (entM u r) = entM u' r')
    (h : ∀ od' s', DNs od' (lkp (entM u' r')) → St w s₀ g₀ g L lc ((d, od') :: (e, entO d) :: own) s' → Q () s') : wpAny (model prog w) A (setAttr (.ref e) name v) Q E s :=
  r_setI S hN hname (within_lkp _) (by show (4 : Nat) ≤ 100; decide) fun od' s' hN' S' => h od' s' (by rw [← hset]; exact hN') S'
end
section
variable {prog : Program} {w : World} {n : Nat}
set_option maxHeartbeats 8000000 in
theorem c_merge (e1 e2 u1 u2 r1 r2 : Addr) (tx ty tz : Tok) (ku1 ku2 kr1 kr2 : Nat) (rs1 rs2 : List Value) (R1 R2 : List (List Nat × Bool)) (hl1 : R1.length ≤ 1000) (hl2 : R2.length ≤ 1000) : Fn prog w (.ref 70) (n + 12) [.ref e1, .ref e2]
    (fun g _ => EntryAt w g e1 (.ref u1) (.ref r1) ∧ EntryAt w g e2 (.ref u2) (.ref r2) ∧ g u1 = some (lst [.str "x" tx, .str "y" ty] ku1) ∧ g u2 = some (lst [.str "y" tz] ku2) ∧ g r1 = some (lst rs1 kr1) ∧ g r2 = some (lst rs2 kr2) ∧ RulesAt prog w g rs1 R1 ∧ RulesAt prog w g rs2 R2)
    (fun v g => ∃ e u r ku kr, v = .ref e ∧ EntryAt w g e (.ref u) (.ref r) ∧ g u = some (lst [.str "y" ty] ku) ∧ g r = some (lst (rs1 ++ rs2) kr) ∧ RulesAt prog w g (rs1 ++ rs2) (R1 ++ R2)) := by
  have hbig : sizeLine = 16777216 := rfl
  refine fn_def [("e1", .ref e1), ("e2", .ref e2)] rfl rfl rfl rfl rfl (fun A s₀ g₀ L s hA pre S => ?_)
  obtain ⟨hE1, hE2, hu1, hu2, hr1, hr2, hR1, hR2⟩ := pre
  repeat walk_at "m1"
  refine r_callK0 S rfl rfl ?_
  refine r_entryO hA S fun e d od u r s hN S => ?_
  repeat walk_at "m1"
  refine r_attr ?_ rfl
  repeat walk_at "m1"
  refine r_attr ?_ rfl
  repeat walk_at "m1"
  refine r_getD S hE2 (by simp) rfl rfl fun s S => ?_
  repeat walk_at "m1"
  refine r_setone (n := n) (hA.less (by omega)) S hu2 fun D oD s hset S => ?_
  obtain ⟨nD, S⟩ := St.lay1 S
  obtain ⟨hh, tz', ep, t, eD, ht1, ht2⟩ := id hset
  refine r_getC (n := n) (hA.less (by omega)) S (by rw [← eD]; exact S.at ins_self) fun B s nB S => ?_
  repeat walk_at "m1"
  refine r_attr ?_ rfl
  repeat walk_at "m1"
  have le1 : Le g₀ (ins (ins g₀ D oD) B (bmO D)) := (Le.ins nD).trans (Le.ins nB)
  refine r_getD S (hE1.mono le1) (by simp) rfl rfl fun s S => ?_
  repeat walk_at "m1"
  refine r_filter hA S (S.at (le1 _ _ hu1)) fun F it s nF S => ?_
  repeat walk_at "m1"
  have le2 := le1.trans (Le.ins (o := filO (.ref B) it) nF)
  have hdec : Decides prog w n (ins (ins (ins g₀ D oD) B (bmO D)) F (filO (.ref B) it)) (.ref B) [.str "x" tx, .str "y" ty] (fun v => v.isStr "y") :=
    decides_xy hset (Le.ins nF _ _ (Le.ins nB _ _ ins_self)) (Le.ins nF _ _ ins_self)
  refine r_listfilter hdec (hA.less (by omega)) (Nat.le_of_ble_eq_true rfl) (Le.refl _) S ⟨rfl, rfl⟩ ins_self (le2 _ _ hu1) fun g5 U cU s le5 S => ?_
  rw [show List.filter (fun v : Value => v.isStr "y") [.str "x" tx, .str "y" ty] = [.str "y" ty] from rfl] at S
  obtain ⟨nU, S⟩ := St.lay1 S
  repeat walk_at "m1"
  refine r_setI' S hN (by simp) rfl fun od s hN S => ?_
  repeat walk_at "m1"
  have le6 : Le g₀ (ins g5 U (lst [.str "y" ty] cU)) := (le2.trans le5).trans (Le.ins nU)
  refine r_attr ?_ rfl
  repeat walk_at "m1"
  refine r_getD S (hE1.mono le6) (by simp) rfl rfl fun s S => ?_
  refine r_attr ?_ rfl
  repeat walk_at "m1"
  refine r_getD S (hE2.mono le6) (by simp) rfl rfl fun s S => ?_
  have hb1 := hR1.length
  have hb2 := hR2.length
  refine r_addL S (S.at (le6 _ _ hr1)) (S.at (le6 _ _ hr2)) (by rw [hbig]; omega) fun R s nR S => ?_
  repeat walk_at "m1"
  refine r_setI' S hN (by simp) rfl fun od s hN S => ?_
  have le7 := le6.trans (Le.ins (o := lst (rs1 ++ rs2) 0) nR)
  repeat walk_at "m1"
  refine r_attr ?_ rfl
  repeat walk_at "m1"
  refine r_getD S (hE2.mono le7) (by simp) rfl rfl fun s S => ?_
  repeat walk_at "m1"
  refine wpAny_is_self rfl ?_
  repeat walk_at "m1"
  refine r_attr ?_ rfl
  repeat walk_at "m1"
  refine r_getD S (hE1.mono le7) (by simp) rfl rfl fun s S => ?_
  repeat walk_at "m1"
  refine r_setI' S hN (by simp) rfl fun od s hN S => ?_
  repeat walk_at "m1"
  refine r_attr ?_ rfl
  repeat walk_at "m1"
  refine r_getD S (hE2.mono le7) (by simp) rfl rfl fun s S => ?_
  repeat walk_at "m1"
  refine wpAny_is_self rfl ?_
  repeat walk_at "m1"
  refine r_attr ?_ rfl
  repeat walk_at "m1"
  refine r_getD S (hE1.mono le7) (by simp) rfl rfl fun s S => ?_
  repeat walk_at "m1"
  refine r_setI' S hN (by simp) rfl fun od s hN S => ?_
  repeat walk_at "m1"
  obtain ⟨n1, S⟩ := St.lay1 S
  obtain ⟨n2, S⟩ := St.lay1 S
  have le8 := (Le.ins (o := od) n1).trans (Le.ins (o := entO d) n2)
  repeat walk_at "m1"
  exact S.done ⟨e, U, R, cU, 0, rfl, ⟨d, od, ins_self, Le.ins n2 _ _ ins_self, hN⟩, le8 _ _ (Le.ins nR _ _ ins_self), le8 _ _ ins_self, ((hR1.mono le7).append (hR2.mono le7)).mono le8⟩
end
end Mine
end
section
open PySem PySem.W PySem.W.X PySem.Calls PyProof.Rows
set_option maxRecDepth 100000
set_option linter.unusedSimpArgs false
set_option linter.unusedVariables false
namespace Mine
theorem boolTo {Q : Value → Shared → Prop} {b c : Bool} {s : Shared} (h : Q (.bool b) s) (e : b = c) : Q (.bool c) s := e ▸ h
section
set_option hygiene false in
local macro_rules | `(tactic| x_close) => `(tactic| exact boolTo KQ (by (first | (simp; done) | (simp; omega) | omega)))
set_option maxHeartbeats 4000000 in
theorem x_tupgt {prog : Program} {w : World} {hp : Heap} {gs : Array GenState} {dr : Drawn} {tk : Nat} {os : OsState} {Q E : Value → Shared → Prop} 
 {a b : Addr} {m k : Int} {x y : Bool} {t u : Tok}
 (f5 : hp.get? a = some { cls := .type "tuple", data := .seq #[.int m t, .bool x] 0 })
 (f6 : hp.get? b = some { cls := .type "tuple", data := .seq #[.int k u, .bool y] 0 })
 (KQ : Q (.bool (decide (k < m) || (decide (m = k) && (x && !y)))) ⟨hp, gs, dr, tk, os⟩) : wpAny (model prog w) A0 (call (.builtin "tuple.__gt__") [.ref a, .ref b]) Q E ⟨hp, gs, dr, tk, os⟩ := by
  rcases x <;> rcases y <;> x_run
end
/-- plain letters -/
noncomputable def OkL (x : List Nat) : Prop := ∀ c ∈ x, c < 128
theorem strOk_mk {x : List Nat} (h : OkL x) : PyData.strOk (mk x) = true := by
  unfold PyData.strOk mk
  rw [List.all_toArray, List.all_eq_true]
  intro c hc
  have := h c hc
  simp; omega
theorem OkL.split {x : List Nat} (h : OkL x) : ∀ p ∈ splitL x, OkL p := by
  induction x with
  | nil => intro p hp; simp [splitL] at hp; subst hp; intro c hc; cases hc
  | cons c r ih =>
    have hr : OkL r := fun d hd => h d (.tail _ hd)
    intro p hp
    unfold splitL at hp
    split at hp
    · rcases List.mem_cons.mp hp with rfl | hp
      · intro d hd; cases hd
      · exact ih hr p hp
    · split at hp
      · simp at hp; subst hp; intro d hd; simp at hd; subst hd; exact h _ (.head _)
      · rename_i q t hs
        rcases List.mem_cons.mp hp with rfl | hp
        · intro d hd
          rcases List.mem_cons.mp hd with rfl | hd
          · exact h _ (.head _)
          · exact ih hr q (by rw [hs]; exact .head _) d hd
        · exact ih hr p (by rw [hs]; exact .tail _ hp)
theorem fold_mem {acc P : List (List Nat)} : ∀ p ∈ P.foldl stepN acc, p ∈ acc ∨ p ∈ P := by
  induction P generalizing acc with
  | nil => intro p hp; exact .inl hp
  | cons q r ih =>
    intro p hp
    rw [List.foldl_cons] at hp
    rcases ih p hp with h | h
    · unfold stepN at h
      split at h
      · exact .inl (List.dropLast_subset _ h)
      · split at h
        · exact .inl h
        · rcases List.mem_append.mp h with h | h
          · exact .inl h
          · simp at h; subst h; exact .inr (.head _)
    · exact .inr (.tail _ h)
theorem OkL.parts {x : List Nat} (h : OkL x) : ∀ p ∈ foldN (splitL x), OkL p := fun p hp => by
  rcases fold_mem p hp with q | q
  · cases q
  · exact h.split p q
theorem eqv_strs : ∀ ys zs : List Str, PyData.eqvAll (ys.map .str) (zs.map .str) = decide (ys = zs)
  | [], [] => rfl
  | [], _ :: _ => rfl
  | _ :: _, [] => rfl
  | y :: ys, z :: zs => by
    show (PyData.eqv (.str y) (.str z) && PyData.eqvAll (ys.map .str) (zs.map .str)) = _
    rw [eqv_strs ys zs]
    show ((y == z) && _) = _
    by_cases h : y = z
    · subst h; simp
    · simp [h]
theorem canLay_strs {P : List (List Nat)} (h : ∀ p ∈ P, OkL p) : PyData.canLayAll0 ((P.map mk).map .str) = true := by
  rw [canLayAll_strs', List.all_eq_true]
  intro x hx
  obtain ⟨p, hp, rfl⟩ := List.mem_map.mp hx
  exact strOk_mk (h p hp)
theorem shaped_strs {P : List (List Nat)} (h : ∀ p ∈ P, OkL p) : PySem.SeqAt.shaped (.list ((P.map mk).map .str)) = true := by
  unfold PySem.SeqAt.shaped
  rw [Bool.and_eq_true]
  refine ⟨canLay_strs h, ?_⟩
  rw [decide_eq_true_eq]
  show PyData.depthAll _ + 1 ≤ 64
  rw [depthAll_strs']; decide
theorem map_mk_inj {P R : List (List Nat)} : P.map mk = R.map mk ↔ P = R := by
  constructor
  · intro h
    induction P generalizing R with
    | nil => cases R with
      | nil => rfl
      | cons _ _ => simp at h
    | cons p P ih => cases R with
      | nil => simp at h
      | cons q R => simp at h; rw [mk_inj.mp h.1, ih (by simpa using h.2)]
  · rintro rfl; rfl
section
variable {prog : Program} {w : World} {A : Around} {s₀ s s' : Shared} {g₀ g g' : Hp} {L : Addr} {lc lc' : List (Str × Value)} {own own' : List (Addr × Obj)} {E : Value → Shared → Prop} {env : Env} {n : Nat}
theorem AOk.room64 {A : Around} {n : Nat} (h : AOk A n) : A.units + 64 < cLine := by have := h.2.2; have : cLine = 9900 := rfl; omega
theorem r_eqStrs {a b : Addr} {vs us : List Value} {k m : Nat} {P R : List (List Nat)} {Q : Value → Shared → Prop} (hA : AOk A n) (ha : s.heap.get? a = some (lst vs k)) (hb : s.heap.get? b = some (lst us m)) (hv : StrsAre vs (P.map mk)) (hu : StrsAre us (R.map mk))
    (h1 : ∀ p ∈ P, OkL p) (h2 : ∀ p ∈ R, OkL p) (h : Q (.bool (decide (P = R))) s) : wpAny (model prog w) A (compareOp .Eq (.ref a) (.ref b)) Q E s := by
  refine eq_dataH (.list ha rfl rfl (by simpa using StrsAre.reads s.heap hv)) (.list hb rfl rfl (by simpa using StrsAre.reads s.heap hu)) (shaped_strs h1) (shaped_strs h2) hA.room64 ?_
  rw [show PyData.eqv (.list ((P.map mk).map .str)) (.list ((R.map mk).map .str)) = decide (P = R) by
    show PyData.eqvAll _ _ = _
    rw [eqv_strs]
    exact decide_eq_decide.mpr map_mk_inj]
  exact h
theorem r_lenL {l : Addr} {vs : List Value} {k : Nat} {Q : Value → Shared → Prop} (S : St w s₀ g₀ g L lc own s) (hl : s.heap.get? l = some (lst vs k)) (hsz : vs.length ≤ sizeLine)
    (h : ∀ t s', St w s₀ g₀ g L lc own s' → Q (.int ((vs.length : Nat) : Int) t) s') : wpAny (model prog w) A (call (.builtin "len") [.ref l]) Q E s := by
  have : sizeLine = 16777216 := rfl
  refine PyProof.Rows.len_list (items := vs.toArray) ⟨_, hl, rfl, k, rfl⟩ (by rw [List.size_toArray]; omega) ?_
  have := h (s.toks + 1) _ (S.toks (t := s.toks + 1 + 1))
  simpa using this
/-- the pairs (length, allowed) -/
inductive HeldAt (g : Hp) : List Value → List (Nat × Bool) → Prop
  | nil : HeldAt g [] []
  | cons {a m b t vs hs} : g a = some (tup [.int ((m : Nat) : Int) t, .bool b]) → HeldAt g vs hs → HeldAt g (.ref a :: vs) ((m, b) :: hs)
theorem HeldAt.mono {vs : List Value} {hs : List (Nat × Bool)} (h : HeldAt g vs hs) (l : Le g g') : HeldAt g' vs hs := by
  induction h with
  | nil => exact .nil
  | cons e _ ih => exact .cons (l _ _ e) ih
theorem HeldAt.length {vs : List Value} {hs : List (Nat × Bool)} (h : HeldAt g vs hs) : vs.length = hs.length := by
  induction h with
  | nil => rfl
  | cons _ _ ih => simp [ih]
theorem HeldAt.at {vs : List Value} {hs : List (Nat × Bool)} (h : HeldAt g vs hs) {i : Nat} {v : Value} (hv : vs[i]? = some v) : ∃ a m b t, v = .ref a ∧ hs[i]? = some (m, b) ∧ g a = some (tup [.int ((m : Nat) : Int) t, .bool b]) := by
  induction h generalizing i with
  | nil => simp at hv
  | cons r _ ih =>
    cases i with
    | zero => simp at hv; subst hv; exact ⟨_, _, _, _, rfl, by simp, r⟩
    | succ i => simp at hv; obtain ⟨a, m, b, t, h1, h2, h3⟩ := ih hv; exact ⟨a, m, b, t, h1, by simpa using h2, h3⟩
theorem HeldAt.append {vs us : List Value} {hs ks : List (Nat × Bool)} (h : HeldAt g vs hs) (k : HeldAt g us ks) : HeldAt g (vs ++ us) (hs ++ ks) := by
  induction h with
  | nil => exact k
  | cons r _ ih => exact .cons r ih
noncomputable def heldD (hs : List (Nat × Bool)) : List PyData := hs.map fun p => .tuple [.int p.1, .bool p.2]
theorem HeldAt.reads {h : Heap} {vs : List Value} {hs : List (Nat × Bool)} (H : HeldAt g vs hs) (sb : Sub g h) : ReadsAll h vs (heldD hs) [] := by
  induction H with
  | nil => exact .nil
  | cons e _ ih => exact .cons (as := []) (.tuple (sb _ _ e) rfl rfl (.cons (as := []) (.int _ _) (.cons (as := []) (.bool _) .nil))) ih
theorem heldD_can : ∀ hs, PyData.canLayAll0 (heldD hs) = true
  | [] => rfl
  | p :: r => by show (_ && PyData.canLayAll0 (heldD r)) = true; rw [heldD_can r]; rfl
theorem heldD_depth : ∀ hs, PyData.depthAll (heldD hs) ≤ 1
  | [] => by decide
  | p :: r => by
    show max (PyData.depth (.tuple [.int p.1, .bool p.2])) (PyData.depthAll (heldD r)) ≤ 1
    exact Nat.max_le.mpr ⟨by show max 0 (max 0 0) + 1 ≤ 1; decide, heldD_depth r⟩
theorem r_eqNil {a b : Addr} {vs : List Value} {k m : Nat} {hs : List (Nat × Bool)} {Q : Value → Shared → Prop} (hA : AOk A n) (S : St w s₀ g₀ g L lc own s) (ha : g a = some (lst vs k)) (hb : g b = some (lst [] m)) (H : HeldAt g vs hs)
    (h : Q (.bool hs.isEmpty) s) : wpAny (model prog w) A (compareOp .Eq (.ref a) (.ref b)) Q E s := by
  refine eq_dataH (.list (S.at ha) rfl rfl (by simpa using H.reads S.sub)) (.list (xs := []) (S.at hb) rfl rfl .nil) ?_ (by decide) hA.room64 ?_
  · unfold PySem.SeqAt.shaped
    rw [Bool.and_eq_true]
    refine ⟨heldD_can hs, ?_⟩
    rw [decide_eq_true_eq]
    show PyData.depthAll _ + 1 ≤ 64
    have := heldD_depth hs
    omega
  · cases hs <;> exact h
noncomputable def gtH (hs : List (Nat × Bool)) (i j : Nat) : Bool := match hs[i]?, hs[j]? with
  | some (m, x), some (k, y) => decide (k < m) || (decide (m = k) && (x && !y))
  | _, _ => false
theorem held_cmp {vs : List Value} {hs : List (Nat × Bool)} (H : HeldAt g vs hs) : CmpH prog w .Gt g vs (gtH hs) := by
  intro i j vi vj A' m s' Q E hi hj hA sb hq
  obtain ⟨a, m1, x, t, rfl, h1, e1⟩ := H.at hi
  obtain ⟨b, m2, y, u, rfl, h2, e2⟩ := H.at hj
  refine wpAny_richCompare_same_room (T := "tuple") ⟨_, sb _ _ e1, rfl⟩ ⟨_, sb _ _ e2, rfl⟩ PySem.F.slot_tuple_gt (wk hA ?_) (by have := hA.2.2; have : cLine = 9900 := rfl; omega)
  obtain ⟨hp, gs, dr, tk, os⟩ := s'
  refine x_tupgt (sb _ _ e1) (sb _ _ e2) ⟨(by intro q; cases q), ?_⟩
  have : gtH hs i j = (decide ((m2 : Int) < m1) || (decide ((m1 : Int) = m2) && (x && !y))) := by 
    unfold gtH; rw [h1, h2]
    have e1 : decide ((m1 : Int) = m2) = decide (m1 = m2) := decide_eq_decide.mpr (by omega)
    have e2 : decide ((m2 : Int) < m1) = decide (m2 < m1) := decide_eq_decide.mpr (by omega)
    rw [e1, e2]
  rw [← this]; exact hq
end
noncomputable def heldF (y : List Nat) (rs : List (List Nat × Bool)) : List (Nat × Bool) :=
  (rs.filter fun r => decide (foldN (splitL (47 :: r.1)) = (foldN (splitL (47 :: y))).take (foldN (splitL (47 :: r.1))).length)).map fun r => (r.1.length + 1, r.2)
noncomputable def allowedF (y : List Nat) (rs : List (List Nat × Bool)) : Bool :=
  (heldF y rs).isEmpty || (((heldF y rs)[argBest (gtH (heldF y rs)) ((heldF y rs).length - 1)]?).map (·.2)).getD false
end Mine
end
section
open PySem PySem.W PySem.Calls PyProof.Rows
set_option maxRecDepth 100000
set_option linter.unusedSimpArgs false
set_option linter.unusedVariables false
namespace Mine
section
variable {prog : Program} {w : World} {n : Nat}
set_option maxHeartbeats 8000000 in
theorem c_law_allowed (rl : Addr) (rvs : List Value) (k : Nat) (rs : List (List Nat × Bool)) (y : List Nat) (t : Tok) (hrs : ∀ p ∈ rs, p.1.length ≤ 900 ∧ OkL p.1) (hl : rs.length ≤ 1000) (hy : y.length ≤ 900) (hyo : OkL y) : Fn prog w (.ref 221) (n + 12) [.ref rl, .str (mk (47 :: y)) t]
    (fun g _ => g rl = some (lst rvs k) ∧ PairsAt g rvs rs) (fun v g => v = .bool (allowedF y rs)) := by
  have hbig : sizeLine = 16777216 := rfl
  refine fn_defC [("rules", .ref rl), ("way", .str (mk (47 :: y)) t)] rfl rfl rfl (fun A A₁ s₀ g₀ L s hA pre S => ?_)
  obtain ⟨hrl, hP⟩ := pre
  have S := S.reown (own' := [(L + 1, cellO none)]) rfl
  refine r_seq (r_store S (fun s S => r_seq (r_store S (fun s S => r_seq0 ⟨?_, S.nx⟩))))
  repeat walk_at "m1"
  refine ⟨S.ge, r_use S (c_law_parts (n := n) (47 :: y) t (by simp; omega)) (hA.less (by omega)) trivial fun v g1 s le1 hv S => ?_⟩
  obtain ⟨pa, pvs, pk, rfl, hpa, hpv⟩ := hv
  refine r_storeC S fun s S => ?_
  obtain ⟨nc, S⟩ := St.lay1 S
  repeat walk_at "m1"
  have le2 : Le g₀ (ins g1 (L + 1) (cellO (some (Value.ref pa)))) := le1.trans (Le.ins nc)
  have hwl : (foldN (splitL (47 :: y))).length ≤ 1000 := by have h1 := foldN_len [] (splitL (47 :: y)); have h2 := splitL_len (47 :: y); simp at h1 h2; unfold foldN; omega
  have hpvl := hpv.length
  rw [List.length_map] at hpvl
  refine r_compL (fun i ys g => HeldAt g ys (heldF y (rs.take i))) (fun h l => h.mono l) (Shp2 [] "path" "allowed") (fun _ cs => cs = []) hA S (le2 _ _ hrl) (by have := hP.length; rw [hbig]; omega) .nil (.inl rfl) (fun _ => rfl) ?_ ?_
  · rintro i v ys g' C D k' lc' cs It oI s' hv lg hJ hlc rfl hyl S
    refine CTurn.gen fun Yq hYq => ?_
    obtain ⟨a, x, b, tx, rfl, hx, ha⟩ := hP.at hv
    obtain ⟨hx9, hxo⟩ := hrs (x, b) (List.mem_of_getElem? hx)
    refine r_asgnT S hA (S.at (lg _ _ (le2 _ _ ha))) rfl rfl fun s S => ?_
    repeat walk_at "m1"
    have hl1 : setl "allowed" (.bool b) (setl "path" (.str (mk (47 :: x)) tx) lc') = ([("path", .str (mk (47 :: x)) tx), ("allowed", .bool b)] : List (Str × Value)) := by
      rcases hlc with rfl | ⟨p, q, rfl⟩ <;> rfl
    have S := S.relc hl1
    repeat walk_at "m1"
    have hxl : (47 :: x).length ≤ 1000 := by simp at hx9 ⊢; omega
    refine ⟨S.ge, r_use S (c_law_parts (n := n) (47 :: x) tx hxl) (hA.less (by omega)) trivial fun v g3 s le3 hv S => ?_⟩
    obtain ⟨qa, qvs, qk, rfl, hqa, hqv⟩ := hv
    have hgc : g3 (L + 1) = some (cellO (some (.ref pa))) := le3 _ _ (lg _ _ ins_self)
    have hpa3 : g3 pa = some (lst pvs pk) := le3 _ _ (lg _ _ (Le.ins nc _ _ hpa))
    repeat walk_at "m1"
    refine r_cell (S.at hgc) ?_
    repeat walk_at "m1"
    refine ⟨S.ge, r_use S (c_law_parts (n := n) (47 :: x) tx hxl) (hA.less (by omega)) trivial fun v g4 s le4 hv S => ?_⟩
    obtain ⟨ra, rvs', rk, rfl, hra, hrv⟩ := hv
    have hrl' := hrv.length
    rw [List.length_map] at hrl'
    have hpl : (foldN (splitL (47 :: x))).length ≤ 1100 := by have h1 := foldN_len [] (splitL (47 :: x)); have h2 := splitL_len (47 :: x); simp at h1 h2 hxl; unfold foldN; omega
    repeat walk_at "m1"
    refine r_lenL S (S.at hra) (by rw [hbig]; omega) fun tl s S => ?_
    repeat walk_at "m1"
    refine r_slcL' (us := pvs.take rvs'.length) S (S.at (le4 _ _ hpa3)) (by rw [hbig]; omega) .none (.int _ _) (by rw [slicePick_upto']) fun za s hza S => ?_
    refine r_eqStrs hA (S.at (Le.ins hza _ _ (le4 _ _ hqa))) (S.at ins_self) hqv (by
      have := are_take hpv rvs'.length
      rw [← List.map_take] at this; exact this) (OkL.parts (x := 47 :: x) (by intro c hc; rcases List.mem_cons.mp hc with rfl | hc; decide; exact hxo c hc)) (fun p hp => OkL.parts (x := 47 :: y) (by intro c hc; rcases List.mem_cons.mp hc with rfl | hc; decide; exact hyo c hc) p (List.mem_of_mem_take hp)) ?_
    rw [hrl']
    have step : heldF y (rs.take (i + 1)) = heldF y (rs.take i) ++ heldF y [(x, b)] := by
      unfold heldF
      rw [List.take_add_one, hx, List.filter_append, List.map_append]; rfl
    repeat walk_at "m1"
    by_cases hc : foldN (splitL (47 :: x)) = (foldN (splitL (47 :: y))).take (foldN (splitL (47 :: x))).length
    · rw [decide_eq_true hc]
      repeat walk_at "m1"
      refine PyProof.Rows.len_str (by rw [mk_len]; simp at hxl ⊢; omega) ?_
      have S := S.toks (t := s.toks + 1 + 1)
      repeat walk_at "m1"
      have hx1 : (mk (47 :: x)).length = x.length + 1 := by rw [mk_len]; rfl
      rw [hx1] at S
      try refine r_backV hYq ?_
      refine ⟨_, _, [], ((le3.trans le4).trans (Le.ins hza)).trans (Le.ins hN), ?_, .inr ⟨_, _, rfl⟩, rfl, S⟩
      rw [step, show heldF y [(x, b)] = [(x.length + 1, b)] by unfold heldF; rw [List.filter_cons_of_pos (by rw [decide_eq_true_eq]; exact hc)]; rfl]
      refine HeldAt.append (hJ.mono (((le3.trans le4).trans (Le.ins hza)).trans (Le.ins hN))) (.cons ins_self .nil)
    · rw [decide_eq_false hc]
      repeat walk_at "m1"
      try refine r_backV hYq ?_
      refine ⟨_, _, [], (le3.trans le4).trans (Le.ins hza), ?_, .inr ⟨_, _, rfl⟩, rfl, S⟩
      rw [step, show heldF y [(x, b)] = [] by unfold heldF; rw [List.filter_cons_of_neg (by rw [decide_eq_true_eq]; exact hc)]; rfl, List.append_nil]
      exact hJ.mono ((le3.trans le4).trans (Le.ins hza))
  · refine compFin_store (fun g5 D ys k5 s le5 hD hgD hJ S => ?_) rfl rfl rfl
    rw [hP.length, List.take_length] at hJ
    repeat walk_at "m1"
    refine r_newB S (Nat.le_of_ble_eq_true rfl) fun N s hN S => ?_
    have hJ2 := hJ.mono (Le.ins (o := lst [] 0) hN)
    refine r_eqNil hA S (Le.ins hN _ _ hD) ins_self hJ2 ?_
    repeat walk_at "m1"
    cases hE : (heldF y rs).isEmpty with
    | true =>
      repeat walk_at "m1"
      exact S.done (by unfold allowedF; rw [hE]; rfl)
    | false =>
      repeat walk_at "m1"
      have hne : ys ≠ [] := by
        intro e
        have := hJ.length
        rw [e] at this
        have h0 := List.length_eq_zero_iff.mp this.symm
        rw [h0] at hE; cases hE
      refine r_max (n := n) (gtH (heldF y rs)) (hA.less (by omega)) (held_cmp hJ2) S (Le.ins hN _ _ hD) hne fun v s hv S => ?_
      obtain ⟨a, m, b, ta, rfl, hm, ha⟩ := hJ2.at hv
      repeat walk_at "m1"
      refine r_itemT (k := 1) (S.at ha) rfl (by decide) ?_
      repeat walk_at "m1"
      refine S.done ?_
      unfold allowedF
      rw [hE, ← hJ.length, hm]
      rfl
end
end Mine
end
section
open PySem PySem.W PySem.Calls PyProof.Rows
set_option maxRecDepth 100000
set_option linter.unusedSimpArgs false
set_option linter.unusedVariables false
namespace Mine
theorem strjoin0 : ∀ P : List (List Nat), Str.join (mk []) (P.map mk) = mk P.flatten
  | [] => rfl
  | [p] => by show mk p = _; simp
  | p :: q :: r => by
    have ih := strjoin0 (q :: r)
    show mk p ++ mk [] ++ Str.join (mk []) ((q :: r).map mk) = _
    rw [ih, mk_app, mk_app]
    simp
theorem txtjoin0 (P : List (List Nat)) : Txt.join (mk []) (P.map mk) = mk P.flatten := by
  unfold Txt.join
  rw [StrLaws.glued_eq_join, strjoin0]
section
variable {prog : Program} {w : World} {A : Around} {s₀ s s' : Shared} {g₀ g g' : Hp} {L : Addr} {lc lc' : List (Str × Value)} {own own' : List (Addr × Obj)} {E : Value → Shared → Prop} {env : Env} {n : Nat}
theorem St.rot3 {p q r : Addr × Obj} (S : St w s₀ g₀ g L lc (p :: q :: r :: own) s) : St w s₀ g₀ g L lc (r :: p :: q :: own) s :=
  S.perm ((List.perm_append_comm (l₁ := [r]) (l₂ := [p, q])).append_right own)
theorem St.rot3' {p q r : Addr × Obj} (S : St w s₀ g₀ g L lc (r :: p :: q :: own) s) : St w s₀ g₀ g L lc (p :: q :: r :: own) s :=
  S.perm ((List.perm_append_comm (l₁ := [p, q]) (l₂ := [r])).append_right own)
theorem St.rot4 {p q r t : Addr × Obj} (S : St w s₀ g₀ g L lc (p :: q :: r :: t :: own) s) : St w s₀ g₀ g L lc (t :: p :: q :: r :: own) s :=
  S.perm ((List.perm_append_comm (l₁ := [t]) (l₂ := [p, q, r])).append_right own)
theorem St.rot4' {p q r t : Addr × Obj} (S : St w s₀ g₀ g L lc (t :: p :: q :: r :: own) s) : St w s₀ g₀ g L lc (p :: q :: r :: t :: own) s :=
  S.perm ((List.perm_append_comm (l₁ := [p, q, r]) (l₂ := [t])).append_right own)
theorem St.rot5 {p q r t u : Addr × Obj} (S : St w s₀ g₀ g L lc (p :: q :: r :: t :: u :: own) s) : St w s₀ g₀ g L lc (u :: p :: q :: r :: t :: own) s :=
  S.perm ((List.perm_append_comm (l₁ := [u]) (l₂ := [p, q, r, t])).append_right own)
theorem St.rot5' {p q r t u : Addr × Obj} (S : St w s₀ g₀ g L lc (u :: p :: q :: r :: t :: own) s) : St w s₀ g₀ g L lc (p :: q :: r :: t :: u :: own) s :=
  S.perm ((List.perm_append_comm (l₁ := [p, q, r, t]) (l₂ := [u])).append_right own)
theorem r_fdiv {a b : Int} {t u : Tok} {Q : Value → Shared → Prop} (S : St w s₀ g₀ g L lc own s) (hb : b = 8 ∨ b = 4 ∨ b = 3) (h : ∀ t' s', St w s₀ g₀ g L lc own s' → Q (.int (a / b) t') s') : wpAny (model prog w) A (binaryOp .FloorDiv (.int a t) (.int b u)) Q E s := by
  have e : a.fdiv b = a / b := Int.fdiv_eq_ediv_of_nonneg a (by omega)
  rcases hb with rfl | rfl | rfl
  all_goals
    refine PyProof.Rows.floordiv_int (by decide) ?_
    rw [e]
    exact h _ _ S.toks
theorem r_mod {a b : Int} {t u : Tok} {Q : Value → Shared → Prop} (S : St w s₀ g₀ g L lc own s) (hb : 0 < b) (h : ∀ t' s', St w s₀ g₀ g L lc own s' → Q (.int (a % b) t') s') : wpAny (model prog w) A (binaryOp .Mod (.int a t) (.int b u)) Q E s := by
  refine PyProof.Rows.mod_int (by omega) ?_
  rw [Int.fmod_eq_emod_of_nonneg a (by omega)]
  exact h _ _ S.toks
theorem r_abs {a : Int} {t : Tok} {Q : Value → Shared → Prop} (S : St w s₀ g₀ g L lc own s) (h : ∀ t' s', St w s₀ g₀ g L lc own s' → Q (.int (if a < 0 then -a else a) t') s') : wpAny (model prog w) A (call (.builtin "abs") [.int a t]) Q E s :=
  PyProof.Rows.call_abs_int fun u tk => h u _ S.toks
theorem r_sub_int {a b : Int} {t u : Tok} {Q : Value → Shared → Prop} (S : St w s₀ g₀ g L lc own s) (h : ∀ t' s', St w s₀ g₀ g L lc own s' → Q (.int (a - b) t') s') : wpAny (model prog w) A (binaryOp .Sub (.int a t) (.int b u)) Q E s :=
  PyProof.Rows.sub_int (h _ _ S.toks)
theorem r_add_int {a b : Int} {t u : Tok} {Q : Value → Shared → Prop} (S : St w s₀ g₀ g L lc own s) (h : ∀ t' s', St w s₀ g₀ g L lc own s' → Q (.int (a + b) t') s') : wpAny (model prog w) A (binaryOp .Add (.int a t) (.int b u)) Q E s :=
  PyProof.Rows.add_int (h _ _ S.toks)
/-- a while whose turns raise nothing -/
theorem r_while {test : Expr} {body : List Stmt} {pos : Pos} {Q : Flow → Shared → Prop} (I : Nat → Shared → Prop)
    (turn : ∀ k s, I k s → wpAny (model prog w) A (isTrue test env (eval test env)) (fun b s₂ => match b with
      | true => wpAny (model prog w) A (execs body env) (fun f s₃ => match f with
          | .next | .cont => ∃ m, m < k ∧ I m s₃
          | .brk => Q .next s₃
          | .ret v => Q (.ret v) s₃) F0 s₂
      | false => Q .next s₂) F0 s)
    (k : Nat) (h : I k s) : wpAny (model prog w) A (exec (.While test body [] pos) env) Q E s := by
  refine wpAny_While (codeAny_whileLoop I (fun k s hI => ?_) k h)
  refine no_err (wpAny_mono (turn k s hI) (fun b s₂ h₂ => ?_) fun _ _ z => z)
  cases b with
  | true =>
    rw [if_pos rfl]
    refine no_err (wpAny_mono h₂ (fun f s₃ h₃ => ?_) fun _ _ z => z)
    cases f <;> exact h₃
  | false =>
    rw [if_neg (by decide)]
    exact wpAny_execs_nil h₂
/-- a call with a star behind a first argument -/
theorem r_callKS {x : Str} {np pos : Pos} {e : Expr} {rest : List Expr} {f : Value} {Q : Value → Shared → Prop} (S : St w s₀ g₀ g L lc own s) (e₁ : nsIn (KK w) mainGlobals x = some (some f)) (hk : keepIn (KK w) f = true)
    (h : wpAny (model prog w) A (spliced (backTo pos (starEach (e :: rest) env))) (fun vs s₁ => GE w s₁.heap ∧ wpAny (model prog w) A (call f vs) Q E s₁) E s)
    (he : starEach (e :: rest) env = (false, eval e env) :: starEach rest env := by rfl) (hst : (backTo pos (starEach rest env)).any (·.1) = true := by rfl)
    (hg : env.globals = mainGlobals := by rfl) (hkd : env.scope.kind = .function := by rfl) (hx : env.kindOf x = some .globalImplicit := by rfl) (hd : (x == ("__debug__" : Str)) = false := by decide) :
    wpAny (model prog w) A (eval (.Call (.Name x np) (e :: rest) [] pos) env) Q E s := by
  refine wpAny_Call_ofName (r_glob S.ge e₁ ?_ hg hkd hx hd)
  exact callWith_S2 (first := []) S.ge.K hk (wpAny_mono h (fun vs s₁ q => ⟨q.1.K, q.2⟩) fun _ _ z => z) he hst
/-- a star over a list -/
theorem r_star {l : Addr} {vs : List Value} {k : Nat} {Q : List Value → Shared → Prop} (S : St w s₀ g₀ g L lc own s) (hl : s.heap.get? l = some (lst vs k)) (hsz : vs.length ≤ sizeLine) (h : ∀ s', St w s₀ g₀ g L lc own s' → Q vs s') :
    StarOf (model prog w) A E (.ref l) Q s := by
  have hT : s.TypeIs (.ref l) "list" := ⟨_, hl, rfl⟩
  unfold StarOf notIterableAtAll
  refine wpAny_bind (wpAny_specialOf hT PySem.F.slot_list_iter.lookup (wpAny_pure ⟨rfl, ?_⟩))
  refine wpAny_collect_seq l (.inl rfl) hl rfl rfl (fun h' hk => ?_) (by simpa using hsz)
  have := h { s with heap := h' } (S.grow hk rfl rfl)
  simpa using this
end
end Mine
end
section
open PySem PySem.W PySem.Calls PyProof.Rows
set_option maxRecDepth 100000
set_option linter.unusedSimpArgs false
set_option linter.unusedVariables false
namespace Mine
local macro_rules | `(tactic| walk_at "m3") => `(tactic| ((fail_if_success (with_reducible refine' r_newT ?_ ?_ ?_)); (walk_at "m2")))
noncomputable def PartOk (p : List Nat) : Prop := p = [97] ∨ p = [98] ∨ p = [97, 98]
theorem PartOk.good {p : List Nat} (h : PartOk p) : 47 ∉ p ∧ p ≠ [] ∧ p ≠ [46] ∧ p ≠ [46, 46] := by rcases h with rfl | rfl | rfl <;> decide
theorem PartOk.ok {p : List Nat} (h : PartOk p) : OkL p := by rcases h with rfl | rfl | rfl <;> (unfold OkL; decide)
theorem PartOk.len {p : List Nat} (h : PartOk p) : 1 ≤ p.length ∧ p.length ≤ 2 := by rcases h with rfl | rfl | rfl <;> decide
theorem PartOk.head {p : List Nat} (h : PartOk p) : p.head? ≠ some 47 := by rcases h with rfl | rfl | rfl <;> decide
theorem parts_wt : ∀ P : List (List Nat), (∀ p ∈ P, PartOk p) → wt P ≤ 3 * P.length
  | [], _ => by simp [wt]
  | q :: r, h => by
    have h1 := (h q (.head _)).len
    have h2 := parts_wt r fun p hp => h p (.tail _ hp)
    rw [wt_cons, List.length_cons]; omega
theorem joinL_ok : ∀ P : List (List Nat), (∀ p ∈ P, OkL p) → OkL (joinL P)
  | [], _ => by intro c hc; cases hc
  | [p], h => h p (.head _)
  | p :: q :: r, h => by
    intro c hc
    rw [joinL_cons p (q :: r) (by simp)] at hc
    rcases List.mem_append.mp hc with hc | hc
    · exact h p (.head _) c hc
    · rcases List.mem_cons.mp hc with rfl | hc
      · decide
      · exact joinL_ok (q :: r) (fun p hp => h p (.tail _ hp)) c hc
theorem lit_up : Str.ofString "/../" = mk [47, 46, 46, 47] := by decide
theorem lit_dots : Str.ofString "/./" = mk [47, 46, 47] := by decide
/-- what a crooked way has of a part -/
noncomputable def wayPart (m : Int) (p : List Nat) : List Nat := p ++ if m = 2 then [47, 46, 47] else [47, 46, 46, 47] ++ p ++ [47]
theorem wayPart_len (m : Int) (p : List Nat) (h : PartOk p) : (wayPart m p).length ≤ 9 := by
  have := h.len
  unfold wayPart
  split <;> simp <;> omega
theorem wayParts_len (m : Int) : ∀ P : List (List Nat), (∀ p ∈ P, PartOk p) → ((P.map (wayPart m)).map List.length).sum ≤ 9 * P.length
  | [], _ => by simp
  | q :: r, h => by
    have h1 := wayPart_len m q (h q (.head _))
    have h2 := wayParts_len m r fun p hp => h p (.tail _ hp)
    simp only [List.map_cons, List.sum_cons, List.length_cons] at h2 ⊢
    omega
theorem flat_len (Q : List (List Nat)) : Q.flatten.length = (Q.map List.length).sum := by
  induction Q with
  | nil => rfl
  | cons q r ih => simp [ih]
theorem join_room {Q : List (List Nat)} (h : (Q.map List.length).sum ≤ 1000) : ((Q.map mk).map (·.length)).sum + (Q.map mk).length * (Str.ofString "").length ≤ 16777216 := by
  rw [lit_empty, mk_len, List.length_nil, Nat.mul_zero, List.map_map]
  have : (Q.map ((fun x => x.length) ∘ mk)) = Q.map List.length := List.map_congr_left fun q _ => mk_len q
  rw [this]; omega
theorem wayPart_ok (m : Int) (p : List Nat) (h : PartOk p) : OkL (wayPart m p) := by
  have hp := h.ok
  unfold wayPart
  intro c hc
  rcases List.mem_append.mp hc with hc | hc
  · exact hp c hc
  · split at hc
    · simp at hc; omega
    · simp at hc
      rcases hc with h | h | h | h | h | h
      all_goals first | omega | exact hp c h
theorem wayFlat_head (m : Int) (P : List (List Nat)) (h : ∀ p ∈ P, PartOk p) : ((P.map (wayPart m)).flatten).head? ≠ some 47 := by
  cases P with
  | nil => simp
  | cons q r =>
    have hq := h q (.head _)
    rw [List.map_cons, List.flatten_cons]
    unfold wayPart
    rcases hq with rfl | rfl | rfl <;> simp
noncomputable def RulesOk (R : List (List Nat × Bool)) (m : Nat) : Prop := R.length ≤ m ∧ ∀ r ∈ R, (∃ P, r.1 = joinL P ∧ Good P) ∧ OkL r.1 ∧ r.1.length ≤ 100
noncomputable def WaysOk (W : List (List Nat)) (m : Nat) : Prop := W.length ≤ m ∧ ∀ y ∈ W, y.head? ≠ some 47 ∧ y.length ≤ 100 ∧ OkL y
noncomputable def slashed (W : List (List Nat)) : List (List Nat) := W.map fun y => 47 :: y
theorem PairsAt.append {g : Hp} {vs us : List Value} {R Q : List (List Nat × Bool)} (h : PairsAt g vs R) (k : PairsAt g us Q) : PairsAt g (vs ++ us) (R ++ Q) := by
  induction h with
  | nil => exact k
  | cons e _ ih => exact .cons e ih
section
variable {w : World} {s₀ s : Shared} {g₀ g : Hp} {L a : Addr} {lc : List (Str × Value)} {own : List (Addr × Obj)} {o : Obj} {vs : List Value} {R : List (List Nat × Bool)} {b : Bool} {t : Tok} {y : Str}
theorem St.pairS (x : List Nat) (S : St w s₀ g₀ (ins g a (tup [.str y t, .bool b])) L lc own s) (hy : y = Mine.mk (47 :: x)) (ha : g a = none) (q : PairsAt g vs R) : PairsAt (ins g a (tup [.str y t, .bool b])) (vs ++ [.ref a]) (R ++ [(x, b)]) := by
  subst hy
  exact (q.mono (Le.ins ha)).append (.cons ins_self .nil)
theorem St.pairG (S : St w s₀ g₀ (ins g a o) L lc own s) (ha : g a = none) (q : PairsAt g vs R) : PairsAt (ins g a o) vs R := q.mono (Le.ins ha)
theorem St.leI (S : St w s₀ g₀ (ins g a o) L lc own s) (ha : g a = none) : Le g (ins g a o) := Le.ins ha
theorem St.top (S : St w s₀ g₀ (ins g a o) L lc own s) : ins g a o a = some o := ins_self
theorem St.nameG (S : St w s₀ g₀ g L lc own s) : ∃ G, G = g := ⟨g, rfl⟩
end
section
variable {prog : Program} {w : World} {A : Around} {s₀ s s' : Shared} {g₀ g g' : Hp} {L : Addr} {lc lc' : List (Str × Value)} {own own' : List (Addr × Obj)} {E : Value → Shared → Prop}
theorem r_fdivN (a : Nat) {t u : Tok} {Q : Value → Shared → Prop} (S : St w s₀ g₀ g L lc own s) (h : ∀ t' s', St w s₀ g₀ g L lc own s' → Q (.int ((a / 3 : Nat) : Int) t') s') : wpAny (model prog w) A (binaryOp .FloorDiv (.int ((a : Nat) : Int) t) (.int 3 u)) Q E s :=
  r_fdiv S (.inr (.inr rfl)) fun t' s' S' => by rw [show ((a : Nat) : Int) / 3 = ((a / 3 : Nat) : Int) by omega]; exact h t' s' S'
theorem r_modN (a : Nat) {t u : Tok} {Q : Value → Shared → Prop} (S : St w s₀ g₀ g L lc own s) (h : ∀ t' s', St w s₀ g₀ g L lc own s' → Q (.int ((a % 3 : Nat) : Int) t') s') : wpAny (model prog w) A (binaryOp .Mod (.int ((a : Nat) : Int) t) (.int 3 u)) Q E s :=
  r_mod S (by decide) fun t' s' S' => by rw [show ((a : Nat) : Int) % 3 = ((a % 3 : Nat) : Int) by omega]; exact h t' s' S'
end
theorem r_itemABC {prog : Program} {w : World} {A : Around} {E : Value → Shared → Prop} {s : Shared} {l : Addr} {t1 t2 t3 u : Tok} {m : Nat} {Q : Value → Shared → Prop} (hl : s.heap.get? l = some (lst [.str "a" t1, .str "b" t2, .str "ab" t3] 0)) (hm : m < 3)
    (h : ∀ p tp, PartOk p → Q (.str (mk p) tp) s) : SubK prog w A (.ref l) (.int (m : Nat) u) Q E s := by
  match m, hm with
  | 0, _ => exact r_itemL hl rfl (by decide) (h [97] t1 (.inl rfl))
  | 1, _ => exact r_itemL hl rfl (by decide) (h [98] t2 (.inr (.inl rfl)))
  | 2, _ => exact r_itemL hl rfl (by decide) (h [97, 98] t3 (.inr (.inr rfl)))
theorem third_lt {m f : Nat} (h : m = f) (h0 : (0 : Int) < ((f / 3 : Nat) : Int)) : f / 3 < m := by omega
/-- what _law_drawn gives back -/
inductive Drawn (v : Value) (g : Hp) : Prop
  | mk (T rs l1 l2 wl : Addr) (v1 v2 wvs : List Value) (k1 k2 kw : Nat) (R1 R2 : List (List Nat × Bool)) (W : List (List Nat)) (_ : v = .ref T) (_ : g T = some (tup [.ref rs, .ref wl])) (_ : g rs = some (lst [.ref l1, .ref l2] 0))
      (_ : g l1 = some (lst v1 k1)) (_ : g l2 = some (lst v2 k2)) (_ : g wl = some (lst wvs kw)) (_ : PairsAt g v1 R1) (_ : PairsAt g v2 R2) (_ : StrsAre wvs ((slashed W).map Mine.mk)) (_ : RulesOk R1 8) (_ : RulesOk R2 8) (_ : WaysOk W 9)
/-- between the turns of its for -/
inductive DrawI (nl rs wl l1 l2 L : Addr) (i : Nat) (g : Hp) (lc : List (Str × Value)) (own : List (Addr × Obj)) : Prop
  | mk (v1 v2 wvs : List Value) (k1 k2 kw : Nat) (R1 R2 : List (List Nat × Bool)) (W : List (List Nat)) (cv : Option Value) (_ : own = [(wl, lst wvs kw), (l2, lst v2 k2), (l1, lst v1 k1), (L + 1, cellO cv)]) (_ : PairsAt g v1 R1) (_ : PairsAt g v2 R2)
      (_ : StrsAre wvs ((slashed W).map Mine.mk)) (_ : RulesOk R1 (3 + i)) (_ : RulesOk R2 (3 + i)) (_ : WaysOk W (4 + i)) (_ : Shp2 [("numbers", .ref nl), ("rules", .ref rs), ("ways", .ref wl)] "eighth" "parts" lc)
/-- between the turns of its while -/
inductive DrawW (w : World) (s₀ : Shared) (g₀ g1 : Hp) (L nl rs wl D : Addr) (own : List (Addr × Obj)) (m : Nat) (s : Shared) : Prop
  | mk (e : Nat) (ps : List (List Nat)) (pvs : List Value) (kD : Nat) (te : Tok) (g2 : Hp) (_ : m = e) (_ : ps.length = 1 ∧ e < 27 ∨ ps.length = 2 ∧ e < 9 ∨ ps.length = 3 ∧ e < 3) (_ : StrsAre pvs (ps.map Mine.mk)) (_ : ∀ p ∈ ps, PartOk p) (_ : Le g1 g2)
      (_ : St w s₀ g₀ g2 L [("numbers", .ref nl), ("rules", .ref rs), ("ways", .ref wl), ("eighth", .int ((e : Nat) : Int) te), ("parts", .ref D)] ((D, lst pvs kD) :: own) s)
section
variable {prog : Program} {w : World} {n : Nat}
set_option maxHeartbeats 8000000 in
theorem c_law_drawn (nl : Addr) (nvs : List Value) (k : Nat) (ns : List Int) (hl : ns.length ≤ 5) : Fn prog w (.ref 202) (n + 12) [.ref nl]
    (fun g _ => g nl = some (lst nvs k) ∧ IntsAre nvs ns)
    Drawn := by
  have hbig : sizeLine = 16777216 := rfl
  refine fn_defC [("numbers", .ref nl)] rfl rfl rfl (fun A A₁ s₀ g₀ L s hA pre S => ?_)
  obtain ⟨hnl, hI⟩ := pre
  have S := S.reown (own' := [(L + 1, cellO none)]) rfl
  refine r_seq (r_store S (fun s S => r_seq0 ⟨?_, S.nx⟩))
  repeat walk_at "m3"
  refine r_newT S (Nat.le_of_ble_eq_true rfl) fun a1 s h1 S => ?_
  have q := S.pairS [97] (by decide) h1 .nil
  repeat walk_at "m3"
  refine r_newT S (Nat.le_of_ble_eq_true rfl) fun a2 s h2 S => ?_
  have q := S.pairS [] (by decide) h2 q
  repeat walk_at "m3"
  refine r_newT S (Nat.le_of_ble_eq_true rfl) fun a3 s h3 S => ?_
  have q := S.pairS [98] (by decide) h3 q
  repeat walk_at "m3"
  refine r_newL S (Nat.le_of_ble_eq_true rfl) fun l1 s S => ?_
  repeat walk_at "m3"
  refine r_newT S (Nat.le_of_ble_eq_true rfl) fun a4 s h4 S => ?_
  have q := S.pairG h4 q
  have r := S.pairS [97, 47, 98] (by decide) h4 .nil
  repeat walk_at "m3"
  refine r_newT S (Nat.le_of_ble_eq_true rfl) fun a5 s h5 S => ?_
  have q := S.pairG h5 q
  have r := S.pairS [] (by decide) h5 r
  repeat walk_at "m3"
  refine r_newT S (Nat.le_of_ble_eq_true rfl) fun a6 s h6 S => ?_
  have q := S.pairG h6 q
  have r := S.pairS [98] (by decide) h6 r
  repeat walk_at "m3"
  refine r_newL S (Nat.le_of_ble_eq_true rfl) fun l2 s S => ?_
  repeat walk_at "m3"
  refine r_newB S (Nat.le_of_ble_eq_true rfl) fun rs s hrs S => ?_
  have q := S.pairG hrs q
  have r := S.pairG hrs r
  have hrs2 := S.top
  have hle := S.le
  repeat walk_at "m3"
  refine r_newL S (Nat.le_of_ble_eq_true rfl) fun wl s S => ?_
  repeat walk_at "m3"
  have hR1 : RulesOk ([] ++ [([97], true)] ++ [([], false)] ++ [([98], true)]) 3 := by
    refine ⟨by decide, fun p hp => ?_⟩
    simp only [List.nil_append, List.cons_append, List.mem_cons, List.not_mem_nil, or_false] at hp
    rcases hp with rfl | rfl | rfl
    · exact ⟨⟨[[97]], rfl, by unfold Good; decide⟩, by unfold OkL; decide, by decide⟩
    · exact ⟨⟨[], rfl, by unfold Good; decide⟩, by unfold OkL; decide, by decide⟩
    · exact ⟨⟨[[98]], rfl, by unfold Good; decide⟩, by unfold OkL; decide, by decide⟩
  have hR2 : RulesOk ([] ++ [([97, 47, 98], false)] ++ [([], true)] ++ [([98], false)]) 3 := by
    refine ⟨by decide, fun p hp => ?_⟩
    simp only [List.nil_append, List.cons_append, List.mem_cons, List.not_mem_nil, or_false] at hp
    rcases hp with rfl | rfl | rfl
    · exact ⟨⟨[[97], [98]], rfl, by unfold Good; decide⟩, by unfold OkL; decide, by decide⟩
    · exact ⟨⟨[], rfl, by unfold Good; decide⟩, by unfold OkL; decide, by decide⟩
    · exact ⟨⟨[[98]], rfl, by unfold Good; decide⟩, by unfold OkL; decide, by decide⟩
  generalize ([] ++ [([97], true)] ++ [([], false)] ++ [([98], true)] : List (List Nat × Bool)) = R1 at hR1 q
  generalize ([] ++ [([97, 47, 98], false)] ++ [([], true)] ++ [([98], false)] : List (List Nat × Bool)) = R2 at hR2 r
  simp only [List.nil_append, List.cons_append] at q r
  generalize hG : ins _ rs _ = G at q r hrs2 hle S
  generalize hv1 : [Value.ref a1, .ref a2, .ref a3] = v1 at q S
  generalize hv2 : [Value.ref a4, .ref a5, .ref a6] = v2 at r S
  obtain ⟨wvs, W, hW, hwvs, S⟩ : ∃ wvs W, WaysOk W 4 ∧ StrsAre wvs ((slashed W).map mk) ∧ St w s₀ g₀ G L [("numbers", .ref nl), ("rules", .ref rs), ("ways", .ref wl)] [(wl, lst wvs 0), (l2, lst v2 0), (l1, lst v1 0), (L + 1, cellO none)] s := by
    refine ⟨_, [[97, 47, 46, 47, 98], [97, 98, 47, 46, 46, 47, 97, 47, 47, 98, 47, 99], [97, 47, 46, 46, 47, 46, 46], [98]], ?_, ?_, S⟩
    · refine ⟨by decide, fun p hp => ?_⟩
      simp only [List.mem_cons, List.not_mem_nil, or_false] at hp
      rcases hp with rfl | rfl | rfl | rfl
      all_goals exact ⟨by decide, by decide, by unfold OkL; decide⟩
    · exact .cons _ _ (.cons _ _ (.cons _ _ (.cons _ _ .nil)))
  clear hG hv1 hv2
  refine r_cons ?_
  refine r_for ?_ (fun _ => rfl)
  repeat walk_at "m1"
  refine r_forL (DrawI nl rs wl l1 l2 L) hA S (hle _ _ hnl) ⟨v1, v2, wvs, 0, 0, 0, R1, R2, W, none, rfl, q, r, hwvs, hR1, hR2, hW, .inl rfl⟩ ?_ ?_
  · rintro i v g' lc' own' It oI s' hv lg ⟨v1, v2, wvs, k1, k2, kw, R1, R2, W, cv, rfl, q, r, hwvs, hR1, hR2, hW, hlc⟩ S
    have hi5 : i < 5 := by have h1 := (List.getElem?_eq_some_iff.mp hv).1; have h2 := hI.length; omega
    obtain ⟨x, tx, rfl⟩ : ∃ x tx, v = .int x tx := by
      obtain ⟨t, e⟩ := hI.int_at i v hv
      exact ⟨_, _, e⟩
    repeat walk_at "m1"
    refine r_storeC S.rot5 fun s S => ?_
    repeat walk_at "m1"
    refine r_cell (S.ob (L + 1, _) (.head _)) ?_
    repeat walk_at "m1"
    refine r_fdiv S (.inl rfl) fun t1 s S => ?_
    repeat walk_at "m1"
    refine r_abs S fun t2 s S => ?_
    repeat walk_at "m1"
    refine r_mod S (by decide) fun t3 s S => ?_
    obtain ⟨e, he, he27⟩ : ∃ e : Nat, (if x / 8 < 0 then -(x / 8) else x / 8) % 27 = (e : Int) ∧ e < 27 := ⟨((if x / 8 < 0 then -(x / 8) else x / 8) % 27).toNat, by omega, by omega⟩
    rw [he]
    repeat walk_at "m1"
    refine r_newB S (Nat.le_of_ble_eq_true rfl) fun B1 s hB1 S => ?_
    repeat walk_at "m1"
    refine r_loc S (by rw [lkp_setl]; rfl) ?_
    repeat walk_at "m1"
    refine r_modN e S fun t4 s S => ?_
    refine r_itemABC (S.at ins_self) (by omega) fun p tp hp => ?_
    repeat walk_at "m1"
    refine r_newL S (Nat.le_of_ble_eq_true rfl) fun D s S => ?_
    repeat walk_at "m3"
    have hl1 : setl "parts" (.ref D) (setl "eighth" (.int e t3) lc') = ([("numbers", .ref nl), ("rules", .ref rs), ("ways", .ref wl), ("eighth", .int e t3), ("parts", .ref D)] : List (Str × Value)) := by
      rcases hlc with rfl | ⟨p, q, rfl⟩ <;> rfl
    have lB1 := St.leI (w := w) (a := B1) S hB1
    have S := S.relc hl1
    generalize hG1 : ins _ B1 _ = g1 at S lB1
    clear hG1
    refine r_while (DrawW w s₀ g₀ g1 L nl rs wl D ((L + 1, cellO (some (.int x tx))) :: (It, oI) :: [(wl, lst wvs kw), (l2, lst v2 k2), (l1, lst v1 k1)])) ?_ e
      ⟨e, [p], _, 0, t3, g1, rfl, .inl ⟨rfl, he27⟩, .cons _ _ .nil, (fun q hq => by rw [List.mem_singleton.mp hq]; exact hp), Le.refl _, S⟩
    rintro m s ⟨f, ps, pvs, kD, te, g2, hmf, hcase, hps, hpo, l12, S⟩
    repeat walk_at "m3"
    refine r_fdivN f S fun t5 s S => ?_
    repeat walk_at "m3"
    refine PyProof.Rows.gt_int ?_
    repeat walk_at "m3"
    by_cases hgo : (0 : Int) < ((f / 3 : Nat) : Int)
    · rw [decide_eq_true hgo]
      repeat walk_at "m3"
      refine r_fdivN f S fun t6 s S => ?_
      repeat walk_at "m3"
      have S := S.relc (lc' := [("numbers", .ref nl), ("rules", .ref rs), ("ways", .ref wl), ("eighth", .int ((f / 3 : Nat) : Int) t6), ("parts", .ref D)]) rfl
      repeat walk_at "m3"
      refine gm_list' (S.ob (D, _) (.head _)) PySem.F.slot_list_append PySem.F.type_list_append ?_
      repeat walk_at "m3"
      refine r_newB S (Nat.le_of_ble_eq_true rfl) fun B2 s hB2 S => ?_
      repeat walk_at "m3"
      refine r_modN (f / 3) S fun t7 s S => ?_
      refine r_itemABC (S.at ins_self) (by omega) fun p' tp' hp' => ?_
      repeat walk_at "m3"
      have hpl := hps.length
      rw [List.length_map] at hpl
      refine r_append S (by rw [hbig]; omega) fun s S => ?_
      repeat walk_at "m3"
      refine ⟨f / 3, third_lt hmf hgo, f / 3, ps ++ [p'], _, _, t6, _, rfl, ?_, ?_, ?_, l12.trans (Le.ins hB2), S⟩
      · rw [List.length_append, List.length_singleton]; omega
      · rw [List.map_append]; exact hps.append' (.cons _ _ .nil)
      · intro q hq
        rcases List.mem_append.mp hq with hq | hq
        · exact hpo q hq
        · rw [List.mem_singleton.mp hq]; exact hp'
    · rw [decide_eq_false hgo]
      have hpl := hps.length
      rw [List.length_map] at hpl
      obtain ⟨nD, S⟩ := St.lay1 S
      have l13 := l12.trans (St.leI (w := w) S nD)
      have hD := S.top
      generalize hG3 : ins g2 D _ = g3 at S l13 hD
      clear hG3
      have hpsl : 1 ≤ ps.length ∧ ps.length ≤ 3 := by omega
      refine r_back hQg ?_
      show wpAny _ _ (execs _ _) _ _ _
      refine r_consG ?_
      intro Qo hQo Qg hQg
      refine r_if ?_
      refine r_tcmp ?_ rfl
      repeat walk_at "m3"
      refine r_cell (S.ob (L + 1, _) (.head _)) ?_
      repeat walk_at "m3"
      refine r_mod S (by decide) fun t8 s S => ?_
      repeat walk_at "m3"
      refine PyProof.Rows.lt_int ?_
      repeat walk_at "m3"
      by_cases hrule : x % 4 < 2
      · rw [decide_eq_true hrule]
        repeat walk_at "m3"
        refine r_cell (S.ob (L + 1, _) (.head _)) ?_
        repeat walk_at "m3"
        refine r_fdiv S (.inr (.inl rfl)) fun t9 s S => ?_
        repeat walk_at "m3"
        refine r_mod S (by decide) fun t10 s S => ?_
        have hj : x / 4 % 2 = ((0 : Nat) : Int) ∨ x / 4 % 2 = ((1 : Nat) : Int) := by omega
        have hrs3 : g3 rs = some (lst [.ref l1, .ref l2] 0) := l13 _ _ (lB1 _ _ (lg _ _ hrs2))
        have hcj : ∀ t : Tok, Fn prog w (.ref 164) (n + 8 + 3) (.str "/" t :: pvs) (fun _ _ => True) (fun v g => ∃ t', v = .str (mk (47 :: joinL ps)) t') := fun t =>
          c_join t pvs ps hps (by intro e; rw [e] at hpsl; simp at hpsl) hpsl.2 (fun p hp => ⟨(hpo p hp).good.1, (hpo p hp).good.2.1⟩) (by have := parts_wt ps hpo; omega)
        have hnew : ∀ (R : List (List Nat × Bool)) (b : Bool), RulesOk R (3 + i) → RulesOk (R ++ [(joinL ps, b)]) (3 + (i + 1)) := by
          intro R b hR
          refine ⟨by rw [List.length_append, List.length_singleton]; have := hR.1; omega, fun p hp => ?_⟩
          rcases List.mem_append.mp hp with hp | hp
          · exact hR.2 p hp
          · rw [List.mem_singleton.mp hp]
            refine ⟨⟨ps, rfl, fun p hp => (hpo p hp).good⟩, ?_, ?_⟩
            · exact joinL_ok ps fun p hp => (hpo p hp).ok
            · have := joinL_len ps
              have := parts_wt ps hpo
              show (joinL ps).length ≤ 100
              omega
        rcases hj with hj | hj
        · rw [hj]
          refine r_itemL (S.at hrs3) rfl (by decide) ?_
          refine gm_list' (S.ob (l1, lst v1 k1) (.tail _ (.tail _ (.tail _ (.tail _ (.head _)))))) PySem.F.slot_list_append PySem.F.type_list_append ?_
          repeat walk_at "m3"
          refine r_callKS S rfl rfl ?_
          repeat walk_at "m3"
          refine items_star ?_ rfl
          repeat walk_at "m3"
          refine r_star S (S.at hD) (by rw [hbig]; omega) fun s S => ?_
          repeat walk_at "m3"
          rw [List.append_nil]
          refine ⟨S.ge, r_use S (hcj _) hA trivial fun v g4 s le4 hv S => ?_⟩
          obtain ⟨tj, rfl⟩ := hv
          repeat walk_at "m3"
          refine r_cell (S.ob (L + 1, _) (.head _)) ?_
          repeat walk_at "m3"
          refine r_mod S (by decide) fun t11 s S => ?_
          repeat walk_at "m3"
          refine PyProof.Rows.eq_int ?_
          repeat walk_at "m3"
          refine r_newT S (Nat.le_of_ble_eq_true rfl) fun a s ha S => ?_
          have hat := S.top
          have lall := (((lB1.trans l13).trans le4).trans (St.leI (w := w) S ha))
          repeat walk_at "m3"
          refine r_append (S.rot5) (by have := q.length; have := hR1.1; rw [hbig]; omega) fun s S => ?_
          repeat walk_at "m3"
          exact ⟨_, ([("numbers", .ref nl), ("rules", .ref rs), ("ways", .ref wl), ("eighth", .int ((f : Nat) : Int) te), ("parts", .ref D)] : List (Str × Value)), [(wl, lst wvs kw), (l2, lst v2 k2), (l1, lst (v1 ++ [.ref a]) (k1 + 1)), (L + 1, cellO (some (.int x tx)))], lall, ⟨v1 ++ [.ref a], v2, wvs, k1 + 1, k2, kw, R1 ++ [(joinL ps, x % 4 == 0)], R2, W, some (.int x tx), rfl, (q.mono lall).append (.cons hat .nil), r.mono lall, hwvs, hnew R1 _ hR1, ⟨by have := hR2.1; omega, hR2.2⟩, ⟨by have := hW.1; omega, hW.2⟩, .inr ⟨.int ((f : Nat) : Int) te, .ref D, rfl⟩⟩, S.rot5'.rot5'⟩
        · rw [hj]
          refine r_itemL (S.at hrs3) rfl (by decide) ?_
          refine gm_list' (S.ob (l2, lst v2 k2) (.tail _ (.tail _ (.tail _ (.head _))))) PySem.F.slot_list_append PySem.F.type_list_append ?_
          repeat walk_at "m3"
          refine r_callKS S rfl rfl ?_
          repeat walk_at "m3"
          refine items_star ?_ rfl
          repeat walk_at "m3"
          refine r_star S (S.at hD) (by rw [hbig]; omega) fun s S => ?_
          repeat walk_at "m3"
          rw [List.append_nil]
          refine ⟨S.ge, r_use S (hcj _) hA trivial fun v g4 s le4 hv S => ?_⟩
          obtain ⟨tj, rfl⟩ := hv
          repeat walk_at "m3"
          refine r_cell (S.ob (L + 1, _) (.head _)) ?_
          repeat walk_at "m3"
          refine r_mod S (by decide) fun t11 s S => ?_
          repeat walk_at "m3"
          refine PyProof.Rows.eq_int ?_
          repeat walk_at "m3"
          refine r_newT S (Nat.le_of_ble_eq_true rfl) fun a s ha S => ?_
          have hat := S.top
          have lall := (((lB1.trans l13).trans le4).trans (St.leI (w := w) S ha))
          repeat walk_at "m3"
          refine r_append (S.rot4) (by have := r.length; have := hR2.1; rw [hbig]; omega) fun s S => ?_
          repeat walk_at "m3"
          exact ⟨_, ([("numbers", .ref nl), ("rules", .ref rs), ("ways", .ref wl), ("eighth", .int ((f : Nat) : Int) te), ("parts", .ref D)] : List (Str × Value)), [(wl, lst wvs kw), (l2, lst (v2 ++ [.ref a]) (k2 + 1)), (l1, lst v1 k1), (L + 1, cellO (some (.int x tx)))], lall, ⟨v1, v2 ++ [.ref a], wvs, k1, k2 + 1, kw, R1, R2 ++ [(joinL ps, x % 4 == 0)], W, some (.int x tx), rfl, q.mono lall, (r.mono lall).append (.cons hat .nil), hwvs, ⟨by have := hR1.1; omega, hR1.2⟩, hnew R2 _ hR2, ⟨by have := hW.1; omega, hW.2⟩, .inr ⟨.int ((f : Nat) : Int) te, .ref D, rfl⟩⟩, S.rot4'.rot5'⟩
      · rw [decide_eq_false hrule]
        repeat walk_at "m3"
        refine gm_list' (S.ob (wl, lst wvs kw) (.tail _ (.tail _ (.head _)))) PySem.F.slot_list_append PySem.F.type_list_append ?_
        repeat walk_at "m3"
        have hcell : s.heap.get? (L + 1) = some (cellO (some (.int x tx))) := S.ob (L + 1, _) (.head _)
        have hLtb : L + 1 ≠ tb := fun e => S.tboff (by rw [← e]; exact .tail _ (.head _))
        refine r_compL (fun i ys g => StrsAre ys ((((ps.take i).map (wayPart (x % 4)))).map mk)) (fun h l => h) (LcOr [] "part") (fun _ cs => cs = []) hA S hD (by rw [hbig]; omega) .nil (.inl rfl) (fun _ => rfl) ?_ ?_
        · rintro i v ys g' C D' k' lc' cs It' oI' s' hv lg' hJ hlc' rfl hyl S
          refine CTurn.gen fun Yq hYq => ?_
          obtain ⟨y, ty, hy, rfl⟩ := getElem_are hps hv
          rw [List.getElem?_map] at hy
          obtain ⟨p, hp, rfl⟩ := Option.map_eq_some_iff.mp hy
          refine r_asgnN ?_
          repeat walk_at "m3"
          have hl2 : setl "part" (.str (mk p) ty) lc' = ([("part", .str (mk p) ty)] : List (Str × Value)) := by rcases hlc' with rfl | ⟨u, rfl⟩ <;> rfl
          have S := S.relc hl2
          repeat walk_at "m3"
          have hpp := (hpo p (List.mem_of_getElem? hp)).len
          have step : (ps.take (i + 1)).map (wayPart (x % 4)) = (ps.take i).map (wayPart (x % 4)) ++ [wayPart (x % 4) p] := by rw [List.take_add_one, hp, List.map_append]; rfl
          refine r_addS S (by rw [lit_up, mk_len, mk_len, hbig]; simp only [List.length_cons, List.length_nil]; omega) fun ta s S => ?_
          rw [lit_up, mk_app]
          repeat walk_at "m3"
          refine r_addS S (by rw [lit_slash, mk_len, mk_len, hbig]; simp only [List.length_cons, List.length_nil, List.length_append]; omega) fun tb' s S => ?_
          rw [lit_slash, mk_app]
          repeat walk_at "m3"
          refine r_newB S (Nat.le_of_ble_eq_true rfl) fun B3 s hB3 S => ?_
          repeat walk_at "m3"
          refine r_cell (S.nx.kp (L + 1) _ hLtb hcell) ?_
          repeat walk_at "m3"
          refine r_mod S (by decide) fun tc s S => ?_
          repeat walk_at "m3"
          refine r_sub_int S fun td s S => ?_
          have hm : x % 4 = 2 ∨ x % 4 = 3 := by omega
          rcases hm with hm | hm
          · rw [show x % 4 - 2 = ((0 : Nat) : Int) by omega]
            refine r_itemL (S.at ins_self) rfl (by decide) ?_
            refine r_addS S (by rw [lit_dots, mk_len, mk_len, hbig]; simp only [List.length_cons, List.length_nil]; omega) fun te s S => ?_
            rw [lit_dots, mk_app]
            repeat walk_at "m3"
            try refine r_backV hYq ?_
            refine ⟨_, _, [], Le.ins hB3, ?_, .inr ⟨_, rfl⟩, rfl, S⟩
            rw [step, List.map_append]
            refine hJ.append' ?_
            rw [show wayPart (x % 4) p = p ++ [47, 46, 47] by unfold wayPart; rw [if_pos hm]]
            exact .cons _ _ .nil
          · rw [show x % 4 - 2 = ((1 : Nat) : Int) by omega]
            refine r_itemL (S.at ins_self) rfl (by decide) ?_
            refine r_addS S (by rw [mk_len, mk_len, hbig]; simp only [List.length_cons, List.length_nil, List.length_append]; omega) fun te s S => ?_
            rw [mk_app]
            repeat walk_at "m3"
            try refine r_backV hYq ?_
            refine ⟨_, _, [], Le.ins hB3, ?_, .inr ⟨_, rfl⟩, rfl, S⟩
            rw [step, List.map_append]
            refine hJ.append' ?_
            rw [show wayPart (x % 4) p = p ++ ([47, 46, 46, 47] ++ p ++ [47]) by unfold wayPart; rw [if_neg (by omega)]]
            exact .cons _ _ .nil
        · refine compFin_none (fun g5 D5 ys k5 s le5 hD5 hgD5 hJ S => ?_)
          rw [hpl, List.take_length] at hJ
          repeat walk_at "m3"
          refine r_join S (S.at hD5) hJ ?_ fun tj s S => ?_
          · exact join_room (by have := wayParts_len (x % 4) ps hpo; omega)
          rw [lit_empty, txtjoin0]
          have hfl := flat_len (ps.map (wayPart (x % 4)))
          have hwl := wayParts_len (x % 4) ps hpo
          refine r_addS S (by rw [lit_slash, mk_len, mk_len, hbig]; simp only [List.length_cons, List.length_nil]; omega) fun tq s S => ?_
          rw [lit_slash, mk_app]
          repeat walk_at "m3"
          have hwv := hwvs.length
          rw [List.length_map] at hwv
          unfold slashed at hwv
          rw [List.length_map] at hwv
          refine r_append S.rot3 (by have := hW.1; rw [hbig]; omega) fun s S => ?_
          repeat walk_at "m3"
          have lall := ((lB1.trans l13).trans le5)
          refine ⟨_, ([("numbers", .ref nl), ("rules", .ref rs), ("ways", .ref wl), ("eighth", .int ((f : Nat) : Int) te), ("parts", .ref D)] : List (Str × Value)), [(wl, lst (wvs ++ [.str (mk ([47] ++ (ps.map (wayPart (x % 4))).flatten)) tq]) (kw + 1)), (l2, lst v2 k2), (l1, lst v1 k1), (L + 1, cellO (some (.int x tx)))], lall, ⟨v1, v2, _, k1, k2, kw + 1, R1, R2, W ++ [(ps.map (wayPart (x % 4))).flatten], some (.int x tx), rfl, q.mono lall, r.mono lall, ?_, ⟨by have := hR1.1; omega, hR1.2⟩, ⟨by have := hR2.1; omega, hR2.2⟩, ?_, .inr ⟨.int ((f : Nat) : Int) te, .ref D, rfl⟩⟩, S.rot3'.rot5'⟩
          · unfold slashed
            rw [List.map_append, List.map_append]
            exact hwvs.append' (.cons _ _ .nil)
          · refine ⟨by rw [List.length_append, List.length_singleton]; have := hW.1; omega, fun y hy => ?_⟩
            rcases List.mem_append.mp hy with hy | hy
            · exact hW.2 y hy
            · rw [List.mem_singleton.mp hy]
              refine ⟨wayFlat_head (x % 4) ps hpo, by omega, fun c hc => ?_⟩
              obtain ⟨z, hz, hcz⟩ := List.mem_flatten.mp hc
              obtain ⟨p, hp, rfl⟩ := List.mem_map.mp hz
              exact wayPart_ok (x % 4) p (hpo p hp) c hcz
  · rintro g' lc' own' s' lg ⟨v1, v2, wvs, k1, k2, kw, R1, R2, W, cv, rfl, q, r, hwvs, hR1, hR2, hW, hlc⟩ S
    have hln : nvs.length ≤ 5 := by have := hI.length; omega
    have hlw : lkp lc' "rules" = some (.ref rs) ∧ lkp lc' "ways" = some (.ref wl) := by rcases hlc with rfl | ⟨p, q, rfl⟩ <;> exact ⟨rfl, rfl⟩
    refine r_cons ?_
    refine r_ret ?_
    refine r_tupd ?_
    refine r_args ?_ rfl
    refine r_loc S hlw.1 ?_
    refine r_args ?_ rfl
    refine r_loc S hlw.2 ?_
    refine r_args0 ?_
    refine r_newT S (Nat.le_of_ble_eq_true rfl) fun T s hT S => ?_
    obtain ⟨n1, S⟩ := St.lay1 S
    obtain ⟨n2, S⟩ := St.lay1 S
    obtain ⟨n3, S⟩ := St.lay1 S
    have l1 := Le.ins (o := tup [.ref rs, .ref wl]) hT
    have lA := Le.ins (o := lst wvs kw) n1
    have lB := Le.ins (o := lst v2 k2) n2
    have lC := Le.ins (o := lst v1 k1) n3
    have ll := ((l1.trans lA).trans lB).trans lC
    repeat walk_at "m1"
    exact S.done (P := Drawn) ⟨T, rs, _, l2, wl, v1, v2, wvs, k1, k2, kw, R1, R2, W, rfl, lC _ _ (lB _ _ (lA _ _ ins_self)), ll _ _ (lg _ _ hrs2), ins_self, lC _ _ ins_self, lC _ _ (lB _ _ ins_self), q.mono ll, r.mono ll, hwvs, ⟨by have := hR1.1; omega, hR1.2⟩, ⟨by have := hR2.1; omega, hR2.2⟩, ⟨by have := hW.1; omega, hW.2⟩⟩
end
end Mine
end
section
open PySem PySem.W PySem.Calls PyProof.Rows
set_option maxRecDepth 100000
set_option linter.unusedSimpArgs false
set_option linter.unusedVariables false
namespace Mine
/-- an exception as it was raised: no traceback yet; c is its context -/
noncomputable def ExcNew (o : Obj) (c : Value) : Prop := o.cls = .type "IndexError" ∧ ∃ vs, o.data = .fields vs ∧ vs[1]? = some .none ∧ vs[2]? = some c
/-- an exception with its traceback T -/
noncomputable def ExcFly (o : Obj) (T : Addr) (c : Value) : Prop := o.cls = .type "IndexError" ∧ ∃ vs, o.data = .fields vs ∧ vs[1]? = some (.ref T) ∧ vs[2]? = some c
noncomputable def TbAt (o : Obj) (v : Value) : Prop := ∃ ts, o.data = .fields ts ∧ ts[3]? = some v
noncomputable def SlotsOf (o o' : Obj) : Prop := ∃ sl, o' = { o with slots := sl }
theorem SlotsOf.refl (o : Obj) : SlotsOf o o := ⟨o.slots, rfl⟩
theorem SlotsOf.trans {a b c : Obj} (h : SlotsOf a b) (k : SlotsOf b c) : SlotsOf a c := by
  obtain ⟨x, rfl⟩ := h; obtain ⟨y, rfl⟩ := k; exact ⟨y, rfl⟩
theorem SlotsOf.dict {a b : Obj} (h : SlotsOf a b) (k : DictObj a) : DictObj b := by
  obtain ⟨x, rfl⟩ := h; exact k
section
variable {prog : Program} {w : World} {A : Around} {s₀ s s' : Shared} {g₀ g g' : Hp} {L LL : Addr} {lc lc' : List (Str × Value)} {own own' : List (Addr × Obj)} {E : Value → Shared → Prop} {env envL : Env} {n : Nat} {oL : Obj}
/-- an item that is not there -/
theorem r_itemOut {l : Addr} {vs : List Value} {k m : Nat} {u : Tok} {Q : Value → Shared → Prop} (hh : A.handled = none) (S : St w s₀ g₀ g L lc own s) (hl : s.heap.get? l = some (lst vs k)) (hm : vs.length ≤ m) (hm2 : m < 2 ^ 62)
    (hE : ∀ e oE s', ExcNew oE .none → St w s₀ g₀ g L lc ((e, oE) :: own) s' → E (.ref e) s') : SubK prog w A (.ref l) (.int (m : Nat) u) Q E s := by
  refine ⟨"list", _, slot_list_getitem.lookup, ⟨_, hl, rfl⟩, ?_⟩
  refine wpAny_getItem_list_out hh ⟨_, hl, rfl, k, rfl⟩ (.inr (by simp; omega)) (by omega) (by omega) fun h' tk e X => ?_
  obtain ⟨ob, t, h1, h2, h3⟩ := X.there
  refine hE e ob _ ⟨h2, _, h3, rfl, rfl⟩ (S.news [(e, ob)] X.keeps (fun p hp => ?_) (by simp) rfl rfl)
  rw [List.mem_singleton.mp hp]; exact ⟨h1, X.new⟩
/-- the frame is noted on a new exception -/
theorem n_note {e : Addr} {oE : Obj} {c : Value} {Q : Unit → Shared → Prop} (hfr : A.frames = some [env, envL]) (hf : env.frame = some L) (hfL : envL.frame = some LL) (hk : env.scope.kind = .function) (hkL : envL.scope.kind = .function)
    (S : St w s₀ g₀ g L lc ((e, oE) :: (LL, oL) :: own) s) (hE : ExcNew oE c) (hoL : DictObj oL)
    (h : ∀ T oE' oT oL' s', ExcFly oE' T c → TbAt oT (rawInt L) → SlotsOf oL oL' → St w s₀ g₀ g L lc ((e, oE') :: (T, oT) :: (LL, oL') :: own) s' → Q () s') :
    wpAny (model prog w) A (noteFrame (.ref e) env) Q E s := by
  obtain ⟨hcE, vs, hd, h1, h2⟩ := hE
  obtain ⟨esL, epL, hdL⟩ := hoL
  have hsz : 1 < vs.size := (Array.getElem?_eq_some_iff.mp h1).1
  have he := S.ob (e, oE) (.head _)
  have heL := S.ob (LL, oL) (.tail _ (.head _))
  obtain ⟨oF, es, ep, eF, dF, kF, rF⟩ := S.ns
  have hn := S.nd
  simp only [List.map_cons, List.nodup_cons, List.mem_cons, not_or] at hn
  have hl : s.heap.FunFrames s₀.heap [env, envL] := ⟨by rw [hk]; decide, ⟨L, oF, hf, S.old L (.head _), eF, fun vs q => by rw [dF] at q; cases q⟩, by rw [hkL]; decide, ⟨LL, oL, hfL, S.old LL (.tail _ (.tail _ (.head _))), heL, fun vs q => by rw [hdL] at q; cases q⟩, trivial⟩
  unfold noteFrame
  simp only [hf]
  refine wpAny_bind (wpAny_field he hd h1 ?_)
  rw [if_neg (by decide)]
  refine wpAny_bind (wpAny_frameOf_fun (base := s₀.heap) hfr hl hf fun h₁ hs₁ => ?_)
  refine wpAny_bind (wpAny_entryPlaceOf fun pl hpl => ?_)
  unfold EntryCells.newEntry newFields
  refine wpAny_bind (wpAny_newObj_type ?_ (hpl.sizeOk5 _ _ _ _ _))
  have hfl : ([env, envL] : List Env).filterMap (·.frame) = [L, LL] := by simp [hf, hfL]
  rw [hfl] at hs₁
  obtain ⟨slF, eF1⟩ := hs₁.2.2 L oF eF
  obtain ⟨slL, eL1⟩ := hs₁.2.2 LL oL heL
  have S1 : St w s₀ g₀ g L lc ((e, oE) :: (LL, { oL with slots := slL }) :: own) { s with heap := h₁ } := by
    refine S.step (fun b o hb q => ?_) rfl rfl ⟨_, es, ep, eF1, dF, kF, rF⟩ (fun p hp => ?_) S.nd fun b hb => .inl hb
    · rw [hs₁.2.1 b]
      · exact q
      · intro hm
        simp only [List.mem_cons, List.not_mem_nil, or_false] at hm
        rcases hm with rfl | rfl
        · exact hb (.head _)
        · exact hb (.tail _ (.tail _ (.head _)))
    · rcases List.mem_cons.mp hp with rfl | hp
      · refine (hs₁.2.1 e ?_).trans he
        simp only [List.mem_cons, List.not_mem_nil, or_false, not_or]
        exact ⟨fun q => hn.1.1 q.symm, hn.2.1.1⟩
      · rcases List.mem_cons.mp hp with rfl | hp
        · exact eL1
        · have hpm : p.1 ∈ own.map (·.1) := List.mem_map_of_mem hp
          refine (hs₁.2.1 p.1 ?_).trans (S.ob p (.tail _ (.tail _ hp)))
          simp only [List.mem_cons, List.not_mem_nil, or_false, not_or]
          exact ⟨fun q => hn.1.2.2 (q ▸ hpm), fun q => hn.2.2.1 (q ▸ hpm)⟩
  generalize hoT : ({ cls := .type "traceback", dict := none, data := .fields ([Value.none, .ref L, .none, rawInt L, .none] ++ (if pl.isEmpty then List.replicate 6 Value.none else pl)).toArray } : Obj) = oT
  have hT3 : TbAt oT (rawInt L) := by rw [← hoT]; exact ⟨_, rfl, by simp⟩
  have hfree : oT.isFreed = false := by rw [← hoT]; rfl
  have S2 := S1.alloc (o := oT) (t := s.toks) hfree
  have hTadr : ({ s with heap := h₁ } : Shared).heap.objs.size = h₁.objs.size := rfl
  rw [hTadr] at S2
  generalize hTT : h₁.objs.size = T at S2 ⊢
  have he2 := S2.ob (e, oE) (.tail _ (.head _))
  refine wpAny_setField he2 hd hsz ?_
  have hd3 := Obj.data_mapFields hd (·.setIfInBounds 1 (Value.ref T))
  have he3 := Heap.get?_update_self (Obj.mapFields (·.setIfInBounds 1 (Value.ref T))) he2 (Obj.isFreed_of_fields hd3)
  have S3 := S2.swap.upd (s' := { s with heap := Heap.update (h₁.push oT) e (Obj.mapFields (·.setIfInBounds 1 (Value.ref T))), toks := s.toks }) (Heap.SameBut.update ..) he3 rfl rfl
  refine h T _ oT _ _ ⟨(Obj.cls_mapFields ..).trans hcE, _, hd3, by simp [hsz], ?_⟩ hT3 ⟨slL, rfl⟩ S3
  rw [Array.getElem?_setIfInBounds_ne (by decide)]
  exact h2
/-- the frame is noted on an exception that flies in it: nothing -/
theorem n_noted {e T : Addr} {oE oT : Obj} {c : Value} {Q : Unit → Shared → Prop} (hf : env.frame = some L) (S : St w s₀ g₀ g L lc ((e, oE) :: (T, oT) :: own) s) (hE : ExcFly oE T c) (hT : TbAt oT (rawInt L)) (h : Q () s) :
    wpAny (model prog w) A (noteFrame (.ref e) env) Q E s := by
  obtain ⟨_, vs, hd, h1, _⟩ := hE
  obtain ⟨ts, hdt, h3⟩ := hT
  exact wpAny_noteFrame_inFlight hf (S.ob (e, oE) (.head _)) hd h1 (S.ob (T, oT) (.tail _ (.head _))) hdt h3 h
theorem n_setFlight {e T : Addr} {oE oT : Obj} {c v : Value} {fr : Option Addr} {Q : Unit → Shared → Prop} (S : St w s₀ g₀ g L lc ((e, oE) :: (T, oT) :: own) s) (hE : ExcFly oE T c) (hT : TbAt oT v)
    (h : ∀ oT' s', TbAt oT' (fr.elim .none fun f => rawInt f) → St w s₀ g₀ g L lc ((e, oE) :: (T, oT') :: own) s' → Q () s') : wpAny (model prog w) A (setFlight (.ref e) fr) Q E s := by
  obtain ⟨_, vs, hd, h1, _⟩ := hE
  obtain ⟨ts, hdt, h3⟩ := hT
  unfold setFlight
  refine wpAny_bind (wpAny_field (S.ob (e, oE) (.head _)) hd h1 ?_)
  rw [if_pos (show (Value.ref T != Value.none) = true from by simp)]
  have hsz : 3 < ts.size := (Array.getElem?_eq_some_iff.mp h3).1
  have hT0 := S.ob (T, oT) (.tail _ (.head _))
  refine wpAny_setField hT0 hdt hsz ?_
  have hd3 := Obj.data_mapFields hdt (·.setIfInBounds 3 (fr.elim Value.none fun f => rawInt f))
  have he3 := Heap.get?_update_self (Obj.mapFields (·.setIfInBounds 3 (fr.elim Value.none fun f => rawInt f))) hT0 (Obj.isFreed_of_fields hd3)
  exact h _ _ ⟨_, hd3, by simp [hsz]⟩ (S.swap.upd (s' := { s with heap := Heap.update s.heap T (Obj.mapFields (·.setIfInBounds 3 (fr.elim Value.none fun f => rawInt f))) }) (Heap.SameBut.update ..) he3 rfl rfl).swap
/-- it comes back into its own frame -/
theorem n_back {e T : Addr} {oE oT : Obj} {c v : Value} (hf : env.frame = some L) (S : St w s₀ g₀ g L lc ((e, oE) :: (T, oT) :: own) s) (hE : ExcFly oE T c) (hT : TbAt oT v)
    (h : ∀ oT' s', TbAt oT' (rawInt L) → St w s₀ g₀ g L lc ((e, oE) :: (T, oT') :: own) s' → E (.ref e) s') : cameBackBy (model prog w) A env E (.ref e) s := by
  obtain ⟨_, vs, hd, h1, _⟩ := id hE
  unfold cameBackBy
  refine wpAny_bind (wpAny_field (S.ob (e, oE) (.head _)) hd h1 ?_)
  rw [if_neg (show ¬ ((Value.ref T == Value.none) = true) from Bool.false_ne_true)]
  refine n_setFlight S hE hT fun oT' s' hT' S' => ?_
  rw [hf] at hT'
  exact h oT' s' hT' S'
/-- it is passed on -/
theorem n_pass {α : Type} {e T : Addr} {oE oT : Obj} {c v : Value} {what : String} {Q : α → Shared → Prop} (hf : env.frame = some L) (S : St w s₀ g₀ g L lc ((e, oE) :: (T, oT) :: own) s) (hE : ExcFly oE T c) (hT : TbAt oT v)
    (h : ∀ oT' s', TbAt oT' (rawInt L) → St w s₀ g₀ g L lc ((e, oE) :: (T, oT') :: own) s' → E (.ref e) s') : wpAny (model prog w) A (PySem.passOn what (.ref e) env : Sem α) Q E s := by
  obtain ⟨_, vs, hd, h1, _⟩ := id hE
  unfold PySem.passOn
  refine wpAny_bind (wpAny_field (S.ob (e, oE) (.head _)) hd h1 ?_)
  rw [if_neg (show ¬ ((Value.ref T == Value.none) = true) from Bool.false_ne_true)]
  refine wpAny_bind (n_setFlight S hE hT fun oT' s' hT' S' => ?_)
  rw [hf] at hT'
  exact wpAny_throw (h oT' s' hT' S')
end
end Mine
end
section
open PySem PySem.W PySem.Calls PyProof.Rows
set_option maxRecDepth 100000
set_option linter.unusedSimpArgs false
set_option linter.unusedVariables false
namespace Mine
theorem entry_unchain : entryFor table "proto.unchain" = some Builtin.«proto.unchain» := entryFor_of_tree (by kernel_rfl)
theorem plain_unchain : plainId "proto.unchain" = true := by decide +kernel
section
variable {prog : Program} {w : World} {A : Around} {s₀ s s' : Shared} {g₀ g g' : Hp} {L LL : Addr} {lc lc' : List (Str × Value)} {own own' : List (Addr × Obj)} {E : Value → Shared → Prop} {env envL : Env} {n : Nat} {oL : Obj}
/-- a new exception while another one is handled -/
theorem wpAny_raiseWordsH {α : Type} {msg : String} {H T : Addr} {oH : Obj} {Q : α → Shared → Prop} (hh : A.handled = some (.ref H)) (S : St w s₀ g₀ g L lc ((H, oH) :: own) s) (hH : ExcFly oH T .none)
    (hE : ∀ e oE s', ExcNew oE (.ref H) → St w s₀ g₀ g L lc ((e, oE) :: (H, oH) :: own) s' → E (.ref e) s') : wpAny (model prog w) A (raiseErrorWords "IndexError" msg : Sem α) Q E s := by
  obtain ⟨_, vs, hd, h1, h2⟩ := id hH
  unfold raiseErrorWords
  refine wpAny_bind (wpAny_mkText (wpAny_bind ?_))
  unfold newExc newTuple
  refine wpAny_bind (wpAny_newObj_type ?_)
  refine wpAny_bind (m := firstArgMember _ _) (wpAny_of_eq (a := Value.none) (by simp only [firstArgMember, plainExc_IndexError.first]; rfl) ?_)
  rw [plainExc_IndexError.own]
  refine wpAny_newObj_type ?_
  have S0 := S.toks (t := s.toks + 1)
  generalize hs1 : ({ s with toks := s.toks + 1 } : Shared) = s1 at S0 ⊢
  have S1 := (S0.alloc (o := { cls := .type "tuple", data := .seq [Value.str msg s.toks].toArray }) (t := s1.toks) rfl).drop
  generalize hs2 : ({ s1 with heap := s1.heap.push { cls := .type "tuple", data := .seq [Value.str msg s.toks].toArray }, toks := s1.toks } : Shared) = s2 at S1
  have S2 := S1.alloc (o := { cls := .type "IndexError", data := .fields #[Value.ref s1.heap.objs.size, Value.none, Value.none, Value.none, Value.bool false, Value.none] }) (t := s2.toks) rfl
  generalize hes : s2.heap.objs.size = e at S2 ⊢
  have hne : e ≠ H := S2.names_ne
  rw [show (#[Value.ref s1.heap.objs.size, Value.none, Value.none, Value.none, Value.bool false, Value.none] ++ #[] : Array Value) = #[Value.ref s1.heap.objs.size, Value.none, Value.none, Value.none, Value.bool false, Value.none] from by simp]
  unfold raiseNew
  refine wpAny_bind (wpAny_handled ?_)
  rw [hh]
  dsimp only
  rw [if_pos (show (Value.ref H != Value.ref e) = true by simp; exact fun q => hne q.symm)]
  refine wpAny_bind (wpAny_holding (wpAny_runValue (codeAny_builtin entry_unchain ?_)))
  rw [Around.under_plainId plain_unchain _]
  show wpAny _ _ (field (.ref H) 2 >>= _) _ _ _
  refine wpAny_bind (wpAny_field (S2.ob (H, oH) (.tail _ (.head _))) hd h2 ?_)
  rw [if_pos (show (Value.none == Value.none) = true from rfl)]
  refine wpAny_pure ?_
  show wpAny _ _ (setField (.ref e) 2 (.ref H) >>= _) _ _ _
  refine wpAny_bind (wpAny_setField (S2.ob (e, _) (.head _)) rfl (by simp) ?_)
  have he2 := Heap.get?_update_self (Obj.mapFields (·.setIfInBounds 2 (Value.ref H))) (S2.ob (e, _) (.head _)) rfl
  refine wpAny_throw (hE e _ _ ⟨rfl, _, rfl, rfl, rfl⟩ (S2.upd (Heap.SameBut.update ..) he2 rfl rfl))
/-- an item that is not there, while an exception is handled -/
theorem r_itemOutHk {l H T : Addr} {oH : Obj} {vs : List Value} {k : Nat} {m : Int} {u : Tok} {Q : Value → Shared → Prop} (hh : A.handled = some (.ref H)) (S : St w s₀ g₀ g L lc ((H, oH) :: own) s) (hH : ExcFly oH T .none) (hl : s.heap.get? l = some (lst vs k)) (hm : (vs.length : Int) ≤ m) (hm2 : m < 2 ^ 63)
    (hE : ∀ e oE s', ExcNew oE (.ref H) → St w s₀ g₀ g L lc ((e, oE) :: (H, oH) :: own) s' → E (.ref e) s') : SubK prog w A (.ref l) (.int m u) Q E s := by
  refine ⟨"list", _, slot_list_getitem.lookup, ⟨_, hl, rfl⟩, ?_⟩
  have hT : s.TypeIs (.ref l) "list" := ⟨_, hl, rfl⟩
  have hfit : Builtin.List.listFitsIndex m = true := fitsIndex_both (by omega) hm2
  unfold getItem
  try with_reducible refine wpAny_holding ?_
  first | refine wpAny_bind (wpAny_pure ?_) | skip
  refine wpAny_bind (wpAny_sequenceKey hT (by decide) ?_)
  refine wpAny_bind (wpAny_callSpecial?_slot (name := Str.ofString "__getitem__") hT slot_list_getitem
    (wpAny_call_entry slot_list_getitem hT entry_list_getitem ?_ (args_list_getitem _ _)))
  show wpAny _ _ (Builtin.List.listSubscript? (.int m u) >>= _) _ _ s
  refine wpAny_bind (wpAny_listSubscript_int hfit ?_)
  clear hfit hm2
  have hh1 : A.in1.handled = some (.ref H) := hh
  cases m with
  | ofNat j =>
    have hx : vs.toArray[j]? = none := by
      have : (vs.length : Int) ≤ (j : Int) := hm
      simp; omega
    show wpAny _ _ ((seqItemAt l j >>= fun r => pure (r.map (j, ·))) >>= _) _ _ s
    refine wpAny_bind (wpAny_bind (wpAny_seqItemAt hl rfl (wpAny_pure ?_)))
    rw [hx]
    first
      | exact wpAny_bind (wpAny_rule (wpAny_raiseWordsH hh1 S hH hE))
      | exact wpAny_bind (wpAny_rule (wpAny_bind (wpAny_raiseWordsH hh1 S hH hE)))
      | exact wpAny_bind (wpAny_bind (wpAny_rule (wpAny_raiseWordsH hh1 S hH hE)))
      | exact wpAny_rule (wpAny_raiseWordsH hh1 S hH hE)
  | negSucc j => exact absurd hm (by have := Int.negSucc_lt_zero j; omega)
theorem r_itemOutH {l H T : Addr} {oH : Obj} {vs : List Value} {k m : Nat} {u : Tok} {Q : Value → Shared → Prop} (hh : A.handled = some (.ref H)) (S : St w s₀ g₀ g L lc ((H, oH) :: own) s) (hH : ExcFly oH T .none) (hl : s.heap.get? l = some (lst vs k)) (hm : vs.length ≤ m) (hm2 : m < 2 ^ 62)
    (hE : ∀ e oE s', ExcNew oE (.ref H) → St w s₀ g₀ g L lc ((e, oE) :: (H, oH) :: own) s' → E (.ref e) s') : SubK prog w A (.ref l) (.int (m : Nat) u) Q E s :=
  r_itemOutHk hh S hH hl (by omega) (by omega) hE
/-- a while whose test may raise -/
theorem r_whileX {test : Expr} {body : List Stmt} {pos : Pos} {Q : Flow → Shared → Prop} (I : Nat → Shared → Prop)
    (turn : ∀ k s, I k s → wpAny (model prog w) A (isTrue test env (eval test env)) (fun b s₂ => match b with
      | true => wpAny (model prog w) A (execs body env) (fun f s₃ => match f with
          | .next | .cont => ∃ m, m < k ∧ I m s₃
          | .brk => Q .next s₃
          | .ret v => Q (.ret v) s₃) F0 s₂
      | false => Q .next s₂) (notedBy (model prog w) A env (cameBackBy (model prog w) A env E)) s)
    (k : Nat) (h : I k s) : wpAny (model prog w) A (exec (.While test body [] pos) env) Q E s := by
  refine wpAny_While (codeAny_whileLoop I (fun k s hI => ?_) k h)
  refine wpAny_mono (turn k s hI) (fun b s₂ h₂ => ?_) fun e s' h' => h'
  cases b with
  | true =>
    rw [if_pos rfl]
    refine no_err (wpAny_mono h₂ (fun f s₃ h₃ => ?_) fun _ _ z => z)
    cases f <;> exact h₃
  | false =>
    rw [if_neg (by decide)]
    exact wpAny_execs_nil h₂
theorem sub_IE : isSubtype (.type "IndexError") (.type "IndexError") = pure true := isSubtype_of_subB (by decide +kernel)
theorem exc_IE : isSubtype (.type "IndexError") (.type "BaseException") = pure true := isSubtype_of_subB (by decide +kernel)
theorem nt_IE : isSubtype (.type ((Manifest.find? "IndexError").elim "type" fun x => x.metatype)) (.type "tuple") = pure false := isSubtype_of_subB (by decide +kernel)
/-- the clause `except IndexError` -/
theorem r_clause {e T : Addr} {oE oT : Obj} {c v : Value} {np pos : Pos} {b₀ : Stmt} {suite : List Stmt} {rest : List ExceptHandler} {Q : Flow → Shared → Prop} (S : St w s₀ g₀ g L lc ((e, oE) :: (T, oT) :: own) s) (hE : ExcFly oE T c) (hT : TbAt oT v)
    (hname : ∀ (Q' : Value → Shared → Prop) (E' : Value → Shared → Prop), Q' (.type "IndexError") s → wpAny (model prog w) (A.mark (some (.ref e))) (eval (.Name "IndexError" np) env) Q' E' s)
    (h : ∀ oT' s', St w s₀ g₀ g L lc ((e, oE) :: (T, oT') :: own) s' → wpAny (model prog w) (A.mark (some (.ref e))) (execs (b₀ :: suite) env) Q F0 s') :
    wpAny (model prog w) A (handleBy (.ref e) env (.ExceptHandler (some (.Name "IndexError" np)) none (b₀ :: suite) pos :: rest)) Q E s := by
  refine wpAny_handleBy_builtin (X := "IndexError") (T := "IndexError") (b := true) exc_IE nt_IE sub_IE (hname _ _ ⟨rfl, ⟨_, S.ob (e, oE) (.head _), hE.1⟩, ?_⟩)
  rw [if_pos rfl]
  exact n_setFlight S hE hT fun oT' s' _ S' => no_err (h oT' s' S')
/-- try with one clause, no finally -/
theorem r_tryX {body : List Stmt} {h₀ : ExceptHandler} {hs : List ExceptHandler} {pos : Pos} {Q : Flow → Shared → Prop}
    (h : wpAny (model prog w) A (execs body env) Q
      (fun e s₁ => wpAny (model prog w) A (noteFrame e env) (fun _ s₂ => wpAny (model prog w) A (setFlight e none) (fun _ s₃ => wpAny (model prog w) A (handleBy e env (h₀ :: hs)) Q E s₃) E s₂) E s₁) s) :
    wpAny (model prog w) A (exec (.Try body (h₀ :: hs) [] [] pos) env) Q E s := by
  refine wpAny_Try_except (wpAny_mono h (fun f s' q => ?_) fun _ _ z => z)
  cases f with
  | next => exact wpAny_execs_nil q
  | _ => exact q
end
end Mine
end
section
open PySem PySem.W PySem.Calls PyProof.Rows
set_option maxRecDepth 100000
set_option linter.unusedSimpArgs false
set_option linter.unusedVariables false
namespace Mine
/-- each twice -/
noncomputable def dbl : List (List Nat) → List (List Nat)
  | [] => []
  | x :: r => x :: x :: dbl r
theorem dbl_len : ∀ X, (dbl X).length = 2 * X.length
  | [] => rfl
  | x :: r => by simp [dbl, dbl_len r]; omega
theorem dbl_even : ∀ (X : List (List Nat)) (p : Nat), (dbl X)[2 * p]? = X[p]?
  | [], p => by simp [dbl]
  | x :: r, 0 => rfl
  | x :: r, p + 1 => by
    show (x :: x :: dbl r)[2 * (p + 1)]? = _
    rw [show 2 * (p + 1) = 2 * p + 1 + 1 by omega]
    simp [dbl_even r p]
theorem dbl_odd : ∀ (X : List (List Nat)) (p : Nat), (dbl X)[2 * p + 1]? = X[p]?
  | [], p => by simp [dbl]
  | x :: r, 0 => rfl
  | x :: r, p + 1 => by
    show (x :: x :: dbl r)[2 * (p + 1) + 1]? = _
    rw [show 2 * (p + 1) + 1 = 2 * p + 1 + 1 + 1 by omega]
    simp [dbl_odd r p]
theorem dbl_drop : ∀ (X : List (List Nat)) (p : Nat), (dbl X).drop (2 * p) = dbl (X.drop p)
  | [], p => by simp [dbl]
  | x :: r, 0 => rfl
  | x :: r, p + 1 => by
    show (x :: x :: dbl r).drop (2 * (p + 1)) = _
    rw [show 2 * (p + 1) = 2 * p + 1 + 1 by omega]
    simp [dbl_drop r p]
/-- what sorted_list_difference tells of two rows, each item twice -/
noncomputable def sd : List (List Nat) → List (List Nat) → List (List Nat) × List (List Nat)
  | [], A => ([], dbl A)
  | e :: E, [] => (dbl (e :: E), [])
  | e :: E, a :: A => if e < a then (e :: (sd E (a :: A)).1, (sd E (a :: A)).2) else if a < e then ((sd (e :: E) A).1, a :: (sd (e :: E) A).2) else sd E A
termination_by E A => E.length + A.length
theorem sd_nil (A : List (List Nat)) : sd [] A = ([], dbl A) := by unfold sd; rfl
theorem sd_nil2 (E : List (List Nat)) : sd E [] = (dbl E, []) := by
  cases E with
  | nil => unfold sd; rfl
  | cons e E => unfold sd; rfl
theorem sd_end {E A : List (List Nat)} (h : E = [] ∨ A = []) : sd E A = (dbl E, dbl A) := by
  rcases h with rfl | rfl
  · exact sd_nil A
  · exact sd_nil2 E
section
variable {prog : Program} {w : World} {A : Around} {s₀ s s' : Shared} {g₀ g g' : Hp} {L LL : Addr} {lc lc' : List (Str × Value)} {own own' : List (Addr × Obj)} {E : Value → Shared → Prop} {env envL : Env} {n : Nat} {oL : Obj}
theorem r_ltS {x y : List Nat} {t u : Tok} {Q : Value → Shared → Prop} (h : Q (.bool (decide (x < y))) s) : wpAny (model prog w) A (compareOp .Lt (.str (mk x) t) (.str (mk y) u)) Q E s := rc_lt h
theorem r_gtS {x y : List Nat} {t u : Tok} {Q : Value → Shared → Prop} (h : Q (.bool (decide (y < x))) s) : wpAny (model prog w) A (compareOp .Gt (.str (mk x) t) (.str (mk y) u)) Q E s := rc_gt h
theorem r_inc {x : Str} {pos' pos p : Pos} {k m : Nat} {t : Tok} {Q : Flow → Shared → Prop} (S : St w s₀ g₀ g L lc own s) (hv : lkp lc x = some (.int (m : Nat) t))
    (h : ∀ t' s', St w s₀ g₀ g L (setl x (.int ((m + 1 : Nat) : Int) t') lc) own s' → Q .next s')
    (hk : env.scope.kind = .function := by rfl) (hl : env.kindOf x = some .local := by rfl) (hL : env.locals = L := by rfl) : wpAny (model prog w) A (exec (.AugAssign (.Name x pos') .Add (.Constant (.int 1) k p) pos) env) Q E s := by
  refine r_aug S hv ?_ hk hl hL
  refine r_int S fun t1 s1 S1 => ?_
  refine PyProof.Rows.iadd_int ?_
  have S2 := S1.toks (t := s1.toks + 1)
  refine r_store S2 (fun s3 S3 => ?_) hk hl hL
  exact h s1.toks s3 (by push_cast; exact S3)
/-- what lies beyond a list's end raises -/
noncomputable def OutAt (prog : Program) (w : World) (A : Around) (s₀ : Shared) (g₀ g : Hp) (L : Addr) (own : List (Addr × Obj)) (l : Addr) (vs : List Value) (c : Value) : Prop :=
  ∀ (lc : List (Str × Value)) (s : Shared) (m : Nat) (u : Tok) (Q : Value → Shared → Prop) (E : Value → Shared → Prop), St w s₀ g₀ g L lc own s → vs.length ≤ m → m < 2 ^ 62 → (∀ e oE s', ExcNew oE c → St w s₀ g₀ g L lc ((e, oE) :: own) s' → E (.ref e) s') → SubK prog w A (.ref l) (.int (m : Nat) u) Q E s
/-- while X[v] == y: v += 1, over a row of pairs -/
theorem r_skip {xs v yv : Str} {p1 p2 p3 p4 p5 p6 p7 p8 p9 : Pos} {kc : Nat} {l : Addr} {vs : List Value} {kk : Nat} {X : List (List Nat)} {p : Nat} {y : List Nat} {t ty : Tok} {c : Value} {Q : Flow → Shared → Prop}
    (hO : OutAt prog w A s₀ g₀ g L own l vs c) (S : St w s₀ g₀ g L lc own s) (hxs : lkp lc xs = some (.ref l)) (hv : lkp lc v = some (.int ((2 * p + 1 : Nat) : Int) t)) (hy : lkp lc yv = some (.str (mk y) ty)) (hvx : xs ≠ v) (hvy : yv ≠ v)
    (hl : g l = some (lst vs kk)) (hvs : StrsAre vs ((dbl X).map mk)) (hp : X[p]? = some y) (hne : X[p + 1]? ≠ some y) (hsz : X.length ≤ 1000)
    (hnext : ∀ t' s', p + 1 < X.length → St w s₀ g₀ g L (setl v (.int ((2 * (p + 1) : Nat) : Int) t') lc) own s' → Q .next s')
    (hraise : ∀ t' e oE s', p + 1 = X.length → ExcNew oE c → St w s₀ g₀ g L (setl v (.int ((2 * (p + 1) : Nat) : Int) t') lc) ((e, oE) :: own) s' → notedBy (model prog w) A env (cameBackBy (model prog w) A env E) (.ref e) s')
    (hk : env.scope.kind = .function) (hl1 : env.kindOf xs = some .local) (hl2 : env.kindOf v = some .local) (hl3 : env.kindOf yv = some .local) (hL : env.locals = L)
    (hd1 : (xs == ("__debug__" : Str)) = false) (hd2 : (v == ("__debug__" : Str)) = false) (hd3 : (yv == ("__debug__" : Str)) = false) :
    wpAny (model prog w) A (exec (.While (.Compare (.Subscript (.Name xs p1) (.Name v p2) p3) [.Eq] [.Name yv p4] p5) [.AugAssign (.Name v p6) .Add (.Constant (.int 1) kc p7) p8] [] p9) env) Q E s := by
  have hvl : vs.length = 2 * X.length := by have := hvs.length; rw [List.length_map, dbl_len] at this; exact this
  have hpl : p < X.length := (List.getElem?_eq_some_iff.mp hp).1
  refine r_whileX (fun m s => (m = 1 ∧ St w s₀ g₀ g L lc own s) ∨ (m = 0 ∧ ∃ t', St w s₀ g₀ g L (setl v (.int ((2 * (p + 1) : Nat) : Int) t') lc) own s)) ?_ 1 (.inl ⟨rfl, S⟩)
  rintro m s (⟨rfl, S⟩ | ⟨rfl, t', S⟩)
  · refine r_tcmp ?_ rfl
    refine r_sub ?_ (fun _ _ => rfl)
    refine r_loc S hxs ?_ hk hl1 hL hd1
    refine r_loc S hv ?_ hk hl2 hL hd2
    have hi : vs[2 * p + 1]? = some vs[2 * p + 1] := List.getElem?_eq_getElem (by omega)
    obtain ⟨z, tz, hz, ez⟩ := getElem_are hvs hi
    rw [List.getElem?_map, dbl_odd, hp] at hz
    cases hz
    refine r_itemL (k := 2 * p + 1) (S.at hl) hi (by omega) ?_
    rw [ez]
    refine r_loc S hy ?_ hk hl3 hL hd3
    refine r_eqS ?_
    rw [decide_eq_true rfl]
    refine r_truthb ?_
    dsimp only
    refine r_cons ?_
    refine r_inc S hv (fun t' s' S' => ?_) hk hl2 hL
    refine r_nil ?_
    exact ⟨0, by decide, .inr ⟨rfl, t', S'⟩⟩
  · refine r_tcmp ?_ rfl
    refine r_sub ?_ (fun _ _ => rfl)
    refine r_loc S (v := .ref l) (by rw [lkp_setl]; show (if xs = v then _ else lkp lc xs) = _; rw [if_neg hvx]; exact hxs) ?_ hk hl1 hL hd1
    refine r_loc S (v := .int ((2 * (p + 1) : Nat) : Int) t') (by rw [lkp_setl]; simp) ?_ hk hl2 hL hd2
    by_cases hend : p + 1 < X.length
    · have hi : vs[2 * (p + 1)]? = some vs[2 * (p + 1)] := List.getElem?_eq_getElem (by omega)
      obtain ⟨z, tz, hz, ez⟩ := getElem_are hvs hi
      rw [List.getElem?_map, dbl_even, List.getElem?_eq_getElem hend] at hz
      cases hz
      refine r_itemL (k := 2 * (p + 1)) (S.at hl) hi (by omega) ?_
      rw [ez]
      refine r_loc S (v := .str (mk y) ty) (by rw [lkp_setl]; show (if yv = v then _ else lkp lc yv) = _; rw [if_neg hvy]; exact hy) ?_ hk hl3 hL hd3
      refine r_eqS ?_
      rw [decide_eq_false (by rw [mk_inj]; intro q; exact hne (by rw [List.getElem?_eq_getElem hend, q]))]
      refine r_truthb ?_
      exact hnext t' _ hend S
    · exact hO _ _ _ _ _ _ S (by omega) (by omega) fun e oE s' hE S' => hraise t' e oE s' (by omega) hE S'
end
end Mine
end
section
open PySem PySem.W PySem.Calls PyProof.Rows
set_option maxRecDepth 100000
set_option linter.unusedSimpArgs false
set_option linter.unusedVariables false
namespace Mine
section
variable {prog : Program} {w : World} {A : Around} {s₀ s s' : Shared} {g₀ g g' : Hp} {L L' LL C : Addr} {lc lc' : List (Str × Value)} {own own' : List (Addr × Obj)} {E : Value → Shared → Prop} {env envL : Env} {n : Nat} {oL oN : Obj}
theorem St.dropL (S : St w s₀ g₀ g L lc (own ++ own') s) : St w s₀ g₀ g L lc own s where
  ns := S.ns
  sub := S.sub
  ob := fun p hp => S.ob p (List.mem_append_left _ hp)
  nd := by
    have hn := S.nd
    rw [List.map_append] at hn
    have : (L :: own.map (·.1)).Sublist (L :: (own.map (·.1) ++ own'.map (·.1))) := (List.sublist_append_left _ _).cons_cons _
    exact this.nodup hn
  gL := fun b hb => S.gL b (by rw [List.map_append]; rcases List.mem_cons.mp hb with rfl | hb; exact .head _; exact .tail _ (List.mem_append_left _ hb))
  old := fun b hb => S.old b (by rw [List.map_append]; rcases List.mem_cons.mp hb with rfl | hb; exact .head _; exact .tail _ (List.mem_append_left _ hb))
  new := S.new
  le := S.le
  nx := S.nx
  ge0 := S.ge0
  tab := S.tab
  tab0 := S.tab0
/-- a def is entered, the caller's frame is an own object meanwhile -/
theorem r_enterX {a : Addr} {o : Obj} {name qual : Str} {params : Arguments} {scope : Scope} {dV kV doc pm cd ct : Value} {an : Option Addr} {body : List Stmt} {args : List Value} {binds : List (Str × Value)} {Q : Value → Shared → Prop}
    (hA : AOk A (n + 1)) (S : St w s₀ g₀ g C lc own s)
    (ho : s.heap.get? a = some o) (hd : o.data = .func ⟨name, qual, params, .stmts body, scope, mainGlobals, [], dV, kV, doc, pm, an, cd, ct, builtinsNs⟩) (hcd : s.heap.CodeRec cd qual)
    (hbind : bindArgs ⟨name, qual, params, .stmts body, scope, mainGlobals, [], dV, kV, doc, pm, an, cd, ct, builtinsNs⟩ ⟨args, []⟩ = pure binds)
    (hcell : (scope.names.all fun x => x.2 != .cell) = true) (hloc : (binds.all fun y => scope.names.lookup y.1 == some .local) = true)
    (h : ∀ L' oC s', DictObj oC → (∀ h : Heap, h.get? C = some oC → h.Ns C (lkp lc)) → St w s₀ g₀ g L' binds.reverse ((C, oC) :: own) s' → wpAny (model prog w) (A.deeper (envF scope L' [] qual a cd)) (execs body (envF scope L' [] qual a cd)) (fun fl s' => Q (retv fl) s') F0 s')
    (hco : scope.isCoroutine = false := by rfl) (hgen : scope.isGenerator = false := by rfl) (hk : scope.kind = .function := by rfl) :
    wpAny (model prog w) A (call (.ref a) args) Q E s := by
  exact wpAny_call (r_enterXc hA S ho hd hcd hbind hcell hloc h hco hgen hk)
/-- try with a clause, cut at the raise -/
theorem r_tryM {body : List Stmt} {h₀ : ExceptHandler} {hs : List ExceptHandler} {pos : Pos} {Q : Flow → Shared → Prop} (Mid : Value → Shared → Prop) (h1 : wpAny (model prog w) A (execs body env) Q Mid s)
    (h2 : ∀ e s₁, Mid e s₁ → wpAny (model prog w) A (noteFrame e env) (fun _ s₂ => wpAny (model prog w) A (setFlight e none) (fun _ s₃ => wpAny (model prog w) A (handleBy e env (h₀ :: hs)) Q E s₃) E s₂) E s₁) :
    wpAny (model prog w) A (exec (.Try body (h₀ :: hs) [] [] pos) env) Q E s :=
  r_tryX (wpAny_mono h1 (fun _ _ q => q) fun e s₁ q => h2 e s₁ q)
/-- two names at once -/
theorem r_assign2 {x y : Str} {p1 p2 pos : Pos} {i : Int} {k : Nat} {p : Pos} {Q : Flow → Shared → Prop} (S : St w s₀ g₀ g L lc own s) (h : ∀ t s', St w s₀ g₀ g L (setl y (.int i t) (setl x (.int i t) lc)) own s' → Q .next s')
    (hk : env.scope.kind = .function := by rfl) (hl1 : env.kindOf x = some .local := by rfl) (hl2 : env.kindOf y = some .local := by rfl) (hL : env.locals = L := by rfl) (hw : swappedStores [.Name x p1, .Name y p2] (.Constant (.int i) k p) env = pure none := by rfl) :
    wpAny (model prog w) A (exec (.Assign [.Name x p1, .Name y p2] (.Constant (.int i) k p) pos) env) Q E s := by
  refine wpAny_Assign_two ?_ rfl hw
  refine r_int S fun t s1 S1 => ?_
  refine r_asgnN (r_store S1 (fun s2 S2 => ?_) hk hl1 hL)
  exact r_asgnN (r_store S2 (fun s3 S3 => h t s3 S3) hk hl2 hL)
end
end Mine
end
section
open PySem PySem.W PySem.Calls PyProof.Rows
set_option maxRecDepth 100000
set_option linter.unusedSimpArgs false
set_option linter.unusedVariables false
namespace Mine
local macro_rules | `(tactic| walk_at "m4") => `(tactic| ((fail_if_success (with_reducible refine' r_whileX ?_ ?_ ?_ ?_)); (fail_if_success (with_reducible refine' r_tryX ?_)); (walk_at "m1")))
theorem deeperX {A : Around} {env envL : Env} {n : Nat} {P : Around → Prop} (hfr : A.frames = some [envL]) (hA : AOk A (n + 1)) (h : ∀ A', A'.frames = some [env, envL] → AOk A' n → P A') : P (A.deeper env) :=
  h _ (Around.frames_deeper hfr) hA.deeper
/-- a row that a wrong index leaves by an IndexError -/
theorem outAt_none {prog : Program} {w : World} {A : Around} {s₀ : Shared} {g₀ g : Hp} {L : Addr} {own : List (Addr × Obj)} {l : Addr} {vs : List Value} {k : Nat} (hh : A.handled = none) (hl : g l = some (lst vs k)) : OutAt prog w A s₀ g₀ g L own l vs .none :=
  fun lc s m u Q E S hm hm2 hE => r_itemOut hh S (S.at hl) hm hm2 hE
theorem outAt_H {prog : Program} {w : World} {A : Around} {s₀ : Shared} {g₀ g : Hp} {L H T : Addr} {oH : Obj} {own : List (Addr × Obj)} {l : Addr} {vs : List Value} {k : Nat} (hh : A.handled = some (.ref H)) (hH : ExcFly oH T .none) (hl : g l = some (lst vs k)) : OutAt prog w A s₀ g₀ g L ((H, oH) :: own) l vs (.ref H) :=
  fun lc s m u Q E S hm hm2 hE => r_itemOutH hh S hH (S.at hl) hm hm2 hE
theorem sd_len : ∀ (X Y : List (List Nat)), (sd X Y).1.length + (sd X Y).2.length ≤ 2 * X.length + 2 * Y.length
  | [], A => by rw [sd_nil]; simp [dbl_len]
  | e :: E, [] => by rw [sd_nil2]; simp [dbl_len]
  | e :: E, a :: A => by
    unfold sd
    split
    · have := sd_len E (a :: A); simp at this ⊢; omega
    · split
      · have := sd_len (e :: E) A; simp at this ⊢; omega
      · have := sd_len E A; simp at this ⊢; omega
termination_by X Y => X.length + Y.length
theorem sd_lt {X Y : List (List Nat)} {p q : Nat} (hp : p < X.length) (hq : q < Y.length) (h : X[p] < Y[q]) : sd (X.drop p) (Y.drop q) = (X[p] :: (sd (X.drop (p + 1)) (Y.drop q)).1, (sd (X.drop (p + 1)) (Y.drop q)).2) := by
  rw [List.drop_eq_getElem_cons hp, List.drop_eq_getElem_cons hq]
  conv => lhs; unfold sd
  rw [if_pos h]
theorem sd_gt {X Y : List (List Nat)} {p q : Nat} (hp : p < X.length) (hq : q < Y.length) (h0 : ¬ X[p] < Y[q]) (h : Y[q] < X[p]) : sd (X.drop p) (Y.drop q) = ((sd (X.drop p) (Y.drop (q + 1))).1, Y[q] :: (sd (X.drop p) (Y.drop (q + 1))).2) := by
  rw [List.drop_eq_getElem_cons hp, List.drop_eq_getElem_cons hq]
  conv => lhs; unfold sd
  rw [if_neg h0, if_pos h]
theorem sd_eq {X Y : List (List Nat)} {p q : Nat} (hp : p < X.length) (hq : q < Y.length) (h0 : ¬ X[p] < Y[q]) (h : ¬ Y[q] < X[p]) : sd (X.drop p) (Y.drop q) = sd (X.drop (p + 1)) (Y.drop (q + 1)) := by
  rw [List.drop_eq_getElem_cons hp, List.drop_eq_getElem_cons hq]
  conv => lhs; unfold sd
  rw [if_neg h0, if_neg h]
theorem are_drop {vs : List Value} {ys : List Str} (h : StrsAre vs ys) (i : Nat) : StrsAre (vs.drop i) (ys.drop i) := by
  induction h generalizing i with
  | nil => simp; exact .nil
  | cons y t r ih =>
    cases i with
    | zero => exact .cons y t r
    | succ i => exact ih i
theorem n_land {prog : Program} {w : World} {A : Around} {s₀ s : Shared} {g₀ g : Hp} {L LL e : Addr} {lc : List (Str × Value)} {own : List (Addr × Obj)} {E : Value → Shared → Prop} {env envL : Env} {oL : Obj} {R : Shared → Prop} (hfr : A.frames = some [env, envL]) (hf : env.frame = some L) (hfL : envL.frame = some LL) (hk : env.scope.kind = .function) (hkL : envL.scope.kind = .function) (hoL : DictObj oL)
    (hcase : (∃ oE, ExcNew oE .none ∧ St w s₀ g₀ g L lc ((e, oE) :: (LL, oL) :: own) s) ∨ (∃ oE T oT c, ExcFly oE T c ∧ TbAt oT (rawInt L) ∧ St w s₀ g₀ g L lc ((e, oE) :: (T, oT) :: (LL, oL) :: own) s))
    (h : ∀ oE T oT c v oL' s', SlotsOf oL oL' → ExcFly oE T c → TbAt oT v → St w s₀ g₀ g L lc ((e, oE) :: (T, oT) :: (LL, oL') :: own) s' → R s') :
    wpAny (model prog w) A (noteFrame (.ref e) env) (fun _ s₂ => wpAny (model prog w) A (setFlight (.ref e) none) (fun _ s₃ => R s₃) E s₂) E s := by
  rcases hcase with ⟨oE, hE, S⟩ | ⟨oE, T, oT, c, hE, hT, S⟩
  · refine n_note hfr hf hfL hk hkL S hE hoL fun T oE' oT oL' s' hE2 hT hs S => ?_
    exact n_setFlight S hE2 hT fun oT' s' hT' S => h _ _ _ _ _ _ _ hs hE2 hT' S
  · refine n_noted hf S hE hT ?_
    exact n_setFlight S hE hT fun oT' s' hT' S => h _ _ _ _ _ _ _ (.refl _) hE hT' S
section
variable {prog : Program} {w : World} {n : Nat} {A : Around} {s₀ s : Shared} {g₀ g : Hp} {LL C : Addr} {lc : List (Str × Value)} {own : List (Addr × Obj)} {E : Value → Shared → Prop} {envL : Env} {oL : Obj}
/-- between the turns of the loop -/
inductive SldW (w : World) (s₀ : Shared) (g₀ g : Hp) (C L' LL el al m u : Addr) (oL oC : Obj) (own : List (Addr × Obj)) (X Y : List (List Nat)) (k : Nat) (s : Shared) : Prop
  | mk (p q : Nat) (ms us : List (List Nat)) (mvs uvs : List Value) (km ku : Nat) (ti tj : Tok) (oL' : Obj) (lc' : List (Str × Value)) (_ : k = (X.length - p) + (Y.length - q)) (_ : p ≤ X.length) (_ : q ≤ Y.length)
      (_ : ms ++ (sd (X.drop p) (Y.drop q)).1 = (sd X Y).1) (_ : us ++ (sd (X.drop p) (Y.drop q)).2 = (sd X Y).2) (_ : StrsAre mvs (ms.map mk)) (_ : StrsAre uvs (us.map mk)) (_ : SlotsOf oL oL')
      (_ : Shp2 [("actual", .ref al), ("expected", .ref el), ("i", .int ((2 * p : Nat) : Int) ti), ("j", .int ((2 * q : Nat) : Int) tj), ("missing", .ref m), ("unexpected", .ref u)] "e" "a" lc')
      (_ : St w s₀ g₀ g L' lc' ((LL, oL') :: (u, lst uvs ku) :: (m, lst mvs km) :: (C, oC) :: own) s)
/-- the names that the handler reads -/
inductive SldN (el al m u : Addr) (p q : Nat) (lc' : List (Str × Value)) : Prop
  | mk (_ : lkp lc' "expected" = some (.ref el)) (_ : lkp lc' "actual" = some (.ref al)) (_ : lkp lc' "missing" = some (.ref m)) (_ : lkp lc' "unexpected" = some (.ref u))
      (ti tj : Tok) (_ : lkp lc' "i" = some (.int ((2 * p : Nat) : Int) ti)) (_ : lkp lc' "j" = some (.int ((2 * q : Nat) : Int) tj))
/-- when an IndexError flies -/
inductive SldE (w : World) (s₀ : Shared) (g₀ g : Hp) (C L' LL el al m u : Addr) (oL oC : Obj) (own : List (Addr × Obj)) (X Y : List (List Nat)) (v : Value) (s : Shared) : Prop
  | mk (e : Addr) (p q : Nat) (ms us : List (List Nat)) (mvs uvs : List Value) (km ku : Nat) (oL' : Obj) (lc' : List (Str × Value)) (_ : v = .ref e) (_ : p ≤ X.length) (_ : q ≤ Y.length)
      (_ : ms ++ dbl (X.drop p) = (sd X Y).1) (_ : us ++ dbl (Y.drop q) = (sd X Y).2) (_ : StrsAre mvs (ms.map mk)) (_ : StrsAre uvs (us.map mk)) (_ : SlotsOf oL oL') (_ : SldN el al m u p q lc')
      (_ : (∃ oE, ExcNew oE .none ∧ St w s₀ g₀ g L' lc' ((e, oE) :: (LL, oL') :: (u, lst uvs ku) :: (m, lst mvs km) :: (C, oC) :: own) s) ∨
        (∃ oE T oT c, ExcFly oE T c ∧ TbAt oT (rawInt L') ∧ St w s₀ g₀ g L' lc' ((e, oE) :: (T, oT) :: (LL, oL') :: (u, lst uvs ku) :: (m, lst mvs km) :: (C, oC) :: own) s))
set_option maxHeartbeats 8000000 in
theorem c_sld {el al : Addr} {evs avs : List Value} {k1 k2 : Nat} {X Y : List (List Nat)} {Q : Value → Shared → Prop} (hA : AOk A (n + 3)) (hfr : A.frames = some [envL]) (hfL : envL.frame = some LL) (hkL : envL.scope.kind = .function)
    (S : St w s₀ g₀ g C lc ((LL, oL) :: own) s) (hoL : DictObj oL) (hel : g el = some (lst evs k1)) (hal : g al = some (lst avs k2)) (hev : StrsAre evs ((dbl X).map mk)) (hav : StrsAre avs ((dbl Y).map mk)) (hX : X.Nodup) (hY : Y.Nodup) (hXl : X.length ≤ 1000) (hYl : Y.length ≤ 1000)
    (h : ∀ T m u mvs uvs km ku g' oL' s', Le g g' → SlotsOf oL oL' → g' T = some (tup [.ref m, .ref u]) → g' m = some (lst mvs km) → g' u = some (lst uvs ku) → StrsAre mvs ((sd X Y).1.map mk) → StrsAre uvs ((sd X Y).2.map mk) → St w s₀ g₀ g' C lc ((LL, oL') :: own) s' → Q (.ref T) s') :
    wpAny (model prog w) A (call (.ref 190) [.ref el, .ref al]) Q E s := by
  have hbig : sizeLine = 16777216 := rfl
  have hnext : ∀ (Z : List (List Nat)) (p : Nat) (y : List Nat), Z.Nodup → Z[p]? = some y → Z[p + 1]? ≠ some y := by
    intro Z p y hZ h1 h2
    obtain ⟨b1, e1⟩ := List.getElem?_eq_some_iff.mp h1
    obtain ⟨b2, e2⟩ := List.getElem?_eq_some_iff.mp h2
    exact List.pairwise_iff_getElem.mp hZ p (p + 1) b1 b2 (by omega) (e1.trans e2.symm)
  refine r_enterX (n := n + 2) (binds := [("expected", .ref el), ("actual", .ref al)]) hA S (S.ge.K 190 _ rfl) rfl (codeRec_of S.ge.K rfl) rfl rfl rfl fun L' oC s hoC hNC S => ?_
  refine deeperX (n := n + 2) (P := fun A' => wpAny (model prog w) A' _ _ _ _) hfr hA fun A' hfrA hA' => ?_
  clear hA hfr
  have S := S.relc (lc' := [("actual", .ref al), ("expected", .ref el)]) rfl
  refine r_cons (r_assign2 S fun t0 s S => ?_)
  dsimp only
  repeat walk_at "m1"
  refine r_newL S (Nat.le_of_ble_eq_true rfl) fun m s S => ?_
  repeat walk_at "m1"
  refine r_newL S (Nat.le_of_ble_eq_true rfl) fun u s S => ?_
  repeat walk_at "m1"
  have S := S.relc (lc' := [("actual", .ref al), ("expected", .ref el), ("i", .int ((2 * 0 : Nat) : Int) t0), ("j", .int ((2 * 0 : Nat) : Int) t0), ("missing", .ref m), ("unexpected", .ref u)]) rfl
  have S := S.rot4
  refine r_while (SldW w s₀ g₀ g C L' LL el al m u oL oC own X Y) ?_ _
    ⟨0, 0, [], [], [], [], 0, 0, t0, t0, oL, _, rfl, Nat.zero_le _, Nat.zero_le _, rfl, rfl, .nil, .nil, .refl _, .inl rfl, S⟩
  rintro k s ⟨p, q, ms, us, mvs, uvs, km, ku, ti, tj, oL', lc', hk, hp, hq, hms, hus, hmv, huv, hsl, hlc, S⟩
  repeat walk_at "m4"
  refine r_tryM (SldE w s₀ g₀ g C L' LL el al m u oL oC own X Y) ?_ ?_
  · have hlk : lkp lc' "expected" = some (.ref el) ∧ lkp lc' "actual" = some (.ref al) ∧ lkp lc' "missing" = some (.ref m) ∧ lkp lc' "unexpected" = some (.ref u) ∧ lkp lc' "i" = some (.int ((2 * p : Nat) : Int) ti) ∧ lkp lc' "j" = some (.int ((2 * q : Nat) : Int) tj) := by
      rcases hlc with rfl | ⟨x, y, rfl⟩ <;> exact ⟨rfl, rfl, rfl, rfl, rfl, rfl⟩
    obtain ⟨lk1, lk2, lk3, lk4, lk5, lk6⟩ := hlk
    have hXd := dbl_len X
    have hYd := dbl_len Y
    have hevl := hev.length
    have havl := hav.length
    rw [List.length_map] at hevl havl
    repeat walk_at "m1"
    refine r_loc S lk1 ?_
    repeat walk_at "m1"
    refine r_loc S lk5 ?_
    by_cases hpX : p < X.length
    · have hi : evs[2 * p]? = some evs[2 * p] := List.getElem?_eq_getElem (by omega)
      obtain ⟨z, tz, hz, ez⟩ := getElem_are hev hi
      rw [List.getElem?_map, dbl_even, List.getElem?_eq_getElem hpX] at hz
      cases hz
      refine r_itemL (k := 2 * p) (S.at hel) hi (by omega) ?_
      rw [ez]
      repeat walk_at "m1"
      have hsx : ∀ (x : Str) (v : Value), x ≠ "e" → lkp lc' x = some v → lkp (setl "e" (.str (mk X[p]) tz) lc') x = some v := fun x v hx hv => by rw [lkp_setl]; show (if x = Str.ofString "e" then _ else lkp lc' x) = _; rw [if_neg hx]; exact hv
      refine r_loc S (hsx "actual" _ (by decide) lk2) ?_
      repeat walk_at "m1"
      refine r_loc S (hsx "j" _ (by decide) lk6) ?_
      by_cases hqY : q < Y.length
      · have hj : avs[2 * q]? = some avs[2 * q] := List.getElem?_eq_getElem (by omega)
        obtain ⟨z2, tz2, hz2, ez2⟩ := getElem_are hav hj
        rw [List.getElem?_map, dbl_even, List.getElem?_eq_getElem hqY] at hz2
        cases hz2
        refine r_itemL (k := 2 * q) (S.at hal) hj (by omega) ?_
        rw [ez2]
        repeat walk_at "m1"
        have hl2 : setl "a" (.str (mk Y[q]) tz2) (setl "e" (.str (mk X[p]) tz) lc') = ([("actual", .ref al), ("expected", .ref el), ("i", .int ((2 * p : Nat) : Int) ti), ("j", .int ((2 * q : Nat) : Int) tj), ("missing", .ref m), ("unexpected", .ref u), ("e", .str (mk X[p]) tz), ("a", .str (mk Y[q]) tz2)] : List (Str × Value)) := by
          rcases hlc with rfl | ⟨x, y, rfl⟩ <;> rfl
        have S := S.relc hl2
        have hXp : X[p]? = some X[p] := List.getElem?_eq_getElem hpX
        have hYq : Y[q]? = some Y[q] := List.getElem?_eq_getElem hqY
        have hmvl := hmv.length
        have huvl := huv.length
        rw [List.length_map] at hmvl huvl
        have hmsl : ms.length + (sd (X.drop p) (Y.drop q)).1.length ≤ 4000 ∧ us.length + (sd (X.drop p) (Y.drop q)).2.length ≤ 4000 := by
          have h1 := congrArg List.length hms
          have h2 := congrArg List.length hus
          rw [List.length_append] at h1 h2
          have h3 := sd_len X Y
          omega
        repeat walk_at "m4"
        refine r_ltS ?_
        repeat walk_at "m4"
        by_cases hlt : X[p] < Y[q]
        · rw [decide_eq_true hlt]
          repeat walk_at "m4"
          refine gm_list' (S.ob (m, lst mvs km) (.tail _ (.tail _ (.head _)))) PySem.F.slot_list_append PySem.F.type_list_append ?_
          repeat walk_at "m4"
          refine r_append S.rot3 (by rw [hbig]; omega) fun s S => ?_
          repeat walk_at "m4"
          refine r_inc S rfl fun t1 s S => ?_
          repeat walk_at "m4"
          have S := (S.relc (lc' := [("actual", .ref al), ("expected", .ref el), ("i", .int ((2 * p + 1 : Nat) : Int) t1), ("j", .int ((2 * q : Nat) : Int) tj), ("missing", .ref m), ("unexpected", .ref u), ("e", .str (mk X[p]) tz), ("a", .str (mk Y[q]) tz2)]) rfl).rot3'
          have hs := sd_lt hpX hqY hlt
          refine r_skip (xs := "expected") (v := "i") (yv := "e") (X := X) (p := p) (outAt_none hA'.1 hel) S rfl rfl rfl (by decide) (by decide) hel hev hXp (hnext X p _ hX hXp) hXl (fun t' s' hlt' S => ?_) (fun t' e oE s' hend hE S => ?_) rfl rfl rfl rfl rfl rfl rfl rfl
          · repeat walk_at "m4"
            exact ⟨(X.length - (p + 1)) + (Y.length - q), by omega, p + 1, q, ms ++ [X[p]], us, mvs ++ [Value.str (mk X[p]) tz], uvs, km + 1, ku, t', tj, oL', _, rfl, by omega, hq, by rw [← hms, hs]; simp, by rw [← hus, hs], (by rw [List.map_append]; exact hmv.append' (.cons _ _ .nil)), huv, hsl, .inr ⟨.str (mk X[p]) tz, .str (mk Y[q]) tz2, rfl⟩, S⟩
          · show wpAny _ _ (noteFrame (.ref e) _) _ _ _
            refine n_note hfrA rfl hfL rfl hkL S hE (hsl.dict hoL) fun T oE' oT oL2 s hE2 hT hs2 S => ?_
            refine n_back rfl S hE2 hT fun oT' s hT S => ?_
            have hdr : X.drop (p + 1) = [] := List.drop_eq_nil_of_le (by omega)
            exact ⟨e, p + 1, q, ms ++ [X[p]], us, mvs ++ [Value.str (mk X[p]) tz], uvs, km + 1, ku, oL2, _, rfl, by omega, hq, by rw [← hms, hs, sd_end (.inl hdr)]; simp, by rw [← hus, hs, sd_end (.inl hdr)], (by rw [List.map_append]; exact hmv.append' (.cons _ _ .nil)), huv, hsl.trans hs2, ⟨rfl, rfl, rfl, rfl, t', tj, rfl, rfl⟩, .inr ⟨oE', T, oT', .none, hE2, hT, S⟩⟩
        · rw [decide_eq_false hlt]
          repeat walk_at "m4"
          refine r_gtS ?_
          repeat walk_at "m4"
          by_cases hgt : Y[q] < X[p]
          · rw [decide_eq_true hgt]
            repeat walk_at "m4"
            refine gm_list' (S.ob (u, lst uvs ku) (.tail _ (.head _))) PySem.F.slot_list_append PySem.F.type_list_append ?_
            repeat walk_at "m4"
            refine r_append S.swap (by rw [hbig]; omega) fun s S => ?_
            repeat walk_at "m4"
            refine r_inc S rfl fun t1 s S => ?_
            repeat walk_at "m4"
            have S := (S.relc (lc' := [("actual", .ref al), ("expected", .ref el), ("i", .int ((2 * p : Nat) : Int) ti), ("j", .int ((2 * q + 1 : Nat) : Int) t1), ("missing", .ref m), ("unexpected", .ref u), ("e", .str (mk X[p]) tz), ("a", .str (mk Y[q]) tz2)]) rfl).swap
            have hs := sd_gt hpX hqY hlt hgt
            refine r_skip (xs := "actual") (v := "j") (yv := "a") (X := Y) (p := q) (outAt_none hA'.1 hal) S rfl rfl rfl (by decide) (by decide) hal hav hYq (hnext Y q _ hY hYq) hYl (fun t' s' hlt' S => ?_) (fun t' e oE s' hend hE S => ?_) rfl rfl rfl rfl rfl rfl rfl rfl
            · repeat walk_at "m4"
              exact ⟨(X.length - p) + (Y.length - (q + 1)), by omega, p, q + 1, ms, us ++ [Y[q]], mvs, uvs ++ [Value.str (mk Y[q]) tz2], km, ku + 1, ti, t', oL', _, rfl, hp, by omega, by rw [← hms, hs], by rw [← hus, hs]; simp, hmv, (by rw [List.map_append]; exact huv.append' (.cons _ _ .nil)), hsl, .inr ⟨.str (mk X[p]) tz, .str (mk Y[q]) tz2, rfl⟩, S⟩
            · show wpAny _ _ (noteFrame (.ref e) _) _ _ _
              refine n_note hfrA rfl hfL rfl hkL S hE (hsl.dict hoL) fun T oE' oT oL2 s hE2 hT hs2 S => ?_
              refine n_back rfl S hE2 hT fun oT' s hT S => ?_
              have hdr : Y.drop (q + 1) = [] := List.drop_eq_nil_of_le (by omega)
              exact ⟨e, p, q + 1, ms, us ++ [Y[q]], mvs, uvs ++ [Value.str (mk Y[q]) tz2], km, ku + 1, oL2, _, rfl, hp, by omega, by rw [← hms, hs, sd_end (.inr hdr)], by rw [← hus, hs, sd_end (.inr hdr)]; simp, hmv, (by rw [List.map_append]; exact huv.append' (.cons _ _ .nil)), hsl.trans hs2, ⟨rfl, rfl, rfl, rfl, ti, t', rfl, rfl⟩, .inr ⟨oE', T, oT', .none, hE2, hT, S⟩⟩
          · rw [decide_eq_false hgt]
            repeat walk_at "m4"
            refine r_inc S rfl fun t1 s S => ?_
            have heq : X[p] = Y[q] := by
              rcases Classical.em (X[p] = Y[q]) with h | h
              · exact h
              · rcases nat_tri _ _ h with h | h
                · exact absurd h hlt
                · exact absurd h hgt
            have S := S.relc (lc' := [("actual", .ref al), ("expected", .ref el), ("i", .int ((2 * p + 1 : Nat) : Int) t1), ("j", .int ((2 * q : Nat) : Int) tj), ("missing", .ref m), ("unexpected", .ref u), ("e", .str (mk X[p]) tz), ("a", .str (mk Y[q]) tz2)]) rfl
            have hs := sd_eq hpX hqY hlt hgt
            refine r_back hQg ?_
            dsimp only
            refine r_cons ?_
            refine wpAny_Try_finally ?_
            refine r_cons ?_
            refine r_skip (xs := "expected") (v := "i") (yv := "e") (X := X) (p := p) (outAt_none hA'.1 hel) S rfl rfl rfl (by decide) (by decide) hel hev hXp (hnext X p _ hX hXp) hXl (fun t' s' hlt' S => ?_) (fun t' e oE s' hend hE S => ?_) rfl rfl rfl rfl rfl rfl rfl rfl
            · dsimp only
              refine r_nil ?_
              dsimp only
              refine r_nil ?_
              refine r_cons ?_
              refine r_inc S rfl fun t2 s S => ?_
              have S := S.relc (lc' := [("actual", .ref al), ("expected", .ref el), ("i", .int ((2 * (p + 1) : Nat) : Int) t'), ("j", .int ((2 * q + 1 : Nat) : Int) t2), ("missing", .ref m), ("unexpected", .ref u), ("e", .str (mk X[p]) tz), ("a", .str (mk Y[q]) tz2)]) rfl
              dsimp only
              refine r_cons ?_
              refine r_skip (xs := "actual") (v := "j") (yv := "a") (X := Y) (p := q) (outAt_none hA'.1 hal) S rfl rfl rfl (by decide) (by decide) hal hav hYq (hnext Y q _ hY hYq) hYl (fun t3 s' hlt3 S => ?_) (fun t3 e oE s' hend hE S => ?_) rfl rfl rfl rfl rfl rfl rfl rfl
              · repeat walk_at "m4"
                exact ⟨(X.length - (p + 1)) + (Y.length - (q + 1)), by omega, p + 1, q + 1, ms, us, mvs, uvs, km, ku, t', t3, oL', _, rfl, by omega, by omega, by rw [← hms, hs], by rw [← hus, hs], hmv, huv, hsl, .inr ⟨.str (mk X[p]) tz, .str (mk Y[q]) tz2, rfl⟩, S⟩
              · show wpAny _ _ (noteFrame (.ref e) _) _ _ _
                refine n_note hfrA rfl hfL rfl hkL S hE (hsl.dict hoL) fun T oE' oT oL2 s hE2 hT hs2 S => ?_
                refine n_back rfl S hE2 hT fun oT' s hT S => ?_
                show wpAny _ _ (noteFrame (.ref e) _) _ _ _
                refine n_noted rfl S hE2 hT ?_
                refine n_back rfl S hE2 hT fun oT' s hT S => ?_
                have hdr : Y.drop (q + 1) = [] := List.drop_eq_nil_of_le (by omega)
                exact ⟨e, p + 1, q + 1, ms, us, mvs, uvs, km, ku, oL2, _, rfl, by omega, by omega, by rw [← hms, hs, sd_end (.inr hdr)], by rw [← hus, hs, sd_end (.inr hdr)], hmv, huv, hsl.trans hs2, ⟨rfl, rfl, rfl, rfl, t', t3, rfl, rfl⟩, .inr ⟨oE', T, oT', .none, hE2, hT, S⟩⟩
            · show wpAny _ _ (noteFrame (.ref e) _) _ _ _
              have hdrX : X.drop (p + 1) = [] := List.drop_eq_nil_of_le (by omega)
              refine n_note hfrA rfl hfL rfl hkL S hE (hsl.dict hoL) fun T oE' oT oL2 s hE2 hT hs2 S => ?_
              refine n_back rfl S hE2 hT fun oT' s hT S => ?_
              refine n_noted rfl S hE2 hT ?_
              refine ⟨ref_ne_byPass _, n_noted rfl S hE2 hT (n_setFlight S hE2 hT fun oT' s hT S => ?_)⟩
              have hmk : (A'.mark (some (.ref e))).handled = some (.ref e) := rfl
              refine r_cons ?_
              refine r_inc S rfl fun t2 s S => ?_
              have S := S.relc (lc' := [("actual", .ref al), ("expected", .ref el), ("i", .int ((2 * (p + 1) : Nat) : Int) t'), ("j", .int ((2 * q + 1 : Nat) : Int) t2), ("missing", .ref m), ("unexpected", .ref u), ("e", .str (mk X[p]) tz), ("a", .str (mk Y[q]) tz2)]) rfl
              dsimp only
              refine r_cons ?_
              refine r_skip (xs := "actual") (v := "j") (yv := "a") (X := Y) (p := q) (outAt_H hmk hE2 hal) S rfl rfl rfl (by decide) (by decide) hal hav hYq (hnext Y q _ hY hYq) hYl (fun t3 s' hlt3 S => ?_) (fun t3 e2 oEB s' hend2 hEB S => ?_) rfl rfl rfl rfl rfl rfl rfl rfl
              · dsimp only
                refine r_nil ?_
                dsimp only
                refine n_pass rfl S hE2 hT fun oT' s hT S => ?_
                exact ⟨e, p + 1, q + 1, ms, us, mvs, uvs, km, ku, oL2, _, rfl, by omega, by omega, by rw [← hms, hs, sd_end (.inl hdrX)], by rw [← hus, hs, sd_end (.inl hdrX)], hmv, huv, hsl.trans hs2, ⟨rfl, rfl, rfl, rfl, t', t3, rfl, rfl⟩, .inr ⟨oE', T, oT', .none, hE2, hT, S⟩⟩
              · show wpAny _ _ (noteFrame (.ref e2) _) _ _ _
                refine n_note (A := A'.mark (some (.ref e))) hfrA rfl hfL rfl hkL S.rot4.swap hEB ((hsl.trans hs2).dict hoL) fun T2 oE2 oT2 oL3 s hE3 hT3 hs3 S => ?_
                refine n_back rfl S hE3 hT3 fun oT3 s hT3 S => ?_
                show wpAny _ _ (noteFrame (.ref e2) _) _ _ _
                refine n_noted rfl S hE3 hT3 ?_
                refine n_back rfl S hE3 hT3 fun oT3 s hT3 S => ?_
                have S := S.rot5.rot5.drop.drop
                exact ⟨e2, p + 1, q + 1, ms, us, mvs, uvs, km, ku, oL3, _, rfl, by omega, by omega, by rw [← hms, hs, sd_end (.inl hdrX)], by rw [← hus, hs, sd_end (.inl hdrX)], hmv, huv, (hsl.trans hs2).trans hs3, ⟨rfl, rfl, rfl, rfl, t', t3, rfl, rfl⟩, .inr ⟨oE2, T2, oT3, _, hE3, hT3, S⟩⟩
      · refine r_itemOut hA'.1 S (S.at hal) (by omega) (by omega) fun e oE s hE S => ?_
        refine ⟨e, p, q, ms, us, mvs, uvs, km, ku, oL', _, rfl, hp, hq, ?_, ?_, hmv, huv, hsl, ⟨hsx _ _ (by decide) lk1, hsx _ _ (by decide) lk2, hsx _ _ (by decide) lk3, hsx _ _ (by decide) lk4, ti, tj, hsx _ _ (by decide) lk5, hsx _ _ (by decide) lk6⟩, .inl ⟨oE, hE, S⟩⟩
        · rw [← hms, sd_end (.inr (List.drop_eq_nil_of_le (by omega)))]
        · rw [← hus, sd_end (.inr (List.drop_eq_nil_of_le (by omega)))]
    · refine r_itemOut hA'.1 S (S.at hel) (by omega) (by omega) fun e oE s hE S => ?_
      refine ⟨e, p, q, ms, us, mvs, uvs, km, ku, oL', _, rfl, hp, hq, ?_, ?_, hmv, huv, hsl, ⟨lk1, lk2, lk3, lk4, ti, tj, lk5, lk6⟩, .inl ⟨oE, hE, S⟩⟩
      · rw [← hms, sd_end (.inl (List.drop_eq_nil_of_le (by omega)))]
      · rw [← hus, sd_end (.inl (List.drop_eq_nil_of_le (by omega)))]
  · rintro v s ⟨e, p, q, ms, us, mvs, uvs, km, ku, oL', lc', rfl, hp, hq, hms, hus, hmv, huv, hsl, ⟨lk1, lk2, lk3, lk4, ti, tj, lk5, lk6⟩, hcase⟩
    have hsdl := sd_len X Y
    have hmvl := hmv.length
    have huvl := huv.length
    rw [List.length_map] at hmvl huvl
    have hm1 := congrArg List.length hms
    have hu1 := congrArg List.length hus
    rw [List.length_append, dbl_len] at hm1 hu1
    have hevl := hev.length
    have havl := hav.length
    rw [List.length_map, dbl_len] at hevl havl
    refine n_land hfrA rfl hfL rfl hkL (hsl.dict hoL) hcase fun oE T oT c v oL2 s hs2 hE hT S => ?_
    have hsl := hsl.trans hs2
    clear hs2 hcase
    refine r_clause S hE hT (fun Q' E' hq => boot_name S.ge rfl bt_IndexError (by decide) hq rfl rfl rfl rfl (by decide)) fun oT' s S => ?_
    have S := S.drop.drop
    repeat walk_at "m4"
    refine r_loc S lk3 ?_
    refine gm_list' (S.ob (m, lst mvs km) (.tail _ (.tail _ (.head _)))) PySem.F.slot_list_extend PySem.F.type_list_extend ?_
    repeat walk_at "m4"
    refine r_loc S lk1 ?_
    repeat walk_at "m4"
    refine r_loc S lk5 ?_
    repeat walk_at "m4"
    refine r_slcL' (us := evs.drop (2 * p)) S (S.at hel) (by rw [hbig]; omega) (.int _ _) .none (by rw [slicePick_from']) fun z1 s hz1 S => ?_
    repeat walk_at "m4"
    refine r_extend S.rot3 (S.at ins_self) (by rw [hbig, List.length_drop]; omega) fun s k9 S => ?_
    have S := S.rot3'
    repeat walk_at "m4"
    refine r_loc S lk4 ?_
    refine gm_list' (S.ob (u, lst uvs ku) (.tail _ (.head _))) PySem.F.slot_list_extend PySem.F.type_list_extend ?_
    repeat walk_at "m4"
    refine r_loc S lk2 ?_
    repeat walk_at "m4"
    refine r_loc S lk6 ?_
    repeat walk_at "m4"
    refine r_slcL' (us := avs.drop (2 * q)) S (S.at (Le.ins hz1 _ _ hal)) (by rw [hbig]; omega) (.int _ _) .none (by rw [slicePick_from']) fun z2 s hz2 S => ?_
    repeat walk_at "m4"
    refine r_extend S.swap (S.at ins_self) (by rw [hbig, List.length_drop]; omega) fun s k10 S => ?_
    have S := S.swap
    repeat walk_at "m4"
    refine r_loc S lk3 ?_
    repeat walk_at "m4"
    refine r_loc S lk4 ?_
    repeat walk_at "m4"
    obtain ⟨n1, S⟩ := St.lay1 S.rot3
    obtain ⟨n2, S⟩ := St.lay1 S.swap
    obtain ⟨oN, _, _, S⟩ := St.switch S.swap hNC
    have S := S.drop
    have lm := St.leI (w := w) S n2
    refine h aN m u _ _ _ _ _ oL2 _ ?_ hsl (lm _ _ (Le.ins n1 _ _ ins_self)) (lm _ _ ins_self) ins_self ?_ ?_ S
    · exact (((Le.ins hz1).trans (Le.ins hz2)).trans (Le.ins hN)).trans ((Le.ins n1).trans lm)
    · rw [← hms, List.map_append]
      refine hmv.append' ?_
      have := are_drop hev (2 * p)
      rw [← List.map_drop, dbl_drop] at this
      exact this
    · rw [← hus, List.map_append]
      refine huv.append' ?_
      have := are_drop hav (2 * q)
      rw [← List.map_drop, dbl_drop] at this
      exact this
end
end Mine
end
section
open PySem PySem.W PySem.Calls PyProof.Rows
set_option maxRecDepth 100000
set_option linter.unusedSimpArgs false
set_option linter.unusedVariables false
namespace Mine
section
variable {prog : Program} {w : World} {A : Around} {s₀ s s' : Shared} {g₀ g g' : Hp} {L : Addr} {lc lc' : List (Str × Value)} {own own' : List (Addr × Obj)} {E : Value → Shared → Prop} {env : Env} {n : Nat}
theorem dict_ns (a : Addr) : ∀ h : Heap, h.get? a = some { cls := .type "dict", data := .dict #[] } → h.Ns a (lkp []) := fun h e => ⟨_, #[], _, e, rfl, fun _ hx => by simp at hx, fun _ => rfl⟩
/-- between its turns -/
inductive CompR (w : World) (s₀ : Shared) (g₀ g : Hp) (C It D L : Addr) (oL : Obj) (m : Nat) (J : Nat → List Value → Hp → Prop) (LC : List (Str × Value) → Prop) (CS : Addr → List (Addr × Obj) → Prop) (k : Nat) (s' : Shared) : Prop
  | mk (i : Nat) (ys : List Value) (g' : Hp) (lc' : List (Str × Value)) (cs : List (Addr × Obj)) (oL' : Obj) (k' : Nat) (_ : k = m - i) (_ : i ≤ m) (_ : ys.length ≤ i) (_ : Le g g') (_ : J i ys g') (_ : LC lc') (_ : CS C cs) (_ : SlotsOf oL oL')
      (_ : St w s₀ g₀ g' C lc' ((L, oL') :: (It, { cls := .type "range_iterator", dict := none, data := .fields #[rawInt i, rawInt ((m : Int) - i), rawInt 1], slots := #[] }) :: (D, lst ys k') :: cs) s')
/-- a comprehension over range(m) whose turns may change the slots of the frame -/
theorem r_compRX {elt target iter : Expr} {ifs : List Expr} {scope : Scope} {pos : Pos} {cl : List (Str × Addr)} {Q : Value → Shared → Prop} {r : Addr} {m : Nat} {t u v : Tok}
    (J : Nat → List Value → Hp → Prop) (hJm : ∀ {i ys g g'}, J i ys g → Le g g' → J i ys g') (LC : List (Str × Value) → Prop) (CS : Addr → List (Addr × Obj) → Prop)
    (hA : AOk A n) (S : St w s₀ g₀ g L lc [] s) (hl : g r = some (rangeO 0 m 1 t u v)) (hsz : m ≤ sizeLine) (h0 : J 0 [] g) (hlc : LC []) (hcs : ∀ C, CS C (cellOwn (C + 1) scope.names []))
    (turn : ∀ (i : Nat) tk ys g' C D k lc' cs It oI oL s', i < m → Le g g' → J i ys g' → LC lc' → CS C cs → ys.length ≤ i → DictObj oL → St w s₀ g₀ g' C lc' ((L, oL) :: (It, oI) :: (D, lst ys k) :: cs) s' →
      CTurn prog w A (compE scope cl C env) target elt ifs (.int i tk)
        (fun y s₄ => ∃ g'' lc'' cs' oL', Le g' g'' ∧ J (i + 1) (ys ++ [y]) g'' ∧ LC lc'' ∧ CS C cs' ∧ SlotsOf oL oL' ∧ St w s₀ g₀ g'' C lc'' ((L, oL') :: (It, oI) :: (D, lst ys k) :: cs') s₄)
        (fun s₄ => ∃ g'' lc'' cs' oL', Le g' g'' ∧ J (i + 1) ys g'' ∧ LC lc'' ∧ CS C cs' ∧ SlotsOf oL oL' ∧ St w s₀ g₀ g'' C lc'' ((L, oL') :: (It, oI) :: (D, lst ys k) :: cs') s₄) s')
    (done : ∀ g' D ys k s', Le g g' → g' D = some (lst ys k) → J m ys g' → St w s₀ g₀ g' L lc [] s' → Q (.ref D) s') :
    wpAny (model prog w) A (pyIter (.ref r)) (CompK prog w A env elt target iter ifs scope pos cl none Q E) E s := by
  have hm : (m : Int) < 2 ^ 62 := by have : sizeLine = 16777216 := rfl; omega
  have hrs : Builtin.Range.rangeSize 0 m 1 = m := by rw [rangeSize_one]; split <;> omega
  have fl : ∀ x : Int, 0 ≤ x → x < 2 ^ 62 → Builtin.Range.rangeFitsLong x = true := fun x h1 h2 => by
    unfold Builtin.Range.rangeFitsLong; simp; omega
  have hsmall : Builtin.Range.small 0 m 1 = true := by
    unfold Builtin.Range.small
    rw [hrs, fl 0 (by omega) (by omega), fl m (by omega) hm, fl 1 (by omega) (by omega)]
    simp only [Bool.and_self, Bool.true_and]
    rw [if_pos (by decide), show (m : Int) + (1 - 1) = m by omega, fl m (by omega) hm, Bool.or_true]
  refine wpAny_pyIter_range (t := t) (u := u) (v := v) (S.sub _ _ hl) hsmall ?_
  rw [hrs]
  have S1 := S.alloc (o := { cls := .type "range_iterator", data := .fields #[rawInt 0, rawInt m, rawInt 1] }) (t := s.toks) rfl
  generalize hIt : s.heap.objs.size = It at S1 ⊢
  generalize hs1 : ({ s with heap := s.heap.push { cls := .type "range_iterator", data := .fields #[rawInt 0, rawInt m, rawInt 1] } } : Shared) = s1
  have S1 : St w s₀ g₀ g L lc [(It, { cls := .type "range_iterator", data := .fields #[rawInt 0, rawInt m, rawInt 1] })] s1 := by rw [← hs1]; exact S1
  unfold CompK
  refine wpAny_newObj_type (hd := by size_fits) ?_
  have S2 := S1.alloc (o := lst [] 0) (t := s1.toks) rfl
  simp only [newFunctionEnv, Option.isSome_some, if_true]
  refine wpAny_bind (wpAny_alloc ?_)
  dsimp only
  generalize hD : s1.heap.objs.size = D at S2 ⊢
  generalize hH : s1.heap.push { cls := .type "list", dict := none, data := .seq ([] : List Value).toArray } = H
  have S2 : St w s₀ g₀ g L lc [(D, lst [] 0), (It, { cls := .type "range_iterator", data := .fields #[rawInt 0, rawInt m, rawInt 1] })] { s1 with heap := H } := by rw [← hH]; exact S2
  have S3 := S2.alloc (o := { cls := .type "dict", data := .dict #[] }) (t := s1.toks) rfl
  rw [show ({ s1 with heap := H } : Shared).heap.objs.size = H.objs.size from rfl] at S3 ⊢
  generalize hC : H.objs.size = C at S3 ⊢
  obtain ⟨oL, hoL, hNL, S4⟩ := St.switch (lc' := []) S3 (dict_ns C)
  have S5 := S4.cells scope.names
  rw [show ({ s1 with heap := H.push { cls := .type "dict", data := .dict #[] }, toks := s1.toks } : Shared).heap.objs.size = C + 1 from by show (H.push _).objs.size = _; rw [Heap.size_push, hC]] at S5
  refine wpAny_bind (wpAny_layCells _ (fun name kind cells => by cases hkc : kind == NameKind.cell <;> simp [hkc]) _ _ _ _ ?_)
  rw [show ({ s1 with heap := H.push { cls := .type "dict", data := .dict #[] } } : Shared).heap.objs.size = C + 1 from by show (H.push _).objs.size = _; rw [Heap.size_push, hC]]
  rw [List.forIn_nil]
  refine wpAny_bind (wpAny_pure (wpAny_pure ?_))
  dsimp only
  have S6 : St w s₀ g₀ g C [] ((L, oL) :: (It, { cls := .type "range_iterator", dict := none, data := .fields #[rawInt ((0 : Nat) : Int), rawInt ((m : Int) - (0 : Nat)), rawInt 1], slots := #[] }) :: (D, lst [] 0) :: cellOwn (C + 1) scope.names []) _ :=
    (S5.perm (cellOwn_perm scope.names (C + 1) _).symm).perm (by
      show List.Perm _ ([(L, oL), (D, lst [] 0), (It, _)] ++ cellOwn (C + 1) scope.names [])
      have hi : ((m : Int) - ((0 : Nat) : Int)) = m := by omega
      rw [hi]
      exact ((List.Perm.swap _ _ []).cons (L, oL)).append_right _)
  generalize ({ s1 with heap := pushCells (H.push { cls := .type "dict", data := .dict #[] }) scope.names } : Shared) = s6 at S6 ⊢
  have loop : codeAny (model prog w) A (.compLoop (.ListComp elt [⟨target, iter, ifs, 0⟩] scope pos) 0 (.ref It) (.ref D) (compE scope cl C env)) (compPost (model prog w) A E none Q (.ref D) C) s6 := by
    refine compLoop_any (CompR w s₀ g₀ g C It D L oL m J LC CS) ?_ m
      ⟨0, [], g, [], _, oL, 0, rfl, Nat.zero_le _, Nat.le_refl _, Le.refl g, h0, hlc, hcs _, .refl _, S6⟩
    rintro k s' ⟨i, ys, g', lc', cs, oL', k', rfl, hi, hyl, lg, hJ, hLC, hCS, hsl, S'⟩
    by_cases hlt' : i < m
    · have S'' := S'.swap
      refine no_err (wpAny_pyNext_range_item (S''.ob _ (.head _)) (by omega) fun h' hit' hs' => ?_)
      have S7 := (S''.upd (s' := { s' with heap := h', toks := s'.toks + 1 }) hs' hit' rfl rfl).swap
      rw [show ((i : Nat) : Int) + 1 = ((i + 1 : Nat) : Int) by omega, show (m : Int) - i - 1 = (m : Int) - ((i + 1 : Nat) : Int) by omega] at S7
      dsimp only
      refine letgo (S7.ob (It, _) (.tail _ (.head _))) rfl (by decide) ?_
      refine wpAny_mono (turn i _ ys g' _ D k' lc' cs It _ oL' _ hlt' lg hJ hLC hCS hyl (hsl.dict hoL) S7) (fun _ s₂ h₂ => ?_) fun _ _ z => z
      refine wpAny_mono h₂ (fun ok s₃ h₃ => ?_) fun _ _ z => z
      cases ok with
      | true =>
        refine wpAny_mono h₃ (fun y s₄ h₄ => ?_) fun _ _ z => z
        obtain ⟨g'', lc'', cs', oL2, lg', hJ', hLC', hCS', hsl', S8⟩ := h₄
        have S9 := S8.rot3
        refine append_at (hsz := by show ys.toArray.size ≤ sizeLine; rw [List.size_toArray]; omega) (S9.ob (D, lst ys k') (.head _)) fun h₅ hs₅ hD₅ => ?_
        have S10 : St w s₀ g₀ g'' C lc'' ((D, lst (ys ++ [y]) (k' + 1)) :: (L, oL2) :: (It, _) :: cs') { s₄ with heap := h₅ } := S9.upd hs₅ (by rw [hD₅]; simp) rfl rfl
        exact ⟨m - (i + 1), by omega, i + 1, ys ++ [y], g'', lc'', cs', oL2, k' + 1, rfl, hlt', by rw [List.length_append, List.length_singleton]; omega, lg.trans lg', hJ', hLC', hCS', hsl.trans hsl', S10.rot3'⟩
      | false =>
        obtain ⟨g'', lc'', cs', oL2, lg', hJ', hLC', hCS', hsl', S8⟩ := h₃
        exact ⟨m - (i + 1), by omega, i + 1, ys, g'', lc'', cs', oL2, k', rfl, hlt', by omega, lg.trans lg', hJ', hLC', hCS', hsl.trans hsl', S8⟩
    · obtain rfl : i = m := Nat.le_antisymm hi (Nat.not_lt.mp hlt')
      have S'' := S'.swap
      refine no_err (wpAny_pyNext_range_end hA.1 (S''.ob _ (.head _)) (by omega) fun h' hx' => ?_)
      have S7 := S''.lose (s' := { s' with heap := h' }) hx' rfl rfl
      dsimp only
      have hNL' : ∀ h : Heap, h.get? L = some oL' → h.Ns L (lkp lc) := fun h e => by
        obtain ⟨sl, rfl⟩ := hsl
        obtain ⟨es, ep, hdat⟩ := hoL
        obtain ⟨hp⟩ : Nonempty Heap := ⟨s6.heap⟩
        obtain ⟨o, es2, ep2, e2, d2, k2, f2⟩ := hNL _ (S6.ob (L, oL) (.head _))
        rw [S6.ob (L, oL) (.head _)] at e2; cases e2
        exact ⟨_, es2, ep2, e, d2, k2, f2⟩
      obtain ⟨oC, hoC, hNC, S8⟩ := St.switch S7 hNL'
      obtain ⟨nD, S9⟩ := St.lay1 S8.swap
      obtain ⟨mC, hmC⟩ := (⟨lkp lc', hNC _ (S9.ob (C, oC) (.head _))⟩ : ∃ m, Heap.Ns _ C m)
      refine ⟨mC, hmC, fun h'' hs'' => ?_⟩
      have S10 := (S9.lose (s' := { s' with heap := h'' }) (fun b o hb q => (hs''.2 b hb).trans q) rfl rfl)
      have S11 := St.dropL (own := []) (own' := cs) S10
      exact done _ D ys k' _ (lg.trans (Le.ins nD)) ins_self (hJm hJ (Le.ins nD)) S11
  refine codeAny_compStart_list loop ?_
  exact no_err (wpAny_pyIter_rangeiter (S6.swap.ob _ (.head _)) loop)
end
end Mine
end
section
open PySem PySem.W PySem.Calls PyProof.Rows
set_option maxRecDepth 100000
set_option linter.unusedSimpArgs false
set_option linter.unusedVariables false
namespace Mine
section
variable {prog : Program} {w : World} {A : Around} {s₀ s s' : Shared} {g₀ g g' : Hp} {L : Addr} {lc lc' : List (Str × Value)} {own own' : List (Addr × Obj)} {E : Value → Shared → Prop} {env : Env} {n : Nat}
/-- a def with cells is entered, the surroundings known -/
theorem r_enterCK {a : Addr} {o : Obj} {name qual : Str} {params : Arguments} {scope : Scope} {dV kV doc pm cd ct : Value} {an : Option Addr} {body : List Stmt} {args : List Value} {binds : List (Str × Value)} {Q : Value → Shared → Prop}
    (hA : AOk A (n + 1)) (G : GE w s.heap) (sb : Sub g s.heap) (T : Tab g s.heap)
    (ho : s.heap.get? a = some o) (hd : o.data = .func ⟨name, qual, params, .stmts body, scope, mainGlobals, [], dV, kV, doc, pm, an, cd, ct, builtinsNs⟩) (hcd : s.heap.CodeRec cd qual)
    (hbind : bindArgs ⟨name, qual, params, .stmts body, scope, mainGlobals, [], dV, kV, doc, pm, an, cd, ct, builtinsNs⟩ ⟨args, []⟩ = pure binds)
    (h : ∀ L s', St w s g g L [] (cellOwn (L + 1) scope.names []) s' →
      SeqS prog w A.in1 (envF scope L (cellsFrom (L + 1) scope.names []) qual a cd) binds (fun s'' => wpAny (model prog w) (A.deeper (envF scope L (cellsFrom (L + 1) scope.names []) qual a cd)) (execs body (envF scope L (cellsFrom (L + 1) scope.names []) qual a cd)) (fun fl s' => Q (retv fl) s') F0 s'' ∧ Nx s s'') s')
    (hco : scope.isCoroutine = false := by rfl) (hgen : scope.isGenerator = false := by rfl) (hk : scope.kind = .function := by rfl) :
    wpAny (model prog w) A (call (.ref a) args) Q E s := by
  refine wpAny_call (codeAny_call_function hA.room ho hd hco hgen rfl hcd ((BindsTo.of_eq hbind) _ _ _ _ ?_))
  have hnone : s.heap.get? s.heap.objs.size = none := none_size s
  have gnone : g s.heap.objs.size = none := by
    cases e : g s.heap.objs.size with
    | none => rfl
    | some o' => exact absurd (Heap.lt_size (sb _ _ e)) (Nat.lt_irrefl _)
  simp only [newFunctionEnv, Option.isSome_none, Bool.false_eq_true, if_false]
  refine wpAny_bind (wpAny_alloc ?_)
  have S0 : St w s g g s.heap.objs.size [] [] { s with heap := s.heap.push { cls := .type "frame", data := .dict #[] } } := by
    refine ⟨Heap.Ns.new s.heap (.type "frame"), fun b o e => Heap.get?_push_of_some _ (sb b o e), fun _ hp => (nomatch hp), by simp, fun b hb => ?_, fun b hb => ?_, fun _ _ e => .inl e, Le.refl g, ⟨fun b o _ e => Heap.get?_push_of_some _ e, rfl, rfl⟩, G, T.same fun o e => Heap.get?_push_of_some _ e, ?_⟩
    · rw [List.mem_singleton.mp hb]; exact gnone
    · rw [List.mem_singleton.mp hb]; exact hnone
    · obtain ⟨_, ps, e, _⟩ := T; exact ⟨_, e⟩
  have S1 := S0.cells scope.names
  refine wpAny_bind (wpAny_layCells _ (fun name kind cells => by cases hkc : kind == NameKind.cell <;> simp [hkc]) _ _ _ _ ?_)
  rw [show ({ s with heap := s.heap.push { cls := .type "frame", data := .dict #[] } } : Shared).heap.objs.size = s.heap.objs.size + 1 from Heap.size_push ..] at S1 ⊢
  refine wpAny_bind (seqS_forIn (env := envF scope s.heap.objs.size (cellsFrom (s.heap.objs.size + 1) scope.names []) qual a cd) _ (fun _ _ _ => rfl) binds _ _ _ ?_)
  have H := h s.heap.objs.size _ S1
  have conv : ∀ (binds : List (Str × Value)) (Q Q' : Shared → Prop) (s' : Shared), (∀ s'', Q s'' → Q' s'') → SeqS prog w A.in1 (envF scope s.heap.objs.size (cellsFrom (s.heap.objs.size + 1) scope.names []) qual a cd) binds Q s' →
      SeqS prog w A.in1 (envF scope s.heap.objs.size (cellsFrom (s.heap.objs.size + 1) scope.names []) qual a cd) binds Q' s' := by
    intro binds
    induction binds with
    | nil => intro Q Q' s' k h; exact k _ h
    | cons p r ih => intro Q Q' s' k h; exact wpAny_mono h (fun _ s'' h' => ih Q Q' s'' k h') fun _ _ z => z
  refine conv binds _ _ _ (fun s'' hq => wpAny_pure ⟨(G.kp hq.2.kp).lim, codeAny_func ?_⟩) H
  exact wpAny_mono hq.1 (fun fl s' q => q) fun _ _ f => f.elim
/-- rows of texts, of truths, of rows of truths -/
theorem splitL_slash (y : List Nat) : splitL (47 :: y) = [] :: splitL y := by simp [splitL]
theorem foldN_slash (y : List Nat) : foldN (splitL (47 :: y)) = foldN (splitL y) := by
  rw [splitL_slash]; rfl
theorem r_neStrs {a b : Addr} {vs us : List Value} {k m : Nat} {P R : List (List Nat)} {Q : Value → Shared → Prop} (hA : AOk A n) (ha : s.heap.get? a = some (lst vs k)) (hb : s.heap.get? b = some (lst us m)) (hv : StrsAre vs (P.map mk)) (hu : StrsAre us (R.map mk))
    (h1 : ∀ p ∈ P, OkL p) (h2 : ∀ p ∈ R, OkL p) (h : Q (.bool (!decide (P = R))) s) : wpAny (model prog w) A (compareOp .NotEq (.ref a) (.ref b)) Q E s := by
  refine ne_dataH (.list ha rfl rfl (by simpa using StrsAre.reads s.heap hv)) (.list hb rfl rfl (by simpa using StrsAre.reads s.heap hu)) (shaped_strs h1) (shaped_strs h2) hA.room64 ?_
  rw [show PyData.eqv (.list ((P.map mk).map .str)) (.list ((R.map mk).map .str)) = decide (P = R) by
    show PyData.eqvAll _ _ = _
    rw [eqv_strs]
    exact decide_eq_decide.mpr map_mk_inj]
  exact h
/-- a row of rows of truths -/
inductive BoolRows (g : Hp) : List Value → List (List Bool) → Prop
  | nil : BoolRows g [] []
  | cons {a k bs vs r} : g a = some (lst (bs.map Value.bool) k) → BoolRows g vs r → BoolRows g (.ref a :: vs) (bs :: r)
theorem BoolRows.mono {vs : List Value} {r : List (List Bool)} (h : BoolRows g vs r) (l : Le g g') : BoolRows g' vs r := by
  induction h with
  | nil => exact .nil
  | cons e _ ih => exact .cons (l _ _ e) ih
theorem BoolRows.append {vs us : List Value} {r q : List (List Bool)} (h : BoolRows g vs r) (k : BoolRows g us q) : BoolRows g (vs ++ us) (r ++ q) := by
  induction h with
  | nil => exact k
  | cons e _ ih => exact .cons e ih
theorem BoolRows.length {vs : List Value} {r : List (List Bool)} (h : BoolRows g vs r) : vs.length = r.length := by
  induction h with
  | nil => rfl
  | cons _ _ ih => simp [ih]
theorem BoolRows.at {vs : List Value} {r : List (List Bool)} (h : BoolRows g vs r) {i : Nat} {v : Value} (hv : vs[i]? = some v) : ∃ a k bs, v = .ref a ∧ r[i]? = some bs ∧ g a = some (lst (bs.map Value.bool) k) := by
  induction h generalizing i with
  | nil => simp at hv
  | cons e _ ih =>
    cases i with
    | zero => simp at hv; subst hv; exact ⟨_, _, _, rfl, by simp, e⟩
    | succ i => simp at hv; obtain ⟨a, k, bs, h1, h2, h3⟩ := ih hv; exact ⟨a, k, bs, h1, by simpa using h2, h3⟩
noncomputable def boolD (r : List (List Bool)) : List PyData := r.map fun bs => .list (bs.map .bool)
theorem reads_bools (h : Heap) : ∀ bs : List Bool, ReadsAll h (bs.map Value.bool) (bs.map PyData.bool) []
  | [] => .nil
  | b :: r => .cons (as := []) (.bool b) (reads_bools h r)
theorem BoolRows.reads {h : Heap} {vs : List Value} {r : List (List Bool)} (B : BoolRows g vs r) (sb : Sub g h) : ∃ as, ReadsAll h vs (boolD r) as := by
  induction B with
  | nil => exact ⟨_, .nil⟩
  | cons e _ ih =>
    obtain ⟨as, ih⟩ := ih
    exact ⟨_, .cons (.list (sb _ _ e) rfl rfl (by simpa using reads_bools h _)) ih⟩
theorem bools_can : ∀ bs : List Bool, PyData.canLayAll0 (bs.map PyData.bool) = true
  | [] => rfl
  | b :: r => by show (true && PyData.canLayAll0 (r.map PyData.bool)) = true; rw [bools_can r]; rfl
theorem bools_depth : ∀ bs : List Bool, PyData.depthAll (bs.map PyData.bool) = 0
  | [] => rfl
  | b :: r => by show max 0 (PyData.depthAll (r.map PyData.bool)) = 0; rw [bools_depth r]; rfl
theorem boolD_can : ∀ r, PyData.canLayAll0 (boolD r) = true
  | [] => rfl
  | bs :: r => by show (PyData.canLayAll0 (bs.map PyData.bool) && PyData.canLayAll0 (boolD r)) = true; rw [bools_can, boolD_can r]; rfl
theorem boolD_depth : ∀ r, PyData.depthAll (boolD r) ≤ 1
  | [] => by decide
  | bs :: r => by
    show max (PyData.depthAll (bs.map PyData.bool) + 1) (PyData.depthAll (boolD r)) ≤ 1
    rw [bools_depth]
    exact Nat.max_le.mpr ⟨by decide, boolD_depth r⟩
theorem shaped_list {ds : List PyData} {k : Nat} (h1 : PyData.canLayAll0 ds = true) (h2 : PyData.depthAll ds ≤ k) (hk : k ≤ 60) : PySem.SeqAt.shaped (.list ds) = true := by
  unfold PySem.SeqAt.shaped
  rw [Bool.and_eq_true]
  refine ⟨h1, ?_⟩
  rw [decide_eq_true_eq]
  show PyData.depthAll ds + 1 ≤ 64
  omega
/-- two equal rows of rows of truths are not unequal -/
theorem r_neBools {a b : Addr} {vs us : List Value} {k m : Nat} {r : List (List Bool)} {Q : Value → Shared → Prop} (hA : AOk A n) (S : St w s₀ g₀ g L lc own s) (ha : g a = some (lst vs k)) (hb : g b = some (lst us m)) (hv : BoolRows g vs r) (hu : BoolRows g us r)
    (h : Q (.bool false) s) : wpAny (model prog w) A (compareOp .NotEq (.ref a) (.ref b)) Q E s := by
  obtain ⟨as, R1⟩ := hv.reads S.sub
  obtain ⟨bs, R2⟩ := hu.reads S.sub
  have hsh : PySem.SeqAt.shaped (.list (boolD r)) = true := shaped_list (boolD_can r) (boolD_depth r) (by decide)
  refine ne_dataH (.list (S.at ha) rfl rfl (by simpa using R1)) (.list (S.at hb) rfl rfl (by simpa using R2)) hsh hsh hA.room64 ?_
  rw [PySem.SeqAt.eqv_refl _ (by exact boolD_can r)]
  exact h
end
end Mine
end
section
open PySem PySem.W PySem.Calls PyProof.Rows
set_option maxRecDepth 100000
set_option linter.unusedSimpArgs false
set_option linter.unusedVariables false
namespace Mine
theorem deeper0 {A : Around} {env : Env} {n : Nat} {P : Around → Prop} (hfr : A.frames = some []) (hA : AOk A (n + 1)) (h : ∀ A', A'.frames = some [env] → AOk A' n → P A') : P (A.deeper env) :=
  h _ (Around.frames_deeper hfr) hA.deeper
theorem ints_take {vs : List Value} {ns : List Int} (h : IntsAre vs ns) (i : Nat) : IntsAre (vs.take i) (ns.take i) := by
  induction h generalizing i with
  | nil => simp; exact .nil
  | cons y t r ih =>
    cases i with
    | zero => exact .nil
    | succ i => exact .cons y t (ih i)
noncomputable def straightL (y : List Nat) : List Nat := joinL (foldN (splitL y))
theorem straight_ok {y : List Nat} (h : OkL y) : OkL (47 :: straightL y) := by
  intro c hc
  rcases List.mem_cons.mp hc with rfl | hc
  · decide
  · exact joinL_ok _ h.parts c hc
/-- law's statements and its names, read off its object -/
noncomputable def lawT : { p : List Stmt × Scope // ∀ w : World, ∃ oc od osl name qual params dV kV doc pm an cd ct, (KK w).lookup 226 = some ⟨oc, od, .func ⟨name, qual, params, .stmts p.1, p.2, mainGlobals, [], dV, kV, doc, pm, an, cd, ct, builtinsNs⟩, osl⟩ } :=
  ⟨(_, _), fun w => ⟨_, _, _, _, _, _, _, _, _, _, _, _, _, rfl⟩⟩
noncomputable abbrev lawE (L : Addr) : Env := envF lawT.1.2 L (cellsFrom (L + 1) lawT.1.2.names []) "law" 226 (.ref 225)
/-- what stands when the first three statements are done -/
structure Law1 (w : World) (s₀ : Shared) (g₀ g : Hp) (L : Addr) (s : Shared) (rs l1 l2 D : Addr) (v1 v2 svs : List Value) (k1 k2 kd : Nat) (R1 R2 : List (List Nat × Bool)) (W : List (List Nat)) : Prop where
  S : ∃ nl wl, St w s₀ g₀ g L [("script", .ref nl), ("drawn", .ref rs), ("crooked", .ref wl)] [(L + 3, cellO none), (L + 2, cellO none)] s
  cell : g (L + 1) = some (cellO (some (.ref D)))
  st : g D = some (lst svs kd)
  sv : StrsAre svs ((slashed (W.map straightL)).map mk)
  rs : g rs = some (lst [.ref l1, .ref l2] 0)
  l1 : g l1 = some (lst v1 k1)
  l2 : g l2 = some (lst v2 k2)
  p1 : PairsAt g v1 R1
  p2 : PairsAt g v2 R2
  r1 : RulesOk R1 8
  r2 : RulesOk R2 8
  wo : WaysOk W 9
end Mine
end
section
open PySem PySem.W PySem.Calls PyProof.Rows
set_option maxRecDepth 100000
set_option linter.unusedSimpArgs false
set_option linter.unusedVariables false
namespace Mine
section
variable {prog : Program} {w : World} {n : Nat} {A : Around} {s : Shared} {g : Hp}
set_option maxHeartbeats 8000000 in
theorem law1 {Q : Value → Shared → Prop} {nl : Addr} {nvs : List Value} {k : Nat} {ns : List Int} (hA : AOk A (n + 30)) (hfr : A.frames = some []) (G : GE w s.heap) (sb : Sub g s.heap) (T : Tab g s.heap) (hnl : g nl = some (lst nvs k)) (hI : IntsAre nvs ns) (hn : ns.length ≤ 63)
    (K : ∀ A' L s' g' rs l1 l2 D v1 v2 svs k1 k2 kd R1 R2 W, A'.frames = some [lawE L] → AOk A' (n + 29) → Law1 w s g g' L s' rs l1 l2 D v1 v2 svs k1 k2 kd R1 R2 W →
      wpAny (model prog w) A' (execs (lawT.1.1.drop 3) (lawE L)) (fun fl s' => Q (retv fl) s') F0 s') :
    wpAny (model prog w) A (call (.ref 226) [.ref nl]) Q F0 s := by
  have hbig : sizeLine = 16777216 := rfl
  refine r_enterCK (n := n + 29) hA G sb T (G.K 226 _ rfl) rfl (codeRec_of G.K rfl) (binds := [("script", .ref nl)]) rfl fun L s1 S => ?_
  have S := S.reown (own' := [(L + 3, cellO none), (L + 2, cellO none), (L + 1, cellO none)]) rfl
  refine r_seq (r_store S (fun s S => r_seq0 ⟨?_, S.nx⟩))
  refine deeper0 (n := n + 29) (P := fun A' => wpAny (model prog w) A' _ _ _ _) hfr hA fun A' hfrA hA' => ?_
  repeat walk_at "m1"
  have hnvl := hI.length
  refine r_slcL' (us := nvs.take 5) S (S.at hnl) (by rw [hbig]; omega) .none (.int _ _) (by rw [show (5 : Int) = ((5 : Nat) : Int) from rfl, slicePick_upto']) fun z1 s hz1 S => ?_
  repeat walk_at "m1"
  refine ⟨S.ge, r_use S (c_law_drawn (n := n) z1 (nvs.take 5) 0 (ns.take 5) (by simp; omega)) (hA'.less (by omega)) ⟨ins_self, ints_take hI 5⟩ fun v g1 s le1 hv S => ?_⟩
  obtain ⟨Td, rs, l1, l2, wl, v1, v2, wvs, k1, k2, kw, R1, R2, W, rfl, hTd, hrs, hl1, hl2, hwl, hP1, hP2, hW, hR1, hR2, hWo⟩ := hv
  repeat walk_at "m1"
  refine r_asgnT S hA' (S.at hTd) rfl rfl fun s S => ?_
  repeat walk_at "m1"
  have hwvl := hW.length
  rw [List.length_map, slashed, List.length_map] at hwvl
  have hW9 := hWo.1
  refine r_compL (fun i ys g => StrsAre ys ((slashed ((W.take i).map straightL)).map mk)) (fun h l => h) (LcOr [] "each") (fun _ cs => cs = []) hA' S hwl (by rw [hbig]; omega) .nil (.inl rfl) (fun _ => rfl) ?_ ?_
  · rintro i v ys g' C D k' lc' cs It oI s' hv lg hJ hlc rfl hyl S
    refine CTurn.gen fun Yq hYq => ?_
    obtain ⟨z, ty, hz, rfl⟩ := getElem_are hW hv
    rw [List.getElem?_map] at hz
    obtain ⟨z', hz', rfl⟩ := Option.map_eq_some_iff.mp hz
    unfold slashed at hz'
    rw [List.getElem?_map] at hz'
    obtain ⟨y, hy, rfl⟩ := Option.map_eq_some_iff.mp hz'
    obtain ⟨hy1, hy2, hy3⟩ := hWo.2 y (List.mem_of_getElem? hy)
    refine r_asgnN ?_
    repeat walk_at "m1"
    have hl2 : setl "each" (.str (mk (47 :: y)) ty) lc' = ([("each", .str (mk (47 :: y)) ty)] : List (Str × Value)) := by rcases hlc with rfl | ⟨u, rfl⟩ <;> rfl
    have S := S.relc hl2
    repeat walk_at "m1"
    refine ⟨S.ge, r_use S (c_normpath (n := n) y ty hy1 (by omega)) (hA'.less (by omega)) trivial fun v g3 s le3 hv S => ?_⟩
    obtain ⟨tv, rfl⟩ := hv
    repeat walk_at "m1"
    try refine r_backV hYq ?_
    refine ⟨_, _, [], le3, ?_, .inr ⟨_, rfl⟩, rfl, S⟩
    rw [List.take_add_one, hy, List.map_append, slashed, List.map_append, List.map_append]
    exact hJ.append' (.cons _ _ .nil)
  refine compFin_none (fun g2 D2 svs k5 s le2 hD2 hgD2 hsv S => ?_)
  rw [hwvl, List.take_length] at hsv
  refine r_storeC S.rot3 fun s S => ?_
  obtain ⟨nc1, S⟩ := St.lay1 S
  have lec1 := St.leI (w := w) S nc1
  have hcell1 := S.top
  generalize hG3 : ins g2 (L + 1) _ = g3 at S lec1 hcell1
  clear hG3
  have le13 := le2.trans lec1
  have hD3 := lec1 _ _ hD2
  have hwl3 := le13 _ _ hwl
  repeat walk_at "m1"
  refine r_cell (S.at hcell1) ?_
  repeat walk_at "m1"
  refine r_compL (fun i ys g => StrsAre ys ((slashed ((W.take i).map straightL)).map mk)) (fun h l => h) (LcOr [] "each") (fun _ cs => cs = []) hA' S hwl3 (by rw [hbig]; omega) .nil (.inl rfl) (fun _ => rfl) ?_ ?_
  · rintro i v ys g' C D k' lc' cs It oI s' hv lg hJ hlc rfl hyl S
    refine CTurn.gen fun Yq hYq => ?_
    obtain ⟨z, ty, hz, rfl⟩ := getElem_are hW hv
    rw [List.getElem?_map] at hz
    obtain ⟨z', hz', rfl⟩ := Option.map_eq_some_iff.mp hz
    unfold slashed at hz'
    rw [List.getElem?_map] at hz'
    obtain ⟨y, hy, rfl⟩ := Option.map_eq_some_iff.mp hz'
    obtain ⟨hy1, hy2, hy3⟩ := hWo.2 y (List.mem_of_getElem? hy)
    refine r_asgnN ?_
    repeat walk_at "m1"
    have hl2 : setl "each" (.str (mk (47 :: y)) ty) lc' = ([("each", .str (mk (47 :: y)) ty)] : List (Str × Value)) := by rcases hlc with rfl | ⟨u, rfl⟩ <;> rfl
    have S := S.relc hl2
    repeat walk_at "m1"
    refine ⟨S.ge, r_use S (c_law_parts (n := n) (47 :: y) ty (by simp; omega)) (hA'.less (by omega)) trivial fun v g3 s le3 hv S => ?_⟩
    obtain ⟨pa, pvs, pk, rfl, hpa, hpv⟩ := hv
    rw [foldN_slash] at hpv
    repeat walk_at "m1"
    have hfw := foldN_wt y
    refine r_join S (S.at hpa) hpv (by rw [lit_slash, mk_len]; have := wt_fits (foldN (splitL y)); simp only [List.length_cons, List.length_nil] at this ⊢; omega) fun tj s S => ?_
    rw [lit_slash, txtjoin]
    have hjl := joinL_len (foldN (splitL y))
    refine r_addS S (by rw [mk_len, mk_len, hbig]; simp only [List.length_cons, List.length_nil]; omega) fun tq s S => ?_
    rw [mk_app]
    repeat walk_at "m1"
    try refine r_backV hYq ?_
    refine ⟨_, _, [], le3, ?_, .inr ⟨_, rfl⟩, rfl, S⟩
    rw [List.take_add_one, hy, List.map_append, slashed, List.map_append, List.map_append]
    exact hJ.append' (.cons _ _ .nil)
  refine compFin_none (fun g4 D4 svs4 k6 s le4 hD4 hgD4 hsv4 S => ?_)
  rw [hwvl, List.take_length] at hsv4
  repeat walk_at "m1"
  have hsok : ∀ p ∈ slashed (W.map straightL), OkL p := by
    intro p hp
    unfold slashed at hp
    obtain ⟨z, hz, rfl⟩ := List.mem_map.mp hp
    obtain ⟨y, hy, rfl⟩ := List.mem_map.mp hz
    exact straight_ok (hWo.2 y hy).2.2
  refine r_neStrs hA' (S.at (le4 _ _ hD3)) (S.at hD4) hsv hsv4 hsok hsok ?_
  rw [decide_eq_true rfl]
  repeat walk_at "m1"
  simp only [Bool.not_true]
  refine r_nil ?_
  have hrs3 := le13 _ _ hrs
  refine r_back hQg ?_
  repeat subst hQo
  exact K A' L s g4 rs l1 l2 D2 v1 v2 svs k1 k2 k5 R1 R2 W hfrA hA' ⟨⟨nl, wl, S.relc rfl⟩, le4 _ _ hcell1, le4 _ _ hD3, hsv, le4 _ _ hrs3, le4 _ _ (le13 _ _ hl1), le4 _ _ (le13 _ _ hl2), hP1.mono (le13.trans le4), hP2.mono (le13.trans le4), hR1, hR2, hWo⟩
end
end Mine
end
section
open PySem PySem.W PySem.Calls PyProof.Rows
set_option maxRecDepth 100000
set_option linter.unusedSimpArgs false
set_option linter.unusedVariables false
namespace Mine
section
variable {prog : Program} {w : World} {A : Around} {s₀ s s' : Shared} {g₀ g g' : Hp} {L : Addr} {lc lc' : List (Str × Value)} {own own' : List (Addr × Obj)} {E : Value → Shared → Prop} {env : Env} {n : Nat}
/-- two names at once from a display of two -/
theorem r_assignSw {x y : Str} {elts : List Expr} {k : Nat} {tpos pos : Pos} {value : Expr} {Q : Flow → Shared → Prop}
    (h : wpAny (model prog w) A (eval value env) (fun v s₁ => wpAny (model prog w) A (unpackItems v 2 none) (fun items s₂ => wpAny (model prog w) A (assignInOrder [bindName env y, bindName env x] items.reverse) (fun _ => Q .next) E s₂) E s₁) E s)
    (hs : swapsWithSole [.Tuple elts k tpos] value pos.line env = pure false := by rfl) (hw : swappedStores [.Tuple elts k tpos] value env = pure (some [x, y]) := by rfl) :
    wpAny (model prog w) A (exec (.Assign [.Tuple elts k tpos] value pos) env) Q E s := by
  refine Assign_Tuple_swapped (names := [x, y]) ?_ hs hw
  exact h
theorem r_unpack2 {a : Addr} {v1 v2 : Value} {m : Nat} {Q : List Value → Shared → Prop} (S : St w s₀ g₀ g L lc own s) (hA : AOk A n) (ht : s.heap.get? a = some { cls := .type "tuple", data := .seq [v1, v2].toArray m })
    (h : ∀ s', St w s₀ g₀ g L lc own s' → Q [v1, v2] s') : wpAny (model prog w) A (unpackItems (.ref a) 2 none) Q E s := by
  have := unpackItems_tuple (prog := prog) (w := w) (A := A) (E := E) (s := s) (t := a) (items := [v1, v2].toArray) (Q := Q) hA.1 ⟨_, ht, rfl, m, rfl⟩ (fun h' hx => h _ (S.grow (fun b o e => hx b o (Nat.ne_of_lt (Heap.lt_size e)) e) rfl rfl))
  exact this
/-- a record: an Entry with its rules -/
noncomputable def RecAt (prog : Program) (w : World) (g : Hp) (v : Value) (R : List (List Nat × Bool)) : Prop := ∃ e uv rl rvs k, v = .ref e ∧ EntryAt w g e uv (.ref rl) ∧ g rl = some (lst rvs k) ∧ RulesAt prog w g rvs R
theorem RecAt.mono {v : Value} {R : List (List Nat × Bool)} (h : RecAt prog w g v R) (l : Le g g') : RecAt prog w g' v R := by
  obtain ⟨e, uv, rl, rvs, k, rfl, h1, h2, h3⟩ := h
  exact ⟨e, uv, rl, rvs, k, rfl, h1.mono l, l _ _ h2, h3.mono l⟩
/-- a row of pairs -/
noncomputable def PairRow (g : Hp) (v : Value) (R : List (List Nat × Bool)) : Prop := ∃ a vs k, v = .ref a ∧ g a = some (lst vs k) ∧ PairsAt g vs R
theorem PairRow.mono {v : Value} {R : List (List Nat × Bool)} (h : PairRow g v R) (l : Le g g') : PairRow g' v R := by
  obtain ⟨a, vs, k, rfl, h1, h2⟩ := h
  exact ⟨a, vs, k, rfl, l _ _ h1, h2.mono l⟩
theorem slashed_at {svs : List Value} {W : List (List Nat)} (h : StrsAre svs ((slashed W).map mk)) {i : Nat} {v : Value} (hv : svs[i]? = some v) : ∃ y t, W[i]? = some y ∧ v = .str (mk (47 :: y)) t := by
  obtain ⟨z, ty, hz, rfl⟩ := getElem_are h hv
  rw [List.getElem?_map] at hz
  obtain ⟨z', hz', rfl⟩ := Option.map_eq_some_iff.mp hz
  unfold slashed at hz'
  rw [List.getElem?_map] at hz'
  obtain ⟨y, hy, rfl⟩ := Option.map_eq_some_iff.mp hz'
  exact ⟨y, ty, hy, rfl⟩
theorem slashed_len {svs : List Value} {W : List (List Nat)} (h : StrsAre svs ((slashed W).map mk)) : svs.length = W.length := by
  have := h.length; rw [List.length_map, slashed, List.length_map] at this; exact this
end
/-- what one record tells of the straight ways -/
noncomputable def toldRow (f : List Nat → List (List Nat × Bool) → Bool) (W : List (List Nat)) (R : List (List Nat × Bool)) : List Bool := W.map fun y => f y R
/-- what stands when one, two and both are made -/
structure Law2 (prog : Program) (w : World) (s₀ : Shared) (g₀ g : Hp) (L : Addr) (s : Shared) (rs l1 l2 D e1 e2 e3 : Addr) (v1 v2 svs : List Value) (k1 k2 kd : Nat) (R1 R2 : List (List Nat × Bool)) (W : List (List Nat)) : Prop where
  S : ∃ nl wl, St w s₀ g₀ g L [("script", .ref nl), ("drawn", .ref rs), ("crooked", .ref wl), ("two", .ref e2), ("one", .ref e1), ("both", .ref e3)] [(L + 3, cellO none), (L + 2, cellO none)] s
  cell : g (L + 1) = some (cellO (some (.ref D)))
  st : g D = some (lst svs kd)
  sv : StrsAre svs ((slashed (W.map straightL)).map mk)
  rs : g rs = some (lst [.ref l1, .ref l2] 0)
  l1 : g l1 = some (lst v1 k1)
  l2 : g l2 = some (lst v2 k2)
  p1 : PairsAt g v1 R1
  p2 : PairsAt g v2 R2
  r1 : RulesOk R1 8
  r2 : RulesOk R2 8
  wo : WaysOk W 9
  c1 : RecAt prog w g (.ref e1) R1
  c2 : RecAt prog w g (.ref e2) R2
  c3 : RecAt prog w g (.ref e3) (R1 ++ R2)
  ua : ∃ u r ku ty, EntryAt w g e3 (.ref u) (.ref r) ∧ g u = some (lst [.str "y" ty] ku)
section
variable {prog : Program} {w : World} {n : Nat} {A : Around} {s₀ s : Shared} {g₀ g : Hp} {L : Addr}
set_option maxHeartbeats 8000000 in
theorem law2 {Q : Value → Shared → Prop} {rs l1 l2 D : Addr} {v1 v2 svs : List Value} {k1 k2 kd : Nat} {R1 R2 : List (List Nat × Bool)} {W : List (List Nat)} (hA : AOk A (n + 29)) (X : Law1 w s₀ g₀ g L s rs l1 l2 D v1 v2 svs k1 k2 kd R1 R2 W)
    (K : ∀ s' g' e1 e2 e3, Law2 prog w s₀ g₀ g' L s' rs l1 l2 D e1 e2 e3 v1 v2 svs k1 k2 kd R1 R2 W → wpAny (model prog w) A (execs (lawT.1.1.drop 5) (lawE L)) (fun fl s' => Q (retv fl) s') F0 s') :
    wpAny (model prog w) A (execs (lawT.1.1.drop 3) (lawE L)) (fun fl s' => Q (retv fl) s') F0 s := by
  have hbig : sizeLine = 16777216 := rfl
  obtain ⟨⟨nl, wl, S⟩, hcell, hst, hsv, hrs, hl1, hl2, hp1, hp2, hr1, hr2, hwo⟩ := X
  have hsvl := slashed_len hsv
  rw [List.length_map] at hsvl
  have hW9 := hwo.1
  have hp1l := hp1.length
  have hp2l := hp2.length
  have hr1l := hr1.1
  have hr2l := hr2.1
  simp only [lawE, lawT, List.drop]
  refine r_cons (r_assignSw ?_)
  repeat walk_at "m1"
  refine r_itemL (k := 0) (S.at hrs) rfl (by decide) ?_
  repeat walk_at "m1"
  refine r_newB S (Nat.le_of_ble_eq_true rfl) fun al1 s ha1 S => ?_
  have i1 := St.leI (w := w) S ha1
  repeat walk_at "m1"
  refine ⟨S.ge, r_use S (c_law_entry (n := n) l1 al1 v1 _ k1 0 R1 [[120], [121]] (fun p hp => by have := (hr1.2 p hp).2.2; omega) (by omega) (by decide)) (hA.less (by omega)) ⟨i1 _ _ hl1, hp1.mono i1, ins_self, .cons _ _ (.cons _ _ .nil)⟩ fun v g1 s le1 hv S => ?_⟩
  obtain ⟨e1, u1, r1, us1, rs1, ku1, kr1, rfl, hE1, hu1, hus1, hrr1, hR1⟩ := hv
  have j1 := i1.trans le1
  repeat walk_at "m1"
  refine r_itemL (k := 1) (S.at (j1 _ _ hrs)) rfl (by decide) ?_
  repeat walk_at "m1"
  refine r_newB S (Nat.le_of_ble_eq_true rfl) fun al2 s ha2 S => ?_
  have le21a := St.leI (w := w) S ha2
  have i2 := j1.trans le21a
  repeat walk_at "m1"
  refine ⟨S.ge, r_use S (c_law_entry (n := n) l2 al2 v2 _ k2 0 R2 [[121]] (fun p hp => by have := (hr2.2 p hp).2.2; omega) (by omega) (by decide)) (hA.less (by omega)) ⟨i2 _ _ hl2, hp2.mono i2, ins_self, .cons _ _ .nil⟩ fun v g2 s le2 hv S => ?_⟩
  obtain ⟨e2, u2, r2, us2, rs2, ku2, kr2, rfl, hE2, hu2, hus2, hrr2, hR2⟩ := hv
  have le21 := le21a.trans le2
  repeat walk_at "m1"
  refine r_unpack2 S hA (S.at ins_self) fun s S => ?_
  refine wpAny_assignInOrder_more (bindName_ (r_store S (fun s S => ?_)))
  refine wpAny_assignInOrder_more (bindName_ (r_store S (fun s S => wpAny_assignInOrder_none ?_)))
  have j3 := St.leI (w := w) S hN
  have i3 := (i2.trans le2).trans j3
  have q3 := (St.leI (w := w) S hN)
  have le23 := (Le.refl g2).trans j3
  generalize hG3 : ins g2 aN _ = g3 at S i3 j3 q3 le23
  clear hG3 q3
  try dsimp only
  cases hus1 with
  | cons _ tx h1 =>
  cases h1 with
  | cons _ ty h2 =>
  cases h2
  cases hus2 with
  | cons _ tz h3 =>
  cases h3
  have a12 := ha2
  have hE1' : EntryAt w g3 e1 (.ref u1) (.ref r1) := hE1.mono (le21.trans j3)
  repeat walk_at "m1"
  refine ⟨S.ge, r_use S (c_merge (n := n) e1 e2 u1 u2 r1 r2 tx ty tz ku1 ku2 kr1 kr2 rs1 rs2 R1 R2 (by omega) (by omega)) (hA.less (by omega)) ⟨hE1', hE2.mono j3, (le21.trans j3) _ _ hu1, j3 _ _ hu2, (le21.trans j3) _ _ hrr1, j3 _ _ hrr2, hR1.mono (le21.trans j3), hR2.mono j3⟩ fun v g4 s le4 hv S => ?_⟩
  obtain ⟨e3, u3, r3, ku3, kr3, rfl, hE3, hu3, hrr3, hR3⟩ := hv
  walk_at "m1"
  try dsimp only
  have i4 := i3.trans le4
  have j4 := (le21.trans j3).trans le4
  refine r_back hQg ?_
  repeat subst hQo
  exact K s g4 e1 e2 e3 ⟨⟨nl, wl, S.relc rfl⟩, i4 _ _ hcell, i4 _ _ hst, hsv, i4 _ _ hrs, i4 _ _ hl1, i4 _ _ hl2, hp1.mono i4, hp2.mono i4, hr1, hr2, hwo, ⟨e1, _, r1, rs1, kr1, rfl, hE1'.mono le4, j4 _ _ hrr1, hR1.mono j4⟩, ⟨e2, _, r2, rs2, kr2, rfl, hE2.mono (j3.trans le4), (j3.trans le4) _ _ hrr2, hR2.mono (j3.trans le4)⟩, ⟨e3, _, r3, _, kr3, rfl, hE3, hrr3, hR3⟩, ⟨u3, r3, ku3, ty, hE3, hu3⟩⟩
end
end Mine
end
section
open PySem PySem.W PySem.Calls PyProof.Rows
set_option maxRecDepth 100000
set_option linter.unusedSimpArgs false
set_option linter.unusedVariables false
namespace Mine
section
variable {prog : Program} {w : World} {A : Around} {s₀ s s' : Shared} {g₀ g g' : Hp} {L L' : Addr} {lc lc' : List (Str × Value)} {own own' : List (Addr × Obj)} {E : Value → Shared → Prop} {env : Env} {n : Nat}
theorem St.obIn {c : Addr} {o : Obj} (S : St w s₀ g₀ g L lc own s) (hm : (c, o) ∈ own) (S' : St w s g g' L' lc' own' s') : s'.heap.get? c = some o :=
  S'.nx.kp c o (fun e => S.tboff (e ▸ List.mem_cons_of_mem _ (List.mem_map_of_mem (f := (·.1)) hm))) (S.ob _ hm)
theorem RulesOk.app {R1 R2 : List (List Nat × Bool)} (h1 : RulesOk R1 8) (h2 : RulesOk R2 8) : RulesOk (R1 ++ R2) 16 :=
  ⟨by have := h1.1; have := h2.1; rw [List.length_append]; omega, fun r hr => (List.mem_append.mp hr).elim (h1.2 r) (h2.2 r)⟩
theorem RulesOk.up {R1 : List (List Nat × Bool)} (h1 : RulesOk R1 8) : RulesOk R1 16 := ⟨by have := h1.1; omega, h1.2⟩
theorem straight_len (y : List Nat) : (straightL y).length ≤ y.length + 2 := by
  have h1 := foldN_wt y
  have h2 := joinL_len (foldN (splitL y))
  unfold straightL
  omega
theorem straight_mem {W : List (List Nat)} (h : WaysOk W 9) {i : Nat} {y : List Nat} (hy : (W.map straightL)[i]? = some y) : y.length ≤ 102 := by
  rw [List.getElem?_map] at hy
  obtain ⟨z, hz, rfl⟩ := Option.map_eq_some_iff.mp hy
  have := (h.2 z (List.mem_of_getElem? hz)).2.1
  have := straight_len z
  omega
theorem straight_oky {W : List (List Nat)} (h : WaysOk W 9) {i : Nat} {y : List Nat} (hy : (W.map straightL)[i]? = some y) : OkL y := by
  rw [List.getElem?_map] at hy
  obtain ⟨z, hz, rfl⟩ := Option.map_eq_some_iff.mp hy
  have := straight_ok (h.2 z (List.mem_of_getElem? hz)).2.2
  exact fun c hc => this c (List.mem_cons_of_mem _ hc)
theorem ok121 : ∀ p ∈ ([[121]] : List (List Nat)), OkL p := by
  intro p hp
  rw [List.mem_singleton.mp hp]
  intro c hc
  rw [List.mem_singleton.mp hc]
  decide
theorem told3 {v1 v2 v3 v : Value} {R1 R2 : List (List Nat × Bool)} {i : Nat} (c1 : RecAt prog w g v1 R1) (c2 : RecAt prog w g v2 R2) (c3 : RecAt prog w g v3 (R1 ++ R2)) (hv : [v1, v2, v3][i]? = some v) :
    ∃ R, [R1, R2, R1 ++ R2][i]? = some R ∧ RecAt prog w g v R := by
  match i, hv with
  | 0, hv => simp at hv; subst hv; exact ⟨_, rfl, c1⟩
  | 1, hv => simp at hv; subst hv; exact ⟨_, rfl, c2⟩
  | 2, hv => simp at hv; subst hv; exact ⟨_, rfl, c3⟩
  | i + 3, hv => simp at hv
theorem told3P {v1 v2 v3 v : Value} {R1 R2 : List (List Nat × Bool)} {i : Nat} (c1 : PairRow g v1 R1) (c2 : PairRow g v2 R2) (c3 : PairRow g v3 (R1 ++ R2)) (hv : [v1, v2, v3][i]? = some v) :
    ∃ R, [R1, R2, R1 ++ R2][i]? = some R ∧ PairRow g v R := by
  match i, hv with
  | 0, hv => simp at hv; subst hv; exact ⟨_, rfl, c1⟩
  | 1, hv => simp at hv; subst hv; exact ⟨_, rfl, c2⟩
  | 2, hv => simp at hv; subst hv; exact ⟨_, rfl, c3⟩
  | i + 3, hv => simp at hv
theorem three_ok {R1 R2 R : List (List Nat × Bool)} {i : Nat} (h1 : RulesOk R1 8) (h2 : RulesOk R2 8) (hv : [R1, R2, R1 ++ R2][i]? = some R) : RulesOk R 16 := by
  match i, hv with
  | 0, hv => simp at hv; subst hv; exact h1.up
  | 1, hv => simp at hv; subst hv; exact h2.up
  | 2, hv => simp at hv; subst hv; exact h1.app h2
  | i + 3, hv => simp at hv
theorem PairsAt.app {vs us : List Value} {R1 R2 : List (List Nat × Bool)} (h1 : PairsAt g vs R1) (h2 : PairsAt g us R2) : PairsAt g (vs ++ us) (R1 ++ R2) := by
  induction h1 with
  | nil => exact h2
  | cons e _ ih => exact .cons e ih
end
/-- what stands ahead of let -/
structure Law3 (w : World) (s₀ : Shared) (g₀ g : Hp) (L : Addr) (s : Shared) (rs D e1 e2 e3 T : Addr) (svs ts : List Value) (kd kt : Nat) (B1 B2 B3 : List Bool) (W : List (List Nat)) : Prop where
  S : ∃ nl wl, St w s₀ g₀ g L [("script", .ref nl), ("drawn", .ref rs), ("crooked", .ref wl), ("two", .ref e2), ("one", .ref e1), ("both", .ref e3), ("told", .ref T)] [(L + 3, cellO none), (L + 2, cellO none)] s
  cell : g (L + 1) = some (cellO (some (.ref D)))
  st : g D = some (lst svs kd)
  sv : StrsAre svs ((slashed (W.map straightL)).map mk)
  wo : WaysOk W 9
  told : g T = some (lst ts kt)
  rows : BoolRows g ts [B1, B2, B3]
section
variable {prog : Program} {w : World} {n : Nat} {A : Around} {s₀ s : Shared} {g₀ g : Hp} {L : Addr}
set_option maxHeartbeats 8000000 in
theorem law3 {Q : Value → Shared → Prop} {rs l1 l2 D e1 e2 e3 : Addr} {v1 v2 svs : List Value} {k1 k2 kd : Nat} {R1 R2 : List (List Nat × Bool)} {W : List (List Nat)} (hA : AOk A (n + 29)) (X : Law2 prog w s₀ g₀ g L s rs l1 l2 D e1 e2 e3 v1 v2 svs k1 k2 kd R1 R2 W)
    (heq : ∀ y0 ∈ W, ∀ R, RulesOk R 16 → allowF (straightL y0) R = allowedF (straightL y0) R)
    (K : ∀ s' g' T ts kt, Law3 w s₀ g₀ g' L s' rs D e1 e2 e3 T svs ts kd kt (toldRow allowF (W.map straightL) R1) (toldRow allowF (W.map straightL) R2) (toldRow allowF (W.map straightL) (R1 ++ R2)) W → wpAny (model prog w) A (execs (lawT.1.1.drop 8) (lawE L)) (fun fl s' => Q (retv fl) s') F0 s') :
    wpAny (model prog w) A (execs (lawT.1.1.drop 5) (lawE L)) (fun fl s' => Q (retv fl) s') F0 s := by
  have hbig : sizeLine = 16777216 := rfl
  obtain ⟨⟨nl, wl, S⟩, hcell, hst, hsv, hrs, hl1, hl2, hp1, hp2, hr1, hr2, hwo, hc1, hc2, hc3, hua⟩ := X
  have hsvl := slashed_len hsv
  rw [List.length_map] at hsvl
  have hW9 := hwo.1
  have hp1l := hp1.length
  have hp2l := hp2.length
  have hr1l := hr1.1
  have hr2l := hr2.1
  simp only [lawE, lawT, List.drop]
  repeat walk_at "m1"
  refine r_newB S (Nat.le_of_ble_eq_true rfl) fun al1 s ha1 S => ?_
  have i1 := St.leI (w := w) S ha1
  have hal := S.top
  generalize hG : ins g al1 _ = g1 at S i1 hal
  clear hG
  refine r_compL (fun i ys g => BoolRows g ys (([R1, R2, R1 ++ R2].take i).map (toldRow allowF (W.map straightL)))) (fun h l => h.mono l) (fun lc => lc = []) (fun C cs => ∃ v, cs = [(C + 1, cellO v)]) hA S hal (by rw [hbig]; exact Nat.le_of_ble_eq_true rfl) .nil rfl (fun C => ⟨none, rfl⟩) ?_ ?_
  · rintro i v ys g' C D' k' lc' cs It oI s' hv lg hJ rfl ⟨cv, rfl⟩ hyl S
    refine CTurn.gen fun Yq hYq => ?_
    obtain ⟨R, hR, e, uv, rl, rvs, kr, rfl, hE, hrl, hRA⟩ := told3 hc1 hc2 hc3 hv
    refine r_asgnN ?_
    refine r_storeC S.rot3 fun s S => ?_
    repeat walk_at "m1"
    refine r_cell (S.at (lg _ _ (i1 _ _ hcell))) ?_
    repeat walk_at "m1"
    have S0 := S
    have hDD := lg _ _ (i1 _ _ hst)
    refine r_compL (fun j ys g => ys = ((W.map straightL).take j).map (fun y => Value.bool (allowF y R))) (fun h l => h) (LcOr [] "each") (fun _ cs => cs = []) hA S hDD (by rw [hbig]; omega) rfl (.inl rfl) (fun _ => rfl) ?_ ?_
    · rintro j v3 ys3 g3 C3 D3 k3 lc3 cs3 It3 oI3 s3 hv3 lg3 rfl hlc rfl hyl3 S
      refine CTurn.gen fun Yq hYq => ?_
      obtain ⟨y, ty, hy, rfl⟩ := slashed_at hsv hv3
      refine r_asgnN ?_
      repeat walk_at "m1"
      have hl2 : setl "each" (.str (mk (47 :: y)) ty) lc3 = ([("each", .str (mk (47 :: y)) ty)] : List (Str × Value)) := by rcases hlc with rfl | ⟨u, rfl⟩ <;> rfl
      have S := S.relc hl2
      repeat walk_at "m1"
      refine r_cell (St.obIn S0 (.head _) S) ?_
      have lgg := ((i1.trans lg).trans lg3)
      refine r_gmI S (hE.mono lgg) ?_
      refine r_cwK1 S rfl ?_
      repeat walk_at "m1"
      refine ⟨S.ge, r_use S (c_allowance (n := n) e rl uv y ty rvs kr R (by have := straight_mem hwo hy; omega)) (hA.less (by omega)) ⟨hE.mono lgg, lgg _ _ hrl, hRA.mono lgg⟩ fun v g5 s le5 hv S => ?_⟩
      subst hv
      repeat walk_at "m1"
      try refine r_backV hYq ?_
      refine ⟨_, _, [], le5, ?_, .inr ⟨_, rfl⟩, rfl, S⟩
      rw [List.take_add_one, hy, List.map_append]
      rfl
    refine compFin_none (fun g5 D5 ys5 k5 s5 le5 hD5 hgD5 hys5 S => ?_)
    subst hys5
    try refine r_backV hYq ?_
    refine ⟨g5, [], [(C + 1, cellO (some (.ref e)))], le5, ?_, rfl, ⟨_, rfl⟩, S.rot3'⟩
    rw [List.take_add_one, hR, List.map_append]
    refine (hJ.mono le5).append (.cons (k := k5) ?_ .nil)
    rw [hD5, toldRow, List.map_map, List.take_of_length_le (by rw [List.length_map]; omega)]
    rfl
  refine compFin_store (fun g6 T1 ts kt s le6 hT1 hgT1 hts S => ?_) rfl rfl rfl
  have i6 := i1.trans le6
  try dsimp only
  repeat walk_at "m1"
  refine r_itemL (k := 0) (S.at (i6 _ _ hrs)) rfl (by decide) ?_
  repeat walk_at "m1"
  refine r_itemL (k := 1) (S.at (i6 _ _ hrs)) rfl (by decide) ?_
  repeat walk_at "m1"
  refine r_itemL (k := 0) (S.at (i6 _ _ hrs)) rfl (by decide) ?_
  repeat walk_at "m1"
  refine r_itemL (k := 1) (S.at (i6 _ _ hrs)) rfl (by decide) ?_
  repeat walk_at "m1"
  refine r_addL S (S.at (i6 _ _ hl1)) (S.at (i6 _ _ hl2)) (by omega) fun a12 s ha12 S => ?_
  have q1 := St.leI (w := w) S ha12
  have h12 := S.top
  generalize hG : ins g6 a12 _ = g7 at S q1 h12
  clear hG
  repeat walk_at "m1"
  refine r_newB S (Nat.le_of_ble_eq_true rfl) fun al2 s ha2 S => ?_
  have q2 := St.leI (w := w) S ha2
  have hal2 := S.top
  generalize hG : ins g7 al2 _ = g8 at S q2 hal2
  clear hG
  have i8 := i6.trans (q1.trans q2)
  have d1 : PairRow g8 (.ref l1) R1 := ⟨l1, _, _, rfl, i8 _ _ hl1, hp1.mono i8⟩
  have d2 : PairRow g8 (.ref l2) R2 := ⟨l2, _, _, rfl, i8 _ _ hl2, hp2.mono i8⟩
  have d3 : PairRow g8 (.ref a12) (R1 ++ R2) := ⟨a12, _, _, rfl, q2 _ _ h12, (hp1.mono i8).app (hp2.mono i8)⟩
  refine r_compL (fun i ys g => BoolRows g ys (([R1, R2, R1 ++ R2].take i).map (toldRow allowedF (W.map straightL)))) (fun h l => h.mono l) (fun lc => lc = []) (fun C cs => ∃ v, cs = [(C + 1, cellO v)]) hA S hal2 (by rw [hbig]; exact Nat.le_of_ble_eq_true rfl) .nil rfl (fun C => ⟨none, rfl⟩) ?_ ?_
  · rintro i v ys g' C D' k' lc' cs It oI s' hv lg hJ rfl ⟨cv, rfl⟩ hyl S
    refine CTurn.gen fun Yq hYq => ?_
    obtain ⟨R, hR, rl, rvs, kr, rfl, hrl, hPA⟩ := told3P d1 d2 d3 hv
    have hRok := three_ok hr1 hr2 hR
    have hRl := hRok.1
    refine r_asgnN ?_
    refine r_storeC S.rot3 fun s S => ?_
    repeat walk_at "m1"
    refine r_cell (S.at (lg _ _ (i8 _ _ hcell))) ?_
    repeat walk_at "m1"
    have S0 := S
    have hDD := lg _ _ (i8 _ _ hst)
    refine r_compL (fun j ys g => ys = ((W.map straightL).take j).map (fun y => Value.bool (allowedF y R))) (fun h l => h) (LcOr [] "each") (fun _ cs => cs = []) hA S hDD (by rw [hbig]; omega) rfl (.inl rfl) (fun _ => rfl) ?_ ?_
    · rintro j v3 ys3 g3 C3 D3 k3 lc3 cs3 It3 oI3 s3 hv3 lg3 rfl hlc rfl hyl3 S
      refine CTurn.gen fun Yq hYq => ?_
      obtain ⟨y, ty, hy, rfl⟩ := slashed_at hsv hv3
      refine r_asgnN ?_
      repeat walk_at "m1"
      have hl2 : setl "each" (.str (mk (47 :: y)) ty) lc3 = ([("each", .str (mk (47 :: y)) ty)] : List (Str × Value)) := by rcases hlc with rfl | ⟨u, rfl⟩ <;> rfl
      have S := S.relc hl2
      repeat walk_at "m1"
      refine r_cell (St.obIn S0 (.head _) S) ?_
      repeat walk_at "m1"
      have lgg := (lg.trans lg3)
      refine ⟨S.ge, r_use S (c_law_allowed (n := n) rl rvs kr R y ty (fun p hp => ⟨by have := (hRok.2 p hp).2.2; omega, (hRok.2 p hp).2.1⟩) (by omega) (by have := straight_mem hwo hy; omega) (straight_oky hwo hy)) (hA.less (by omega)) ⟨lgg _ _ hrl, hPA.mono lgg⟩ fun v g5 s le5 hv S => ?_⟩
      subst hv
      repeat walk_at "m1"
      try refine r_backV hYq ?_
      refine ⟨_, _, [], le5, ?_, .inr ⟨_, rfl⟩, rfl, S⟩
      rw [List.take_add_one, hy, List.map_append]
      rfl
    refine compFin_none (fun g5 D5 ys5 k5 s5 le5 hD5 hgD5 hys5 S => ?_)
    subst hys5
    try refine r_backV hYq ?_
    refine ⟨g5, [], [(C + 1, cellO (some (.ref rl)))], le5, ?_, rfl, ⟨_, rfl⟩, S.rot3'⟩
    rw [List.take_add_one, hR, List.map_append]
    refine (hJ.mono le5).append (.cons (k := k5) ?_ .nil)
    rw [hD5, toldRow, List.map_map, List.take_of_length_le (by rw [List.length_map]; omega)]
    rfl
  refine compFin_none (fun g9 T2 us ku s le9 hT2 hgT2 hus S => ?_)
  repeat walk_at "m1"
  have hte : ([R1, R2, R1 ++ R2].take 3).map (toldRow allowedF (W.map straightL)) = ([R1, R2, R1 ++ R2].take 3).map (toldRow allowF (W.map straightL)) := by
    refine List.map_congr_left fun R hR => ?_
    obtain ⟨i, hi⟩ := List.mem_iff_getElem?.mp hR
    rw [show ([R1, R2, R1 ++ R2].take 3) = [R1, R2, R1 ++ R2] from rfl] at hi
    have hRok := three_ok hr1 hr2 hi
    unfold toldRow
    rw [List.map_map, List.map_map]
    exact List.map_congr_left fun y hy => (heq y hy R hRok).symm
  have i9 := i8.trans le9
  have hts9 := hts.mono ((q1.trans q2).trans le9)
  refine r_neBools hA S (((q1.trans q2).trans le9) _ _ hT1) hT2 hts9 (hte ▸ hus) ?_
  repeat walk_at "m1"
  refine r_attr ?_ rfl
  repeat walk_at "m1"
  obtain ⟨ua, ur, kua, ty, hEu, hua⟩ := hua
  refine r_getD S (hEu.mono i9) (by decide) rfl rfl fun s S => ?_
  repeat walk_at "m1"
  refine r_newB S (Nat.le_of_ble_eq_true rfl) fun ay s hay S => ?_
  have q3 := St.leI (w := w) S hay
  have hY := S.top
  generalize hG : ins g9 ay _ = g10 at S q3 hY
  clear hG
  refine r_neStrs (P := [[121]]) (R := [[121]]) hA (S.at ((i9.trans q3) _ _ hua)) (S.at hY) (.cons _ _ .nil) (.cons _ _ .nil) ok121 ok121 ?_
  rw [decide_eq_true rfl]
  repeat walk_at "m1"
  simp only [Bool.not_true]
  refine r_nil ?_
  try dsimp only
  have i10 := i9.trans q3
  refine r_back hQg ?_
  repeat subst hQo
  exact K s g10 T1 ts kt ⟨⟨nl, wl, S.relc rfl⟩, i10 _ _ hcell, i10 _ _ hst, hsv, hwo, (((q1.trans q2).trans le9).trans q3) _ _ hT1, hts9.mono q3⟩
end
end Mine
end
section
open PySem PySem.Spec PySem.W PySem.Calls PyProof.Rows
set_option maxRecDepth 100000
set_option linter.unusedSimpArgs false
set_option linter.unusedVariables false
namespace Mine
section
variable {prog : Program} {w : World} {A : Around} {s₀ s s' : Shared} {g₀ g g' : Hp} {L L' : Addr} {lc lc' : List (Str × Value)} {own own' : List (Addr × Obj)} {E : Value → Shared → Prop} {env : Env} {n : Nat}
/-- the heap has grown, an object of it that is new is taken in -/
theorem St.gain (S : St w s₀ g₀ g L lc own s) {a : Addr} {o : Obj} (hk : ∀ b o, s.heap.get? b = some o → s'.heap.get? b = some o) (hg : s'.gens = s.gens) (ho : s'.os = s.os) (hn : s.heap.get? a = none) (ha : s'.heap.get? a = some o) :
    g a = none ∧ St w s₀ g₀ (ins g a o) L lc own s' := by
  have gn : g a = none := by
    cases e : g a with
    | none => rfl
    | some o' => rw [S.sub _ _ e] at hn; cases hn
  refine ⟨gn, St.lay (S.step (own' := (a, o) :: own) (fun b o _ e => hk b o e) hg ho ?_ ?_ ?_ ?_)⟩
  · obtain ⟨o', es, ep, e, r⟩ := S.ns
    exact ⟨o', es, ep, hk _ _ e, r⟩
  · intro p hp
    rcases List.mem_cons.mp hp with rfl | hp
    · exact ha
    · exact hk _ _ (S.ob p hp)
  · have hnd := S.nd
    rw [List.map_cons]
    rw [List.nodup_cons] at hnd ⊢
    obtain ⟨h1, h2⟩ := hnd
    obtain ⟨oL, _, _, eL, _⟩ := S.ns
    refine ⟨fun h => ?_, List.nodup_cons.mpr ⟨fun h => ?_, h2⟩⟩
    · rcases List.mem_cons.mp h with h | h
      · rw [h] at eL; rw [show a = (a, o).1 from rfl] at hn; rw [hn] at eL; cases eL
      · exact h1 h
    · obtain ⟨p, hp, e⟩ := List.mem_map.mp h
      have := S.ob p hp
      rw [e] at this
      rw [show a = (a, o).1 from rfl] at hn
      rw [hn] at this; cases this
  · intro b hb
    rw [List.map_cons] at hb
    rcases List.mem_cons.mp hb with rfl | hb
    · exact .inr hn
    · exact .inl hb
/-- a list twice -/
theorem r_mul2 {l : Addr} {vs : List Value} {k : Nat} {u : Tok} {Q : Value → Shared → Prop} (S : St w s₀ g₀ g L lc own s) (hl : g l = some (lst vs k)) (hsz : vs.length ≤ 1000)
    (h : ∀ a s', g a = none → St w s₀ g₀ (ins g a (lst (vs ++ vs) 0)) L lc own s' → Q (.ref a) s') : wpAny (model prog w) A (binaryOp .Mult (.ref l) (.int 2 u)) Q E s := by
  have hh := S.at hl
  refine wpAny_binaryOp_repeat_ref (T := "list") (U := "int") (by decide) ⟨_, hh, rfl⟩ (fun s' => typeIs_int s' 2 u) noFill_list_mul F.fills_int_mul F.slot_int_rmul repeat_list F.slot_int_index.lookup
    (call_meets F.slot_int_rmul (typeIs_int s 2 u) F.entry_int_rmul (F.args_int_rmul_2 _ _) (int___rmul___int_list 2 u l vs.toArray k)
      ⟨hh, rfl, ⟨_, hh, rfl⟩, call_meets F.slot_list_mul ⟨_, hh, rfl⟩ F.entry_list_mul (F.args_list_mul_2 _ _)
        (AutoListH.list___mul___list_int_3 l vs.toArray k 2 u (by simp [Builtin.List.listFitsIndex]) (by simp; omega) (by simp [Builtin.List.listTooLong, sizeLine]; omega))
        ⟨hh, ?_⟩⟩)
  have e : List.foldl (fun (x1 x2 : Array Value) => x1 ++ x2) #[] (List.replicate (if vs.toArray.isEmpty = true then 0 else Int.toNat 2) vs.toArray) = (vs ++ vs).toArray := by
    rw [listMul_foldl_if]
    show (List.replicate 2 vs).flatten.toArray = _
    simp [List.replicate]
  rw [e]
  exact h _ _ S.fresh (S.made (o := lst (vs ++ vs) 0) (t := s.toks) rfl)
/-- texts in order -/
theorem r_sortedL {l : Addr} {vs : List Value} {k : Nat} {ss : List Str} {Q : Value → Shared → Prop} (S : St w s₀ g₀ g L lc own s) (hl : g l = some (lst vs k)) (hS : StrsAre vs ss) (h64 : vs.length < 64)
    (h : ∀ a out ss' e s', g a = none → StrsAre out ss' → ss'.Perm ss → sortedS ss' = true → St w s₀ g₀ (ins g a (lst out e)) L lc own s' → Q (.ref a) s') :
    wpAny (model prog w) A (call (.builtin "sorted") [.ref l]) Q E s := by
  refine sorted_strs (vs := vs) ⟨_, S.at hl, rfl, k, rfl⟩ hS h64 fun out ss' a1 a2 a3 => ?_
  obtain ⟨e, he⟩ := sortedAll_at s.heap vs out
  obtain ⟨h1, h2⟩ := S.gain (s' := { s with heap := sortedAll s.heap vs out }) (a := s.heap.objs.size + 1) (o := lst out.toList e) (fun b o q => sortedAll_old q) rfl rfl (by
    cases q : s.heap.get? (s.heap.objs.size + 1) with
    | none => rfl
    | some o' => have q2 := Heap.lt_size q; exact absurd q2 (by simp)) (by rw [he])
  exact h _ _ ss' e _ h1 a1 a2 a3 h2
end
-- plain: what is sorted, each of it twice
theorem ltCps_eq : ∀ x y : List Nat, ltCps x y = decide (x < y)
  | [], [] => by simp [ltCps]
  | [], _ :: _ => by simp [ltCps]
  | _ :: _, [] => by simp [ltCps]
  | a :: r, b :: t => by
    rw [ltCps, ltCps_eq r t]
    rw [Bool.eq_iff_iff]
    simp [List.cons_lt_cons_iff]
/-- rising, each once -/
noncomputable def Rising (X : List (List Nat)) : Prop := X.Pairwise (· < ·)
theorem lex_antisymm {a b : List Nat} (h : ¬ b < a) (k : ¬ a < b) : a = b := List.le_antisymm (List.not_lt.mp h) (List.not_lt.mp k)
theorem risingS_le : ∀ (r : List (List Nat)) (p : List Nat), risingS (mk p) (r.map mk) = true → (p :: r).Pairwise fun a b => ¬ b < a
  | [], p, _ => List.pairwise_singleton ..
  | x :: r, p, h => by
    rw [List.map_cons, risingS, Bool.and_eq_true, mk_toList, mk_toList, ltCps_eq] at h
    have h1 : ¬ x < p := by simpa using h.1
    have h2 := risingS_le r x h.2
    refine List.pairwise_cons.mpr ⟨fun b hb => ?_, h2⟩
    rcases List.mem_cons.mp hb with rfl | hb
    · exact h1
    · have h3 := List.rel_of_pairwise_cons h2 hb
      exact List.not_lt.mpr (List.le_trans (List.not_lt.mp h1) (List.not_lt.mp h3))
theorem sorted_dbl : ∀ (m : Nat) (S : List (List Nat)), S.length ≤ m → S.Pairwise (fun a b => ¬ b < a) → (∀ a ∈ S, S.count a = 2) → ∃ X, S = dbl X ∧ Rising X
  | 0, S, hl, _, _ => ⟨[], by rw [List.length_eq_zero_iff.mp (Nat.le_zero.mp hl)]; rfl, .nil⟩
  | m + 1, [], _, _, _ => ⟨[], rfl, .nil⟩
  | m + 1, [a], _, _, hc => by
    have := hc a (.head _)
    simp at this
  | m + 1, a :: b :: r, hl, hp, hc => by
    have hab : a = b := by
      have h2 := hc a (.head _)
      rw [List.count_cons_self] at h2
      have hin : a ∈ b :: r := List.count_pos_iff.mp (by omega)
      rcases List.mem_cons.mp hin with e | hin
      · exact e
      · have h1 := List.rel_of_pairwise_cons hp (.head _ : b ∈ b :: r)
        have h3 := List.rel_of_pairwise_cons (List.pairwise_cons.mp hp).2 hin
        exact lex_antisymm h1 h3
    subst hab
    have h2 := hc a (.head _)
    rw [List.count_cons_self, List.count_cons_self] at h2
    have hna : a ∉ r := fun h => by have := List.count_pos_iff.mpr h; omega
    have hpr := (List.pairwise_cons.mp (List.pairwise_cons.mp hp).2).2
    obtain ⟨X, e, hX⟩ := sorted_dbl m r (by simp at hl; omega) hpr fun c hcr => by
      have := hc c (.tail _ (.tail _ hcr))
      have hne : a ≠ c := fun e => hna (e ▸ hcr)
      rw [List.count_cons_of_ne hne, List.count_cons_of_ne hne] at this
      exact this
    refine ⟨a :: X, by rw [e]; rfl, List.pairwise_cons.mpr ⟨fun c hcX => ?_, hX⟩⟩
    have hcr : c ∈ r := by
      rw [e]
      clear e hX
      induction X with
      | nil => cases hcX
      | cons x X ih =>
        rcases List.mem_cons.mp hcX with rfl | h
        · exact .head _
        · exact .tail _ (.tail _ (ih h))
    have h3 := List.rel_of_pairwise_cons hp (.tail _ hcr : c ∈ a :: r)
    by_cases h : a < c
    · exact h
    · exact absurd (lex_antisymm h3 h ▸ hcr) hna
theorem perm_map_mk {ss' : List Str} {U : List (List Nat)} (h : ss'.Perm (U.map mk)) : ∃ V : List (List Nat), ss' = V.map mk ∧ V.Perm U := by
  have hinv : ∀ s ∈ ss', ∃ x, mk x = s := fun s hs => by
    obtain ⟨x, _, e⟩ := List.mem_map.mp (h.mem_iff.mp hs); exact ⟨x, e⟩
  have : ∃ V : List (List Nat), ss' = V.map mk := by
    clear h
    induction ss' with
    | nil => exact ⟨[], rfl⟩
    | cons s r ih =>
      obtain ⟨x, e⟩ := hinv s (.head _)
      obtain ⟨V, e2⟩ := ih fun s hs => hinv s (.tail _ hs)
      exact ⟨x :: V, by rw [e2, ← e]; rfl⟩
  obtain ⟨V, rfl⟩ := this
  refine ⟨V, rfl, ?_⟩
  have h1 := h.map fun s : Str => s.cps.toList
  have e : ((fun s : Str => s.cps.toList) ∘ mk) = id := funext fun x => mk_toList x
  rw [List.map_map, List.map_map, e, List.map_id, List.map_id] at h1
  exact h1
/-- what is twice in a row, in order: a rising row, each twice -/
theorem sorted_twice {ss' : List Str} {U : List (List Nat)} (hp : ss'.Perm ((U ++ U).map mk)) (hs : sortedS ss' = true) (hn : U.Nodup) : ∃ X, ss' = (dbl X).map mk ∧ Rising X ∧ X.length = U.length ∧ ∀ x ∈ X, x ∈ U := by
  obtain ⟨V, rfl, hV⟩ := perm_map_mk hp
  have hpw : V.Pairwise fun a b => ¬ b < a := by
    cases V with
    | nil => exact .nil
    | cons p r => exact risingS_le r p hs
  have hc : ∀ a ∈ V, V.count a = 2 := fun a ha => by
    have hU : a ∈ U := by have := hV.mem_iff.mp ha; simpa using this
    rw [(List.perm_iff_count.mp hV) a, List.count_append]
    have h1 : U.count a = 1 := by rw [hn.count]; simp [hU]
    omega
  obtain ⟨X, rfl, hX⟩ := sorted_dbl _ V (Nat.le_refl _) hpw hc
  refine ⟨X, rfl, hX, ?_, fun x hx => ?_⟩
  · have h1 := hV.length_eq
    rw [dbl_len, List.length_append] at h1
    omega
  · have hin : x ∈ dbl X := by
      clear hX hc hpw hs hp hV
      induction X with
      | nil => cases hx
      | cons y X ih =>
        rcases List.mem_cons.mp hx with rfl | h
        · exact .head _
        · exact .tail _ (.tail _ (ih h))
    have := hV.mem_iff.mp hin
    simpa using this
end Mine
end
section
open PySem PySem.W PySem.Calls PyProof.Rows
set_option maxRecDepth 100000
set_option linter.unusedSimpArgs false
set_option linter.unusedVariables false
namespace Mine
/-- the ways that one record allows, each once -/
noncomputable def pick (V : List (List Nat)) (B : List Bool) : Nat → List (List Nat)
  | 0 => []
  | i + 1 => pick V B i ++ (match V[i]?, B[i]? with | some y, some true => if y ∈ V.take i then [] else [y] | _, _ => [])
theorem pick_in (V : List (List Nat)) (B : List Bool) : ∀ (i : Nat) (y : List Nat), y ∈ pick V B i → y ∈ V.take i
  | 0, y, h => by simp [pick] at h
  | i + 1, y, h => by
    rw [List.take_add_one]
    rcases List.mem_append.mp h with h | h
    · exact List.mem_append_left _ (pick_in V B i y h)
    · refine List.mem_append_right _ ?_
      split at h
      · next z hz _ =>
        split at h
        · cases h
        · rw [List.mem_singleton.mp h, hz]; exact .head _
      · cases h
theorem pick_nodup (V : List (List Nat)) (B : List Bool) : ∀ i : Nat, (pick V B i).Nodup
  | 0 => by simp [pick]
  | i + 1 => by
    refine List.nodup_append.mpr ⟨pick_nodup V B i, ?_, ?_⟩
    · split
      · split
        · exact .nil
        · exact List.pairwise_singleton ..
      · exact .nil
    · intro a ha b hb e
      subst e
      split at hb
      · split at hb
        · cases hb
        · next hn => rw [List.mem_singleton.mp hb] at ha; exact hn (pick_in V B i _ ha)
      · cases hb
theorem pick_len (V : List (List Nat)) (B : List Bool) : ∀ i : Nat, (pick V B i).length ≤ i
  | 0 => by simp [pick]
  | i + 1 => by
    have := pick_len V B i
    rw [pick, List.length_append]
    split
    · split
      · simp; omega
      · simp; omega
    · simp; omega
theorem strs_take {vs : List Value} {ss : List Str} (h : StrsAre vs ss) : ∀ i : Nat, StrsAre (vs.take i) (ss.take i) := by
  induction h with
  | nil => intro i; simp; exact .nil
  | cons n t r ih =>
    intro i
    cases i with
    | zero => exact .nil
    | succ i => exact .cons n t (ih i)
theorem any_slashed (V : List (List Nat)) (p : Nat) (y : List Nat) : (((slashed V).map mk).take p).any (· == mk (47 :: y)) = decide (y ∈ V.take p) := by
  unfold slashed
  rw [← List.map_take, ← List.map_take, List.any_map, List.any_map, Bool.eq_iff_iff, List.any_eq_true, decide_eq_true_eq]
  constructor
  · rintro ⟨z, hz, e⟩
    have e1 : mk (47 :: z) = mk (47 :: y) := by simpa using e
    have e2 := mk_inj.mp e1
    cases e2
    exact hz
  · intro h
    exact ⟨y, h, by simp⟩
theorem slashed_nodup {U : List (List Nat)} (h : U.Nodup) : (slashed U).Nodup := by
  unfold slashed
  refine List.pairwise_map.mpr (h.imp fun hab e => hab ?_)
  cases e
  rfl
/-- a rising row of texts -/
noncomputable def TX (X : List (List Nat)) : Prop := Rising X ∧ X.length ≤ 9 ∧ ∀ x ∈ X, OkL x ∧ x.length ≤ 103
noncomputable def LetRow (g : Hp) (v : Value) (X : List (List Nat)) : Prop := ∃ a vs k, v = .ref a ∧ g a = some (lst vs k) ∧ StrsAre vs ((dbl X).map mk) ∧ TX X
theorem LetRow.mono {g g' : Hp} {v : Value} {X : List (List Nat)} (h : LetRow g v X) (l : Le g g') : LetRow g' v X := by
  obtain ⟨a, vs, k, rfl, h1, h2⟩ := h
  exact ⟨a, vs, k, rfl, l _ _ h1, h2⟩
structure Law4 (w : World) (s₀ : Shared) (g₀ g : Hp) (L : Addr) (s : Shared) (Lt : Addr) (u1 u2 : Value) (k : Nat) (X Y : List (List Nat)) : Prop where
  S : ∃ lc, St w s₀ g₀ g L lc [(L + 3, cellO none)] s
  cell : g (L + 2) = some (cellO (some (.ref Lt)))
  lt : g Lt = some (lst [u1, u2] k)
  x : LetRow g u1 X
  y : LetRow g u2 Y
section
variable {prog : Program} {w : World} {n : Nat} {A : Around} {s₀ s : Shared} {g₀ g : Hp} {L : Addr}
set_option maxHeartbeats 8000000 in
theorem law4 {Q : Value → Shared → Prop} {rs D e1 e2 e3 T : Addr} {svs ts : List Value} {kd kt : Nat} {B1 B2 B3 : List Bool} {W : List (List Nat)} (hA : AOk A (n + 29)) (X : Law3 w s₀ g₀ g L s rs D e1 e2 e3 T svs ts kd kt B1 B2 B3 W) (hB1 : B1.length = W.length) (hB2 : B2.length = W.length)
    (K : ∀ s' g' Lt u1 u2 k X Y, Law4 w s₀ g₀ g' L s' Lt u1 u2 k X Y → wpAny (model prog w) A (execs (lawT.1.1.drop 9) (lawE L)) (fun fl s' => Q (retv fl) s') F0 s') :
    wpAny (model prog w) A (execs (lawT.1.1.drop 8) (lawE L)) (fun fl s' => Q (retv fl) s') F0 s := by
  have hbig : sizeLine = 16777216 := rfl
  obtain ⟨⟨nl, wl, S⟩, hcell, hst, hsv, hwo, htold, hrows⟩ := X
  have hsvl := slashed_len hsv
  rw [List.length_map] at hsvl
  have hW9 := hwo.1
  have hrl := hrows.length
  simp only [lawE, lawT, List.drop]
  repeat walk_at "m1"
  refine r_slcL' (us := ts.take 2) S (S.at htold) (by rw [hbig, hrl]; exact Nat.le_of_ble_eq_true rfl) .none (.int _ _) (by rw [show (2 : Int) = ((2 : Nat) : Int) from rfl, slicePick_upto']) fun z1 s hz1 S => ?_
  have i1 := St.leI (w := w) S hz1
  have hz := S.top
  generalize hG : ins g z1 _ = g1 at S i1 hz
  clear hG
  repeat walk_at "m1"
  refine r_compL (fun i ys g => ys.length = i ∧ ∀ v ∈ ys, ∃ X, LetRow g v X) (fun h l => ⟨h.1, fun v hv => (h.2 v hv).imp fun _ q => q.mono l⟩) (fun lc => lc = []) (fun C cs => ∃ v, cs = [(C + 1, cellO v)]) hA S hz (by rw [hbig, List.length_take]; omega) ⟨rfl, fun _ h => nomatch h⟩ rfl (fun C => ⟨none, rfl⟩) ?_ ?_
  · rintro i v ys g' C D' k' lc' cs It oI s' hv lg ⟨hJ1, hJ2⟩ rfl ⟨cv, rfl⟩ hyl S
    refine CTurn.gen fun Yq hYq => ?_
    have hB : ∃ (ba : Addr) (kb : Nat) (B : List Bool), v = .ref ba ∧ B.length = W.length ∧ g ba = some (lst (B.map Value.bool) kb) := by
      have hi : i < 2 := by
        have := (List.getElem?_eq_some_iff.mp hv).1
        rw [List.length_take] at this; omega
      rw [List.getElem?_take_of_lt hi] at hv
      obtain ⟨ba, kb, B, h1, h2, h3⟩ := hrows.at hv
      refine ⟨ba, kb, B, h1, ?_, h3⟩
      match i, hi, h2 with
      | 0, _, h2 => simp at h2; rw [← h2]; exact hB1
      | 1, _, h2 => simp at h2; rw [← h2]; exact hB2
    obtain ⟨ba, kb, B, rfl, hBl, hba⟩ := hB
    refine r_asgnN ?_
    refine r_storeC S.rot3 fun s S => ?_
    repeat walk_at "m1"
    have lgi := i1.trans lg
    refine r_cell (S.at (lgi _ _ hcell)) ?_
    repeat walk_at "m1"
    refine r_lenL S (S.at (lgi _ _ hst)) (by rw [hbig]; omega) fun tl s S => ?_
    repeat walk_at "m1"
    refine r_range S fun zr tr vr s hzr S => ?_
    have ir := St.leI (w := w) S hzr
    have hr := S.top
    generalize hG : ins g' zr _ = g2 at S ir hr
    clear hG
    repeat walk_at "m1"
    have S0 := S
    have lg2 := lgi.trans ir
    refine r_compR (fun i ys g => StrsAre ys ((slashed (pick (W.map straightL) B i)).map mk)) (fun h l => h) (LcOr [] "p") (fun _ cs => cs = []) hA S hr (by rw [hbig]; omega) .nil (.inl rfl) (fun _ => rfl) ?_ ?_
    · rintro p tp ys3 g3 C3 D3 k3 lc3 cs3 It3 oI3 s3 hp lg3 hJ3 hlc rfl hyl3 S
      refine CTurn.gen fun Yq hYq => ?_
      refine r_asgnN ?_
      repeat walk_at "m1"
      have hl2 : setl "p" (.int p tp) lc3 = ([("p", .int p tp)] : List (Str × Value)) := by rcases hlc with rfl | ⟨u, rfl⟩ <;> rfl
      have S := S.relc hl2
      repeat walk_at "m1"
      refine r_cell (St.obIn S0 (.head _) S) ?_
      repeat walk_at "m1"
      have lgg := lg2.trans lg3
      obtain ⟨b, hb⟩ : ∃ b, B[p]? = some b := ⟨B[p], List.getElem?_eq_getElem _⟩
      obtain ⟨v, hv⟩ : ∃ v, svs[p]? = some v := ⟨svs[p], List.getElem?_eq_getElem _⟩
      obtain ⟨y, ty, hy, rfl⟩ := slashed_at hsv hv
      refine r_itemL (k := p) (x := .bool b) (S.at (lgg _ _ hba)) (by rw [List.getElem?_map, hb]; rfl) (by omega) ?_
      repeat walk_at "m1"
      cases b with
      | false =>
        try dsimp only
        try refine r_backV hYq ?_
        refine ⟨_, _, [], Le.refl _, ?_, .inr ⟨_, rfl⟩, rfl, S⟩
        rw [pick, hy, hb, List.append_nil]
        exact hJ3
      | true =>
        try dsimp only
        repeat walk_at "m1"
        refine r_cell (S.at (lgg _ _ hcell)) ?_
        repeat walk_at "m1"
        refine r_itemL (k := p) (S.at (lgg _ _ hst)) hv (by omega) ?_
        repeat walk_at "m1"
        refine r_cell (S.at (lgg _ _ hcell)) ?_
        repeat walk_at "m1"
        refine r_slcL' (us := svs.take p) S (S.at (lgg _ _ hst)) (by rw [hbig]; omega) .none (.int _ _) (by rw [slicePick_upto']) fun z3 s hz3 S => ?_
        have i3 := St.leI (w := w) S hz3
        have hz3' := S.top
        generalize hG : ins g3 z3 _ = g4 at S i3 hz3'
        clear hG
        repeat walk_at "m1"
        refine notin_list_strs (vs := svs.take p) ⟨_, S.at hz3', rfl, _, rfl⟩ (strs_take hsv p) ?_
        repeat walk_at "m1"
        rw [any_slashed]
        have hyo := straight_oky hwo hy
        by_cases hin : y ∈ (W.map straightL).take p
        · rw [decide_eq_true hin]
          try refine r_backV hYq ?_
          refine ⟨_, _, [], i3, ?_, .inr ⟨_, rfl⟩, rfl, S⟩
          rw [pick, hy, hb]
          try dsimp only
          rw [if_pos hin, List.append_nil]
          exact hJ3
        · rw [decide_eq_false hin]
          simp only [Bool.not_false]
          repeat walk_at "m1"
          refine r_cell (S.at ((lgg.trans i3) _ _ hcell)) ?_
          repeat walk_at "m1"
          refine r_itemL (k := p) (S.at ((lgg.trans i3) _ _ hst)) hv (by omega) ?_
          try refine r_backV hYq ?_
          refine ⟨_, _, [], i3, ?_, .inr ⟨_, rfl⟩, rfl, S⟩
          rw [pick, hy, hb]
          try dsimp only
          rw [if_neg hin, slashed, List.map_append, List.map_append]
          exact hJ3.append' (.cons _ _ .nil)
    refine compFin_none (fun g5 D5 ys5 k5 s5 le5 hD5 hgD5 hys5 S => ?_)
    have hnd := pick_nodup (W.map straightL) B svs.length
    have hpl := pick_len (W.map straightL) B svs.length
    have hpi := pick_in (W.map straightL) B svs.length
    generalize pick (W.map straightL) B svs.length = U at hys5 hnd hpl hpi
    have hyl5 := hys5.length
    rw [List.length_map, slashed, List.length_map] at hyl5
    repeat walk_at "m1"
    refine r_mul2 S hD5 (by omega) fun zm s hzm S => ?_
    have im := St.leI (w := w) S hzm
    have hm := S.top
    generalize hG : ins g5 zm _ = g6 at S im hm
    clear hG
    repeat walk_at "m1"
    refine r_sortedL S hm (hys5.append' hys5) (by rw [List.length_append]; omega) fun zs out ss' es s hzs hout hperm hsort S => ?_
    have is := St.leI (w := w) S hzs
    have hs := S.top
    generalize hG : ins g6 zs _ = g7 at S is hs
    clear hG
    try refine r_backV hYq ?_
    refine ⟨g7, [], [(C + 1, cellO (some (.ref ba)))], ((ir.trans le5).trans im).trans is, ?_, rfl, ⟨_, rfl⟩, S.rot3'⟩
    have l7 := ((ir.trans le5).trans im).trans is
    refine ⟨by rw [List.length_append, hJ1]; rfl, fun v hv => ?_⟩
    rcases List.mem_append.mp hv with hv | hv
    · exact (hJ2 v hv).imp fun _ q => q.mono l7
    · rw [List.mem_singleton.mp hv]
      rw [← List.map_append] at hperm
      obtain ⟨X, hX, hR, hXl, hXm⟩ := sorted_twice hperm hsort (slashed_nodup hnd)
      refine ⟨X, zs, out, es, rfl, hs, hX ▸ hout, hR, by rw [hXl, slashed, List.length_map]; omega, fun x hx => ?_⟩
      have := hXm x hx
      unfold slashed at this
      obtain ⟨y, hy, rfl⟩ := List.mem_map.mp this
      have hyV := List.mem_of_mem_take (hpi y hy)
      obtain ⟨j, hj⟩ := List.mem_iff_getElem?.mp hyV
      refine ⟨fun c hc => ?_, by rw [List.length_cons]; have := straight_mem hwo hj; omega⟩
      rcases List.mem_cons.mp hc with rfl | hc
      · decide
      · exact straight_oky hwo hj c hc
  refine compFin_none (fun g8 D8 ys8 k8 s le8 hD8 hgD8 hys8 S => ?_)
  have i8 := i1.trans le8
  refine r_storeC S.swap fun s S => ?_
  try dsimp only
  obtain ⟨nc2, S⟩ := St.lay1 S
  have lec2 := St.leI (w := w) S nc2
  have hcell2 := S.top
  generalize hG3 : ins g8 (L + 2) _ = g9 at S lec2 hcell2
  clear hG3
  obtain ⟨u1, u2, rfl⟩ : ∃ u1 u2, ys8 = [u1, u2] := by
    have := hys8.1
    rw [List.length_take, hrl] at this
    match ys8, this with
    | [a, b], _ => exact ⟨a, b, rfl⟩
  obtain ⟨X, hX⟩ := hys8.2 u1 (.head _)
  obtain ⟨Y, hY⟩ := hys8.2 u2 (.tail _ (.head _))
  refine r_back hQg ?_
  repeat subst hQo
  exact K s g9 D8 u1 u2 k8 X Y ⟨⟨_, S⟩, hcell2, lec2 _ _ hD8, hX.mono lec2, hY.mono lec2⟩
end
end Mine
end
section
open PySem PySem.W PySem.Calls PyProof.Rows
set_option maxRecDepth 100000
set_option linter.unusedSimpArgs false
set_option linter.unusedVariables false
namespace Mine
/-- what one row tells of its own, as the law says -/
noncomputable def aloneF (X Y : List (List Nat)) : Nat → List (List Nat)
  | 0 => []
  | i + 1 => aloneF X Y i ++ (match (dbl X)[i]? with | some x => if x ∈ dbl Y then [] else if i % 2 = 0 ∨ dbl Y = [] ∨ ∀ y ∈ dbl Y, y < x then [x] else [] | none => [])
noncomputable def textBt (P : List (List Nat)) (i j : Nat) : Bool := decide (P.getD j [] < P.getD i [])
theorem textBest (P : List (List Nat)) : ∀ j k : Nat, k ≤ j → ¬ P.getD (argBest (textBt P) j) [] < P.getD k []
  | 0, k, h => by rw [Nat.le_zero.mp h]; exact List.lt_irrefl _
  | j + 1, k, h => by
    have ih := textBest P j
    rw [argBest]
    cases hb : textBt P (j + 1) (argBest (textBt P) j) with
    | true =>
      rw [if_pos rfl]
      have hlt : P.getD (argBest (textBt P) j) [] < P.getD (j + 1) [] := by simpa [textBt] using hb
      rcases Nat.lt_or_eq_of_le h with h | rfl
      · have h1 := ih k (by omega)
        exact fun q => h1 (List.lt_trans hlt q)
      · exact List.lt_irrefl _
    | false =>
      rw [if_neg (by simp)]
      have hlt : ¬ P.getD (argBest (textBt P) j) [] < P.getD (j + 1) [] := by simpa [textBt] using hb
      rcases Nat.lt_or_eq_of_le h with h | rfl
      · exact ih k (by omega)
      · exact hlt
theorem textBest_lt (bt : Nat → Nat → Bool) : ∀ j : Nat, argBest bt j ≤ j
  | 0 => Nat.le_refl _
  | j + 1 => by
    have := textBest_lt bt j
    rw [argBest]
    split <;> omega
theorem text_over {P : List (List Nat)} (hne : P ≠ []) (x : List Nat) : decide (P.getD (argBest (textBt P) (P.length - 1)) [] < x) = decide (∀ y ∈ P, y < x) := by
  have hpos := List.length_pos_iff.mpr hne
  have hb := textBest_lt (textBt P) (P.length - 1)
  refine decide_eq_decide.mpr ⟨fun h y hy => ?_, fun h => h _ ?_⟩
  · obtain ⟨k, hk⟩ := List.mem_iff_getElem?.mp hy
    have hkl := (List.getElem?_eq_some_iff.mp hk).1
    have h1 := textBest P (P.length - 1) k (by omega)
    rw [List.getD_eq_getElem?_getD, List.getD_eq_getElem?_getD, hk] at h1
    rw [List.getD_eq_getElem?_getD] at h
    exact List.lt_of_le_of_lt (List.not_lt.mp h1) h
  · rw [List.getD_eq_getElem?_getD, List.getElem?_eq_getElem (by omega)]
    exact List.getElem_mem _
structure Law5 (w : World) (s₀ : Shared) (g₀ g : Hp) (L : Addr) (s : Shared) (Lt Al : Addr) (u1 u2 : Value) (ys : List Value) (k m : Nat) (X Y : List (List Nat)) : Prop where
  S : ∃ lc, St w s₀ g₀ g L lc [] s
  cell : g (L + 2) = some (cellO (some (.ref Lt)))
  lt : g Lt = some (lst [u1, u2] k)
  x : LetRow g u1 X
  y : LetRow g u2 Y
  cella : g (L + 3) = some (cellO (some (.ref Al)))
  al : g Al = some (lst ys m)
  rows : Lol g ys [aloneF X Y (dbl X).length, aloneF Y X (dbl Y).length]
section
variable {prog : Program} {w : World} {n : Nat} {A : Around} {s₀ s : Shared} {g₀ g : Hp} {L : Addr}
theorem r_oneMinus {own : List (Addr × Obj)} {lc : List (Str × Value)} {E : Value → Shared → Prop} {q : Nat} {t u : Tok} {Q : Value → Shared → Prop} (S : St w s₀ g₀ g L lc own s) (hq : q < 2) (h : ∀ t' s', St w s₀ g₀ g L lc own s' → Q (.int ((1 - q : Nat) : Int) t') s') : wpAny (model prog w) A (binaryOp .Sub (.int 1 t) (.int (q : Nat) u)) Q E s :=
  r_sub_int S fun t' s' S' => by
    rw [show (1 : Int) - (q : Nat) = ((1 - q : Nat) : Int) by omega]
    exact h t' s' S'
theorem any_texts (V : List (List Nat)) (y : List Nat) : (V.map mk).any (· == mk y) = decide (y ∈ V) := by
  rw [List.any_map, Bool.eq_iff_iff, List.any_eq_true, decide_eq_true_eq]
  constructor
  · rintro ⟨z, hz, e⟩
    have e1 : mk z = mk y := by simpa using e
    rw [mk_inj.mp e1] at hz
    exact hz
  · intro h
    exact ⟨y, h, by simp⟩
theorem dbl_mem {X : List (List Nat)} {x : List Nat} (h : x ∈ dbl X) : x ∈ X := by
  induction X with
  | nil => cases h
  | cons y X ih =>
    rcases List.mem_cons.mp h with rfl | h
    · exact .head _
    · rcases List.mem_cons.mp h with rfl | h
      · exact .head _
      · exact .tail _ (ih h)
theorem cmp_texts {vs : List Value} {P : List (List Nat)} (h : StrsAre vs (P.map mk)) : CmpH prog w .Gt g vs (textBt P) := by
  intro i j vi vj A' m s' Q E hi hj hA' hs hq
  obtain ⟨zi, ti, hzi, rfl⟩ := getElem_are h hi
  obtain ⟨zj, tj, hzj, rfl⟩ := getElem_are h hj
  rw [List.getElem?_map] at hzi hzj
  obtain ⟨x, hx, rfl⟩ := Option.map_eq_some_iff.mp hzi
  obtain ⟨y, hy, rfl⟩ := Option.map_eq_some_iff.mp hzj
  refine rc_gt ?_
  unfold textBt at hq
  rw [List.getD_eq_getElem?_getD, List.getD_eq_getElem?_getD, hx, hy] at hq
  exact hq
theorem let_row {u1 u2 : Value} {X Y : List (List Nat)} (hX : LetRow g u1 X) (hY : LetRow g u2 Y) {q : Nat} (hq : q < 2) : ∃ (a b : Addr) (vs us : List Value) (ka kb : Nat) (P R : List (List Nat)), [u1, u2][q]? = some (.ref a) ∧ [u1, u2][1 - q]? = some (.ref b) ∧ g a = some (lst vs ka) ∧ g b = some (lst us kb) ∧ StrsAre vs ((dbl P).map mk) ∧ StrsAre us ((dbl R).map mk) ∧ TX P ∧ TX R ∧ [X, Y][q]? = some P ∧ [X, Y][1 - q]? = some R := by
  obtain ⟨a, vs, k, rfl, h1, h2, h3⟩ := hX
  obtain ⟨b, us, m, rfl, h4, h5, h6⟩ := hY
  match q, hq with
  | 0, _ => exact ⟨a, b, vs, us, k, m, X, Y, rfl, rfl, h1, h4, h2, h5, h3, h6, rfl, rfl⟩
  | 1, _ => exact ⟨b, a, us, vs, m, k, Y, X, rfl, rfl, h4, h1, h5, h2, h6, h3, rfl, rfl⟩
set_option maxHeartbeats 8000000 in
theorem law5 {Q : Value → Shared → Prop} {Lt : Addr} {u1 u2 : Value} {k : Nat} {X Y : List (List Nat)} (hA : AOk A (n + 29)) (H : Law4 w s₀ g₀ g L s Lt u1 u2 k X Y)
    (K : ∀ s' g' Al ys m, Law5 w s₀ g₀ g' L s' Lt Al u1 u2 ys k m X Y → wpAny (model prog w) A (execs (lawT.1.1.drop 10) (lawE L)) (fun fl s' => Q (retv fl) s') F0 s') :
    wpAny (model prog w) A (execs (lawT.1.1.drop 9) (lawE L)) (fun fl s' => Q (retv fl) s') F0 s := by
  have hbig : sizeLine = 16777216 := rfl
  obtain ⟨⟨lc, S⟩, hcell, hlt, hX, hY⟩ := H
  simp only [lawE, lawT, List.drop]
  repeat walk_at "m1"
  refine r_range S fun zr tr vr s hzr S => ?_
  have i1 := St.leI (w := w) S hzr
  have hr := S.top
  generalize hG : ins g zr _ = g1 at S i1 hr
  clear hG
  repeat walk_at "m1"
  refine r_compR (m := 2) (fun i ys g => Lol g ys (([aloneF X Y (dbl X).length, aloneF Y X (dbl Y).length] : List (List (List Nat))).take i)) (fun h l => h.mono l) (fun lc => lc = []) (fun C cs => ∃ v, cs = [(C + 1, cellO v)]) hA S hr (by rw [hbig]; exact Nat.le_of_ble_eq_true rfl) .nil rfl (fun C => ⟨none, rfl⟩) ?_ ?_
  · rintro q tq ys g' C D' k' lc' cs It oI s' hq lg hJ rfl ⟨cv, rfl⟩ hyl S
    refine CTurn.gen fun Yq hYq => ?_
    obtain ⟨a, b, vs, us, ka, kb, P, R, hqa, hqb, ha, hb, hvs, hus, hTP, hTR, hqP, hqR⟩ := let_row hX hY hq
    have hvl := hvs.length
    have hul := hus.length
    rw [List.length_map, dbl_len] at hvl hul
    have hP9 := hTP.2.1
    have hR9 := hTR.2.1
    refine r_asgnN ?_
    refine r_storeC S.rot3 fun s S => ?_
    have lgi := i1.trans lg
    repeat walk_at "m1"
    refine r_cell (S.at (lgi _ _ hcell)) ?_
    repeat walk_at "m1"
    refine r_cell (S.ob _ (.head _)) ?_
    refine r_itemL (k := q) (S.at (lgi _ _ hlt)) hqa (by omega) ?_
    repeat walk_at "m1"
    refine r_lenL S (S.at (lgi _ _ ha)) (by rw [hbig]; omega) fun tl s S => ?_
    repeat walk_at "m1"
    refine r_range S fun zi ti vi s hzi S => ?_
    have ir := St.leI (w := w) S hzi
    have hri := S.top
    generalize hG : ins g' zi _ = g2 at S ir hri
    clear hG
    repeat walk_at "m1"
    have S0 := S
    have lg2 := lgi.trans ir
    refine r_compR (fun i ys g => StrsAre ys ((aloneF P R i).map mk)) (fun h l => h) (LcOr [] "p") (fun _ cs => cs = []) hA S hri (by rw [hbig]; omega) .nil (.inl rfl) (fun _ => rfl) ?_ ?_
    · rintro p tp ys3 g3 C3 D3 k3 lc3 cs3 It3 oI3 s3 hp lg3 hJ3 hlc rfl hyl3 S
      refine CTurn.gen fun Yq hYq => ?_
      refine r_asgnN ?_
      repeat walk_at "m1"
      have hl2 : setl "p" (.int p tp) lc3 = ([("p", .int p tp)] : List (Str × Value)) := by rcases hlc with rfl | ⟨u, rfl⟩ <;> rfl
      have S := S.relc hl2
      have lgg := lg2.trans lg3
      obtain ⟨v, hv⟩ : ∃ v, vs[p]? = some v := ⟨vs[p], List.getElem?_eq_getElem _⟩
      obtain ⟨zx, tx, hzx, rfl⟩ := getElem_are hvs hv
      rw [List.getElem?_map] at hzx
      obtain ⟨x, hx, rfl⟩ := Option.map_eq_some_iff.mp hzx
      repeat walk_at "m1"
      refine r_cell (S.at (lgg _ _ hcell)) ?_
      repeat walk_at "m1"
      refine r_cell (St.obIn S0 (.head _) S) ?_
      refine r_itemL (k := q) (S.at (lgg _ _ hlt)) hqa (by omega) ?_
      repeat walk_at "m1"
      refine r_itemL (k := p) (S.at (lgg _ _ ha)) hv (by omega) ?_
      repeat walk_at "m1"
      refine r_cell (S.at (lgg _ _ hcell)) ?_
      repeat walk_at "m1"
      refine r_cell (St.obIn S0 (.head _) S) ?_
      repeat walk_at "m1"
      refine r_oneMinus S hq fun tm s S => ?_
      refine r_itemL (k := 1 - q) (S.at (lgg _ _ hlt)) hqb (by omega) ?_
      repeat walk_at "m1"
      refine notin_list_strs (vs := us) ⟨_, S.at (lgg _ _ hb), rfl, _, rfl⟩ hus ?_
      repeat walk_at "m1"
      rw [any_texts]
      by_cases hin : x ∈ dbl R
      · rw [decide_eq_true hin]
        try refine r_backV hYq ?_
        refine ⟨_, _, [], Le.refl _, ?_, .inr ⟨_, rfl⟩, rfl, S⟩
        rw [aloneF, hx]
        try dsimp only
        rw [if_pos hin, List.append_nil]
        exact hJ3
      · rw [decide_eq_false hin]
        simp only [Bool.not_false]
        repeat walk_at "m1"
        refine r_mod S (by decide) fun tm2 s S => ?_
        repeat walk_at "m1"
        refine PyProof.Rows.eq_int ?_
        repeat walk_at "m1"
        cases hm2 : ((p : Int) % 2 == 0) with
        | true =>
          have hc1 : p % 2 = 0 := by have := beq_iff_eq.mp hm2; omega
          try dsimp only
          repeat walk_at "m1"
          refine r_cell (S.at ((lgg.trans (Le.refl g3)) _ _ hcell)) ?_
          repeat walk_at "m1"
          refine r_cell (St.obIn S0 (.head _) S) ?_
          refine r_itemL (k := q) (S.at ((lgg.trans (Le.refl g3)) _ _ hlt)) hqa (by omega) ?_
          repeat walk_at "m1"
          refine r_itemL (k := p) (S.at ((lgg.trans (Le.refl g3)) _ _ ha)) hv (by omega) ?_
          try refine r_backV hYq ?_
          refine ⟨_, _, [], (Le.refl g3), ?_, .inr ⟨_, rfl⟩, rfl, S⟩
          rw [aloneF, hx]
          try dsimp only
          rw [if_neg hin, if_pos (.inl hc1), List.map_append]
          exact hJ3.append' (.cons _ _ .nil)
        | false =>
          have hc1 : ¬ p % 2 = 0 := fun e => by rw [beq_eq_false_iff_ne] at hm2; exact hm2 (by omega)
          try dsimp only
          repeat walk_at "m1"
          refine r_cell (S.at (lgg _ _ hcell)) ?_
          repeat walk_at "m1"
          refine r_cell (St.obIn S0 (.head _) S) ?_
          repeat walk_at "m1"
          refine r_oneMinus S hq fun tm3 s S => ?_
          refine r_itemL (k := 1 - q) (S.at (lgg _ _ hlt)) hqb (by omega) ?_
          repeat walk_at "m1"
          refine r_newB S (Nat.le_of_ble_eq_true rfl) fun az s haz S => ?_
          have i3 := St.leI (w := w) S haz
          have hz := S.top
          generalize hG : ins g3 az _ = g4 at S i3 hz
          clear hG
          refine r_eqStrs (P := dbl R) (R := []) hA (S.at ((lgg.trans i3) _ _ hb)) (S.at hz) hus .nil (fun y hy => (hTR.2.2 y (dbl_mem hy)).1) (fun _ h => nomatch h) ?_
          repeat walk_at "m1"
          by_cases hR0 : dbl R = []
          · rw [decide_eq_true hR0]
            try dsimp only
            repeat walk_at "m1"
            refine r_cell (S.at ((lgg.trans i3) _ _ hcell)) ?_
            repeat walk_at "m1"
            refine r_cell (St.obIn S0 (.head _) S) ?_
            refine r_itemL (k := q) (S.at ((lgg.trans i3) _ _ hlt)) hqa (by omega) ?_
            repeat walk_at "m1"
            refine r_itemL (k := p) (S.at ((lgg.trans i3) _ _ ha)) hv (by omega) ?_
            try refine r_backV hYq ?_
            refine ⟨_, _, [], i3, ?_, .inr ⟨_, rfl⟩, rfl, S⟩
            rw [aloneF, hx]
            try dsimp only
            rw [if_neg hin, if_pos (.inr (.inl hR0)), List.map_append]
            exact hJ3.append' (.cons _ _ .nil)
          · rw [decide_eq_false hR0]
            try dsimp only
            repeat walk_at "m1"
            refine r_cell (S.at ((lgg.trans i3) _ _ hcell)) ?_
            repeat walk_at "m1"
            refine r_cell (St.obIn S0 (.head _) S) ?_
            refine r_itemL (k := q) (S.at ((lgg.trans i3) _ _ hlt)) hqa (by omega) ?_
            repeat walk_at "m1"
            refine r_itemL (k := p) (S.at ((lgg.trans i3) _ _ ha)) hv (by omega) ?_
            repeat walk_at "m1"
            refine r_cell (S.at ((lgg.trans i3) _ _ hcell)) ?_
            repeat walk_at "m1"
            refine r_cell (St.obIn S0 (.head _) S) ?_
            repeat walk_at "m1"
            refine r_oneMinus S hq fun tm4 s S => ?_
            refine r_itemL (k := 1 - q) (S.at ((lgg.trans i3) _ _ hlt)) hqb (by omega) ?_
            repeat walk_at "m1"
            have hune : us ≠ [] := fun e => by
              rw [e] at hus
              have := hus.length
              rw [List.length_map] at this
              exact hR0 (List.length_eq_zero_iff.mp this.symm)
            refine r_max (n := n) (textBt (dbl R)) (hA.less (by omega)) (cmp_texts hus) S ((lgg.trans i3) _ _ hb) hune fun vm s hvm S => ?_
            obtain ⟨zm, tzm, hzm, rfl⟩ := getElem_are hus hvm
            rw [List.getElem?_map] at hzm
            obtain ⟨ym, hym, rfl⟩ := Option.map_eq_some_iff.mp hzm
            refine r_gtS ?_
            have hmax := text_over hR0 x
            rw [show us.length = (dbl R).length by have := hus.length; rwa [List.length_map] at this] at hym
            rw [List.getD_eq_getElem?_getD, hym, Option.getD_some] at hmax
            rw [hmax]
            repeat walk_at "m1"
            by_cases hall : ∀ y ∈ dbl R, y < x
            · rw [decide_eq_true hall]
              try dsimp only
              repeat walk_at "m1"
              refine r_cell (S.at ((lgg.trans i3) _ _ hcell)) ?_
              repeat walk_at "m1"
              refine r_cell (St.obIn S0 (.head _) S) ?_
              refine r_itemL (k := q) (S.at ((lgg.trans i3) _ _ hlt)) hqa (by omega) ?_
              repeat walk_at "m1"
              refine r_itemL (k := p) (S.at ((lgg.trans i3) _ _ ha)) hv (by omega) ?_
              try refine r_backV hYq ?_
              refine ⟨_, _, [], i3, ?_, .inr ⟨_, rfl⟩, rfl, S⟩
              rw [aloneF, hx]
              try dsimp only
              rw [if_neg hin, if_pos (.inr (.inr hall)), List.map_append]
              exact hJ3.append' (.cons _ _ .nil)
            · rw [decide_eq_false hall]
              try dsimp only
              repeat walk_at "m1"
              try refine r_backV hYq ?_
              refine ⟨_, _, [], i3, ?_, .inr ⟨_, rfl⟩, rfl, S⟩
              rw [aloneF, hx]
              try dsimp only
              rw [if_neg hin, if_neg (by rintro (h | h | h) <;> contradiction), List.append_nil]
              exact hJ3
    refine compFin_none (fun g5 D5 ys5 k5 s5 le5 hD5 hgD5 hys5 S => ?_)
    try refine r_backV hYq ?_
    refine ⟨g5, [], [(C + 1, cellO (some (.int q tq)))], ir.trans le5, ?_, rfl, ⟨_, rfl⟩, S.rot3'⟩
    have e : ([aloneF X Y (dbl X).length, aloneF Y X (dbl Y).length] : List (List (List Nat)))[q]? = some (aloneF P R vs.length) := by
      rw [hvl, ← dbl_len]
      match q, hq, hqP, hqR with
      | 0, _, hqP, hqR => simp at hqP hqR; subst hqP hqR; rfl
      | 1, _, hqP, hqR => simp at hqP hqR; subst hqP hqR; rfl
    rw [List.take_add_one, e]
    exact (hJ.mono (ir.trans le5)).snoc hD5 hys5
  refine compFin_none (fun g8 D8 ys8 k8 s le8 hD8 hgD8 hys8 S => ?_)
  have i8 := i1.trans le8
  refine r_storeC S fun s S => ?_
  try dsimp only
  obtain ⟨nc3, S⟩ := St.lay1 S
  have lec3 := St.leI (w := w) S nc3
  have hcell3 := S.top
  generalize hG3 : ins g8 (L + 3) _ = g9 at S lec3 hcell3
  clear hG3
  have i9 := i8.trans lec3
  refine r_back hQg ?_
  repeat subst hQo
  exact K s g9 D8 ys8 k8 ⟨⟨_, S⟩, i9 _ _ hcell, i9 _ _ hlt, hX.mono i9, hY.mono i9, hcell3, lec3 _ _ hD8, hys8.mono lec3⟩
end
end Mine
end
section
open PySem PySem.W PySem.Calls PyProof.Rows
set_option maxRecDepth 100000
set_option linter.unusedSimpArgs false
set_option linter.unusedVariables false
namespace Mine
section
variable {prog : Program} {w : World} {n : Nat} {A : Around} {s₀ s : Shared} {g₀ g g' : Hp} {L : Addr} {lc : List (Str × Value)} {own : List (Addr × Obj)} {E : Value → Shared → Prop}
/-- a row of pairs of rows of texts -/
inductive TPs (g : Hp) : List Value → List (List (List Nat) × List (List Nat)) → Prop
  | nil : TPs g [] []
  | cons {T m u mvs uvs km ku P R vs r} : g T = some (tup [.ref m, .ref u]) → g m = some (lst mvs km) → g u = some (lst uvs ku) → StrsAre mvs (P.map mk) → StrsAre uvs (R.map mk) → TPs g vs r → TPs g (.ref T :: vs) ((P, R) :: r)
theorem TPs.mono {vs : List Value} {r : List (List (List Nat) × List (List Nat))} (h : TPs g vs r) (l : Le g g') : TPs g' vs r := by
  induction h with
  | nil => exact .nil
  | cons e1 e2 e3 h1 h2 _ ih => exact .cons (l _ _ e1) (l _ _ e2) (l _ _ e3) h1 h2 ih
theorem TPs.append {vs us : List Value} {r q : List (List (List Nat) × List (List Nat))} (h : TPs g vs r) (k : TPs g us q) : TPs g (vs ++ us) (r ++ q) := by
  induction h with
  | nil => exact k
  | cons e1 e2 e3 h1 h2 _ ih => exact .cons e1 e2 e3 h1 h2 ih
noncomputable def txD (P : List (List Nat)) : PyData := .list ((P.map mk).map .str)
noncomputable def tpD (r : List (List (List Nat) × List (List Nat))) : List PyData := r.map fun p => .tuple [txD p.1, txD p.2]
theorem TPs.reads {h : Heap} {vs : List Value} {r : List (List (List Nat) × List (List Nat))} (H : TPs g vs r) (sb : Sub g h) : ∃ as, ReadsAll h vs (tpD r) as := by
  induction H with
  | nil => exact ⟨_, .nil⟩
  | cons e1 e2 e3 h1 h2 _ ih =>
    obtain ⟨as, ih⟩ := ih
    exact ⟨_, .cons (.tuple (sb _ _ e1) rfl rfl (.cons (.list (sb _ _ e2) rfl rfl (by simpa using StrsAre.reads h h1)) (.cons (.list (sb _ _ e3) rfl rfl (by simpa using StrsAre.reads h h2)) .nil))) ih⟩
noncomputable def TxOk (P : List (List Nat)) : Prop := ∀ p ∈ P, OkL p
theorem tpD_can : ∀ r : List (List (List Nat) × List (List Nat)), (∀ p ∈ r, TxOk p.1 ∧ TxOk p.2) → PyData.canLayAll0 (tpD r) = true
  | [], _ => rfl
  | p :: r, h => by
    show ((PyData.canLayAll0 ((p.1.map mk).map .str) && (PyData.canLayAll0 ((p.2.map mk).map .str) && true)) && PyData.canLayAll0 (tpD r)) = true
    rw [canLay_strs (h p (.head _)).1, canLay_strs (h p (.head _)).2, tpD_can r fun q hq => h q (.tail _ hq)]
    rfl
theorem tpD_depth : ∀ r : List (List (List Nat) × List (List Nat)), PyData.depthAll (tpD r) ≤ 2
  | [] => by decide
  | p :: r => by
    show max (max (PyData.depthAll ((p.1.map mk).map .str) + 1) (max (PyData.depthAll ((p.2.map mk).map .str) + 1) 0) + 1) (PyData.depthAll (tpD r)) ≤ 2
    rw [depthAll_strs', depthAll_strs']
    exact Nat.max_le.mpr ⟨by decide, tpD_depth r⟩
theorem r_eqTPs {a b : Addr} {vs us : List Value} {k m : Nat} {r : List (List (List Nat) × List (List Nat))} {Q : Value → Shared → Prop} (hA : AOk A n) (S : St w s₀ g₀ g L lc own s) (ha : g a = some (lst vs k)) (hb : g b = some (lst us m)) (h1 : TPs g vs r) (h2 : TPs g us r)
    (hok : ∀ p ∈ r, TxOk p.1 ∧ TxOk p.2) (h : Q (.bool true) s) : wpAny (model prog w) A (compareOp .Eq (.ref a) (.ref b)) Q E s := by
  obtain ⟨as, R1⟩ := h1.reads S.sub
  obtain ⟨bs, R2⟩ := h2.reads S.sub
  have hsh : PySem.SeqAt.shaped (.list (tpD r)) = true := shaped_list (tpD_can r hok) (tpD_depth r) (by decide)
  refine eq_dataH (.list (S.at ha) rfl rfl (by simpa using R1)) (.list (S.at hb) rfl rfl (by simpa using R2)) hsh hsh hA.room64 ?_
  rw [PySem.SeqAt.eqv_refl _ (by exact tpD_can r hok)]
  exact h
end
section
variable {prog : Program} {w : World} {n : Nat} {A : Around} {s₀ s : Shared} {g₀ g : Hp} {L : Addr}
theorem alone_mem (X Y : List (List Nat)) : ∀ (i : Nat) (x : List Nat), x ∈ aloneF X Y i → x ∈ dbl X
  | 0, x, h => by simp [aloneF] at h
  | i + 1, x, h => by
    rcases List.mem_append.mp h with h | h
    · exact alone_mem X Y i x h
    · split at h
      · next z hz =>
        split at h
        · cases h
        · split at h
          · rw [List.mem_singleton.mp h]; exact List.mem_of_getElem? hz
          · cases h
      · cases h
theorem TX.nodup {X : List (List Nat)} (h : TX X) : X.Nodup := List.Pairwise.imp (fun {a b} (hab : a < b) (e : a = b) => by subst e; exact List.lt_irrefl _ hab) h.1
set_option maxHeartbeats 8000000 in
theorem law6 {Q : Value → Shared → Prop} {Lt Al : Addr} {u1 u2 : Value} {ys : List Value} {k m : Nat} {X Y : List (List Nat)} (hA : AOk A (n + 29)) (hfr : A.frames = some [lawE L]) (H : Law5 w s₀ g₀ g L s Lt Al u1 u2 ys k m X Y)
    (hal : ∀ P R : List (List Nat), TX P → TX R → sd P R = (aloneF P R (dbl P).length, aloneF R P (dbl R).length))
    (K : ∀ s' g' lc, St w s₀ g₀ g' L lc [] s' → Q (.bool true) s') :
    wpAny (model prog w) A (execs (lawT.1.1.drop 10) (lawE L)) (fun fl s' => Q (retv fl) s') F0 s := by
  have hbig : sizeLine = 16777216 := rfl
  obtain ⟨⟨lc, S⟩, hcell, hlt, hX, hY, hcella, hAl, hrows⟩ := H
  simp only [lawE, lawT, List.drop] at hfr ⊢
  repeat walk_at "m1"
  refine r_range S fun zr tr vr s hzr S => ?_
  have i1 := St.leI (w := w) S hzr
  have hr := S.top
  generalize hG : ins g zr _ = g1 at S i1 hr
  clear hG
  repeat walk_at "m1"
  refine r_compRX (m := 2) (fun i ys g => TPs g ys ([sd X Y, sd Y X].take i)) (fun h l => h.mono l) (LcOr [] "q") (fun _ cs => cs = []) hA S hr (by rw [hbig]; exact Nat.le_of_ble_eq_true rfl) .nil (.inl rfl) (fun _ => rfl) ?_ ?_
  · rintro q tq ys1 g' C D' k' lc' cs It oI oL s' hq lg hJ hlc rfl hyl hoL S
    refine CTurn.gen fun Yq hYq => ?_
    obtain ⟨a, b, vs, us, ka, kb, P, R, hqa, hqb, ha, hb, hvs, hus, hTP, hTR, hqP, hqR⟩ := let_row hX hY hq
    have hP9 := hTP.2.1
    have hR9 := hTR.2.1
    have lgi := i1.trans lg
    refine r_asgnN ?_
    repeat walk_at "m1"
    have hl2 : setl "q" (.int q tq) lc' = ([("q", .int q tq)] : List (Str × Value)) := by rcases hlc with rfl | ⟨u, rfl⟩ <;> rfl
    have S := S.relc hl2
    repeat walk_at "m1"
    refine r_cell (S.at (lgi _ _ hcell)) ?_
    repeat walk_at "m1"
    refine r_itemL (k := q) (S.at (lgi _ _ hlt)) hqa (by omega) ?_
    repeat walk_at "m1"
    refine r_cell (S.at (lgi _ _ hcell)) ?_
    repeat walk_at "m1"
    refine r_oneMinus S hq fun tm s S => ?_
    refine r_itemL (k := 1 - q) (S.at (lgi _ _ hlt)) hqb (by omega) ?_
    repeat walk_at "m1"
    refine ⟨S.ge, c_sld (n := n) (hA.less (by omega)) hfr rfl rfl S hoL (lgi _ _ ha) (lgi _ _ hb) hvs hus hTP.nodup hTR.nodup (by omega) (by omega) fun T mm uu mvs uvs km ku g2 oL2 s le2 hsl hT hm hu hmv huv S => ?_⟩
    try refine r_backV hYq ?_
    refine ⟨g2, _, [], oL2, le2, ?_, .inr ⟨_, rfl⟩, rfl, hsl, S⟩
    have e : [sd X Y, sd Y X][q]? = some ((sd P R).1, (sd P R).2) := by
      match q, hq, hqP, hqR with
      | 0, _, hqP, hqR => simp at hqP hqR; subst hqP hqR; rfl
      | 1, _, hqP, hqR => simp at hqP hqR; subst hqP hqR; rfl
    rw [List.take_add_one, e]
    exact (hJ.mono le2).append (.cons hT hm hu hmv huv .nil)
  intro g2 D2 ys2 k2 s le2 hD2 hys2 S
  have i2 := i1.trans le2
  repeat walk_at "m1"
  refine r_range S fun zr2 tr2 vr2 s hzr2 S => ?_
  have j1 := St.leI (w := w) S hzr2
  have hr2 := S.top
  generalize hG : ins g2 zr2 _ = g3 at S j1 hr2
  clear hG
  have i3 := i2.trans j1
  repeat walk_at "m1"
  have hyl2 := hrows.length
  refine r_compR (m := 2) (fun i ys g => TPs g ys ([(aloneF X Y (dbl X).length, aloneF Y X (dbl Y).length), (aloneF Y X (dbl Y).length, aloneF X Y (dbl X).length)].take i)) (fun h l => h.mono l) (LcOr [] "q") (fun _ cs => cs = []) hA S hr2 (by rw [hbig]; exact Nat.le_of_ble_eq_true rfl) .nil (.inl rfl) (fun _ => rfl) ?_ ?_
  · rintro q tq ys1 g' C D' k' lc' cs It oI s' hq lg hJ hlc rfl hyl S
    refine CTurn.gen fun Yq hYq => ?_
    obtain ⟨v1, hv1⟩ : ∃ v, ys[q]? = some v := ⟨ys[q]'(by rw [hyl2]; exact hq), List.getElem?_eq_getElem _⟩
    obtain ⟨v2, hv2⟩ : ∃ v, ys[1 - q]? = some v := ⟨ys[1 - q]'(by rw [hyl2]; show 1 - q < 2; omega), List.getElem?_eq_getElem _⟩
    obtain ⟨a, vs, ka, P, rfl, hqP, ha, hvs⟩ := hrows.at hv1
    obtain ⟨b, us, kb, R, rfl, hqR, hb, hus⟩ := hrows.at hv2
    have lgi := i3.trans lg
    refine r_asgnN ?_
    repeat walk_at "m1"
    have hl2 : setl "q" (.int q tq) lc' = ([("q", .int q tq)] : List (Str × Value)) := by rcases hlc with rfl | ⟨u, rfl⟩ <;> rfl
    have S := S.relc hl2
    repeat walk_at "m1"
    refine r_cell (S.at (lgi _ _ hcella)) ?_
    repeat walk_at "m1"
    refine r_itemL (k := q) (S.at (lgi _ _ hAl)) hv1 (by omega) ?_
    repeat walk_at "m1"
    refine r_cell (S.at (lgi _ _ hcella)) ?_
    repeat walk_at "m1"
    refine r_oneMinus S hq fun tm s S => ?_
    refine r_itemL (k := 1 - q) (S.at (lgi _ _ hAl)) hv2 (by omega) ?_
    repeat walk_at "m1"
    have j3 := St.leI (w := w) S hN
    have hT := S.top
    generalize hG : ins g' aN _ = g5 at S j3 hT
    clear hG
    try refine r_backV hYq ?_
    refine ⟨g5, _, [], j3, ?_, .inr ⟨_, rfl⟩, rfl, S⟩
    have e : [(aloneF X Y (dbl X).length, aloneF Y X (dbl Y).length), (aloneF Y X (dbl Y).length, aloneF X Y (dbl X).length)][q]? = some (P, R) := by
      match q, hq, hqP, hqR with
      | 0, _, hqP, hqR => simp at hqP hqR; subst hqP hqR; rfl
      | 1, _, hqP, hqR => simp at hqP hqR; subst hqP hqR; rfl
    rw [List.take_add_one, e]
    exact (hJ.mono j3).append (.cons hT ((lgi.trans j3) _ _ ha) ((lgi.trans j3) _ _ hb) hvs hus .nil)
  refine compFin_none (fun g4 D4 ys4 k4 s le4 hD4 hgD4 hys4 S => ?_)
  obtain ⟨_, _, _, _, _, _, hTX⟩ := hX
  obtain ⟨_, _, _, _, _, _, hTY⟩ := hY
  have e1 := hal X Y hTX hTY
  have e2 := hal Y X hTY hTX
  rw [e1, e2] at hys2
  refine r_eqTPs hA S ((j1.trans le4) _ _ hD2) hD4 (hys2.mono (j1.trans le4)) hys4 ?_ ?_
  · intro p hp
    have o1 : TxOk (aloneF X Y (dbl X).length) := fun x hx => (hTX.2.2 x (dbl_mem (alone_mem _ _ _ _ hx))).1
    have o2 : TxOk (aloneF Y X (dbl Y).length) := fun x hx => (hTY.2.2 x (dbl_mem (alone_mem _ _ _ _ hx))).1
    rcases List.mem_cons.mp hp with rfl | hp
    · exact ⟨o1, o2⟩
    · rw [List.mem_singleton.mp hp]; exact ⟨o2, o1⟩
  repeat walk_at "m1"
  exact K s g4 lc S
end
end Mine
end
section
open PySem PySem.W PySem.Calls PyProof.Rows
set_option maxRecDepth 100000
set_option linter.unusedSimpArgs false
set_option linter.unusedVariables false
namespace Mine
section
variable {prog : Program} {w : World} {n : Nat} {A : Around} {s : Shared} {g : Hp}
theorem law_all {Q : Value → Shared → Prop} {nl : Addr} {nvs : List Value} {k : Nat} {ns : List Int}
    (heq : ∀ (W : List (List Nat)), WaysOk W 9 → ∀ y0 ∈ W, ∀ R, RulesOk R 16 → allowF (straightL y0) R = allowedF (straightL y0) R)
    (hal : ∀ P R : List (List Nat), TX P → TX R → sd P R = (aloneF P R (dbl P).length, aloneF R P (dbl R).length))
    (hA : AOk A (n + 30)) (hfr : A.frames = some []) (G : GE w s.heap) (sb : Sub g s.heap) (T : Tab g s.heap) (hnl : g nl = some (lst nvs k)) (hI : IntsAre nvs ns) (hn : ns.length ≤ 63)
    (K : ∀ s' g' L lc, St w s g g' L lc [] s' → Q (.bool true) s') :
    wpAny (model prog w) A (call (.ref 226) [.ref nl]) Q F0 s := by
  refine law1 (n := n) hA hfr G sb T hnl hI hn fun A' L s1 g1 rs l1 l2 D v1 v2 svs k1 k2 kd R1 R2 W hfrA hA' X1 => ?_
  refine law2 (n := n) hA' X1 fun s2 g2 e1 e2 e3 X2 => ?_
  have hwo := X2.wo
  refine law3 (n := n) hA' X2 (heq W hwo) fun s3 g3 T3 ts kt X3 => ?_
  refine law4 (n := n) hA' X3 (by rw [toldRow, List.length_map, List.length_map]) (by rw [toldRow, List.length_map, List.length_map]) fun s4 g4 Lt u1 u2 k4 X Y X4 => ?_
  refine law5 (n := n) hA' X4 fun s5 g5 Al ys m X5 => ?_
  exact law6 (n := n) hA' hfrA X5 hal fun s6 g6 lc S => K s6 g6 L lc S
end
end Mine
end
section
open PySem PySem.W PySem.Calls PyProof.Rows
set_option maxRecDepth 100000
set_option linter.unusedSimpArgs false
set_option linter.unusedVariables false
namespace Mine
noncomputable def fA (Y : List (List Nat)) (x : List Nat) : List (List Nat) := if x ∈ Y then [] else if ∀ y ∈ Y, y < x then [x, x] else [x]
theorem fA_cons {e y : List Nat} {E : List (List Nat)} (h : e < y) : fA (e :: E) y = fA E y := by
  have hne : y ≠ e := fun q => by subst q; exact List.lt_irrefl _ h
  unfold fA
  have m1 : y ∈ e :: E ↔ y ∈ E := by simp [hne]
  have m2 : (∀ z ∈ e :: E, z < y) ↔ ∀ z ∈ E, z < y := ⟨fun q z hz => q z (.tail _ hz), fun q z hz => (List.mem_cons.mp hz).elim (fun r => r ▸ h) (q z)⟩
  simp only [m1, m2]
theorem flat_congr {f g : List Nat → List (List Nat)} {X : List (List Nat)} (h : ∀ x ∈ X, f x = g x) : X.flatMap f = X.flatMap g := by
  induction X with
  | nil => rfl
  | cons x X ih => rw [List.flatMap_cons, List.flatMap_cons, h x (.head _), ih fun y hy => h y (.tail _ hy)]
theorem flat_nil (X : List (List Nat)) : X.flatMap (fA []) = dbl X := by
  induction X with
  | nil => rfl
  | cons x X ih =>
    rw [List.flatMap_cons, ih]
    simp [fA, dbl]
theorem sd_plain : ∀ X Y : List (List Nat), Rising X → Rising Y → sd X Y = (X.flatMap (fA Y), Y.flatMap (fA X)) := by
  intro X Y
  induction X, Y using sd.induct with
  | case1 A =>
    intro _ _
    rw [sd_nil, flat_nil]
    rfl
  | case2 e E =>
    intro _ _
    rw [sd_nil2, flat_nil]
    rfl
  | case3 e E a A hlt ih =>
    intro hX hY
    have hX' := List.pairwise_cons.mp hX
    have hY' := List.pairwise_cons.mp hY
    have ih' := ih hX'.2 hY
    unfold sd
    rw [if_pos hlt, ih']
    show (e :: E.flatMap (fA (a :: A)), (a :: A).flatMap (fA E)) = (fA (a :: A) e ++ E.flatMap (fA (a :: A)), (a :: A).flatMap (fA (e :: E)))
    have hall : ∀ y ∈ a :: A, e < y := fun y hy => (List.mem_cons.mp hy).elim (fun r => r ▸ hlt) fun h => List.lt_trans hlt (hY'.1 y h)
    have h1 : fA (a :: A) e = [e] := by
      unfold fA
      rw [if_neg fun h => List.lt_irrefl _ (hall e h), if_neg fun h => List.lt_irrefl _ (List.lt_trans hlt (h a (.head _)))]
    rw [h1, flat_congr (X := a :: A) fun y hy => fA_cons (E := E) (hall y hy)]
    rfl
  | case4 e E a A hlt hgt ih =>
    intro hX hY
    have hX' := List.pairwise_cons.mp hX
    have hY' := List.pairwise_cons.mp hY
    have ih' := ih hX hY'.2
    unfold sd
    rw [if_neg hlt, if_pos hgt, ih']
    show ((e :: E).flatMap (fA A), a :: A.flatMap (fA (e :: E))) = ((e :: E).flatMap (fA (a :: A)), fA (e :: E) a ++ A.flatMap (fA (e :: E)))
    have hall : ∀ y ∈ e :: E, a < y := fun y hy => (List.mem_cons.mp hy).elim (fun r => r ▸ hgt) fun h => List.lt_trans hgt (hX'.1 y h)
    have h1 : fA (e :: E) a = [a] := by
      unfold fA
      rw [if_neg fun h => List.lt_irrefl _ (hall a h), if_neg fun h => List.lt_irrefl _ (List.lt_trans hgt (h e (.head _)))]
    rw [h1, flat_congr (X := e :: E) fun y hy => fA_cons (E := A) (hall y hy)]
    rfl
  | case5 e E a A hlt hgt ih =>
    intro hX hY
    have hX' := List.pairwise_cons.mp hX
    have hY' := List.pairwise_cons.mp hY
    have ih' := ih hX'.2 hY'.2
    have hea : e = a := lex_antisymm hgt hlt
    subst hea
    unfold sd
    rw [if_neg hlt, if_neg hgt, ih', List.flatMap_cons, List.flatMap_cons]
    have h1 : ∀ Z : List (List Nat), fA (e :: Z) e = [] := fun Z => by unfold fA; rw [if_pos (.head _)]
    rw [h1, h1, flat_congr (X := E) fun y hy => fA_cons (E := A) (hX'.1 y hy), flat_congr (X := A) fun y hy => fA_cons (E := E) (hY'.1 y hy)]
    rfl
theorem mem_dbl {X : List (List Nat)} {x : List Nat} : x ∈ dbl X ↔ x ∈ X := by
  refine ⟨dbl_mem, fun h => ?_⟩
  induction X with
  | nil => cases h
  | cons y X ih =>
    rcases List.mem_cons.mp h with rfl | h
    · exact .head _
    · exact .tail _ (.tail _ (ih h))
theorem alone_plain (X Y : List (List Nat)) : ∀ i : Nat, i ≤ X.length → aloneF X Y (2 * i) = (X.take i).flatMap (fA Y)
  | 0, _ => by simp [aloneF]
  | i + 1, h => by
    have hx : X[i]? = some X[i] := List.getElem?_eq_getElem _
    rw [show 2 * (i + 1) = 2 * i + 1 + 1 from by omega, aloneF, aloneF, dbl_even, dbl_odd, hx, alone_plain X Y i (by omega), List.take_add_one, hx, List.flatMap_append]
    dsimp only [Option.toList]
    rw [List.flatMap_cons, List.flatMap_nil, List.append_nil, List.append_assoc]
    congr 1
    generalize X[i] = x
    unfold fA
    have m2 : (∀ y ∈ dbl Y, y < x) ↔ ∀ y ∈ Y, y < x := ⟨fun q z hz => q z (mem_dbl.mpr hz), fun q z hz => q z (mem_dbl.mp hz)⟩
    have m3 : dbl Y = [] ↔ Y = [] := by cases Y <;> simp [dbl]
    have e1 : 2 * i % 2 = 0 := by omega
    have e2 : ¬ (2 * i + 1) % 2 = 0 := by omega
    by_cases hin : x ∈ Y
    · rw [if_pos (mem_dbl.mpr hin), if_pos (mem_dbl.mpr hin), if_pos hin]; rfl
    · have hin' : ¬ x ∈ dbl Y := fun h => hin (mem_dbl.mp h)
      rw [if_neg hin', if_neg hin', if_neg hin, if_pos (.inl e1)]
      by_cases hall : ∀ y ∈ Y, y < x
      · rw [if_pos (.inr (.inr (m2.mpr hall))), if_pos hall]; rfl
      · rw [if_neg (by
          rintro (h | h | h)
          · exact e2 h
          · rw [m3] at h; subst h; exact hall (fun _ h => nomatch h)
          · exact hall (m2.mp h)), if_neg hall]; rfl
theorem plain_sd (P R : List (List Nat)) (hP : TX P) (hR : TX R) : sd P R = (aloneF P R (dbl P).length, aloneF R P (dbl R).length) := by
  rw [sd_plain P R hP.1 hR.1, dbl_len, dbl_len, alone_plain P R _ (Nat.le_refl _), alone_plain R P _ (Nat.le_refl _), List.take_length, List.take_length]
end Mine
end
section
open PySem PySem.W PySem.Calls PyProof.Rows
set_option maxRecDepth 100000
set_option linter.unusedSimpArgs false
set_option linter.unusedVariables false
namespace Mine
theorem foldl_good : ∀ (P acc : List (List Nat)), Good acc → (∀ p ∈ P, 47 ∉ p) → Good (P.foldl stepN acc)
  | [], _, h, _ => h
  | p :: P, acc, h, hp => foldl_good P (stepN acc p) (h.step (hp p (.head _))) fun q hq => hp q (.tail _ hq)
theorem foldN_good' (x : List Nat) : Good (foldN (splitL x)) := foldl_good _ [] (fun _ h => nomatch h) (splitL_free x)
theorem foldl_id : ∀ (P acc : List (List Nat)), Good P → P.foldl stepN acc = acc ++ P
  | [], acc, _ => by simp
  | p :: P, acc, h => by
    obtain ⟨_, h1, h2, h3⟩ := h p (.head _)
    have e : stepN acc p = acc ++ [p] := by
      unfold stepN
      rw [if_neg h3, if_neg (by rintro (q | q) <;> contradiction)]
    rw [List.foldl_cons, e, foldl_id P _ fun q hq => h q (.tail _ hq), List.append_assoc]
    rfl
theorem foldN_join {P : List (List Nat)} (h : Good P) : foldN (splitL (joinL P)) = P := by
  by_cases hP : P = []
  · subst hP; rfl
  · rw [splitL_joinL P hP fun p hp => (h p hp).1, foldN, foldl_id P [] h]; rfl
/-- the step, as a pair of a length and an answer -/
noncomputable def step2 (a : Int × Bool) (p : Nat × Bool) : Int × Bool := if ((p.1 + 1 : Nat) : Int) > a.1 then (((p.1 + 1 : Nat) : Int), p.2) else if ((p.1 + 1 : Nat) : Int) = a.1 ∧ a.2 = false then (a.1, p.2) else a
noncomputable def holdsF (y : List Nat) (r : List Nat × Bool) : Bool := decide (foldN (splitL (47 :: r.1)) = (foldN (splitL (47 :: y))).take (foldN (splitL (47 :: r.1))).length)
theorem hit_holds {P Y : List (List Nat)} {b : Bool} (hP : Good P) (hY : Good Y) : hitA (joinL P) (joinL Y) = if holdsF (joinL Y) (joinL P, b) = true then (((joinL P).length + 2 : Nat) : Int) else 0 := by
  unfold hitA holdsF
  dsimp only
  rw [foldN_slash, foldN_slash, foldN_join hP, foldN_join hY, clean_join hP, clean_join hY]
  have e : joinL (lcp P Y) = joinL P ↔ P = Y.take P.length := ⟨fun h => (lcp_eq P Y).mp (joinL_inj (lcp_good hP) hP h), fun h => by rw [(lcp_eq P Y).mpr h]⟩
  simp only [e, decide_eq_true_eq]
theorem step_held {y : List Nat} {Y : List (List Nat)} (hy : y = joinL Y) (hY : Good Y) : ∀ (rs : List (List Nat × Bool)) (a : Int × Bool), (∀ r ∈ rs, ∃ P, r.1 = joinL P ∧ Good P) → rs.foldl (stepA y) a = ((rs.filter (holdsF y)).map fun r => (r.1.length + 1, r.2)).foldl step2 a
  | [], a, _ => rfl
  | (x, b) :: rs, a, h => by
    obtain ⟨P, hx, hP⟩ := h (x, b) (.head _)
    dsimp only at hx
    have ih := fun a' => step_held hy hY rs a' fun r hr => h r (.tail _ hr)
    rw [List.foldl_cons, ih, List.filter_cons]
    have hh := hit_holds (b := b) hP hY
    rw [← hx, ← hy] at hh
    by_cases hold : holdsF y (x, b) = true
    · rw [if_pos hold] at hh
      rw [if_pos hold, List.map_cons, List.foldl_cons]
      congr 1
      unfold stepA step2
      dsimp only
      rw [hh, if_neg (by omega)]
    · rw [if_neg hold] at hh
      rw [if_neg hold]
      congr 1
      unfold stepA
      dsimp only
      rw [hh, if_pos rfl]
theorem best_fold (hs : List (Nat × Bool)) : ∀ j : Nat, j < hs.length → ∃ m b, hs[argBest (gtH hs) j]? = some (m, b) ∧ (hs.take (j + 1)).foldl step2 (-1, true) = (((m + 1 : Nat) : Int), b)
  | 0, h => by
    have e : hs[0]? = some hs[0] := List.getElem?_eq_getElem _
    refine ⟨hs[0].1, hs[0].2, e, ?_⟩
    rw [List.take_add_one, e]
    show step2 (-1, true) hs[0] = _
    unfold step2
    rw [if_pos (by show _ > (-1 : Int); omega)]
  | j + 1, h => by
    obtain ⟨m, b, h1, h2⟩ := best_fold hs j (by omega)
    have e : hs[j + 1]? = some hs[j + 1] := List.getElem?_eq_getElem _
    generalize hs[j + 1] = p at e
    obtain ⟨m', b'⟩ := p
    rw [List.take_add_one, e, List.foldl_append, h2]
    show ∃ m1 b1, hs[argBest (gtH hs) (j + 1)]? = some (m1, b1) ∧ step2 (((m + 1 : Nat) : Int), b) (m', b') = _
    have hg : gtH hs (j + 1) (argBest (gtH hs) j) = (decide (m < m') || (decide (m' = m) && (b' && !b))) := by
      generalize argBest (gtH hs) j = i at h1 ⊢
      unfold gtH; rw [e, h1]
    rw [argBest, hg]
    unfold step2
    dsimp only
    by_cases c1 : m < m'
    · rw [decide_eq_true c1, Bool.true_or, if_pos rfl, if_pos (by omega)]
      exact ⟨m', b', e, rfl⟩
    · rw [decide_eq_false c1, Bool.false_or, if_neg (by omega : ¬ ((m' + 1 : Nat) : Int) > ((m + 1 : Nat) : Int))]
      by_cases c2 : m' = m
      · subst c2
        rw [decide_eq_true rfl, Bool.true_and]
        cases b with
        | true =>
          cases b' with
          | true => exact ⟨m', true, h1, by simp⟩
          | false => exact ⟨m', true, h1, by simp⟩
        | false =>
          cases b' with
          | true => exact ⟨m', true, e, by simp⟩
          | false => exact ⟨m', false, h1, by simp⟩
      · rw [decide_eq_false c2, Bool.false_and]
        exact ⟨m, b, h1, if_neg (by rintro ⟨q, _⟩; omega)⟩
theorem plain_allow (W : List (List Nat)) (hW : WaysOk W 9) (y0 : List Nat) (hy : y0 ∈ W) (R : List (List Nat × Bool)) (hR : RulesOk R 16) : allowF (straightL y0) R = allowedF (straightL y0) R := by
  have hY := foldN_good' y0
  unfold allowF
  rw [step_held (y := straightL y0) rfl hY R _ fun r hr => (hR.2 r hr).1]
  show (List.foldl step2 (-1, true) (heldF (straightL y0) R)).2 = _
  unfold allowedF
  generalize heldF (straightL y0) R = hs
  by_cases h0 : hs = []
  · subst h0; rfl
  · have hpos := List.length_pos_iff.mpr h0
    obtain ⟨m, b, h1, h2⟩ := best_fold hs (hs.length - 1) (by omega)
    rw [show hs.length - 1 + 1 = hs.length by omega, List.take_length] at h2
    rw [h2, h1]
    cases hs with
    | nil => exact absurd rfl h0
    | cons _ _ => rfl
section
variable {prog : Program} {w : World} {n : Nat} {A : Around} {s : Shared} {g : Hp}
theorem law_true {Q : Value → Shared → Prop} {nl : Addr} {nvs : List Value} {k : Nat} {ns : List Int}
    (hA : AOk A (n + 30)) (hfr : A.frames = some []) (G : GE w s.heap) (sb : Sub g s.heap) (T : Tab g s.heap) (hnl : g nl = some (lst nvs k)) (hI : IntsAre nvs ns) (hn : ns.length ≤ 63)
    (K : ∀ s' g' L lc, St w s g g' L lc [] s' → Q (.bool true) s') :
    wpAny (model prog w) A (call (.ref 226) [.ref nl]) Q F0 s :=
  law_all (n := n) plain_allow plain_sd hA hfr G sb T hnl hI hn K
end
end Mine
end
section
open PySem PySem.W PyProof.Rows
set_option maxRecDepth 100000
set_option maxHeartbeats 8000000
namespace Mine
noncomputable def keepL : List Nat := [0, 2, 3, 5, 7, 9, 10, 12, 14, 16, 17, 18, 19, 20, 22, 24, 25, 26, 27, 28, 29]
noncomputable def qv : Program := view pw keepL
noncomputable abbrev RW : RowW := OpenRow.toRowW (OpenLaw.row PySem.Challenge.rw_rt0081_01)
noncomputable abbrev HK : Hook := kmHook KP KA (fun _ => by kernel_rfl) [192]
theorem hl : LeftO pw qv [] (fun s => xlAt qv [] s && recOk (RowW.records RW) s) (Hook.obs HK) (Hook.val HK) 3082 := by
  intro w
  unfold openEnds fencedOpening topFrom
  simp only [PySem.W.Fast.te14082659384304107361, PySem.W.Fast.te10274390034422433532, PySem.W.Fast.te14289696077712309145, PySem.W.Fast.te4187177175401517315, PySem.W.Fast.te1435165496053646825, PySem.W.Fast.te14364793385576792824, PySem.W.Fast.te5923862056798008813]
  trace_state
  kernel_rfl
end Mine
end
section
open PySem PySem.W PySem.Calls PyProof.Rows
set_option maxRecDepth 100000
namespace Mine
theorem ge_of {w : World} {h : Heap} {p : Program} {l : List Str} {mean : ExcName → Option Value} {mg mb : Str → Option Value} (KX : Frag.In (KK w) h) (T : Top p l mean mg mb h) : GE w h := by
  obtain ⟨bm, ob, h1, _, h2, h3, h4, h5⟩ := T.bmain
  have e : mg "__builtins__" = some (.ref 4) := mg_of KX T.g rfl
  rw [e] at h1
  cases h1
  exact ⟨KX, ⟨mg, T.g⟩, ⟨mb, T.b, T.builtins⟩, T.nolimit, ⟨ob, h2, h3, h4, h5⟩⟩
theorem oldK_of {w : World} {s s' : Shared} {g g' : Hp} {L : Addr} {lc : List (Str × Value)} {own : List (Addr × Obj)} (G : GE w s.heap) (h0 : s.heap.get? tb = some (tabObj #[])) (S : St w s g g' L lc own s') : OldK s.heap s'.heap := by
  obtain ⟨_, ps, e, _⟩ := S.tab
  constructor
  · intro b o hb
    by_cases h : b = tb
    · subst h
      rw [h0] at hb
      cases hb
      obtain ⟨o, vs, file, tf, flags, tg, inF, text, tt, e1, e2, e3, e4, _⟩ := G.hd196
      exact .inr (.inl ⟨⟨196, o, vs, e1, e2, e3, e4⟩, rfl, #[], ps, rfl, by rw [e]; simp [tabObj]⟩)
    · exact .inl (S.nx.kp b o h hb)
  · intro b o hb
    by_cases h : b = tb
    · subst h; exact ⟨_, e⟩
    · exact ⟨o, S.nx.kp b o h hb⟩
theorem well_list {P : Params} {h : Heap} {a : Addr} {vs : List Value} {ns : List Int} (W : Well P h (.ref a) (ofPy (.list (ns.map .int)))) (hl : h.IsList a vs.toArray) : h.get? a = some (lst vs 0) := by
  obtain ⟨o, e, hc, k, hd⟩ := hl
  change Well P h (.ref a) (.list (ofPys (ns.map .int))) at W
  cases W with
  | list e2 _ =>
    rw [e2] at e
    cases e
    injection hd with h1 h2
    rw [e2, h1]
theorem call_ok {p : Program} {l : List Str} {mean : ExcName → Option Value} {w : World} {s₁ : Shared} {mg mb : Str → Option Value} {nl : Addr} {nvs : List Value} {ns : List Int} {Q : Value → Shared → Prop} {prog : Program}
    (KX : Frag.In (KK w) s₁.heap) (KT : ∀ P ∈ [192], s₁.heap.get? P = some (tabObj #[])) (T : Top p l mean mg mb s₁.heap) (W : Well w.params s₁.heap (.ref nl) (ofPy (.list (ns.map .int)))) (hl : s₁.heap.IsList nl nvs.toArray) (hI : IntsAre nvs ns) (hn : ¬ ((63 : Nat) : Int) < (ns.length : Nat))
    (K : ∀ s', OldK s₁.heap s'.heap → s'.os = s₁.os → s'.gens = s₁.gens → Q (.bool true) s') : wpAny (model prog w) callerA (call (.ref 226) [.ref nl]) Q F0 s₁ := by
  have G : GE w s₁.heap := ge_of KX T
  have h0 : s₁.heap.get? tb = some (tabObj #[]) := KT 192 (.head _)
  have hnl := well_list W hl
  have hne : tb ≠ nl := fun q => by rw [← q, h0] at hnl; cases hnl
  refine law_true (n := 0) (g := ins (fun _ => none) nl (lst nvs 0)) (by exact ⟨rfl, by decide, by decide⟩) rfl G ?_ ?_ ins_self hI (by omega) fun s' g' L lc S => ?_
  · intro b o e
    unfold ins at e
    by_cases h : b = nl
    · subst h; rw [if_pos rfl] at e; cases e; exact hnl
    · rw [if_neg h] at e; cases e
  · exact ⟨ins_other hne, #[], h0, by simp [TriplesOk], fun q _ => .inl (by simp [codeAmong])⟩
  · exact K s' (oldK_of G h0 S) S.nx.os S.nx.gens
theorem said : OpenLaw.wellSaid PySem.Challenge.rw_rt0081_01 = true := by
  simp only [PySem.W.Fast.te9446332074065402090]
  kernel_rfl
set_option maxHeartbeats 8000000 in
theorem zz : PySem.Challenge.rw_rt0081_01.Holds := by
  refine holds_law said fun _ => ?_
  refine holds_open (q := qv) (loose := []) (Xt := fun s => xlAt qv [] s && recOk (RowW.records RW) s) (XP := XL qv []) (Yf := Hook.obs HK) (Ya := Hook.val HK) (YP := Hook.says HK) (N := 3082) hl (Hook.of HK) (Hook.keeps HK) (fun s e => xl_of s (Bool.and_eq_true_iff.mp e).1) XL.keeps (by rfl) (by rfl) (by rfl)
    (fun s e => recFacts_of (Bool.and_eq_true_iff.mp e).2) (by rfl) (by assumption) (by decide +kernel) ⟨rfl, rfl, rfl, rfl, rfl, by decide +kernel⟩ ?hw ?hc
  case hw => w_witness2
  case hc =>
    intro w s₀ s₁ mg mb G Y fa o pm cd doc dV kV ho hd hcd hD hmg hg args vals as hpre hlay hrd hwl hlo
    have KX := km_in_of Y; have KT9 := km_tabs_of Y
    clear ho hd hcd hD
    refine Ground.open G ?_
    intro T B D TE TW
    wrow_args hpre hlay hrd hwl hlo
    x_fa T KX hmg
    clear hmg
    refine wpAny_mono (call_ok KX KT9 T (by assumption) (by assumption) (by assumption) (by assumption) (fun s' hK hos hgens => ?_)) (fun _ _ h => h) (fun _ _ f => f.elim)
    refine ⟨.inl ⟨_, .bool true, [], rfl, ?_, .bool true, ?_, ?_⟩, hK, hos, AllBare.of_eq (hgens.trans hg)⟩
    · first | wrow_none_raised | (intro cls; rfl)
    · wrow_post
    · exact fun _ => ⟨.nil, fun _ h => nomatch h⟩
end Mine
end
theorem PySem.Challenge.cw_rt0081_01_holds : PySem.Challenge.rw_rt0081_01.Holds := by
  exact Mine.zz
