import PyProof.Rows.All
import Wide.All
import OpenK.AllK
import Wide.FinOn
import KE.KSortTup
import Lean
import PySem.Challenge.RW_mj0200_01
set_option Elab.async false
set_option linter.all false
namespace Mine
open PySem PySem.W PySem.Calls PyProof.Rows
set_option compiler.extract_closed false in
set_option hygiene false in
local macro_rules | `(tactic| exists ho, $C, $k, $x:ident) => `(tactic| (refine no_implicit_lambda% (hzC ($C) $k ?_); generalize zz _ _ _ = $x))
set_option compiler.extract_closed false in
set_option hygiene false in
local macro_rules | `(tactic| walk_at "ws") => `(tactic| repeat' (first | ((with_reducible show wpAny _ _ _ _ _ _); first | walk1 | (dsimp only; walk1) | fail "no step") | ((with_reducible refine unf2 (by assumption) ?_); (try dsimp only)) | (k_unfold; (try dsimp only))))
set_option compiler.extract_closed false in
set_option hygiene false in
local macro_rules | `(tactic| walk_at "wp") => `(tactic| repeat' (first | ((with_reducible show wpAny _ _ _ _ _ _); first | walk1 | (dsimp only; walk1) | fail "no step") | ((with_reducible refine unf2 (by assumption) ?_); (try dsimp only)) | ((with_reducible show (if _ then _ else _)); split) | (k_unfold; (try dsimp only))))
set_option compiler.extract_closed false in
set_option hygiene false in
local macro_rules | `(tactic| walk_at "oi") => `(tactic| repeat' (first | exact List.forall_mem_nil _ | (refine List.forall_mem_cons.mpr ⟨rfl, ?_⟩)))
set_option compiler.extract_closed false in
set_option hygiene false in
local macro_rules | `(tactic| walk_at "oo") => `(tactic| (intro y hy; (try dsimp only); repeat (with_reducible first | (refine (if_neg (hy _ mm0)).trans ?_) | (refine (if_neg (hy _ mm1)).trans ?_) | (refine (if_neg (hy _ mm2)).trans ?_) | (refine (if_neg (hy _ mm3)).trans ?_) | (refine (if_neg (hy _ mm4)).trans ?_) | (refine (if_neg (hy _ mm5)).trans ?_) | (refine (if_neg (hy _ mm6)).trans ?_) | (refine (if_neg (hy _ mm7)).trans ?_) | (refine (if_neg (hy _ mm8)).trans ?_)); first | exact rfl | exact ovr_off' rfl hy | (simp only [List.forall_mem_cons] at hy; simp only [ovr, hy, if_false])))
set_option compiler.extract_closed false in
set_option hygiene false in
local macro_rules | `(tactic| walk_at "ih") => `(tactic| (unfold SpecN; intro dp un gd cn cs a ccd cl outer A₀ base h₀ L m s Q E B F X T hk hdp hun hpre hret))
set_option compiler.extract_closed false in
set_option hygiene false in
local macro_rules | `(tactic| walk_at "il") => `(tactic| (unfold SpecL; intro dp un gd cn cs a ccd cl outer A₀ base h₀ L m s Q E B F X T hk hdp hun hHO hled hret))
set_option compiler.extract_closed false in
set_option hygiene false in
local macro_rules | `(tactic| walk_at "cg") => `(tactic| refine cutG fun GG hGG => ?_)
set_option compiler.extract_closed false in
set_option hygiene false in
local macro_rules | `(tactic| walk_at "bg") => `(tactic| (refine backG hGG ?_; try clear hGG GG))
set_option compiler.extract_closed false in
set_option hygiene false in
local macro_rules | `(tactic| walk_at "zp") => `(tactic| (generalize zz _ _ _ = zp; try dsimp only [Cu.un, kS, kO]))
section
structure Fn where
 a : Arguments
 b : List Stmt
 s : Scope
noncomputable def stFn : Stmt → Fn
 | .FunctionDef _ a b _ _ _ s .. => ⟨a, b, s⟩
 | _ => ⟨default, [], default⟩
noncomputable def clsBody : Stmt → List Stmt
 | .ClassDef _ _ _ b .. => b
 | _ => []
noncomputable def nthFn (l : List Stmt) (i : Nat) : Fn := match l.drop i with
 | x :: _ => stFn x
 | [] => ⟨default, [], default⟩
noncomputable def nthCls (l : List Stmt) (i : Nat) : List Stmt := match l.drop i with
 | x :: _ => clsBody x
 | [] => []
noncomputable def topFn (i : Nat) : Fn := nthFn PySem.Challenge.pw_mj0200_01.main.body i
noncomputable def subFn (i j : Nat) : Fn := nthFn (nthCls PySem.Challenge.pw_mj0200_01.main.body i) j
noncomputable def fobj {a : Arguments} {b : List Stmt} {s : Scope} {x : Fn} (name qual : Str) (glob : Addr) (cl : List (Str × Addr)) (v1 v2 v3 md : Value) (o : Option Addr) (code v5 : Value) (k : Addr) (h : x = Fn.mk a b s) : Obj :=
 Obj.mk (Value.type "function") none (Data.func (FuncData.mk name qual a (FuncBody.stmts b) s glob cl v1 v2 v3 md o code v5 k)) #[]
section
open PySem.Str (ofString)
set_option maxRecDepth 1000000
set_option maxHeartbeats 4000000
noncomputable def hd.heap_39 : Params → Frag := fun P => (nat_lit 2, Obj.mk Value.none none (Data.dict #[DictEntry.mk (PyData.keyHash P (ofString "type.__subclasses__.Exception.0")) (Value.str (ofString "type.__subclasses__.Exception.0") 336) (Value.int 115 0), DictEntry.mk (PyData.keyHash P (ofString "type.__subclasses__.Exception.n")) (Value.str (ofString "type.__subclasses__.Exception.n") 337) (Value.int 1 0)] 2) #[]) :: (nat_lit 3, Obj.mk (Value.type "dict") none (Data.dict #[DictEntry.mk (PyData.keyHash P (ofString "__name__")) (Value.str (ofString "__name__") 165) (Value.str (ofString "law_mj0200_01") 450), DictEntry.mk (PyData.keyHash P (ofString "__doc__")) (Value.str (ofString "__doc__") 166) Value.none, DictEntry.mk (PyData.keyHash P (ofString "__package__")) (Value.str (ofString "__package__") 167) Value.none, DictEntry.mk (PyData.keyHash P (ofString "__loader__")) (Value.str (ofString "__loader__") 168) (Value.builtin "__main__.__loader__#opaque"), DictEntry.mk (PyData.keyHash P (ofString "__spec__")) (Value.str (ofString "__spec__") 169) Value.none, DictEntry.mk (PyData.keyHash P (ofString "__annotations__")) (Value.str (ofString "__annotations__") 170) (Value.ref 6), DictEntry.mk (PyData.keyHash P (ofString "__builtins__")) (Value.str (ofString "__builtins__") 171) (Value.ref 4), DictEntry.mk (PyData.keyHash P (ofString "__file__")) (Value.str (ofString "__file__") 173) (Value.str (ofString "/claim/cut.py") 172), DictEntry.mk (PyData.keyHash P (ofString "__cached__")) (Value.str (ofString "__cached__") 174) Value.none, DictEntry.mk (PyData.keyHash P (ofString "_wall")) (Value.str (ofString "_wall") 193) (Value.ref 21), DictEntry.mk (PyData.keyHash P (ofString "TupleComp")) (Value.str (ofString "TupleComp") 237) (Value.ref 45), DictEntry.mk (PyData.keyHash P (ofString "func_std_string")) (Value.str (ofString "func_std_string") 245) (Value.ref 56), DictEntry.mk (PyData.keyHash P (ofString "add_func_stats")) (Value.str (ofString "add_func_stats") 263) (Value.ref 63), DictEntry.mk (PyData.keyHash P (ofString "add_callers")) (Value.str (ofString "add_callers") 274) (Value.ref 70), DictEntry.mk (PyData.keyHash P (ofString "count_calls")) (Value.str (ofString "count_calls") 283) (Value.ref 77), DictEntry.mk (PyData.keyHash P (ofString "NannyNag")) (Value.str (ofString "NannyNag") 339) (Value.ref 115), DictEntry.mk (PyData.keyHash P (ofString "Whitespace")) (Value.str (ofString "Whitespace") 440) (Value.ref 180), DictEntry.mk (PyData.keyHash P (ofString "format_witnesses")) (Value.str (ofString "format_witnesses") 449) (Value.ref 191), DictEntry.mk (PyData.keyHash P (ofString "_law_lead")) (Value.str (ofString "_law_lead") 458) (Value.ref 198), DictEntry.mk (PyData.keyHash P (ofString "_law_line")) (Value.str (ofString "_law_line") 465) (Value.ref 205), DictEntry.mk (PyData.keyHash P (ofString "_law_look")) (Value.str (ofString "_law_look") 478) (Value.ref 212), DictEntry.mk (PyData.keyHash P (ofString "_law_put")) (Value.str (ofString "_law_put") 487) (Value.ref 219), DictEntry.mk (PyData.keyHash P (ofString "_law_filed")) (Value.str (ofString "_law_filed") 504) (Value.ref 226), DictEntry.mk (PyData.keyHash P (ofString "_law_merged")) (Value.str (ofString "_law_merged") 514) (Value.ref 233), DictEntry.mk (PyData.keyHash P (ofString "_law_column")) (Value.str (ofString "_law_column") 524) (Value.ref 240), DictEntry.mk (PyData.keyHash P (ofString "_law_unlike")) (Value.str (ofString "_law_unlike") 530) (Value.ref 245), DictEntry.mk (PyData.keyHash P (ofString "_law_name")) (Value.str (ofString "_law_name") 536) (Value.ref 250), DictEntry.mk (PyData.keyHash P (ofString "_law_events")) (Value.str (ofString "_law_events") 551) (Value.ref 257), DictEntry.mk (PyData.keyHash P (ofString "_law_due")) (Value.str (ofString "_law_due") 557) (Value.ref 262), DictEntry.mk (PyData.keyHash P (ofString "_law_in_order")) (Value.str (ofString "_law_in_order") 568) (Value.ref 269), DictEntry.mk (PyData.keyHash P (ofString "law")) (Value.str (ofString "law") 574) (Value.ref 274)] 31) #[]) :: (nat_lit 15, Obj.mk (Value.type "tuple") none (Data.seq #[]) #[]) :: (nat_lit 17, Obj.mk (Value.type "tuple") none (Data.seq #[Value.str (ofString "k") 190]) #[]) :: (nat_lit 18, Obj.mk (Value.type "tuple") none (Data.seq #[]) #[]) :: (nat_lit 20, Obj.mk (Value.type "code") none (Data.fields #[Value.str (ofString "_wall") 187, Value.str (ofString "_wall") 188, Value.str (ofString "/claim/cut.py") 189, Value.int 1 0, Value.int 1 0, Value.int 0 0, Value.int 0 0, Value.int 3 0, Value.ref 15, Value.bool true, Value.int 181 0, Value.ref 16, Value.none, Value.ref 17, Value.ref 18, Value.ref 19, Value.int 191 0, Value.int 1 0, Value.str (ofString "/claim/cut.py") 192]) #[]) :: (nat_lit 21, fobj (ofString "_wall") (ofString "_wall") 3 [] Value.none Value.none Value.none (Value.str (ofString "__main__") 164) none (Value.ref 20) Value.none 0 (h := (rfl : topFn 0 = Fn.mk _ _ _))) :: (nat_lit 29, Obj.mk (Value.type "tuple") none (Data.seq #[]) #[]) :: (nat_lit 31, Obj.mk (Value.type "tuple") none (Data.seq #[Value.str (ofString "self") 211, Value.str (ofString "comp_select_list") 212]) #[]) :: (nat_lit 32, Obj.mk (Value.type "tuple") none (Data.seq #[]) #[]) :: (nat_lit 34, Obj.mk (Value.type "code") none (Data.fields #[Value.str (ofString "__init__") 208, Value.str (ofString "TupleComp.__init__") 209, Value.str (ofString "/claim/cut.py") 210, Value.int 7 0, Value.int 2 0, Value.int 0 0, Value.int 0 0, Value.int 3 0, Value.ref 29, Value.bool true, Value.int 181 0, Value.ref 30, Value.none, Value.ref 31, Value.ref 32, Value.ref 33, Value.int 213 0, Value.int 7 0, Value.str (ofString "/claim/cut.py") 214]) #[]) :: (nat_lit 35, fobj (ofString "__init__") (ofString "TupleComp.__init__") 3 [] Value.none Value.none Value.none (Value.str (ofString "cpy313.pstats") 194) none (Value.ref 34) Value.none 0 (h := (rfl : subFn 2 0 = Fn.mk _ _ _))) :: (nat_lit 36, Obj.mk (Value.type "tuple") none (Data.seq #[]) #[]) :: (nat_lit 38, Obj.mk (Value.type "tuple") none (Data.seq #[Value.str (ofString "self") 219, Value.str (ofString "left") 220, Value.str (ofString "right") 221, Value.str (ofString "index") 222, Value.str (ofString "direction") 223, Value.str (ofString "l") 224, Value.str (ofString "r") 225]) #[]) :: (nat_lit 39, Obj.mk (Value.type "tuple") none (Data.seq #[]) #[]) :: (nat_lit 41, Obj.mk (Value.type "code") none (Data.fields #[Value.str (ofString "compare") 216, Value.str (ofString "TupleComp.compare") 217, Value.str (ofString "/claim/cut.py") 218, Value.int 10 0, Value.int 3 0, Value.int 0 0, Value.int 0 0, Value.int 3 0, Value.ref 36, Value.bool true, Value.int 181 0, Value.ref 37, Value.none, Value.ref 38, Value.ref 39, Value.ref 40, Value.int 226 0, Value.int 10 0, Value.str (ofString "/claim/cut.py") 227]) #[]) :: (nat_lit 42, fobj (ofString "compare") (ofString "TupleComp.compare") 3 [] Value.none Value.none Value.none (Value.str (ofString "cpy313.pstats") 194) none (Value.ref 41) Value.none 0 (h := (rfl : subFn 2 1 = Fn.mk _ _ _))) :: (nat_lit 43, Obj.mk (Value.type "tuple") none (Data.seq #[Value.str (ofString "comp_select_list") 229]) #[]) :: (nat_lit 44, Obj.mk (Value.type "dict") none (Data.dict #[DictEntry.mk (PyData.keyHash P (ofString "__module__")) (Value.str (ofString "__module__") 203) (Value.str (ofString "cpy313.pstats") 194), DictEntry.mk (PyData.keyHash P (ofString "__firstlineno__")) (Value.str (ofString "__firstlineno__") 207) (Value.int 5 206), DictEntry.mk (PyData.keyHash P (ofString "__init__")) (Value.str (ofString "__init__") 215) (Value.ref 35), DictEntry.mk (PyData.keyHash P (ofString "compare")) (Value.str (ofString "compare") 228) (Value.ref 42), DictEntry.mk (PyData.keyHash P (ofString "__static_attributes__")) (Value.str (ofString "__static_attributes__") 230) (Value.ref 43), DictEntry.mk (PyData.keyHash P (ofString "__dict__")) (Value.str (ofString "__dict__") 232) (Value.ref 46), DictEntry.mk (PyData.keyHash P (ofString "__weakref__")) (Value.str (ofString "__weakref__") 234) (Value.ref 47), DictEntry.mk (PyData.keyHash P (ofString "__doc__")) (Value.str (ofString "__doc__") 235) Value.none] 4) #[]) :: (nat_lit 45, Obj.mk (Value.type "type") none (Data.cls (ClassData.mk (ofString "TupleComp") [Value.type "object"] [Value.ref 45, Value.type "object"] 44 (ofString "TupleComp") true [] [] false none false)) #[none, none, some (Value.str (ofString "TupleComp") 196), some (Value.str (ofString "TupleComp") 204), some (Value.builtin "object.__new__"), some (Value.bool true)]) :: (nat_lit 46, Obj.mk (Value.type "getset_descriptor") none (Data.fields #[Value.str (ofString "__dict__") 231, Value.ref 45, Value.builtin "function.__dict__", Value.builtin "function.__dict__#set"]) #[]) :: (nat_lit 47, Obj.mk (Value.type "getset_descriptor") none (Data.fields #[Value.str (ofString "__weakref__") 233, Value.ref 45, Value.builtin "ExceptionGroup.__weakref__", Value.none]) #[]) :: (nat_lit 50, Obj.mk (Value.type "tuple") none (Data.seq #[]) #[]) :: (nat_lit 52, Obj.mk (Value.type "tuple") none (Data.seq #[Value.str (ofString "func_name") 241, Value.str (ofString "name") 242]) #[]) :: (nat_lit 53, Obj.mk (Value.type "tuple") none (Data.seq #[]) #[]) :: (nat_lit 55, Obj.mk (Value.type "code") none (Data.fields #[Value.str (ofString "func_std_string") 238, Value.str (ofString "func_std_string") 239, Value.str (ofString "/claim/cut.py") 240, Value.int 19 0, Value.int 1 0, Value.int 0 0, Value.int 0 0, Value.int 3 0, Value.ref 50, Value.bool true, Value.int 181 0, Value.ref 51, Value.none, Value.ref 52, Value.ref 53, Value.ref 54, Value.int 243 0, Value.int 19 0, Value.str (ofString "/claim/cut.py") 244]) #[]) :: (nat_lit 56, fobj (ofString "func_std_string") (ofString "func_std_string") 3 [] Value.none Value.none Value.none (Value.str (ofString "cpy313.pstats") 194) none (Value.ref 55) Value.none 0 (h := (rfl : topFn 3 = Fn.mk _ _ _))) :: (nat_lit 57, Obj.mk (Value.type "tuple") none (Data.seq #[]) #[]) :: (nat_lit 59, Obj.mk (Value.type "tuple") none (Data.seq #[Value.str (ofString "target") 249, Value.str (ofString "source") 250, Value.str (ofString "cc") 251, Value.str (ofString "nc") 252, Value.str (ofString "tt") 253, Value.str (ofString "ct") 254, Value.str (ofString "callers") 255, Value.str (ofString "t_cc") 256, Value.str (ofString "t_nc") 257, Value.str (ofString "t_tt") 258, Value.str (ofString "t_ct") 259, Value.str (ofString "t_callers") 260]) #[]) :: (nat_lit 60, Obj.mk (Value.type "tuple") none (Data.seq #[]) #[]) :: (nat_lit 62, Obj.mk (Value.type "code") none (Data.fields #[Value.str (ofString "add_func_stats") 246, Value.str (ofString "add_func_stats") 247, Value.str (ofString "/claim/cut.py") 248, Value.int 28 0, Value.int 2 0, Value.int 0 0, Value.int 0 0, Value.int 3 0, Value.ref 57, Value.bool true, Value.int 181 0, Value.ref 58, Value.none, Value.ref 59, Value.ref 60, Value.ref 61, Value.int 261 0, Value.int 28 0, Value.str (ofString "/claim/cut.py") 262]) #[]) :: (nat_lit 63, fobj (ofString "add_func_stats") (ofString "add_func_stats") 3 [] Value.none Value.none Value.none (Value.str (ofString "cpy313.pstats") 194) none (Value.ref 62) Value.none 0 (h := (rfl : topFn 4 = Fn.mk _ _ _))) :: (nat_lit 64, Obj.mk (Value.type "tuple") none (Data.seq #[]) #[]) :: (nat_lit 66, Obj.mk (Value.type "tuple") none (Data.seq #[Value.str (ofString "target") 267, Value.str (ofString "source") 268, Value.str (ofString "new_callers") 269, Value.str (ofString "func") 270, Value.str (ofString "caller") 271]) #[]) :: (nat_lit 67, Obj.mk (Value.type "tuple") none (Data.seq #[]) #[]) :: (nat_lit 69, Obj.mk (Value.type "code") none (Data.fields #[Value.str (ofString "add_callers") 264, Value.str (ofString "add_callers") 265, Value.str (ofString "/claim/cut.py") 266, Value.int 32 0, Value.int 2 0, Value.int 0 0, Value.int 0 0, Value.int 3 0, Value.ref 64, Value.bool true, Value.int 181 0, Value.ref 65, Value.none, Value.ref 66, Value.ref 67, Value.ref 68, Value.int 272 0, Value.int 32 0, Value.str (ofString "/claim/cut.py") 273]) #[]) :: (nat_lit 70, fobj (ofString "add_callers") (ofString "add_callers") 3 [] Value.none Value.none Value.none (Value.str (ofString "cpy313.pstats") 194) none (Value.ref 69) Value.none 0 (h := (rfl : topFn 5 = Fn.mk _ _ _))) :: (nat_lit 71, Obj.mk (Value.type "tuple") none (Data.seq #[]) #[]) :: (nat_lit 73, Obj.mk (Value.type "tuple") none (Data.seq #[Value.str (ofString "callers") 278, Value.str (ofString "nc") 279, Value.str (ofString "calls") 280]) #[]) :: (nat_lit 74, Obj.mk (Value.type "tuple") none (Data.seq #[]) #[]) :: (nat_lit 76, Obj.mk (Value.type "code") none (Data.fields #[Value.str (ofString "count_calls") 275, Value.str (ofString "count_calls") 276, Value.str (ofString "/claim/cut.py") 277, Value.int 45 0, Value.int 1 0, Value.int 0 0, Value.int 0 0, Value.int 3 0, Value.ref 71, Value.bool true, Value.int 181 0, Value.ref 72, Value.none, Value.ref 73, Value.ref 74, Value.ref 75, Value.int 281 0, Value.int 45 0, Value.str (ofString "/claim/cut.py") 282]) #[]) :: (nat_lit 77, fobj (ofString "count_calls") (ofString "count_calls") 3 [] Value.none Value.none Value.none (Value.str (ofString "cpy313.pstats") 194) none (Value.ref 76) Value.none 0 (h := (rfl : topFn 6 = Fn.mk _ _ _))) :: (nat_lit 78, Obj.mk (Value.type "tuple") none (Data.seq #[Value.type "Exception"]) #[]) :: (nat_lit 85, Obj.mk (Value.type "tuple") none (Data.seq #[]) #[]) :: (nat_lit 87, Obj.mk (Value.type "tuple") none (Data.seq #[Value.str (ofString "self") 301, Value.str (ofString "lineno") 302, Value.str (ofString "msg") 303, Value.str (ofString "line") 304]) #[]) :: (nat_lit 88, Obj.mk (Value.type "tuple") none (Data.seq #[]) #[]) :: (nat_lit 90, Obj.mk (Value.type "code") none (Data.fields #[Value.str (ofString "__init__") 298, Value.str (ofString "NannyNag.__init__") 299, Value.str (ofString "/claim/cut.py") 300, Value.int 53 0, Value.int 4 0, Value.int 0 0, Value.int 0 0, Value.int 3 0, Value.ref 85, Value.bool true, Value.int 181 0, Value.ref 86, Value.none, Value.ref 87, Value.ref 88, Value.ref 89, Value.int 305 0, Value.int 53 0, Value.str (ofString "/claim/cut.py") 306]) #[]) :: (nat_lit 91, fobj (ofString "__init__") (ofString "NannyNag.__init__") 3 [] Value.none Value.none Value.none (Value.str (ofString "cpy313.tabnanny") 284) none (Value.ref 90) Value.none 0 (h := (rfl : subFn 8 0 = Fn.mk _ _ _))) :: (nat_lit 92, Obj.mk (Value.type "tuple") none (Data.seq #[]) #[]) :: (nat_lit 94, Obj.mk (Value.type "tuple") none (Data.seq #[Value.str (ofString "self") 311]) #[]) :: (nat_lit 95, Obj.mk (Value.type "tuple") none (Data.seq #[]) #[]) :: (nat_lit 97, Obj.mk (Value.type "code") none (Data.fields #[Value.str (ofString "get_lineno") 308, Value.str (ofString "NannyNag.get_lineno") 309, Value.str (ofString "/claim/cut.py") 310, Value.int 56 0, Value.int 1 0, Value.int 0 0, Value.int 0 0, Value.int 3 0, Value.ref 92, Value.bool true, Value.int 181 0, Value.ref 93, Value.none, Value.ref 94, Value.ref 95, Value.ref 96, Value.int 312 0, Value.int 56 0, Value.str (ofString "/claim/cut.py") 313]) #[]) :: (nat_lit 98, fobj (ofString "get_lineno") (ofString "NannyNag.get_lineno") 3 [] Value.none Value.none Value.none (Value.str (ofString "cpy313.tabnanny") 284) none (Value.ref 97) Value.none 0 (h := (rfl : subFn 8 1 = Fn.mk _ _ _))) :: (nat_lit 99, Obj.mk (Value.type "tuple") none (Data.seq #[]) #[]) :: (nat_lit 101, Obj.mk (Value.type "tuple") none (Data.seq #[Value.str (ofString "self") 318]) #[]) :: (nat_lit 102, Obj.mk (Value.type "tuple") none (Data.seq #[]) #[]) :: (nat_lit 104, Obj.mk (Value.type "code") none (Data.fields #[Value.str (ofString "get_msg") 315, Value.str (ofString "NannyNag.get_msg") 316, Value.str (ofString "/claim/cut.py") 317, Value.int 59 0, Value.int 1 0, Value.int 0 0, Value.int 0 0, Value.int 3 0, Value.ref 99, Value.bool true, Value.int 181 0, Value.ref 100, Value.none, Value.ref 101, Value.ref 102, Value.ref 103, Value.int 319 0, Value.int 59 0, Value.str (ofString "/claim/cut.py") 320]) #[]) :: (nat_lit 105, fobj (ofString "get_msg") (ofString "NannyNag.get_msg") 3 [] Value.none Value.none Value.none (Value.str (ofString "cpy313.tabnanny") 284) none (Value.ref 104) Value.none 0 (h := (rfl : subFn 8 2 = Fn.mk _ _ _))) :: (nat_lit 106, Obj.mk (Value.type "tuple") none (Data.seq #[]) #[]) :: (nat_lit 108, Obj.mk (Value.type "tuple") none (Data.seq #[Value.str (ofString "self") 325]) #[]) :: (nat_lit 109, Obj.mk (Value.type "tuple") none (Data.seq #[]) #[]) :: (nat_lit 111, Obj.mk (Value.type "code") none (Data.fields #[Value.str (ofString "get_line") 322, Value.str (ofString "NannyNag.get_line") 323, Value.str (ofString "/claim/cut.py") 324, Value.int 62 0, Value.int 1 0, Value.int 0 0, Value.int 0 0, Value.int 3 0, Value.ref 106, Value.bool true, Value.int 181 0, Value.ref 107, Value.none, Value.ref 108, Value.ref 109, Value.ref 110, Value.int 326 0, Value.int 62 0, Value.str (ofString "/claim/cut.py") 327]) #[]) :: (nat_lit 112, fobj (ofString "get_line") (ofString "NannyNag.get_line") 3 [] Value.none Value.none Value.none (Value.str (ofString "cpy313.tabnanny") 284) none (Value.ref 111) Value.none 0 (h := (rfl : subFn 8 3 = Fn.mk _ _ _))) :: (nat_lit 113, Obj.mk (Value.type "tuple") none (Data.seq #[Value.str (ofString "line") 329, Value.str (ofString "lineno") 330, Value.str (ofString "msg") 331]) #[]) :: (nat_lit 114, Obj.mk (Value.type "dict") none (Data.dict #[DictEntry.mk (PyData.keyHash P (ofString "__module__")) (Value.str (ofString "__module__") 293) (Value.str (ofString "cpy313.tabnanny") 284), DictEntry.mk (PyData.keyHash P (ofString "__firstlineno__")) (Value.str (ofString "__firstlineno__") 297) (Value.int 51 296), DictEntry.mk (PyData.keyHash P (ofString "__init__")) (Value.str (ofString "__init__") 307) (Value.ref 91), DictEntry.mk (PyData.keyHash P (ofString "get_lineno")) (Value.str (ofString "get_lineno") 314) (Value.ref 98), DictEntry.mk (PyData.keyHash P (ofString "get_msg")) (Value.str (ofString "get_msg") 321) (Value.ref 105), DictEntry.mk (PyData.keyHash P (ofString "get_line")) (Value.str (ofString "get_line") 328) (Value.ref 112), DictEntry.mk (PyData.keyHash P (ofString "__static_attributes__")) (Value.str (ofString "__static_attributes__") 332) (Value.ref 113), DictEntry.mk (PyData.keyHash P (ofString "__weakref__")) (Value.str (ofString "__weakref__") 334) (Value.ref 116), DictEntry.mk (PyData.keyHash P (ofString "__doc__")) (Value.str (ofString "__doc__") 335) Value.none] 3) #[]) :: (nat_lit 115, Obj.mk (Value.type "type") none (Data.cls (ClassData.mk (ofString "NannyNag") [Value.type "Exception"] [Value.ref 115, Value.type "Exception", Value.type "BaseException", Value.type "object"] 114 (ofString "NannyNag") true [] [] false none false)) #[some (Value.ref 78), none, some (Value.str (ofString "NannyNag") 286), some (Value.str (ofString "NannyNag") 294), some (Value.builtin "Exception.__new__"), some (Value.bool true)]) :: (nat_lit 116, Obj.mk (Value.type "getset_descriptor") none (Data.fields #[Value.str (ofString "__weakref__") 333, Value.ref 115, Value.builtin "ExceptionGroup.__weakref__", Value.none]) #[]) :: (nat_lit 129, Obj.mk (Value.type "tuple") none (Data.seq #[]) #[]) :: (nat_lit 131, Obj.mk (Value.type "tuple") none (Data.seq #[Value.str (ofString "self") 360, Value.str (ofString "ws") 361, Value.str (ofString "S") 362, Value.str (ofString "T") 363, Value.str (ofString "count") 364, Value.str (ofString "b") 365, Value.str (ofString "n") 366, Value.str (ofString "nt") 367, Value.str (ofString "ch") 368]) #[]) :: (nat_lit 132, Obj.mk (Value.type "tuple") none (Data.seq #[]) #[]) :: (nat_lit 134, Obj.mk (Value.type "code") none (Data.fields #[Value.str (ofString "__init__") 357, Value.str (ofString "Whitespace.__init__") 358, Value.str (ofString "/claim/cut.py") 359, Value.int 67 0, Value.int 2 0, Value.int 0 0, Value.int 0 0, Value.int 3 0, Value.ref 129, Value.bool true, Value.int 181 0, Value.ref 130, Value.none, Value.ref 131, Value.ref 132, Value.ref 133, Value.int 369 0, Value.int 67 0, Value.str (ofString "/claim/cut.py") 370]) #[]) :: (nat_lit 135, fobj (ofString "__init__") (ofString "Whitespace.__init__") 3 [] Value.none Value.none Value.none (Value.str (ofString "cpy313.tabnanny") 284) none (Value.ref 134) Value.none 0 (h := (rfl : subFn 9 1 = Fn.mk _ _ _))) :: (nat_lit 136, Obj.mk (Value.type "tuple") none (Data.seq #[]) #[]) :: (nat_lit 138, Obj.mk (Value.type "tuple") none (Data.seq #[Value.str (ofString "self") 375, Value.str (ofString "count") 376, Value.str (ofString "trailing") 377]) #[]) :: (nat_lit 139, Obj.mk (Value.type "tuple") none (Data.seq #[]) #[]) :: (nat_lit 141, Obj.mk (Value.type "code") none (Data.fields #[Value.str (ofString "longest_run_of_spaces") 372, Value.str (ofString "Whitespace.longest_run_of_spaces") 373, Value.str (ofString "/claim/cut.py") 374, Value.int 90 0, Value.int 1 0, Value.int 0 0, Value.int 0 0, Value.int 3 0, Value.ref 136, Value.bool true, Value.int 181 0, Value.ref 137, Value.none, Value.ref 138, Value.ref 139, Value.ref 140, Value.int 378 0, Value.int 90 0, Value.str (ofString "/claim/cut.py") 379]) #[]) :: (nat_lit 142, fobj (ofString "longest_run_of_spaces") (ofString "Whitespace.longest_run_of_spaces") 3 [] Value.none Value.none Value.none (Value.str (ofString "cpy313.tabnanny") 284) none (Value.ref 141) Value.none 0 (h := (rfl : subFn 9 2 = Fn.mk _ _ _))) :: (nat_lit 143, Obj.mk (Value.type "tuple") none (Data.seq #[]) #[]) :: (nat_lit 145, Obj.mk (Value.type "tuple") none (Data.seq #[Value.str (ofString "self") 384, Value.str (ofString "tabsize") 385, Value.str (ofString "count") 386, Value.str (ofString "trailing") 387, Value.str (ofString "il") 388, Value.str (ofString "i") 389]) #[]) :: (nat_lit 146, Obj.mk (Value.type "tuple") none (Data.seq #[]) #[]) :: (nat_lit 148, Obj.mk (Value.type "code") none (Data.fields #[Value.str (ofString "indent_level") 381, Value.str (ofString "Whitespace.indent_level") 382, Value.str (ofString "/claim/cut.py") 383, Value.int 94 0, Value.int 2 0, Value.int 0 0, Value.int 0 0, Value.int 3 0, Value.ref 143, Value.bool true, Value.int 181 0, Value.ref 144, Value.none, Value.ref 145, Value.ref 146, Value.ref 147, Value.int 390 0, Value.int 94 0, Value.str (ofString "/claim/cut.py") 391]) #[]) :: (nat_lit 149, fobj (ofString "indent_level") (ofString "Whitespace.indent_level") 3 [] Value.none Value.none Value.none (Value.str (ofString "cpy313.tabnanny") 284) none (Value.ref 148) Value.none 0 (h := (rfl : subFn 9 3 = Fn.mk _ _ _))) :: (nat_lit 150, Obj.mk (Value.type "tuple") none (Data.seq #[]) #[]) :: (nat_lit 152, Obj.mk (Value.type "tuple") none (Data.seq #[Value.str (ofString "self") 396, Value.str (ofString "other") 397]) #[]) :: (nat_lit 153, Obj.mk (Value.type "tuple") none (Data.seq #[]) #[]) :: (nat_lit 155, Obj.mk (Value.type "code") none (Data.fields #[Value.str (ofString "equal") 393, Value.str (ofString "Whitespace.equal") 394, Value.str (ofString "/claim/cut.py") 395, Value.int 101 0, Value.int 2 0, Value.int 0 0, Value.int 0 0, Value.int 3 0, Value.ref 150, Value.bool true, Value.int 181 0, Value.ref 151, Value.none, Value.ref 152, Value.ref 153, Value.ref 154, Value.int 398 0, Value.int 101 0, Value.str (ofString "/claim/cut.py") 399]) #[]) :: (nat_lit 156, fobj (ofString "equal") (ofString "Whitespace.equal") 3 [] Value.none Value.none Value.none (Value.str (ofString "cpy313.tabnanny") 284) none (Value.ref 155) Value.none 0 (h := (rfl : subFn 9 4 = Fn.mk _ _ _))) :: (nat_lit 157, Obj.mk (Value.type "tuple") none (Data.seq #[]) #[]) :: (nat_lit 159, Obj.mk (Value.type "tuple") none (Data.seq #[Value.str (ofString "self") 404, Value.str (ofString "other") 405, Value.str (ofString "n") 406, Value.str (ofString "a") 407, Value.str (ofString "ts") 408]) #[]) :: (nat_lit 160, Obj.mk (Value.type "tuple") none (Data.seq #[]) #[]) :: (nat_lit 162, Obj.mk (Value.type "code") none (Data.fields #[Value.str (ofString "not_equal_witness") 401, Value.str (ofString "Whitespace.not_equal_witness") 402, Value.str (ofString "/claim/cut.py") 403, Value.int 104 0, Value.int 2 0, Value.int 0 0, Value.int 0 0, Value.int 3 0, Value.ref 157, Value.bool true, Value.int 181 0, Value.ref 158, Value.none, Value.ref 159, Value.ref 160, Value.ref 161, Value.int 409 0, Value.int 104 0, Value.str (ofString "/claim/cut.py") 410]) #[]) :: (nat_lit 163, fobj (ofString "not_equal_witness") (ofString "Whitespace.not_equal_witness") 3 [] Value.none Value.none Value.none (Value.str (ofString "cpy313.tabnanny") 284) none (Value.ref 162) Value.none 0 (h := (rfl : subFn 9 5 = Fn.mk _ _ _))) :: (nat_lit 164, Obj.mk (Value.type "tuple") none (Data.seq #[]) #[]) :: (nat_lit 166, Obj.mk (Value.type "tuple") none (Data.seq #[Value.str (ofString "self") 415, Value.str (ofString "other") 416]) #[]) :: (nat_lit 167, Obj.mk (Value.type "tuple") none (Data.seq #[]) #[]) :: (nat_lit 169, Obj.mk (Value.type "code") none (Data.fields #[Value.str (ofString "less") 412, Value.str (ofString "Whitespace.less") 413, Value.str (ofString "/claim/cut.py") 414, Value.int 112 0, Value.int 2 0, Value.int 0 0, Value.int 0 0, Value.int 3 0, Value.ref 164, Value.bool true, Value.int 181 0, Value.ref 165, Value.none, Value.ref 166, Value.ref 167, Value.ref 168, Value.int 417 0, Value.int 112 0, Value.str (ofString "/claim/cut.py") 418]) #[]) :: (nat_lit 170, fobj (ofString "less") (ofString "Whitespace.less") 3 [] Value.none Value.none Value.none (Value.str (ofString "cpy313.tabnanny") 284) none (Value.ref 169) Value.none 0 (h := (rfl : subFn 9 6 = Fn.mk _ _ _))) :: (nat_lit 171, Obj.mk (Value.type "tuple") none (Data.seq #[]) #[]) :: (nat_lit 173, Obj.mk (Value.type "tuple") none (Data.seq #[Value.str (ofString "self") 423, Value.str (ofString "other") 424]) #[]) :: (nat_lit 174, Obj.mk (Value.type "tuple") none (Data.seq #[]) #[]) :: (nat_lit 176, Obj.mk (Value.type "code") none (Data.fields #[Value.str (ofString "not_less_witness") 420, Value.str (ofString "Whitespace.not_less_witness") 421, Value.str (ofString "/claim/cut.py") 422, Value.int 115 0, Value.int 2 0, Value.int 0 0, Value.int 0 0, Value.int 3 0, Value.ref 171, Value.bool true, Value.int 181 0, Value.ref 172, Value.none, Value.ref 173, Value.ref 174, Value.ref 175, Value.int 425 0, Value.int 115 0, Value.str (ofString "/claim/cut.py") 426]) #[]) :: (nat_lit 177, fobj (ofString "not_less_witness") (ofString "Whitespace.not_less_witness") 3 [] Value.none Value.none Value.none (Value.str (ofString "cpy313.tabnanny") 284) none (Value.ref 176) Value.none 0 (h := (rfl : subFn 9 7 = Fn.mk _ _ _))) :: (nat_lit 178, Obj.mk (Value.type "tuple") none (Data.seq #[Value.str (ofString "is_simple") 428, Value.str (ofString "n") 429, Value.str (ofString "norm") 430, Value.str (ofString "nt") 431, Value.str (ofString "raw") 432]) #[]) :: (nat_lit 179, Obj.mk (Value.type "dict") none (Data.dict #[DictEntry.mk (PyData.keyHash P (ofString "__module__")) (Value.str (ofString "__module__") 347) (Value.str (ofString "cpy313.tabnanny") 284), DictEntry.mk (PyData.keyHash P (ofString "__firstlineno__")) (Value.str (ofString "__firstlineno__") 351) (Value.int 64 350), DictEntry.mk (PyData.keyHash P (ofString "S")) (Value.str (ofString "S") 355) (Value.str (ofString " ") 353), DictEntry.mk (PyData.keyHash P (ofString "T")) (Value.str (ofString "T") 356) (Value.str (ofString "\t") 354), DictEntry.mk (PyData.keyHash P (ofString "__init__")) (Value.str (ofString "__init__") 371) (Value.ref 135), DictEntry.mk (PyData.keyHash P (ofString "longest_run_of_spaces")) (Value.str (ofString "longest_run_of_spaces") 380) (Value.ref 142), DictEntry.mk (PyData.keyHash P (ofString "indent_level")) (Value.str (ofString "indent_level") 392) (Value.ref 149), DictEntry.mk (PyData.keyHash P (ofString "equal")) (Value.str (ofString "equal") 400) (Value.ref 156), DictEntry.mk (PyData.keyHash P (ofString "not_equal_witness")) (Value.str (ofString "not_equal_witness") 411) (Value.ref 163), DictEntry.mk (PyData.keyHash P (ofString "less")) (Value.str (ofString "less") 419) (Value.ref 170), DictEntry.mk (PyData.keyHash P (ofString "not_less_witness")) (Value.str (ofString "not_less_witness") 427) (Value.ref 177), DictEntry.mk (PyData.keyHash P (ofString "__static_attributes__")) (Value.str (ofString "__static_attributes__") 433) (Value.ref 178), DictEntry.mk (PyData.keyHash P (ofString "__dict__")) (Value.str (ofString "__dict__") 435) (Value.ref 181), DictEntry.mk (PyData.keyHash P (ofString "__weakref__")) (Value.str (ofString "__weakref__") 437) (Value.ref 182), DictEntry.mk (PyData.keyHash P (ofString "__doc__")) (Value.str (ofString "__doc__") 438) Value.none] 4) #[]) :: (nat_lit 180, Obj.mk (Value.type "type") none (Data.cls (ClassData.mk (ofString "Whitespace") [Value.type "object"] [Value.ref 180, Value.type "object"] 179 (ofString "Whitespace") true [] [] false none false)) #[none, none, some (Value.str (ofString "Whitespace") 340), some (Value.str (ofString "Whitespace") 348), some (Value.builtin "object.__new__"), some (Value.bool true)]) :: (nat_lit 181, Obj.mk (Value.type "getset_descriptor") none (Data.fields #[Value.str (ofString "__dict__") 434, Value.ref 180, Value.builtin "function.__dict__", Value.builtin "function.__dict__#set"]) #[]) :: (nat_lit 182, Obj.mk (Value.type "getset_descriptor") none (Data.fields #[Value.str (ofString "__weakref__") 436, Value.ref 180, Value.builtin "ExceptionGroup.__weakref__", Value.none]) #[]) :: (nat_lit 185, Obj.mk (Value.type "tuple") none (Data.seq #[]) #[]) :: (nat_lit 187, Obj.mk (Value.type "tuple") none (Data.seq #[Value.str (ofString "w") 444, Value.str (ofString "firsts") 445, Value.str (ofString "prefix") 446]) #[]) :: (nat_lit 188, Obj.mk (Value.type "tuple") none (Data.seq #[]) #[]) :: (nat_lit 190, Obj.mk (Value.type "code") none (Data.fields #[Value.str (ofString "format_witnesses") 441, Value.str (ofString "format_witnesses") 442, Value.str (ofString "/claim/cut.py") 443, Value.int 117 0, Value.int 1 0, Value.int 0 0, Value.int 0 0, Value.int 3 0, Value.ref 185, Value.bool true, Value.int 181 0, Value.ref 186, Value.none, Value.ref 187, Value.ref 188, Value.ref 189, Value.int 447 0, Value.int 117 0, Value.str (ofString "/claim/cut.py") 448]) #[]) :: (nat_lit 191, fobj (ofString "format_witnesses") (ofString "format_witnesses") 3 [] Value.none Value.none Value.none (Value.str (ofString "cpy313.tabnanny") 284) none (Value.ref 190) Value.none 0 (h := (rfl : topFn 10 = Fn.mk _ _ _))) :: (nat_lit 192, Obj.mk (Value.type "tuple") none (Data.seq #[]) #[]) :: (nat_lit 194, Obj.mk (Value.type "tuple") none (Data.seq #[Value.str (ofString "v") 455]) #[]) :: (nat_lit 195, Obj.mk (Value.type "tuple") none (Data.seq #[]) #[]) :: (nat_lit 197, Obj.mk (Value.type "code") none (Data.fields #[Value.str (ofString "_law_lead") 452, Value.str (ofString "_law_lead") 453, Value.str (ofString "/claim/cut.py") 454, Value.int 124 0, Value.int 1 0, Value.int 0 0, Value.int 0 0, Value.int 3 0, Value.ref 192, Value.bool true, Value.int 181 0, Value.ref 193, Value.none, Value.ref 194, Value.ref 195, Value.ref 196, Value.int 456 0, Value.int 124 0, Value.str (ofString "/claim/cut.py") 457]) #[]) :: (nat_lit 198, fobj (ofString "_law_lead") (ofString "_law_lead") 3 [] Value.none Value.none Value.none (Value.str (ofString "law_mj0200_01") 450) none (Value.ref 197) Value.none 0 (h := (rfl : topFn 12 = Fn.mk _ _ _))) :: (nat_lit 199, Obj.mk (Value.type "tuple") none (Data.seq #[]) #[]) :: (nat_lit 201, Obj.mk (Value.type "tuple") none (Data.seq #[Value.str (ofString "v") 462]) #[]) :: (nat_lit 202, Obj.mk (Value.type "tuple") none (Data.seq #[]) #[]) :: (nat_lit 204, Obj.mk (Value.type "code") none (Data.fields #[Value.str (ofString "_law_line") 459, Value.str (ofString "_law_line") 460, Value.str (ofString "/claim/cut.py") 461, Value.int 126 0, Value.int 1 0, Value.int 0 0, Value.int 0 0, Value.int 3 0, Value.ref 199, Value.bool true, Value.int 181 0, Value.ref 200, Value.none, Value.ref 201, Value.ref 202, Value.ref 203, Value.int 463 0, Value.int 126 0, Value.str (ofString "/claim/cut.py") 464]) #[]) :: (nat_lit 205, fobj (ofString "_law_line") (ofString "_law_line") 3 [] Value.none Value.none Value.none (Value.str (ofString "law_mj0200_01") 450) none (Value.ref 204) Value.none 0 (h := (rfl : topFn 13 = Fn.mk _ _ _))) :: (nat_lit 206, Obj.mk (Value.type "tuple") none (Data.seq #[]) #[]) :: (nat_lit 208, Obj.mk (Value.type "tuple") none (Data.seq #[Value.str (ofString "lead") 469, Value.str (ofString "line") 470, Value.str (ofString "number") 471, Value.str (ofString "dressed") 472, Value.str (ofString "blank") 473, Value.str (ofString "nanny") 474, Value.str (ofString "words") 475]) #[]) :: (nat_lit 209, Obj.mk (Value.type "tuple") none (Data.seq #[]) #[]) :: (nat_lit 211, Obj.mk (Value.type "code") none (Data.fields #[Value.str (ofString "_law_look") 466, Value.str (ofString "_law_look") 467, Value.str (ofString "/claim/cut.py") 468, Value.int 128 0, Value.int 4 0, Value.int 0 0, Value.int 0 0, Value.int 3 0, Value.ref 206, Value.bool true, Value.int 181 0, Value.ref 207, Value.none, Value.ref 208, Value.ref 209, Value.ref 210, Value.int 476 0, Value.int 128 0, Value.str (ofString "/claim/cut.py") 477]) #[]) :: (nat_lit 212, fobj (ofString "_law_look") (ofString "_law_look") 3 [] Value.none Value.none Value.none (Value.str (ofString "law_mj0200_01") 450) none (Value.ref 211) Value.none 0 (h := (rfl : topFn 14 = Fn.mk _ _ _))) :: (nat_lit 213, Obj.mk (Value.type "tuple") none (Data.seq #[]) #[]) :: (nat_lit 215, Obj.mk (Value.type "tuple") none (Data.seq #[Value.str (ofString "table") 482, Value.str (ofString "name") 483, Value.str (ofString "entry") 484]) #[]) :: (nat_lit 216, Obj.mk (Value.type "tuple") none (Data.seq #[]) #[]) :: (nat_lit 218, Obj.mk (Value.type "code") none (Data.fields #[Value.str (ofString "_law_put") 479, Value.str (ofString "_law_put") 480, Value.str (ofString "/claim/cut.py") 481, Value.int 134 0, Value.int 3 0, Value.int 0 0, Value.int 0 0, Value.int 3 0, Value.ref 213, Value.bool true, Value.int 181 0, Value.ref 214, Value.none, Value.ref 215, Value.ref 216, Value.ref 217, Value.int 485 0, Value.int 134 0, Value.str (ofString "/claim/cut.py") 486]) #[]) :: (nat_lit 219, fobj (ofString "_law_put") (ofString "_law_put") 3 [] Value.none Value.none Value.none (Value.str (ofString "law_mj0200_01") 450) none (Value.ref 218) Value.none 0 (h := (rfl : topFn 15 = Fn.mk _ _ _))) :: (nat_lit 220, Obj.mk (Value.type "tuple") none (Data.seq #[]) #[]) :: (nat_lit 222, Obj.mk (Value.type "tuple") none (Data.seq #[Value.str (ofString "nannies") 491, Value.str (ofString "lines") 492, Value.str (ofString "table") 493, Value.str (ofString "j") 494, Value.str (ofString "caller") 495, Value.str (ofString "lead") 496, Value.str (ofString "number") 497, Value.str (ofString "dressed") 498, Value.str (ofString "nag") 499, Value.str (ofString "blank") 500, Value.str (ofString "name") 501]) #[]) :: (nat_lit 223, Obj.mk (Value.type "tuple") none (Data.seq #[]) #[]) :: (nat_lit 225, Obj.mk (Value.type "code") none (Data.fields #[Value.str (ofString "_law_filed") 488, Value.str (ofString "_law_filed") 489, Value.str (ofString "/claim/cut.py") 490, Value.int 136 0, Value.int 2 0, Value.int 0 0, Value.int 0 0, Value.int 3 0, Value.ref 220, Value.bool true, Value.int 181 0, Value.ref 221, Value.none, Value.ref 222, Value.ref 223, Value.ref 224, Value.int 502 0, Value.int 136 0, Value.str (ofString "/claim/cut.py") 503]) #[]) :: (nat_lit 226, fobj (ofString "_law_filed") (ofString "_law_filed") 3 [] Value.none Value.none Value.none (Value.str (ofString "law_mj0200_01") 450) none (Value.ref 225) Value.none 0 (h := (rfl : topFn 16 = Fn.mk _ _ _))) :: (nat_lit 227, Obj.mk (Value.type "tuple") none (Data.seq #[]) #[]) :: (nat_lit 229, Obj.mk (Value.type "tuple") none (Data.seq #[Value.str (ofString "one") 508, Value.str (ofString "other") 509, Value.str (ofString "table") 510, Value.str (ofString "name") 511]) #[]) :: (nat_lit 230, Obj.mk (Value.type "tuple") none (Data.seq #[]) #[]) :: (nat_lit 232, Obj.mk (Value.type "code") none (Data.fields #[Value.str (ofString "_law_merged") 505, Value.str (ofString "_law_merged") 506, Value.str (ofString "/claim/cut.py") 507, Value.int 148 0, Value.int 2 0, Value.int 0 0, Value.int 0 0, Value.int 3 0, Value.ref 227, Value.bool true, Value.int 181 0, Value.ref 228, Value.none, Value.ref 229, Value.ref 230, Value.ref 231, Value.int 512 0, Value.int 148 0, Value.str (ofString "/claim/cut.py") 513]) #[]) :: (nat_lit 233, fobj (ofString "_law_merged") (ofString "_law_merged") 3 [] Value.none Value.none Value.none (Value.str (ofString "law_mj0200_01") 450) none (Value.ref 232) Value.none 0 (h := (rfl : topFn 17 = Fn.mk _ _ _))) :: (nat_lit 234, Obj.mk (Value.type "tuple") none (Data.seq #[]) #[]) :: (nat_lit 236, Obj.mk (Value.type "tuple") none (Data.seq #[Value.str (ofString "lead") 518, Value.str (ofString "size") 519, Value.str (ofString "at") 520, Value.str (ofString "sign") 521]) #[]) :: (nat_lit 237, Obj.mk (Value.type "tuple") none (Data.seq #[]) #[]) :: (nat_lit 239, Obj.mk (Value.type "code") none (Data.fields #[Value.str (ofString "_law_column") 515, Value.str (ofString "_law_column") 516, Value.str (ofString "/claim/cut.py") 517, Value.int 155 0, Value.int 2 0, Value.int 0 0, Value.int 0 0, Value.int 3 0, Value.ref 234, Value.bool true, Value.int 181 0, Value.ref 235, Value.none, Value.ref 236, Value.ref 237, Value.ref 238, Value.int 522 0, Value.int 155 0, Value.str (ofString "/claim/cut.py") 523]) #[]) :: (nat_lit 240, fobj (ofString "_law_column") (ofString "_law_column") 3 [] Value.none Value.none Value.none (Value.str (ofString "law_mj0200_01") 450) none (Value.ref 239) Value.none 0 (h := (rfl : topFn 18 = Fn.mk _ _ _))) :: (nat_lit 241, Obj.mk (Value.type "tuple") none (Data.seq #[]) #[]) :: (nat_lit 244, Obj.mk (Value.type "code") none (Data.fields #[Value.str (ofString "_law_unlike") 525, Value.str (ofString "_law_unlike") 526, Value.str (ofString "/claim/cut.py") 527, Value.int 163 0, Value.int 2 0, Value.int 0 0, Value.int 0 0, Value.int 3 0, Value.ref 241, Value.bool true, Value.int 181 0, Value.ref 242, Value.none, Value.none, Value.none, Value.ref 243, Value.int 528 0, Value.int 163 0, Value.str (ofString "/claim/cut.py") 529]) #[]) :: (nat_lit 245, fobj (ofString "_law_unlike") (ofString "_law_unlike") 3 [] Value.none Value.none Value.none (Value.str (ofString "law_mj0200_01") 450) none (Value.ref 244) Value.none 0 (h := (rfl : topFn 19 = Fn.mk _ _ _))) :: (nat_lit 246, Obj.mk (Value.type "tuple") none (Data.seq #[]) #[]) :: (nat_lit 249, Obj.mk (Value.type "code") none (Data.fields #[Value.str (ofString "_law_name") 531, Value.str (ofString "_law_name") 532, Value.str (ofString "/claim/cut.py") 533, Value.int 166 0, Value.int 4 0, Value.int 0 0, Value.int 0 0, Value.int 3 0, Value.ref 246, Value.bool true, Value.int 181 0, Value.ref 247, Value.none, Value.none, Value.none, Value.ref 248, Value.int 534 0, Value.int 166 0, Value.str (ofString "/claim/cut.py") 535]) #[]) :: (nat_lit 250, fobj (ofString "_law_name") (ofString "_law_name") 3 [] Value.none Value.none Value.none (Value.str (ofString "law_mj0200_01") 450) none (Value.ref 249) Value.none 0 (h := (rfl : topFn 20 = Fn.mk _ _ _))) :: (nat_lit 251, Obj.mk (Value.type "tuple") none (Data.seq #[]) #[]) :: (nat_lit 253, Obj.mk (Value.type "tuple") none (Data.seq #[Value.str (ofString "nannies") 540, Value.str (ofString "lines") 541, Value.str (ofString "events") 542, Value.str (ofString "j") 543, Value.str (ofString "lead") 544, Value.str (ofString "number") 545, Value.str (ofString "dressed") 546, Value.str (ofString "sizes") 547, Value.str (ofString "name") 548]) #[]) :: (nat_lit 254, Obj.mk (Value.type "tuple") none (Data.seq #[]) #[]) :: (nat_lit 256, Obj.mk (Value.type "code") none (Data.fields #[Value.str (ofString "_law_events") 537, Value.str (ofString "_law_events") 538, Value.str (ofString "/claim/cut.py") 539, Value.int 171 0, Value.int 2 0, Value.int 0 0, Value.int 0 0, Value.int 3 0, Value.ref 251, Value.bool true, Value.int 181 0, Value.ref 252, Value.none, Value.ref 253, Value.ref 254, Value.ref 255, Value.int 549 0, Value.int 171 0, Value.str (ofString "/claim/cut.py") 550]) #[]) :: (nat_lit 257, fobj (ofString "_law_events") (ofString "_law_events") 3 [] Value.none Value.none Value.none (Value.str (ofString "law_mj0200_01") 450) none (Value.ref 256) Value.none 0 (h := (rfl : topFn 21 = Fn.mk _ _ _))) :: (nat_lit 258, Obj.mk (Value.type "tuple") none (Data.seq #[]) #[]) :: (nat_lit 261, Obj.mk (Value.type "code") none (Data.fields #[Value.str (ofString "_law_due") 552, Value.str (ofString "_law_due") 553, Value.str (ofString "/claim/cut.py") 554, Value.int 180 0, Value.int 1 0, Value.int 0 0, Value.int 0 0, Value.int 3 0, Value.ref 258, Value.bool true, Value.int 181 0, Value.ref 259, Value.none, Value.none, Value.none, Value.ref 260, Value.int 555 0, Value.int 180 0, Value.str (ofString "/claim/cut.py") 556]) #[]) :: (nat_lit 262, fobj (ofString "_law_due") (ofString "_law_due") 3 [] Value.none Value.none Value.none (Value.str (ofString "law_mj0200_01") 450) none (Value.ref 261) Value.none 0 (h := (rfl : topFn 22 = Fn.mk _ _ _))) :: (nat_lit 263, Obj.mk (Value.type "tuple") none (Data.seq #[]) #[]) :: (nat_lit 265, Obj.mk (Value.type "tuple") none (Data.seq #[Value.str (ofString "rows") 561, Value.str (ofString "order") 562, Value.str (ofString "told") 563, Value.str (ofString "row") 564, Value.str (ofString "at") 565]) #[]) :: (nat_lit 266, Obj.mk (Value.type "tuple") none (Data.seq #[]) #[]) :: (nat_lit 268, Obj.mk (Value.type "code") none (Data.fields #[Value.str (ofString "_law_in_order") 558, Value.str (ofString "_law_in_order") 559, Value.str (ofString "/claim/cut.py") 560, Value.int 192 0, Value.int 2 0, Value.int 0 0, Value.int 0 0, Value.int 3 0, Value.ref 263, Value.bool true, Value.int 181 0, Value.ref 264, Value.none, Value.ref 265, Value.ref 266, Value.ref 267, Value.int 566 0, Value.int 192 0, Value.str (ofString "/claim/cut.py") 567]) #[]) :: (nat_lit 269, fobj (ofString "_law_in_order") (ofString "_law_in_order") 3 [] Value.none Value.none Value.none (Value.str (ofString "law_mj0200_01") 450) none (Value.ref 268) Value.none 0 (h := (rfl : topFn 23 = Fn.mk _ _ _))) :: (nat_lit 270, Obj.mk (Value.type "tuple") none (Data.seq #[]) #[]) :: (nat_lit 273, Obj.mk (Value.type "code") none (Data.fields #[Value.str (ofString "law") 569, Value.str (ofString "law") 570, Value.str (ofString "/claim/cut.py") 571, Value.int 200 0, Value.int 1 0, Value.int 0 0, Value.int 0 0, Value.int 3 0, Value.ref 270, Value.bool true, Value.int 181 0, Value.ref 271, Value.none, Value.none, Value.none, Value.ref 272, Value.int 572 0, Value.int 200 0, Value.str (ofString "/claim/cut.py") 573]) #[]) :: (nat_lit 274, fobj (ofString "law") (ofString "law") 3 [] Value.none Value.none Value.none (Value.str (ofString "law_mj0200_01") 450) none (Value.ref 273) Value.none 0 (h := (rfl : topFn 24 = Fn.mk _ _ _))) :: []
end
noncomputable def hd.view_39 : Program := { PySem.Challenge.rw_mj0200_01.row.prog with main := { (PySem.Challenge.rw_mj0200_01.row.prog).main with body := (PySem.Challenge.rw_mj0200_01.row.prog).main.body.take 1 ++ (((PySem.Challenge.rw_mj0200_01.row.prog).main.body.drop 2).take 5 ++ (((PySem.Challenge.rw_mj0200_01.row.prog).main.body.drop 8).take 3 ++ (PySem.Challenge.rw_mj0200_01.row.prog).main.body.drop 12)) } }
end
section
theorem om1 {a m b : Nat} (h : a + m < b := by assumption) : a < b := Nat.lt_of_le_of_lt (Nat.le_add_right a m) h
theorem om2 {a m b i : Nat} (h : a + m < b := by assumption) (k : i ≤ m := by decide) : a + i < b := Nat.lt_of_le_of_lt (Nat.add_le_add_left k a) h
theorem om3 {a m b i j : Nat} (h : a + m < b := by assumption) (k : i + j ≤ m := by decide) : a + i + j < b := Nat.lt_of_le_of_lt (Nat.le_trans (Nat.le_of_eq (Nat.add_assoc a i j)) (Nat.add_le_add_left k a)) h
theorem om4 {n a k : Nat} (h : n < a := by assumption) : n ≠ a + k := Nat.ne_of_lt (Nat.lt_of_lt_of_le h (Nat.le_add_right a k))
theorem om5 {n a k l : Nat} (h : n < a := by assumption) : n ≠ a + k + l := Nat.ne_of_lt (Nat.lt_of_lt_of_le (Nat.lt_of_lt_of_le h (Nat.le_add_right a k)) (Nat.le_add_right _ l))
theorem om6 {n a k l m : Nat} (h : n < a := by assumption) : n ≠ a + k + l + m := Nat.ne_of_lt (Nat.lt_of_lt_of_le (Nat.lt_of_lt_of_le (Nat.lt_of_lt_of_le h (Nat.le_add_right a k)) (Nat.le_add_right _ l)) (Nat.le_add_right _ m))
theorem om7 {a : Nat} : a + 1 ≠ a + 1 + 1 := Nat.ne_of_lt (Nat.lt_succ_self _)
theorem om8 {a : Nat} : a + 1 ≠ a + 1 + 1 + 1 := Nat.ne_of_lt (Nat.lt_trans (Nat.lt_succ_self _) (Nat.lt_succ_self _))
theorem om53 {a : Nat} : a + 1 + 1 ≠ a + 1 := fun e => om7 e.symm
theorem om54 {a : Nat} : a + 1 + 1 + 1 ≠ a + 1 := fun e => om8 e.symm
theorem om13 {a b : Nat} : ((a + b : Nat) : Int) = (a : Int) + b := rfl
theorem om15 {N a : Nat} {i : Int} (h : (N : Int) ≤ a := by assumption) (k : 0 ≤ i := by assumption) : (N : Int) ≤ i + a := Int.le_trans h (Int.le_add_of_nonneg_left k)
theorem om16 {a N : Nat} {b n : Int} (h : (a : Int) ≤ b := by assumption) (k : b < (N : Int) := by assumption) : a < N := Int.ofNat_lt.mp (Int.lt_of_le_of_lt h k)
theorem om40 {a b : Nat} (h : a < b := by assumption) : a ≠ b := Nat.ne_of_lt h
theorem om41 {a b : Nat} (h : b < a := by assumption) : a ≠ b := Nat.ne_of_gt h
theorem om42 {a b : Nat} (h : a ≠ b := by assumption) : b ≠ a := h.symm
theorem om43 {a b c : Nat} (h : a ≤ b := by assumption) (k : b ≤ c := by decide) : a ≤ c := Nat.le_trans h k
theorem om44 {a b c : Nat} (h : a < b := by assumption) (k : b ≤ c := by decide) : a < c := Nat.lt_of_lt_of_le h k
theorem om47 {a b c : Int} (h : a ≤ b := by assumption) (k : b ≤ c := by decide) : a ≤ c := Int.le_trans h k
theorem om48 {a b c : Int} (h : a < b := by assumption) (k : b ≤ c := by decide) : a < c := Int.lt_of_lt_of_le h k
theorem om49 {a b c : Int} (h : b ≤ c := by assumption) (k : a ≤ b := by decide) : a ≤ c := Int.le_trans k h
theorem om50 {n a k : Nat} (h : n < a := by assumption) : a + k ≠ n := Ne.symm (om4 (h := h))
theorem om51 {n a k l : Nat} (h : n < a := by assumption) : a + k + l ≠ n := Ne.symm (om5 (h := h))
theorem om52 {n a k l m : Nat} (h : n < a := by assumption) : a + k + l + m ≠ n := Ne.symm (om6 (h := h))
theorem om55 {a b c : Nat} (h : a < b := by assumption) (k : b < c := by assumption) : a < c := Nat.lt_trans h k
theorem om57 {a : Int} (h : a ≤ 10 := by assumption) : a < 10 ^ 10 := Int.lt_of_le_of_lt h (by decide)
theorem om58 {a : Int} (h : 0 ≤ a := by assumption) : -2 ^ 1920 < a := by omega
theorem om59 {a : Int} (h : a ≤ 10 := by assumption) : a < 2 ^ 1920 := by omega
end
section
theorem oz1 {a : Nat} {b : Nat} (h1 : a = 13) (h2 : b ≤ 100) : a + b ≤ 200 := by lia
theorem oz2 {a : Nat} {b : Nat} (h1 : a = 12) (h2 : b ≤ 100) : a + b ≤ 200 := by exact Nat.le_trans (Nat.add_le_add (Nat.le_of_eq h1) h2) (by decide)
theorem oz3 {a : Int} {b : Nat} (h1 : 0 ≤ a) (h2 : a ≤ 1000 + 1000 * (↑b : Int) + 1000) : 0 ≤ a ∧ a ≤ 1000 + 1000 * (↑(b + 1) : Int) := by lia
theorem oz4 {a : Nat} : 0 ≤ 1000 + 1000 * (↑a : Int) := by exact Int.add_nonneg (by decide) (Int.mul_nonneg (by decide) (Int.natCast_nonneg _))
theorem oz5 {a : Nat} {b : Nat} {c : Nat} (h1 : a ≤ c + 1) (h2 : c ≤ 50 + b) : a ≤ 50 + (b + 1) := by exact Nat.le_trans h1 (Nat.succ_le_succ h2)
theorem oz6 {a : Nat} {b : Nat} (h1 : a ≤ 50 + b) (h2 : b < 50) : a ≤ 100 := by exact Nat.le_trans h1 (Nat.le_trans (Nat.add_le_add_left (Nat.le_of_lt h2) 50) (by decide))
theorem oz7 {a : Int} {b : Int} (h1 : 0 ≤ a) (h2 : 0 ≤ b) (h3 : a ≤ 1000) : 0 ≤ a ∧ a ≤ b + 1000 := by exact ⟨h1, Int.le_trans h3 (Int.le_add_of_nonneg_left h2)⟩
theorem oz8 {a : Int} {b : Int} (h1 : 0 ≤ a) (h2 : a ≤ b) : 0 ≤ a ∧ a ≤ b + 1000 := by exact ⟨h1, Int.le_trans h2 (Int.le_add_of_nonneg_right (by decide))⟩
theorem oz9 {a : Int} {b : Int} {c : Int} (h1 : 0 ≤ a) (h2 : 0 ≤ b) (h3 : a ≤ c) (h4 : b ≤ 1000) : 0 ≤ a + b ∧ a + b ≤ c + 1000 := by exact ⟨Int.add_nonneg h1 h2, Int.add_le_add h3 h4⟩
theorem oz10 {a : Nat} {b : Nat} (h1 : a < b) (h2 : b = a) : False := by exact absurd h2.symm (Nat.ne_of_lt h1)
theorem oz11 {a : Int} {b : Int} {c : Int} {d : Nat} (h1 : 0 ≤ a) (h2 : 0 ≤ b) (h3 : a ≤ c) (h4 : b ≤ c * (↑d : Int)) : 0 ≤ a + b ∧ a + b ≤ c * (↑d : Int) + c := by lia
theorem oz12 {a : Nat} {b : Int} (h1 : a < (b + 1).toNat) (h2 : b ≤ 10) : 1 + (↑a : Int) < 1000 := by exact Int.lt_of_lt_of_le (Int.add_lt_add_left (Int.lt_toNat.mp h1) 1) (Int.le_trans (Int.add_le_add_left (Int.add_le_add_right h2 1) 1) (by decide))
theorem oz13 {a : Nat} : 0 < 1 + (↑a : Int) := by exact Int.lt_of_lt_of_le (by decide : (0 : Int) < 1) (Int.le_add_of_nonneg_right (Int.natCast_nonneg _))
theorem oz14 {a : Int} (h1 : a ≤ 10) : (a + 1).toNat ≤ 11 := by exact (Int.toNat_le).mpr (Int.add_le_add_right h1 1)
theorem oz15 {a : Int} (h1 : 0 ≤ a) : a + 1 + 1 - 1 = (↑(a + 1).toNat : Int) := by exact (Int.add_sub_cancel (a+1) 1).trans (Int.toNat_of_nonneg (Int.add_nonneg h1 (by decide))).symm
theorem oz16 {a : Int} (h1 : a ≤ 10) : a + 1 + 1 < 1000000 := by exact Int.lt_of_le_of_lt (Int.add_le_add_right (Int.add_le_add_right h1 1) 1) (by decide)
theorem oz17 {a : Int} (h1 : 0 ≤ a) : -1000000 < a + 1 + 1 := by exact Int.lt_of_lt_of_le (by decide : (-1000000 : Int) < 0) (Int.add_nonneg (Int.add_nonneg h1 (by decide)) (by decide))
theorem oz18 {a : Nat} {b : Nat} (h1 : a ≤ b) (h2 : b ≤ 10) : (↑a : Int) ≤ 10 := by exact Int.ofNat_le.mpr (Nat.le_trans h1 h2)
theorem oz19 {a : Nat} : 0 ≤ (↑a : Int) := by exact Int.natCast_nonneg _
theorem oz20 {a : Nat} (h1 : a < 2) : a = 0 ∨ a = 1 := by grind
theorem oz21 {a : Nat} (h1 : a < 4) : a = 0 ∨ a = 1 ∨ a = 2 ∨ a = 3 := by lia
theorem oz22 {a : Nat} (h1 : 1 < a) : 1 < (↑a : Int) := by exact Int.ofNat_lt.mpr h1
theorem oz23 {a : Nat} (h1 : 1 < (↑a : Int)) : 1 < a := by exact Int.ofNat_lt.mp h1
theorem oz24 {a : Nat} {b : Nat} (h1 : a ≤ b * 2) (h2 : b ≤ 20) : a + b * 2 ≤ 100 := by exact Nat.le_trans (Nat.add_le_add h1 (Nat.le_refl _)) (Nat.le_trans (Nat.add_le_add (Nat.mul_le_mul_right 2 h2) (Nat.mul_le_mul_right 2 h2)) (by decide))
theorem oz25 {a : Int} (h1 : a ≤ 20) : a.toNat < 21 := by exact (Int.toNat_lt' (by decide)).mpr (Int.lt_of_le_of_lt h1 (by decide))
theorem oz26 {a : Nat} (h1 : a ≠ 32) (h2 : a ≠ 9) : ¬(a = 32 ∨ a = 9) := by lia
theorem oz27 {a : Nat} {b : Nat} (h1 : a ≤ b + 1) (h2 : b ≤ 20) : a ≤ 21 := by exact Nat.le_trans h1 (Nat.succ_le_succ h2)
theorem oz28 {a : Int} {b : Nat} (h1 : a ≤ (↑b : Int)) (h2 : b ≤ 20) : a ≤ 20 := by exact Int.le_trans h1 (Int.ofNat_le.mpr h2)
theorem oz29 {a : Nat} {b : Nat} (h1 : a ≤ b + 1) (h2 : b < 20) : a ≤ 21 := by exact Nat.le_trans h1 (Nat.succ_le_succ (Nat.le_of_lt h2))
theorem oz30 {a : Int} {b : Nat} (h1 : a ≤ (↑b : Int)) (h2 : b < 20) : a ≤ 20 := by exact Int.le_trans h1 (Int.ofNat_le.mpr (Nat.le_of_lt h2))
theorem oz31 {a : Int} {b : Nat} (h1 : a ≤ (↑b : Int)) : a + 1 ≤ (↑(b + 1) : Int) := by exact Int.add_le_add_right h1 1
theorem oz32 {a : Int} (h1 : 0 ≤ a) : 0 ≤ a + 1 := by exact Int.add_nonneg h1 (by decide)
theorem oz33 {a : Nat} : 0 ≤ (↑(a + 1) : Int) := by exact Int.natCast_nonneg _
theorem oz34 {a : Nat} {b : Nat} (h1 : a ≤ b + 1) : a ≤ b + 1 + 1 := by exact Nat.le_trans h1 (Nat.le_succ _)
theorem oz35 {a : Int} {b : Nat} (h1 : a ≤ (↑b : Int)) : a ≤ (↑(b + 1) : Int) := by exact Int.le_trans h1 (Int.ofNat_le.mpr (Nat.le_succ _))
theorem oz36 {a : Nat} {b : Nat} (h1 : a < b) (h2 : b ≤ 20) : a < 20 := by exact Nat.lt_of_lt_of_le h1 h2
theorem oz37 {a : Nat} {b : Int} {c : Nat} (h1 : (↑a : Int) ≤ b) (h2 : b ≤ (↑c : Int)) : a + (b - (↑a : Int) + 1).toNat ≤ c + 1 + 1 := by lia
theorem oz38 {a : Nat} {b : Int} (h1 : 1 ≤ b) (h2 : a ≤ 21) : ((↑a : Int) - b).toNat ≤ 30 := by lia
theorem oz39 {a : Nat} {b : Int} {c : Nat} (h1 : 1 ≤ b) (h2 : a < ((↑c : Int) - b).toNat) (h3 : c ≤ 21) : a ≤ 30 := by exact Nat.le_trans (Nat.le_of_lt h2) (Int.toNat_le.mpr (Int.le_trans (Int.sub_le_self _ (Int.le_trans (by decide) h1)) (Int.le_trans (Int.ofNat_le.mpr h3) (by decide))))
theorem oz40 {a : Nat} (h1 : a ≤ 21) : (↑a : Int) < 1000000 := by exact Int.lt_of_le_of_lt (Int.ofNat_le.mpr h1) (by decide)
theorem oz41 {a : Nat} : -1000000 < (↑a : Int) := by exact Int.lt_of_lt_of_le (by decide) (Int.natCast_nonneg _)
theorem oz42 {a : Int} (h1 : a ≤ 30) : a < 1000000 := by exact Int.lt_of_le_of_lt h1 (by decide)
theorem oz43 {a : Int} (h1 : 1 ≤ a) : -1000000 < a := by exact Int.lt_of_lt_of_le (by decide) h1
theorem oz44 {a : Int} {b : Int} {c : Int} {d : Nat} (h1 : 0 ≤ a) (h2 : 0 ≤ b * c) (h3 : a ≤ 3000 * (↑d : Int)) (h4 : b * c ≤ 60 * 50) : 0 ≤ a + b * c ∧ a + b * c ≤ 3000 * (↑(d + 1) : Int) := by grind
theorem oz45 {a : Nat} (h1 : a + 1 ≤ 30) : a ≤ 30 := by exact Nat.le_of_lt h1
theorem oz46 {a : Int} {b : Nat} (h1 : (a + (↑b : Int)) / a ≤ a + (↑b : Int)) (h2 : a ≤ 30) (h3 : b ≤ 30) : (a + (↑b : Int)) / a ≤ 60 := by exact Int.le_trans h1 (Int.add_le_add h2 (Int.ofNat_le.mpr h3))
theorem oz47 {a : Int} {b : Nat} (h1 : 1 ≤ a) : 0 ≤ a + (↑b : Int) := by exact Int.add_nonneg (Int.le_trans (by decide) h1) (Int.natCast_nonneg _)
theorem oz48 {a : Nat} {b : Nat} {c : Nat} {d : Nat} (h1 : a < c) (h2 : b = d) (h3 : c = d) : a < b := by exact h2 ▸ h3 ▸ h1
theorem oz49 {a : Nat} {b : Nat} (h1 : b < a) : a + 1 - (b + 1) < a + 1 - b := by rw [Nat.add_sub_add_right, Nat.succ_sub (Nat.le_of_lt h1)]; exact Nat.lt_succ_self _
theorem oz50 {a : Nat} : ¬(↑a : Int) < 0 := by exact Int.not_lt.mpr (Int.natCast_nonneg _)
theorem oz51 {a : Nat} (h1 : a + 1 = a + 2) : False := by exact absurd (Nat.add_left_cancel h1) (by decide)
theorem oz52 {a : Nat} (h1 : a = a + 2) : False := by exact absurd h1 (Nat.ne_of_lt (Nat.lt_add_of_pos_right (by decide)))
theorem oz53 {a : Nat} (h1 : a + 2 < a) : False := by exact absurd h1 (Nat.not_lt.mpr (Nat.le_add_right _ _))
theorem oz54 {a : Nat} : a ≤ a + 2 := by exact Nat.le_add_right _ _
theorem oz55 {a : Nat} {b : Nat} (h1 : b = a + 1) : a < b := by exact h1 ▸ Nat.lt_succ_self _
theorem oz56 {a : Nat} {b : Nat} (h1 : a < b) (h2 : a = b + 1) : False := by exact absurd h1 (h2 ▸ Nat.not_lt.mpr (Nat.le_succ _))
theorem oz57 {a : Int} {b : Int} {c : Nat} (h1 : a - b = (↑c : Int)) : a - b - 1 + 1 = (↑c : Int) := by exact (Int.sub_add_cancel _ 1).trans h1
theorem oz58 {a : Int} {b : Int} (h1 : -1000000 < b) (h2 : a < 1000000) (h3 : ¬a < b) : ((((-2 ^ 63 ≤ a ∧ a < 2 ^ 63) ∧ -2 ^ 63 ≤ b ∧ b < 2 ^ 63) ∧ -2 ^ 63 ≤ 1 ∧ 1 < 2 ^ 63) ∧ -2 ^ 63 ≤ 0 ∧ 0 < 2 ^ 63) ∧ (True ∨ -2 ^ 63 ≤ b + (1 - 1) ∧ b + (1 - 1) < 2 ^ 63) := by lia
theorem oz59 {a : Int} {b : Int} (h1 : -1000000 < a) (h2 : a < b) (h3 : b < 1000000) : ((((-2 ^ 63 ≤ a ∧ a < 2 ^ 63) ∧ -2 ^ 63 ≤ b ∧ b < 2 ^ 63) ∧ -2 ^ 63 ≤ 1 ∧ 1 < 2 ^ 63) ∧ -2 ^ 63 ≤ b - a - 1 + 1 ∧ b - a - 1 + 1 < 2 ^ 63) ∧ (b - a - 1 + 1 = 0 ∨ -2 ^ 63 ≤ b + (1 - 1) ∧ b + (1 - 1) < 2 ^ 63) := by lia
theorem oz60 {a : Nat} : 0 + a = a := by lia
theorem oz61 {a : Nat} {b : Nat} {c : Nat} (h1 : a + (b + 1) = c) : a + 1 + b = c := by exact (Nat.succ_add_eq_add_succ a b).trans h1
theorem oz62 {a : Nat} {b : Nat} {c : Nat} (h1 : a + (c + 1) = b) : a < b := by exact h1 ▸ Nat.lt_add_of_pos_right (Nat.succ_pos _)
theorem oz63 {a : Nat} {b : Nat} (h1 : b + 0 = a) : a = b := by exact h1.symm
theorem oz64 {a : Nat} {b : Nat} (h1 : a + 1 ≤ b) : a < b := by exact h1
theorem oz65 {a : Nat} {b : Nat} (h1 : a + 1 ≤ b) : a ≤ b := by exact Nat.le_of_lt h1
theorem oz66 {a : Nat} {b : Nat} (h1 : a ≤ b) (h2 : ¬a < b) : a = b := by exact Nat.le_antisymm h1 (Nat.ge_of_not_lt h2)
theorem oz67 {a : Nat} {b : Nat} {c : Nat} : a * b + c + 1 = a * b + (c + 1) := by exact Nat.add_assoc _ _ _
theorem oz68 {a : Nat} {b : Nat} {c : Nat} {d : Nat} (h1 : b < c) (h2 : c ≤ 11) (h3 : d = a) (h4 : d ≤ 0 * c + b) : a ≤ 33 := by lia
theorem oz69 {a : Nat} {b : Nat} {c : Nat} {d : Nat} (h1 : b < c) (h2 : c ≤ 11) (h3 : d = a) (h4 : d ≤ 1 * c + b) : a ≤ 33 := by lia
theorem oz70 {a : Nat} (h1 : a < 2) : 0 + (↑a : Int) < 2 ^ 63 := by rw [Int.zero_add]; exact Int.lt_trans (Int.ofNat_lt.mpr h1) (by decide)
theorem oz71 {a : Nat} : 0 ≤ 0 + (↑a : Int) := by exact Int.add_nonneg (by decide) (Int.natCast_nonneg _)
theorem oz72 {a : Nat} {b : Nat} {c : Nat} {d : Nat} (h1 : a ≤ b * c + d) : a ≤ b * c + (d + 1) := by exact Nat.le_trans h1 (Nat.le_succ _)
theorem oz73 {a : Nat} {b : Nat} {c : Nat} (h1 : a ≤ c) (h2 : c + 1 = b) : a + 1 ≤ b := by exact h2 ▸ Nat.succ_le_succ h1
theorem oz74 {a : Int} {b : Int} (h1 : 0 ≤ a) (h2 : a ≤ b) (h3 : b = 0) : a = b := by exact Int.le_antisymm h2 (h3 ▸ h1)
theorem oz79 {a : Nat} (h1 : a < 3) : a = 0 ∨ a = 1 ∨ a = 2 := by omega
theorem oz84 {a : Nat} {b : Nat} (h1 : a ≤ b) (h2 : b ≤ 44) : -2 ^ 63 ≤ (↑a : Int) ∧ (↑a : Int) < 2 ^ 63 := by exact ⟨Int.le_trans (by decide) (Int.natCast_nonneg _), Int.lt_of_le_of_lt (Int.ofNat_le.mpr (Nat.le_trans h1 h2)) (by decide)⟩
theorem oz85 {a : Nat} (h1 : ¬0 < (↑a : Int)) : a = 0 := by exact Nat.eq_zero_of_not_pos fun z => h1 (Int.ofNat_lt.mpr z)
theorem oz86 {a : Nat} {b : Nat} (h1 : a < b) : a ≤ b := by exact Nat.le_of_lt h1
theorem oz87 {a : Nat} : a < a + 1 := by exact Nat.lt_succ_self _
theorem oz88 {a : Nat} : (↑(a + 1) : Int) - 1 = (↑a : Int) := by exact Int.add_sub_cancel (a:Int) 1
theorem oz89 {a : Nat} : ((↑(a + 1) : Int) - 1).toNat = a := by exact (congrArg Int.toNat (Int.add_sub_cancel (a:Int) 1)).trans (Int.toNat_natCast a)
theorem oz90 {a : Nat} {b : Nat} (h1 : a < b) (h2 : b ≤ 44) : (↑(a + 1) : Int) - 1 < 2 ^ 63 := by exact Int.lt_of_le_of_lt (Int.le_of_eq (Int.add_sub_cancel (a:Int) 1)) (Int.lt_of_le_of_lt (Int.ofNat_le.mpr (Nat.le_of_lt (Nat.lt_of_lt_of_le h1 h2))) (by decide))
theorem oz91 {a : Nat} : 0 ≤ (↑(a + 1) : Int) - 1 := by exact Int.le_trans (Int.natCast_nonneg a) (Int.le_of_eq (Int.add_sub_cancel (a:Int) 1).symm)
theorem oz92 {a : Nat} (h1 : 0 < a) : a = a - 1 + 1 := by exact (Nat.succ_pred_eq_of_pos h1).symm
theorem oz93 {a : Nat} (h1 : 0 < (↑a : Int)) : 0 < a := by exact Int.ofNat_lt.mp h1
theorem oz94 {a : Nat} {b : Nat} (h1 : a = b) (h2 : b ≤ 44) : (↑a : Int) < 2 ^ 63 := by exact Int.lt_of_le_of_lt (Int.ofNat_le.mpr (h1 ▸ h2)) (by decide)
theorem oz95 {a : Nat} {b : Nat} (h1 : a ≤ b) : a ≤ b + 1 := by exact Nat.le_trans h1 (Nat.le_succ _)
theorem oz96 {a : Nat} {b : Nat} (h1 : a ≤ b) : a + 1 ≤ b + 1 := by exact Nat.succ_le_succ h1
theorem oz97 {a : Nat} {b : Nat} (h1 : (↑b : Int) + 1 ≤ 21) (h2 : a ≤ b) : a ≤ 100 := by exact Nat.le_trans h2 (Nat.le_trans (Int.ofNat_le.mp (Int.le_trans (Int.le_add_of_nonneg_right (by decide)) h1)) (by decide))
theorem oz98 {a : Nat} (h1 : (↑a : Int) + 1 ≤ 21) : 1 + (↑a : Int) ≤ 30 := by exact Int.le_trans (Int.le_of_eq (Int.add_comm _ _)) (Int.le_trans h1 (by decide))
theorem oz99 {a : Nat} : 1 ≤ 1 + (↑a : Int) := by exact Int.le_add_of_nonneg_right (Int.natCast_nonneg _)
theorem oz100 {a : Nat} {b : Int} (h1 : a < b.toNat) (h2 : b ≤ 21) : (↑a : Int) + 1 ≤ 21 := by exact Int.le_trans (Int.add_one_le_iff.mpr (Int.lt_toNat.mp h1)) h2
theorem oz101 {a : Int} (h1 : 1 ≤ a) : a + 1 - 1 = (↑a.toNat : Int) := by exact (Int.add_sub_cancel a 1).trans (Int.toNat_of_nonneg (Int.le_trans (by decide) h1)).symm
theorem oz102 {a : Int} (h1 : a ≤ 21) : a + 1 < 1000000 := by exact Int.lt_of_le_of_lt (Int.add_le_add_right h1 1) (by decide)
theorem oz103 {a : Int} (h1 : 1 ≤ a) : -1000000 < a + 1 := by exact Int.lt_of_lt_of_le (by decide : (-1000000 : Int) < 0) (Int.add_nonneg (Int.le_trans (by decide) h1) (by decide))
theorem oz105 {a : Int} {b : Nat} (h1 : 0 ≤ a) (h2 : a ≤ (↑b : Int)) (h3 : b ≤ 44) : 0 ≤ a ∧ a ≤ 1000 := by exact ⟨h1, Int.le_trans h2 (Int.le_trans (Int.ofNat_le.mpr h3) (by decide))⟩
theorem oz106 {a : Nat} {b : Nat} {c : Nat} (h1 : c = a + b) (h2 : c ≤ 44) : a + b ≤ 44 := by exact h1 ▸ h2
theorem oz107 {a : Nat} {b : Int} : a - b.toNat ≤ a := by exact Nat.sub_le _ _
theorem oz109 {a : Nat} (h1 : a ≤ 8) : 0 + 1 + 1 + a + (0 + 1) ≤ 11 := by lia
theorem oz110 {a : Int} (h1 : a < 3) : a ≤ 2 := by exact Int.le_of_lt_add_one h1
theorem oz111 {a : Nat} (h1 : ¬(↑63 : Int) < (↑a : Int)) : a ≤ 63 := by exact Int.ofNat_le.mp (Int.not_lt.mp h1)
theorem oz112 {a : Nat} {b : Nat} (h1 : b < a) : a - b = a - (b + 1) + 1 := by exact (Nat.succ_pred_eq_of_pos (Nat.sub_pos_of_lt h1)).symm
theorem oz127 {a : Int} (h1 : a < 4) : a.toNat < 4 := by exact (Int.toNat_lt' (by decide)).mpr h1
theorem oz128 {a : Int} (h1 : 0 ≤ a) : a = (↑a.toNat : Int) := by exact (Int.toNat_of_nonneg h1).symm
end
section
theorem mm0 {α : Type} {x : α} {l : List α} : x ∈ x :: l := List.mem_cons_self ..
theorem mm1 {α : Type} {a x : α} {l : List α} : x ∈ a :: x :: l := List.mem_cons_of_mem _ (List.mem_cons_self ..)
theorem mm2 {α : Type} {a b x : α} {l : List α} : x ∈ a :: b :: x :: l := List.mem_cons_of_mem _ (List.mem_cons_of_mem _ (List.mem_cons_self ..))
theorem mm3 {α : Type} {a b c x : α} {l : List α} : x ∈ a :: b :: c :: x :: l := List.mem_cons_of_mem _ (List.mem_cons_of_mem _ (List.mem_cons_of_mem _ (List.mem_cons_self ..)))
theorem mm4 {α : Type} {a b c d x : α} {l : List α} : x ∈ a :: b :: c :: d :: x :: l := List.mem_cons_of_mem _ (List.mem_cons_of_mem _ (List.mem_cons_of_mem _ (List.mem_cons_of_mem _ (List.mem_cons_self ..))))
theorem mm5 {α : Type} {a b c d e x : α} {l : List α} : x ∈ a :: b :: c :: d :: e :: x :: l := List.mem_cons_of_mem _ (List.mem_cons_of_mem _ (List.mem_cons_of_mem _ (List.mem_cons_of_mem _ (List.mem_cons_of_mem _ (List.mem_cons_self ..)))))
theorem mm6 {α : Type} {a b c d e f x : α} {l : List α} : x ∈ a :: b :: c :: d :: e :: f :: x :: l := List.mem_cons_of_mem _ (List.mem_cons_of_mem _ (List.mem_cons_of_mem _ (List.mem_cons_of_mem _ (List.mem_cons_of_mem _ (List.mem_cons_of_mem _ (List.mem_cons_self ..))))))
theorem mm7 {α : Type} {a b c d e f g x : α} {l : List α} : x ∈ a :: b :: c :: d :: e :: f :: g :: x :: l := List.mem_cons_of_mem _ (List.mem_cons_of_mem _ (List.mem_cons_of_mem _ (List.mem_cons_of_mem _ (List.mem_cons_of_mem _ (List.mem_cons_of_mem _ (List.mem_cons_of_mem _ (List.mem_cons_self ..)))))))
theorem mm8 {α : Type} {a b c d e f g h x : α} {l : List α} : x ∈ a :: b :: c :: d :: e :: f :: g :: h :: x :: l := List.mem_cons_of_mem _ (List.mem_cons_of_mem _ (List.mem_cons_of_mem _ (List.mem_cons_of_mem _ (List.mem_cons_of_mem _ (List.mem_cons_of_mem _ (List.mem_cons_of_mem _ (List.mem_cons_of_mem _ (List.mem_cons_self ..))))))))
theorem fnil {α : Type} {P : α → Prop} : ∀ p ∈ ([] : List α), P p := fun _ h => nomatch h
theorem fc {α : Type} {P : α → Prop} {x : α} {l : List α} (h : P x) (k : ∀ p ∈ l, P p) : ∀ p ∈ x :: l, P p := fun p hp => by
 cases hp with
 | head => exact h
 | tail _ q => exact k p q
theorem fa {α : Type} {P : α → Prop} {l m : List α} (h : ∀ p ∈ l, P p) (k : ∀ p ∈ m, P p) : ∀ p ∈ l ++ m, P p := fun p hp => (List.mem_append.mp hp).elim (h p) (k p)
theorem mtl {α : Type} {a x : α} {l : List α} (h : x ∈ l) : x ∈ a :: l := .tail _ h
theorem mal {α : Type} {x : α} {l m : List α} (h : x ∈ l) : x ∈ l ++ m := List.mem_append_left _ h
theorem mar {α : Type} {x : α} {l m : List α} (h : x ∈ m) : x ∈ l ++ m := List.mem_append_right _ h
theorem subm {α : Type} {x : α} {l m : List α} (h : ∀ p ∈ l, p ∈ m) (k : x ∈ l) : x ∈ m := h x k
theorem memq {α : Type} {x y : α} {m : List α} (e : x = y) (k : y ∈ m) : x ∈ m := e ▸ k
theorem mI {α : Type} {P : α → Prop} {l : List α} {x : α} (h : x ∈ l) (k : ∀ p ∈ l, P p) : P x := k x h
theorem xi2 {A0 A1 : Type} {P : A0 → A1 → Prop} (x0 : A0) (x1 : A1) (h : P x0 x1) : ∃ x0 x1, P x0 x1 := ⟨x0, x1, h⟩
theorem xi3 {A0 A1 A2 : Type} {P : A0 → A1 → A2 → Prop} (x0 : A0) (x1 : A1) (x2 : A2) (h : P x0 x1 x2) : ∃ x0 x1 x2, P x0 x1 x2 := ⟨x0, x1, x2, h⟩
theorem xi4 {A0 A1 A2 A3 : Type} {P : A0 → A1 → A2 → A3 → Prop} (x0 : A0) (x1 : A1) (x2 : A2) (x3 : A3) (h : P x0 x1 x2 x3) : ∃ x0 x1 x2 x3, P x0 x1 x2 x3 := ⟨x0, x1, x2, x3, h⟩
theorem xi5 {A0 A1 A2 A3 A4 : Type} {P : A0 → A1 → A2 → A3 → A4 → Prop} (x0 : A0) (x1 : A1) (x2 : A2) (x3 : A3) (x4 : A4) (h : P x0 x1 x2 x3 x4) : ∃ x0 x1 x2 x3 x4, P x0 x1 x2 x3 x4 := ⟨x0, x1, x2, x3, x4, h⟩
theorem xi6 {A0 A1 A2 A3 A4 A5 : Type} {P : A0 → A1 → A2 → A3 → A4 → A5 → Prop} (x0 : A0) (x1 : A1) (x2 : A2) (x3 : A3) (x4 : A4) (x5 : A5) (h : P x0 x1 x2 x3 x4 x5) : ∃ x0 x1 x2 x3 x4 x5, P x0 x1 x2 x3 x4 x5 := ⟨x0, x1, x2, x3, x4, x5, h⟩
theorem xi7 {A0 A1 A2 A3 A4 A5 A6 : Type} {P : A0 → A1 → A2 → A3 → A4 → A5 → A6 → Prop} (x0 : A0) (x1 : A1) (x2 : A2) (x3 : A3) (x4 : A4) (x5 : A5) (x6 : A6) (h : P x0 x1 x2 x3 x4 x5 x6) : ∃ x0 x1 x2 x3 x4 x5 x6, P x0 x1 x2 x3 x4 x5 x6 := ⟨x0, x1, x2, x3, x4, x5, x6, h⟩
theorem xi8 {A0 A1 A2 A3 A4 A5 A6 A7 : Type} {P : A0 → A1 → A2 → A3 → A4 → A5 → A6 → A7 → Prop} (x0 : A0) (x1 : A1) (x2 : A2) (x3 : A3) (x4 : A4) (x5 : A5) (x6 : A6) (x7 : A7) (h : P x0 x1 x2 x3 x4 x5 x6 x7) : ∃ x0 x1 x2 x3 x4 x5 x6 x7, P x0 x1 x2 x3 x4 x5 x6 x7 := ⟨x0, x1, x2, x3, x4, x5, x6, x7, h⟩
theorem xi9 {A0 A1 A2 A3 A4 A5 A6 A7 A8 : Type} {P : A0 → A1 → A2 → A3 → A4 → A5 → A6 → A7 → A8 → Prop} (x0 : A0) (x1 : A1) (x2 : A2) (x3 : A3) (x4 : A4) (x5 : A5) (x6 : A6) (x7 : A7) (x8 : A8) (h : P x0 x1 x2 x3 x4 x5 x6 x7 x8) : ∃ x0 x1 x2 x3 x4 x5 x6 x7 x8, P x0 x1 x2 x3 x4 x5 x6 x7 x8 := ⟨x0, x1, x2, x3, x4, x5, x6, x7, x8, h⟩
theorem xi10 {A0 A1 A2 A3 A4 A5 A6 A7 A8 A9 : Type} {P : A0 → A1 → A2 → A3 → A4 → A5 → A6 → A7 → A8 → A9 → Prop} (x0 : A0) (x1 : A1) (x2 : A2) (x3 : A3) (x4 : A4) (x5 : A5) (x6 : A6) (x7 : A7) (x8 : A8) (x9 : A9) (h : P x0 x1 x2 x3 x4 x5 x6 x7 x8 x9) : ∃ x0 x1 x2 x3 x4 x5 x6 x7 x8 x9, P x0 x1 x2 x3 x4 x5 x6 x7 x8 x9 := ⟨x0, x1, x2, x3, x4, x5, x6, x7, x8, x9, h⟩
theorem xi12 {A0 A1 A2 A3 A4 A5 A6 A7 A8 A9 A10 A11 : Type} {P : A0 → A1 → A2 → A3 → A4 → A5 → A6 → A7 → A8 → A9 → A10 → A11 → Prop} (x0 : A0) (x1 : A1) (x2 : A2) (x3 : A3) (x4 : A4) (x5 : A5) (x6 : A6) (x7 : A7) (x8 : A8) (x9 : A9) (x10 : A10) (x11 : A11) (h : P x0 x1 x2 x3 x4 x5 x6 x7 x8 x9 x10 x11) : ∃ x0 x1 x2 x3 x4 x5 x6 x7 x8 x9 x10 x11, P x0 x1 x2 x3 x4 x5 x6 x7 x8 x9 x10 x11 := ⟨x0, x1, x2, x3, x4, x5, x6, x7, x8, x9, x10, x11, h⟩
theorem xi14 {A0 A1 A2 A3 A4 A5 A6 A7 A8 A9 A10 A11 A12 A13 : Type} {P : A0 → A1 → A2 → A3 → A4 → A5 → A6 → A7 → A8 → A9 → A10 → A11 → A12 → A13 → Prop} (x0 : A0) (x1 : A1) (x2 : A2) (x3 : A3) (x4 : A4) (x5 : A5) (x6 : A6) (x7 : A7) (x8 : A8) (x9 : A9) (x10 : A10) (x11 : A11) (x12 : A12) (x13 : A13) (h : P x0 x1 x2 x3 x4 x5 x6 x7 x8 x9 x10 x11 x12 x13) : ∃ x0 x1 x2 x3 x4 x5 x6 x7 x8 x9 x10 x11 x12 x13, P x0 x1 x2 x3 x4 x5 x6 x7 x8 x9 x10 x11 x12 x13 := ⟨x0, x1, x2, x3, x4, x5, x6, x7, x8, x9, x10, x11, x12, x13, h⟩
end
set_option compiler.extract_closed false in
local macro_rules | `(tactic| omega) => `(tactic| with_reducible first | assumption | exact Nat.le_of_ble_eq_true rfl | exact om42 | exact om40 | exact om41 | exact om2 | exact om3 | exact om1 | exact om4 | exact om5 | exact om6 | exact om7 | exact om8 | exact om53 | exact om54 | exact om43 | exact om47 | exact om48 | exact om49 | exact om13 | exact om15 | exact om16 | exact om50 | exact om51 | exact om52 | exact om55 | exact om57 | exact om58 | exact om59 | fail)
set_option compiler.extract_closed false in
local macro_rules | `(tactic| walk_at "mz") => `(tactic| with_reducible first | exact mm0 | exact mm1 | exact mm2 | exact mm3 | exact mm4 | exact mm5 | exact mm6 | exact mm7 | exact mm8 | assumption | (refine mal ?_; walk_at "mz") | (refine mar ?_; walk_at "mz") | (refine mtl ?_; walk_at "mz"))
set_option compiler.extract_closed false in
local macro_rules | `(tactic| walk_at "sz") => `(tactic| first | exact fnil | (with_reducible refine fc ?_ ?_; (walk_at "mz"); walk_at "sz") | (with_reducible refine fa ?_ ?_ <;> walk_at "sz") | (intro p hp; walk_at "mz"))
set_option compiler.extract_closed false in
local macro_rules | `(tactic| walk_at "ms") => `(tactic| first | walk_at "mz" | simp)
section
inductive ZP {α : Type} (k : Nat) (P : α → Prop) (x : α) : Prop
 | mk (h : (∃ y, ¬ P y) → ¬ P x) : ZP k P x
theorem zne {α : Type} (k : Nat) (n : Nonempty α) (P : α → Prop) : Nonempty {x // ZP k P x} := by
 by_cases h : ∃ y, ¬ P y
 ·exact h.elim fun y hy => ⟨⟨y, ⟨fun _ => hy⟩⟩⟩
 ·exact n.elim fun y => ⟨⟨y, ⟨fun q => absurd q h⟩⟩⟩
noncomputable def zt {α : Type} (k : Nat) (n : Nonempty α) (P : α → Prop) : α := (Classical.choice (zne k n P)).1
theorem hzt {α : Type} {P : α → Prop} (k : Nat) (n : Nonempty α) (h : P (zt k n P)) : ∀ x, P x := fun x => Classical.byContradiction fun hx => by
 have q : ZP k P (zt k n P) := (Classical.choice (zne k n P)).2
 cases q with
 | mk q => exact q ⟨x, hx⟩ h
theorem zeP2 {α β : Type} (a : Nonempty α) (b : Nonempty β) : Nonempty (α × β) := ⟨(Classical.choice a, Classical.choice b)⟩
structure Cu (F T : Type) where
 un : F → T → Prop
 all : F → Prop
 ex : F → Prop
 imp : F → Prop → Prop
 ne : Nonempty T
 hall : ∀ f, (∀ t, un f t) → all f
 himp : ∀ f G, ex f → imp f G → G
@[reducible] def kO {A : Type} (n : Nonempty A) : Cu (A → Prop) A := ⟨fun f t => f t, fun f => ∀ x, f x, fun f => ∃ x, f x, fun f G => ∀ x, f x → G, n, fun _ h => h, fun _ _ e k => e.elim k⟩
@[reducible] def kS {A F T : Type} (n : Nonempty A) (c : Cu F T) : Cu (A → F) (A × T) := ⟨fun f t => c.un (f t.1) t.2, fun f => ∀ x, c.all (f x), fun f => ∃ x, c.ex (f x), fun f G => ∀ x, c.imp (f x) G, zeP2 n c.ne, fun f h x => c.hall (f x) fun t => h (x, t), fun f G e k => e.elim fun x hx => c.himp (f x) G hx (k x)⟩
noncomputable def zz {F T : Type} (C : Cu F T) (k : Nat) (Z : F) : T := zt k C.ne (C.un Z)
theorem hzC {F T : Type} (C : Cu F T) (k : Nat) {Z : F} (h : C.un Z (zz C k Z)) : C.all Z := C.hall Z (hzt k C.ne h)
theorem exC {F T : Type} (C : Cu F T) {Z : F} {G : Prop} (e : C.ex Z) (h : C.imp Z G) : G := C.himp Z G e h
noncomputable abbrev F8 (A B C D E F G H R : Type) : Type := A → B → C → D → E → F → G → H → R
theorem zeGS : Nonempty GenState := ⟨.running⟩
theorem yN : Nonempty Nat := ⟨0⟩
theorem zeI : Nonempty Int := ⟨0⟩
theorem zeB : Nonempty Bool := ⟨true⟩
theorem zeV : Nonempty Value := ⟨default⟩
theorem zeO : Nonempty Obj := ⟨default⟩
theorem yH : Nonempty Heap := ⟨default⟩
theorem zeR : Nonempty Str := ⟨default⟩
theorem yP : Nonempty Prop := ⟨True⟩
theorem yL {α : Type} : Nonempty (List α) := ⟨[]⟩
theorem zeY {α : Type} : Nonempty (Array α) := ⟨#[]⟩
theorem yT {α : Type} : Nonempty (Option α) := ⟨none⟩
theorem yF {α β : Type} (n : Nonempty β) : Nonempty (α → β) := ⟨fun _ => Classical.choice n⟩
inductive IsQ {α : Type} (Q q : α → Shared → Prop) : Prop
 | mk (e : Q = q) : IsQ Q q
theorem fold2 {α : Type} {M : Model} {A : Around} {t : Sem α} {Q : α → Shared → Prop} {E : Value → Shared → Prop} {s : Shared} (h : ∀ (q : α → Shared → Prop) (e : Value → Shared → Prop), IsQ Q q → IsQ E e → wpAny M A t q e s) : wpAny M A t Q E s := h Q E ⟨rfl⟩ ⟨rfl⟩
theorem unf2 {α : Type} {Q q : α → Shared → Prop} {v : α} {s : Shared} (h : IsQ Q q) (k : Q v s) : q v s := by cases h with | mk e => exact e ▸ k
theorem zeS : Nonempty Shared := ⟨{}⟩
theorem zeW : Nonempty World := ⟨aWorld 1⟩
theorem zeA : Nonempty Around := ⟨{ frames := none }⟩
end
set_option compiler.extract_closed false in
local macro_rules | `(tactic| exists hc, $C, $k, $xs:ident,*) => `(tactic| (refine no_implicit_lambda% (hzC ($C) $k ?_); generalize zz _ _ _ = zp; show Cu.un ?C ?Z ?z; exists 7, (?_ : Cu.all ?C ?Z), zp, $xs,*; intros $xs*; clear zp))
set_option compiler.extract_closed false in
local macro_rules | `(tactic| exists 7, $f, $z, $x, $ys,*) => `(tactic| exists 7, ($f $z.1), $z.2, $ys,*) | `(tactic| exists 7, $f, $z, $x) => `(tactic| refine no_implicit_lambda% ($f $z))
set_option compiler.extract_closed false in
local macro_rules | `(tactic| k_all) => `(tactic| first | exact List.forall_mem_nil _ | (refine' List.forall_mem_cons.mpr ⟨?a, ?b⟩; (case a => k_ne); (case b => k_all)))
set_option compiler.extract_closed false in
local macro_rules | `(tactic| k_in) => `(tactic| first | k_in_fast | assumption | exact Frag.In.keeps (by k_asm) (Fr.keep (by k_asm)))
section
set_option maxRecDepth 100000
noncomputable abbrev RR : OpenRow := PySem.Challenge.rw_mj0200_01.row
noncomputable abbrev HK : Hook := kHook hd.heap_39 [2, 3, 15, 17, 18, 20, 21, 29, 31, 32, 34, 35, 36, 38, 39, 41, 42, 43, 44, 45, 46, 47, 50, 52, 53, 55, 56, 57, 59, 60, 62, 63, 64, 66, 67, 69, 70, 71, 73, 74, 76, 77, 78, 85, 87, 88, 90, 91, 92, 94, 95, 97, 98, 99, 101, 102, 104, 105, 106, 108, 109, 111, 112, 113, 114, 115, 116, 129, 131, 132, 134, 135, 136, 138, 139, 141, 142, 143, 145, 146, 148, 149, 150, 152, 153, 155, 156, 157, 159, 160, 162, 163, 164, 166, 167, 169, 170, 171, 173, 174, 176, 177, 178, 179, 180, 181, 182, 185, 187, 188, 190, 191, 192, 194, 195, 197, 198, 199, 201, 202, 204, 205, 206, 208, 209, 211, 212, 213, 215, 216, 218, 219, 220, 222, 223, 225, 226, 227, 229, 230, 232, 233, 234, 236, 237, 239, 240, 241, 244, 245, 246, 249, 250, 251, 253, 254, 256, 257, 258, 261, 262, 263, 265, 266, 268, 269, 270, 273, 274] (fun _ => by kernel_rfl)
noncomputable abbrev XB (s : Shared) : Bool := xlAt hd.view_39 [] s && recOk RR.toRowW.records s
theorem left_boot {p q : Program} {loose : List Str} {Xt : Shared → Bool} {α : Type} {Yf : Shared → α} {Ya : World → α} {N : Nat} {H₀ : Params → Heap} {gs₀ : Array GenState} {d₀ : Drawn} {k₀ : Nat}
  (op : ∀ w : World, Option.map (fun s : Shared => (s.heap, s.gens, s.drawn, s.toks)) (fencedOpening treeTable p w N) = some (H₀ w.params, gs₀, d₀, k₀))
  (run : ∀ w : World, (fun os : OsState => (topFrom treeTable p w N { heap := H₀ w.params, gens := gs₀, drawn := d₀, toks := k₀, os := os }).map fun s => (openSeen q loose (importedModules p.main.body) Xt true s, Yf s)) = fun _ => some (openGood q loose, Ya w)) :
  LeftO p q loose Xt Yf Ya N := fun w => by
 obtain ⟨s, e, f⟩ := Option.map_eq_some_iff.mp (op w)
 obtain ⟨hp, gs, dr, tk, os⟩ := s
 simp only [Prod.mk.injEq] at f
 obtain ⟨rfl, rfl, rfl, rfl⟩ := f
 unfold openEnds
 rw [e]
 exact congrFun (run w) os
theorem op1 : opening RR.prog = plainProg RR.prog.main.scope.names := by kernel_rfl
theorem op2 (s : Shared) : fenceModules? RR.prog s = some s := by kernel_rfl
noncomputable abbrev LeftAt (w : World) : Prop := (fun os : OsState => (topFrom treeTable RR.prog w 3524 { heap := boot_heap w.params, gens := { toList := [] }, drawn := boot_drawn, toks := boot_toks, os := os }).map fun s => (openSeen hd.view_39 [Str.ofString "Whitespace"] (importedModules RR.prog.main.body) XB true s, Hook.obs HK s)) = fun _ => some (openGood hd.view_39 [Str.ofString "Whitespace"], Hook.val HK w)
set_option maxHeartbeats 0 in
theorem left_f (w : World) : LeftAt (w.withFollow "special-get-raises" false) := by
 unfold LeftAt topFrom
 rw [PySem.W.Fast.te14082659384304107361, PySem.W.Fast.te14364793385576792824, PySem.W.Fast.te4187177175401517315]
 kernel_rfl
set_option maxHeartbeats 0 in
theorem left_t (w : World) : LeftAt (w.withFollow "special-get-raises" true) := by
 unfold LeftAt topFrom
 rw [PySem.W.Fast.te14082659384304107361, PySem.W.Fast.te14364793385576792824, PySem.W.Fast.te4187177175401517315]
 kernel_rfl
theorem left_here : LeftO RR.prog hd.view_39 [Str.ofString "Whitespace"] XB (Hook.obs HK) (Hook.val HK) 3524 := left_boot (boot_open op1 (by decide +kernel) op2) (byRow2 (P := LeftAt) "special-get-raises" left_f left_t)
end
section
structure WQ (Q : Prop) : Prop where
 h : Q
noncomputable def mkQ {P Q : Prop} (h : WQ Q → P) : {Q : Prop // Q → P} := ⟨Q, fun q => h ⟨q⟩⟩
noncomputable def xOf {F T : Type} (C : Cu F T) (k : Nat) {Q : Prop} {Z : F} (_ : Q = C.all Z) : T := zz C k Z
theorem hzX {F T : Type} (C : Cu F T) (k : Nat) (x : T) {Q : Prop} {Z : F} (e : Q = C.all Z) (hx : x = zz C k Z) (h : C.un Z x) : Q := by
 cases e; cases hx; exact hzC C k h
end
section
set_option maxRecDepth 100000
theorem hold_pi {p : Prop} (h : p) : p := h
theorem cutG {G : Prop} (h : ∀ X : Prop, G = X → X) : G := h G rfl
theorem backG {G X : Prop} (h : G = X) (g : G) : X := Eq.mp h g
noncomputable def cst {α : Type} [Nonempty α] (P : α → Prop) : α := Classical.epsilon fun x => ¬ P x
theorem cst_all {α : Type} [ne : Nonempty α] {P : α → Prop} (h : P (cst P)) : ∀ x, P x := fun x => Classical.byContradiction fun hx => Classical.epsilon_spec (p := fun x => ¬ P x) ⟨x, hx⟩ h
noncomputable abbrev unc {α β : Type} (f : α → β → Prop) (d : α × β) : Prop := f d.1 d.2
theorem neP {α β : Type} (a : Nonempty α) (b : Nonempty β) : Nonempty (α × β) := ⟨(Classical.choice a, Classical.choice b)⟩
theorem neW : Nonempty World := ⟨aWorld 1⟩
theorem neA : Nonempty Around := ⟨{ frames := none }⟩
theorem neS : Nonempty Shared := ⟨{}⟩
noncomputable abbrev LS0 : List Str := looseW hd.view_39 [Str.ofString "Whitespace"] ++ ((recsOf hd.view_39).map (·.name) ++ ((litsOf hd.view_39).map (·.1) ++ (clssOf hd.view_39 (looseW hd.view_39 [Str.ofString "Whitespace"])).map (·.name)))
noncomputable abbrev EP : Program := { main := { body := [], scope := default, futureAnnotations := false, file := Str.ofString "" }, modules := [], parses := [], absent := [] }
theorem top_less {mean : ExcName → Option Value} {mg mb : Str → Option Value} {h : Heap} (T : Top hd.view_39 (looseW hd.view_39 [Str.ofString "Whitespace"]) mean mg mb h) : Top EP LS0 mean mg mb h where
 g := T.g
 b := T.b
 nolimit := T.nolimit
 nodigits := T.nodigits
 fn := fun d hd => (nomatch hd)
 own := fun d hd => (nomatch hd)
 tab := fun d hd => (nomatch hd)
 const := fun x d e => by cases e
 free := fun x h1 h2 _ _ _ => T.free x h1 (fun q => h2 (List.mem_append_left _ q)) (fun q => h2 (List.mem_append_right _ (List.mem_append_left _ q))) (fun q => h2 (List.mem_append_right _ (List.mem_append_right _ (List.mem_append_left _ q)))) (fun q => h2 (List.mem_append_right _ (List.mem_append_right _ (List.mem_append_right _ q))))
 builtins := T.builtins
 bmain := T.bmain
 seer := fun _ => T.seer (by decide +kernel)
noncomputable abbrev PG : Program := PySem.Challenge.rw_mj0200_01.row.prog
noncomputable abbrev ad (hh : Option Value) (dp un : Nat) (gd : Option (List Code)) (cn : Str) (cs : Scope) (L a : Addr) (ccd : Value) (cl : List (Str × Addr)) (outer : List Env) : Around :=
 { handled := hh, depth := dp, frames := some (envX cn cs L a ccd cl :: outer), guards := gd, units := un }
noncomputable abbrev Ext (h h' : Heap) : Prop := ∀ b o, h.get? b = some o → h'.get? b = some o
section
variable {prog : Program} {w : World} {A₀ A : Around} {s : Shared} {base h₀ : Heap} {outer : List Env} {L : Addr} {m : Str → Option Value} {env : Env} {K : Frag}
 {R : Result → Shared → Prop} {name qual : Str} {params : Arguments} {body : List Stmt} {scope : Scope} {dV kV doc pm cdv ct oc : Value} {an od : Option Addr} {osl : Array (Option Value)} {f : Addr} {args : Args} {binds : List (Str × Value)}
 {p : Program} {loose : List Str} {mean : ExcName → Option Value} {mg mb : Str → Option Value}
theorem enterH (B : Below A₀ base outer h₀) (F : Fr h₀ L s.heap m) (X : K.In h₀) (T : Top p loose mean mg mb h₀)
  (hA : A.frames = some (env :: outer)) (hf : env.frame = some L) (hke : env.scope.kind = .function)
  (ho : K.lookup f = some ⟨oc, od, .func (fnOf name qual params body scope dV kV doc pm an cdv ct), osl⟩) (hcd : codeIn K cdv qual = true) (hroom : A.depth < recursionLimit)
  (hbind : BindsTo s (fnOf name qual params body scope dV kV doc pm an cdv ct) args binds) (hloc : ∀ y ∈ binds, scope.names.lookup y.1 = some .local)
  (h : ∀ h₁ L', L' = s.heap.objs.size → Fr s.heap L' h₁ (fun y => binds.reverse.lookup y) → News s.heap L' h₁ [] → Below A base (env :: outer) s.heap → K.In s.heap → Top p loose mean mg mb s.heap →
   wpAny (model prog w) (A.deeper (envOf qual scope L' f cdv)) (execs body (envOf qual scope L' f cdv))
    (fun fl s' => R (.ok (.ret (match fl with | .ret v => v | _ => .none))) s')
    (fun e s' => wpAny (model prog w) (A.deeper (envOf qual scope L' f cdv)) (leaving (envOf qual scope L' f cdv) e) (fun _ s'' => R (.error e) s'') (fun e' s'' => R (.error e') s'') s')
    { s with heap := h₁, toks := s.toks + binds.length })
  (hcell : ∀ x ∈ scope.names, x.2 ≠ .cell) (hco : scope.isCoroutine = false) (hgen : scope.isGenerator = false) (hk : scope.kind = .function) : codeAny (model prog w) A (.call (.ref f) args) R s := by
 have Xs : K.In s.heap := X.keeps F.keep
 have Ts : Top p loose mean mg mb s.heap := T.keeps F.keep
 have B₁ : Below A base (env :: outer) s.heap := by
  have q := pushX B F hf hke
  exact ⟨hA, q.stays, q.frames⟩
 refine codeAny_call_def (fd := fnOf name qual params body scope dV kV doc pm an cdv ct) (body := body) (binds := binds) hroom (Xs _ _ ho) rfl Ts.nolimit (codeRec_of Xs hcd) rfl hbind hcell hloc (fun h₁ hns hk₁ => ?_) hco hgen hk
 exact h h₁ _ rfl ⟨hns, hk₁, Nat.le_refl _⟩ News.nil B₁ Xs Ts
theorem enterM {news : List (Addr × Obj)} (B : Below A₀ base outer h₀) (F : Fr h₀ L s.heap m) (N : News h₀ L s.heap news) (X : K.In h₀) (T : Top p loose mean mg mb h₀)
  (hA : A.frames = some (env :: outer)) (hf : env.frame = some L) (hke : env.scope.kind = .function)
  (ho : K.lookup f = some ⟨oc, od, .func (fnOf name qual params body scope dV kV doc pm an cdv ct), osl⟩) (hcd : codeIn K cdv qual = true) (hroom : A.depth < recursionLimit)
  (hbind : BindsTo s (fnOf name qual params body scope dV kV doc pm an cdv ct) args binds) (hloc : ∀ y ∈ binds, scope.names.lookup y.1 = some .local)
  (h : ∀ g h₁ L', L' = s.heap.objs.size → (∀ b o, s.heap.get? b = some o → b ∉ news.map (·.1) → g.get? b = some o) → Fr g L' h₁ (fun y => binds.reverse.lookup y) → News g L' h₁ news → Below A base (env :: outer) g → K.In g → Top p loose mean mg mb g →
   wpAny (model prog w) (A.deeper (envOf qual scope L' f cdv)) (execs body (envOf qual scope L' f cdv))
    (fun fl s' => R (.ok (.ret (match fl with | .ret v => v | _ => .none))) s')
    (fun e s' => wpAny (model prog w) (A.deeper (envOf qual scope L' f cdv)) (leaving (envOf qual scope L' f cdv) e) (fun _ s'' => R (.error e) s'') (fun e' s'' => R (.error e') s'') s')
    { s with heap := h₁, toks := s.toks + binds.length })
  (hcell : ∀ x ∈ scope.names, x.2 ≠ .cell) (hco : scope.isCoroutine = false) (hgen : scope.isGenerator = false) (hk : scope.kind = .function) : codeAny (model prog w) A (.call (.ref f) args) R s := by
 have Xs : K.In s.heap := X.keeps F.keep
 have Ts : Top p loose mean mg mb s.heap := T.keeps F.keep
 obtain ⟨FG, BG, st, _⟩ := groundX (R := R) B F N hA hf hke
 refine codeAny_call_def (fd := fnOf name qual params body scope dV kV doc pm an cdv ct) (body := body) (binds := binds) hroom (Xs _ _ ho) rfl Ts.nolimit (codeRec_of Xs hcd) rfl hbind hcell hloc (fun h₁ hns hk₁ => ?_) hco hgen hk
 exact h _ h₁ _ rfl (fun b o e n => hideAll_get _ e n) ⟨hns, fun b o e => hk₁ b o (of_hideAll _ e), Nat.le_of_eq (hideAll_size _ _)⟩ (fun p hp => ⟨hk₁ _ _ (N p hp).1, Nat.ne_of_lt (Heap.lt_size (N p hp).1), hideAll_none _ (List.mem_map_of_mem hp)⟩) BG (X.keeps st) (T.keeps st)
theorem enterHC (B : Below A₀ base outer h₀) (F : Fr h₀ L s.heap m) (X : K.In h₀) (T : Top p loose mean mg mb h₀)
  (hA : A.frames = some (env :: outer)) (hf : env.frame = some L) (hke : env.scope.kind = .function)
  (ho : K.lookup f = some ⟨oc, od, .func (fnOf name qual params body scope dV kV doc pm an cdv ct), osl⟩) (hcd : codeIn K cdv qual = true) (hroom : A.depth < recursionLimit)
  (hbind : BindsTo s (fnOf name qual params body scope dV kV doc pm an cdv ct) args binds)
  (hkind : (binds.all fun y => scope.names.lookup y.1 == some .local || scope.names.lookup y.1 == some .cell) = true)
  (hnd : ((cellsFrom 0 scope.names []).map (·.1)).Nodup)
  (h : ∀ h₁ tk L' cells, L' = s.heap.objs.size → Fr s.heap L' h₁ (bindL (envOfC qual scope L' f cdv).kindOf binds fun _ => none) → News s.heap L' h₁ cells →
   CellsAre (bindC (envOfC qual scope L' f cdv).kindOf binds fun _ => none) (cellsFrom (L' + 1) scope.names []) cells → Below A base (env :: outer) s.heap → K.In s.heap → Top p loose mean mg mb s.heap →
   wpAny (model prog w) (A.deeper (envOfC qual scope L' f cdv)) (execs body (envOfC qual scope L' f cdv))
    (fun fl s' => R (.ok (.ret (match fl with | .ret v => v | _ => .none))) s')
    (fun e s' => wpAny (model prog w) (A.deeper (envOfC qual scope L' f cdv)) (leaving (envOfC qual scope L' f cdv) e) (fun _ s'' => R (.error e) s'') (fun e' s'' => R (.error e') s'') s')
    { s with heap := h₁, toks := tk })
  (hco : scope.isCoroutine = false) (hgen : scope.isGenerator = false) (hk : scope.kind = .function) : codeAny (model prog w) A (.call (.ref f) args) R s := by
 have Xs : K.In s.heap := X.keeps F.keep
 have Ts : Top p loose mean mg mb s.heap := T.keeps F.keep
 have B₁ : Below A base (env :: outer) s.heap := by
  have q := pushX B F hf hke
  exact ⟨hA, q.stays, q.frames⟩
 refine codeAny_call_function hroom (Xs _ _ ho) rfl hco hgen rfl (codeRec_of Xs hcd) (hbind _ _ _ _ ?_)
 refine wpAny_newFunctionEnv_cells hk (kindsX hkind _) fun env' he s' x => ?_
 subst he
 refine ⟨Ts.nolimit.keeps x.toInCall.keep, codeAny_func ?_⟩
 obtain ⟨h₁, tk, rfl, _⟩ := x.done
 have hk₁ := x.toInCall.keep
 obtain ⟨cells, NC, Y⟩ := Cl.news (h₀ := s.heap) (Nat.le_refl _) fun n c hm => ⟨x.cell n c (lookup_of_mem_nodup (cellsFrom_names scope.names 0 (s.heap.objs.size + 1) [] [] rfl ▸ hnd) hm), x.above n c hm⟩
 exact h h₁ tk s.heap.objs.size cells rfl ⟨x.toInCall.ns, hk₁, Nat.le_refl _⟩ NC Y B₁ Xs Ts
theorem enterCls {C fI : Addr} {pos : List Value} {Q E : Value → Shared → Prop} (B : Below A₀ base outer h₀) (F : Fr h₀ L s.heap m) (X : K.In h₀) (T : Top p loose mean mg mb h₀)
  (hA : A.frames = some (env :: outer)) (hf : env.frame = some L) (hke : env.scope.kind = .function)
  (hm : makesIn K C = true) (hi : findIn K (.ref C) (Str.ofString "__init__") = some (some (.ref fI))) (hfn : isFn K (.ref fI) = true)
  (ho : K.lookup fI = some ⟨oc, od, .func (fnOf name qual params body scope dV kV doc pm an cdv ct), osl⟩) (hcd : codeIn K cdv qual = true) (hroom : A.depth + 1 < recursionLimit)
  (hbind : ∀ x s, BindsTo s (fnOf name qual params body scope dV kV doc pm an cdv ct) ⟨.ref x :: pos, []⟩ ((Str.ofString "self", .ref x) :: binds))
  (hloc : ∀ x, ∀ y ∈ (Str.ofString "self", Value.ref x) :: binds, scope.names.lookup y.1 = some .local)
  (h : ∀ x dx g h₁ L', dx < x → x < L' → s.heap.get? x = none → s.heap.get? dx = none → Ext s.heap g → Fr g L' h₁ (fun y => ((Str.ofString "self", Value.ref x) :: binds).reverse.lookup y) →
   News g L' h₁ [(x, instObj C dx), (dx, dictOf [] 0)] → Below (A.under (.builtin "type.__call__" ⟨.ref C :: pos, []⟩)) base (env :: outer) g → K.In g → Top p loose mean mg mb g →
   wpAny (model prog w) ((A.under (.builtin "type.__call__" ⟨.ref C :: pos, []⟩)).deeper (envOf qual scope L' fI cdv)) (execs body (envOf qual scope L' fI cdv))
    (fun fl s' => (match fl with | .ret v => v | _ => .none) = Value.none ∧ Q (.ref x) s')
    (fun e s' => wpAny (model prog w) ((A.under (.builtin "type.__call__" ⟨.ref C :: pos, []⟩)).deeper (envOf qual scope L' fI cdv)) (leaving (envOf qual scope L' fI cdv) e) (fun _ s'' => E e s'') (fun e' s'' => E e' s'') s')
    { s with heap := h₁, toks := s.toks + (binds.length + 1) })
  (hcell : ∀ x ∈ scope.names, x.2 ≠ .cell) (hco : scope.isCoroutine = false) (hgen : scope.isGenerator = false) (hk : scope.kind = .function) :
  wpAny (model prog w) A (call (.ref C) pos) Q E s := by
 have Xs : K.In s.heap := X.keeps F.keep
 refine wpAny_call ?_
 obtain ⟨hh, g, d, t, os⟩ := s
 refine make_core (makes_of Xs hm) (looks_findIn Xs hi) (fun self => bind_fn Xs self (beq_iff_eq.mp hfn)) (.inl rfl) ?_
 have N0 : News h₀ L ((hh.push emptyDict).push (instObj C hh.objs.size)) [(hh.objs.size + 1, instObj C hh.objs.size), (hh.objs.size, emptyDict)] := by
  have q := ((News.nil (h₀ := h₀) (L := L) (h := hh)).push F emptyDict).push (F.push _) (instObj C hh.objs.size)
  rw [Heap.size_push] at q
  exact q
 have F0 : Fr h₀ L ((hh.push emptyDict).push (instObj C hh.objs.size)) m := (F.push _).push _
 have dep : (A.under (.builtin "type.__call__" ⟨.ref C :: pos, []⟩)).depth < recursionLimit := by rw [depth_under_make]; exact hroom
 refine enterM (s := ⟨(hh.push emptyDict).push (instObj C hh.objs.size), g, d, t, os⟩) (A := A.under (.builtin "type.__call__" ⟨.ref C :: pos, []⟩)) (env := env) (binds := (Str.ofString "self", .ref (hh.objs.size + 1)) :: binds) B F0 N0 X T hA hf hke ho hcd dep (hbind _ _) (hloc _) (fun g' h₁ L' eL keep F' N' B' X' T' => ?_) hcell hco hgen hk
 refine wpAny_mono (h (hh.objs.size + 1) hh.objs.size g' h₁ L' (Nat.lt_succ_self _) ?_ ?_ ?_ (fun b o e => keep b o (Heap.get?_push_of_some _ (Heap.get?_push_of_some _ e)) ?_) F' N' B' X' T') (fun fl s' q => ?_) (fun e s' q => ?_)
 ·rw [eL]; show _ < ((hh.push emptyDict).push (instObj C hh.objs.size)).objs.size; rw [Heap.size_push, Heap.size_push]; exact Nat.lt_succ_self _
 ·show hh.get? (hh.objs.size + 1) = none
  cases e : hh.get? (hh.objs.size + 1) with
  | none => rfl
  | some o => exact absurd (Heap.lt_size e) (Nat.not_lt.mpr (Nat.le_succ _))
 ·show hh.get? hh.objs.size = none
  cases e : hh.get? hh.objs.size with
  | none => rfl
  | some o => exact absurd (Heap.lt_size e) (Nat.lt_irrefl _)
 ·have := Heap.lt_size (show hh.get? b = some o from e)
  intro q
  simp only [List.map_cons, List.map_nil, List.mem_cons, List.not_mem_nil, or_false] at q
  rcases q with q | q
  ·exact absurd (q ▸ this) (Nat.not_lt.mpr (Nat.le_succ _))
  ·exact absurd (q ▸ this) (Nat.lt_irrefl _)
 ·obtain ⟨q1, q2⟩ := q
  exact ⟨q1, q2⟩
 ·exact q
end
theorem News.join {h₀ h h' : Heap} {L a : Addr} {m : Str → Option Value} {o : Obj} {news : List (Addr × Obj)} (N : News h₀ L h' news) (F : Fr h₀ L h m) (hn : h.get? a = none) (ha : h'.get? a = some o) : News h₀ L h' ((a, o) :: news) := by
 intro p hp
 rcases List.mem_cons.mp hp with rfl | hp
 ·refine ⟨ha, fun q => ?_, ?_⟩
  ·obtain ⟨oL, _, _, hL, _⟩ := F.ns
   rw [show a = L from q, hL] at hn; cases hn
  ·cases hq : h₀.get? a with
   | none => rfl
   | some o' => rw [F.keep _ _ hq] at hn; cases hn
 ·exact N p hp
theorem News.ext {h₀ h h' : Heap} {L : Addr} {news : List (Addr × Obj)} (N : News h₀ L h news) (E : Ext h h') : News h₀ L h' news :=
 fun p hp => ⟨E _ _ (N p hp).1, (N p hp).2⟩
theorem Fr.ext {h₀ h h' : Heap} {L : Addr} {m : Str → Option Value} (F : Fr h₀ L h m) (E : Ext h h') : Fr h₀ L h' m := F.keeps E
noncomputable def SpecN (w : World) (mean : ExcName → Option Value) (mg mb : Str → Option Value) (hh : Option Value) (nd nu : Nat) (f : Addr) (args : List Value) (Pre : Heap → Prop) (Ret : Heap → Heap → Value → Prop) : Prop :=
 ∀ (dp un : Nat) (gd : Option (List Code)) (cn : Str) (cs : Scope) (a : Addr) (ccd : Value) (cl : List (Str × Addr)) (outer : List Env) (A₀ : Around) (base h₀ : Heap) (L : Addr) (m : Str → Option Value) (s : Shared) (Q E : Value → Shared → Prop),
  Below A₀ base outer h₀ → Fr h₀ L s.heap m → (hd.heap_39 w.params).In h₀ → Top EP LS0 mean mg mb h₀ → cs.kind = .function →
  dp + nd < recursionLimit → un + nu < cLine → Pre s.heap →
  (∀ r h' tk', Ext s.heap h' → Ret s.heap h' r → Q r { s with heap := h', toks := tk' }) →
   wpAny (model PG w) (ad hh dp un gd cn cs L a ccd cl outer) (call (.ref f) args) Q E s
noncomputable def SpecN.at (w : World) (mean : ExcName → Option Value) (mg mb : Str → Option Value) (hh : Option Value) (nd nu : Nat) (f : Addr) (args : List Value) (Pre : Heap → Prop) (Ret : Heap → Heap → Value → Prop) (dp un : Nat) (gd : Option (List Code)) (cn : Str) (cs : Scope) (a : Addr) (ccd : Value) (cl : List (Str × Addr)) (outer : List Env) (A₀ : Around) (base h₀ : Heap) (L : Addr) (m : Str → Option Value) (s : Shared) (Q E : Value → Shared → Prop) : Prop :=
  Below A₀ base outer h₀ → Fr h₀ L s.heap m → (hd.heap_39 w.params).In h₀ → Top EP LS0 mean mg mb h₀ → cs.kind = .function →
  dp + nd < recursionLimit → un + nu < cLine → Pre s.heap →
  (∀ r h' tk', Ext s.heap h' → Ret s.heap h' r → Q r { s with heap := h', toks := tk' }) →
   wpAny (model PG w) (ad hh dp un gd cn cs L a ccd cl outer) (call (.ref f) args) Q E s
theorem SpecN.use {w : World} {mean : ExcName → Option Value} {mg mb : Str → Option Value} {hh : Option Value} {nd nu : Nat} {f : Addr} {args : List Value} {Pre : Heap → Prop} {Ret : Heap → Heap → Value → Prop}
  (C : SpecN w mean mg mb hh nd nu f args Pre Ret) {dp un : Nat} {gd : Option (List Code)} {cn : Str} {cs : Scope} {a : Addr} {ccd : Value} {cl : List (Str × Addr)} {outer : List Env} {A₀ : Around} {base h₀ : Heap} {L : Addr} {m : Str → Option Value} {s : Shared} {Q E : Value → Shared → Prop}
  {news : List (Addr × Obj)}
  (B : Below A₀ base outer h₀) (F : Fr h₀ L s.heap m) (X : (hd.heap_39 w.params).In h₀) (N : News h₀ L s.heap news) (T : Top EP LS0 mean mg mb h₀) (hk : cs.kind = .function)
  (h1 : dp + nd < recursionLimit) (h2 : un + nu < cLine) (hp : Pre s.heap)
  (k : ∀ r h' tk', Ext s.heap h' → Fr h₀ L h' m → News h₀ L h' news → Ret s.heap h' r → Q r { s with heap := h', toks := tk' }) :
  wpAny (model PG w) (ad hh dp un gd cn cs L a ccd cl outer) (call (.ref f) args) Q E s :=
 C _ _ _ _ _ _ _ _ _ _ _ _ _ _ _ _ _ B F X T hk h1 h2 hp fun r h' tk' e hr => k r h' tk' e (F.keeps e) (News.ext N e) hr
end
section
set_option maxRecDepth 100000
noncomputable def HOk (h : Heap) : Option Value → Prop
 | none => True
 | some v => ∃ e ob vs C, v = .ref e ∧ h.get? e = some ob ∧ ob.cls = .ref C ∧ ob.data = .fields vs ∧ vs[2]? = some .none
theorem HOk.ext {h h' : Heap} {v : Option Value} (H : HOk h v) (E : Ext h h') : HOk h' v := by
 cases v with
 | none => trivial
 | some v => obtain ⟨e, ob, vs, C, e1, e2, e3⟩ := H; exact ⟨e, ob, vs, C, e1, E _ _ e2, e3⟩
theorem entry_unchain : entryFor table "proto.unchain" = some Builtin.«proto.unchain» := entryFor_of_tree (by kernel_rfl)
section
variable {prog : Program} {w : World} {A : Around} {s : Shared} {α : Type} {Q : α → Shared → Prop} {E : Value → Shared → Prop}
theorem raise_made {h0 : Heap} {e : Addr} {cls : String} {args : List Value} (M : Heap.MadeExc h0 s.heap e cls args) (H : HOk h0 A.handled)
  (k : ∀ h', Ext h0 h' → (∃ o, h'.get? e = some o ∧ o.cls = .type cls) → E (.ref e) { s with heap := h' }) : wpAny (model prog w) A (raiseNew (.ref e) : Sem α) Q E s := by
 walk_at "cg"
 obtain ⟨t, ht, _⟩ := M.there
 walk_at "bg"
 unfold raiseNew
 refine wpAny_bind (wpAny_handled ?_)
 cases q : A.handled with
 | none => exact wpAny_bind (wpAny_pure (wpAny_throw (k _ M.keeps ⟨_, ht, rfl⟩)))
 | some v =>
  rw [q] at H
  walk_at "cg"
  obtain ⟨a, ob, vs, C, rfl, h1, h2, h3, h4⟩ := H
  walk_at "bg"
  have hne : a ≠ e := fun z => by have := M.new; rw [← z, h1] at this; cases this
  have hb : (Value.ref a != Value.ref e) = true := by
   rw [bne_iff_ne]; intro z; cases z; exact hne rfl
  show wpAny _ _ (if (Value.ref a != Value.ref e) = true then _ else _) _ _ _
  rw [if_pos hb]
  refine wpAny_bind (wpAny_holding (wpAny_runValue (codeAny_builtin entry_unchain ?_)))
  refine wpAny_bind (wpAny_field (M.keeps _ _ h1) h3 h4 ?_)
  refine wpAny_ite ?_
  rw [if_pos (show (Value.none == Value.none) = true from rfl)]
  refine wpAny_pure ?_
  refine wpAny_bind ?_
  show wpAny _ _ (setField (.ref e) 2 (.ref a)) _ _ _
  refine wpAny_setField ht rfl (show (2:Nat) < 6 by decide) (wpAny_throw ?_)
  refine k _ (fun b o hb => ?_) ⟨_, Heap.get?_update_self _ ht rfl, rfl⟩
  have hbe : b ≠ e := fun z => by have := M.new; rw [← z, hb] at this; cases this
  rw [Heap.get?_update_ne _ _ _ _ hbe]
  exact M.keeps _ _ hb
theorem stop_raised (H : HOk s.heap A.handled) (k : ∀ h' e, Ext s.heap h' → (∃ o, h'.get? e = some o ∧ o.cls = .type "StopIteration") → E (.ref e) { s with heap := h' }) :
  wpAny (model prog w) A (newExc (.type "StopIteration") [] >>= fun e => (raiseNew e : Sem α)) Q E s := by
 unfold newExc newTuple
 refine wpAny_bind (wpAny_bind (wpAny_newObj_type ?_ (by show (0:Nat) ≤ _; exact Nat.zero_le _)))
 refine wpAny_bind (m := firstArgMember _ _) (wpAny_of_eq (a := Value.none) rfl ?_)
 refine wpAny_newObj_type ?_
 have M : Heap.MadeExc s.heap ((s.heap.push { cls := .type "tuple", data := .seq [].toArray }).push { cls := .type "StopIteration", data := .fields #[.ref s.heap.objs.size, .none, .none, .none, .bool false, .none] }) (s.heap.push { cls := .type "tuple", data := .seq [].toArray }).objs.size "StopIteration" [] := by
  refine ⟨fun b o hb => Heap.get?_push_of_some _ (Heap.get?_push_of_some _ hb), Heap.get?_none_of_le (by simp), s.heap.objs.size, ?_, Heap.get?_none_of_le (Nat.le_refl _), ?_⟩
  ·exact Heap.get?_push_size _ rfl
  ·exact Heap.get?_push_of_some _ (Heap.get?_push_size _ rfl)
 exact raise_made (s := { s with heap := _ }) M H fun h' x y => k h' _ x y
end
end
section
set_option maxRecDepth 100000
open LCg LCt
section
variable {prog : Program} {w : World} {A : Around} {s : Shared} {h₀ : Heap} {L : Addr} {m : Str → Option Value} {env : Env} {elt ct : Expr} {x : Str} {scope : Scope} {cl : List (Str × Addr)}
 {S : List (Addr × Obj) → Prop} {P : Nat → Value → Prop} {Fin : List Value → List (Addr × Obj) → Prop}
end
end
section
set_option maxRecDepth 100000
open LCg LCt
inductive All2 {α β : Type} (R : α → β → Prop) : List α → List β → Prop
 | nil : All2 R [] []
 | cons {a : α} {b : β} {as : List α} {bs : List β} : R a b → All2 R as bs → All2 R (a :: as) (b :: bs)
theorem All2.mono {α β : Type} {R R' : α → β → Prop} (h : ∀ a b, R a b → R' a b) : ∀ {as : List α} {bs : List β}, All2 R as bs → All2 R' as bs
 | _, _, .nil => .nil
 | _, _, .cons x r => .cons (h _ _ x) (All2.mono h r)
theorem All2.append {α β : Type} {R : α → β → Prop} : ∀ {as as' : List α} {bs bs' : List β}, All2 R as bs → All2 R as' bs' → All2 R (as ++ as') (bs ++ bs')
 | _, _, _, _, .nil, k => k
 | _, _, _, _, .cons x r, k => .cons x (All2.append r k)
theorem All2.length {α β : Type} {R : α → β → Prop} : ∀ {as : List α} {bs : List β}, All2 R as bs → as.length = bs.length
 | _, _, .nil => rfl
 | _, _, .cons _ r => congrArg (· + 1) (All2.length r)
theorem All2.get {α β : Type} {R : α → β → Prop} : ∀ {as : List α} {bs : List β}, All2 R as bs → ∀ {i : Nat} {a : α}, as[i]? = some a → ∃ b, bs[i]? = some b ∧ R a b
 | _, _, .nil, i, a, h => by simp at h
 | _, _, .cons x r, 0, a, h => by simp at h; subst h; exact ⟨_, rfl, x⟩
 | _, _, .cons x r, i + 1, a, h => by simp at h; obtain ⟨b, e, z⟩ := All2.get r h; exact ⟨b, by simpa using e, z⟩
theorem All2.getR {α β : Type} {R : α → β → Prop} : ∀ {as : List α} {bs : List β}, All2 R as bs → ∀ {i : Nat} {b : β}, bs[i]? = some b → ∃ a, as[i]? = some a ∧ R a b
 | _, _, .nil, i, a, h => by simp at h
 | _, _, .cons x r, 0, a, h => by simp at h; subst h; exact ⟨_, rfl, x⟩
 | _, _, .cons x r, i + 1, a, h => by simp at h; obtain ⟨b, e, z⟩ := All2.getR r h; exact ⟨b, by simpa using e, z⟩
theorem All2.map {α β γ : Type} {R : α → β → Prop} {S : γ → β → Prop} (f : α → γ) (h : ∀ a b, R a b → S (f a) b) : ∀ {as : List α} {bs : List β}, All2 R as bs → All2 S (as.map f) bs
 | _, _, .nil => .nil
 | _, _, .cons x r => .cons (h _ _ x) (All2.map f h r)
theorem All2.of_get {α β : Type} {R : α → β → Prop} : ∀ {as : List α} {bs : List β}, as.length = bs.length → (∀ (i : Nat) (a : α) (b : β), as[i]? = some a → bs[i]? = some b → R a b) → All2 R as bs
 | [], [], _, _ => .nil
 | [], _ :: _, e, _ => by simp at e
 | _ :: _, [], e, _ => by simp at e
 | a :: as, b :: bs, e, h => .cons (h 0 a b rfl rfl) (All2.of_get (by simpa using e) fun i x y hx hy => h (i + 1) x y (by simpa using hx) (by simpa using hy))
theorem All2.some {α β γ : Type} {R : γ → β → Prop} {f : α → Option γ} : ∀ {as : List α} {bs : List β}, All2 (fun i y => ∃ n, f i = Option.some n ∧ R n y) as bs → All2 R (as.filterMap f) bs
 | _, _, .nil => .nil
 | _, _, .cons ⟨n, e, r⟩ t => by rw [List.filterMap_cons, e]; exact .cons r (All2.some t)
theorem filter_range_map {α : Type} (p : α → Bool) (c : Nat → Bool) : ∀ (n : Nat) (as : List α), (∀ i a, as[i]? = some a → c i = p a) → n ≤ as.length → ((List.range n).filter c).filterMap (fun i => as[i]?) = (as.take n).filter p := by
 intro n
 induction n with
 | zero => intro as _ _; simp
 | succ n ih =>
  intro as hc hn
  rw [List.range_succ, List.filter_append, List.filterMap_append, ih as hc (by exact oz65 hn)]
  have hlt : n < as.length := by exact oz64 hn
  have hx : as[n]? = some as[n] := List.getElem?_eq_getElem hlt
  rw [List.take_add_one, hx, List.filter_append]
  congr 1
  have := hc n _ hx
  cases q : p as[n] with
  | true => simp [List.filter, this, q, hx]
  | false => simp [List.filter, this, q]
theorem All2.range_filter {α β : Type} {R : α → β → Prop} {p : α → Bool} {as : List α} {bs : List β} {n : Nat} (c : Nat → Bool) (hn : n = as.length) (hc : ∀ i a, as[i]? = Option.some a → c i = p a) (h : All2 (fun i y => ∃ n, as[i]? = Option.some n ∧ R n y) ((List.range n).filter c) bs) : All2 R (as.filter p) bs := by
 have e := filter_range_map p c n as hc (Nat.le_of_eq hn)
 rw [List.take_of_length_le (Nat.le_of_eq hn.symm)] at e
 rw [← e]; exact All2.some h
theorem All2.range {α β : Type} {R : α → β → Prop} {as : List α} {bs : List β} {n : Nat} (hn : n = as.length) (h : All2 (fun i y => ∃ n, as[i]? = Option.some n ∧ R n y) (List.range n) bs) : All2 R as bs := by
 have ft : ∀ {γ : Type} (l : List γ), l.filter (fun _ => true) = l := fun l => List.filter_eq_self.mpr fun _ _ => rfl
 have := All2.range_filter (R := R) (bs := bs) (p := fun _ => true) (fun _ => true) hn (fun _ _ _ => rfl) (by rw [ft]; exact h)
 rwa [ft] at this
theorem StrsAre.app {vs ws : List Value} {xs ys : List Str} (h : StrsAre vs xs) (k : StrsAre ws ys) : StrsAre (vs ++ ws) (xs ++ ys) := by
 induction h with
 | nil => exact k
 | cons _ _ _ ih => exact .cons _ _ ih
theorem All2.ints {as : List Int} {bs : List Value} (h : All2 (fun n v => ∃ t, v = Value.int n t) as bs) : IntsAre bs as := by
 induction h with
 | nil => exact .nil
 | cons x _ ih => obtain ⟨t, rfl⟩ := x; exact .cons _ _ ih
theorem All2.strs {as : List Str} {bs : List Value} (h : All2 (fun n v => ∃ t, v = Value.str n t) as bs) : StrsAre bs as := by
 induction h with
 | nil => exact .nil
 | cons x _ ih => obtain ⟨t, rfl⟩ := x; exact .cons _ _ ih
theorem IntsAre.all2 : ∀ {bs : List Value} {as : List Int}, IntsAre bs as → All2 (fun n v => ∃ t, v = Value.int n t) as bs
 | _, _, .nil => .nil
 | _, _, .cons _ _ r => .cons ⟨_, rfl⟩ (IntsAre.all2 r)
theorem IntsAre.item' {bs : List Value} {as : List Int} (h : IntsAre bs as) {i : Nat} {v : Value} (hv : bs[i]? = some v) : ∃ n t, v = Value.int n t ∧ as[i]? = some n := by
 obtain ⟨n, e, t, r⟩ := (IntsAre.all2 h).getR hv; exact (xi2 n t ⟨r, e⟩)
theorem strs_of_range {α : Type} {as : List α} {f : α → Str} {ys : List Value} {n : Nat} (hn : n = as.length) (h : All2 (fun i y => ∃ z t, as[i]? = some z ∧ y = Value.str (f z) t) (List.range n) ys) : StrsAre ys (as.map f) :=
 All2.strs (All2.map f (fun _ _ h => h) (All2.range hn (h.mono fun _ _ ⟨z, t, q, r⟩ => ⟨z, q, t, r⟩)))
theorem ints_of_range {α : Type} {as : List α} {f : α → Int} {ys : List Value} {n : Nat} (hn : n = as.length) (h : All2 (fun i y => ∃ z t, as[i]? = some z ∧ y = Value.int (f z) t) (List.range n) ys) : IntsAre ys (as.map f) :=
 All2.ints (All2.map f (fun _ _ h => h) (All2.range hn (h.mono fun _ _ ⟨z, t, q, r⟩ => ⟨z, q, t, r⟩)))
theorem filter_range_succ (b : Nat → Bool) (i : Nat) : (List.range (i + 1)).filter b = (List.range i).filter b ++ (if b i = true then [i] else []) := by
 rw [List.range_succ, List.filter_append]
 cases q : b i <;> simp [List.filter, q]
noncomputable def CEnd (h₀ : Heap) (L : Addr) (m : Str → Option Value) (s₁ : Shared) (I : Addr) (oI : Obj) (C : Addr) (oC : Obj) (D : Addr) (oD : Obj) (news : List (Addr × Obj)) (G : Value → List (Addr × Obj) → Prop) (y : Value) (s₂ : Shared) : Prop :=
 ∃ h' tk nw, s₂ = { s₁ with heap := h', toks := tk } ∧ Fr h₀ L h' m ∧ News h₀ L h' ((I, oI) :: (C, oC) :: (D, oD) :: nw) ∧ Off3 I C D nw ∧ (∀ p ∈ news, p ∈ nw) ∧ G y nw
theorem CEnd.intro {h₀ : Heap} {L I C D : Addr} {m : Str → Option Value} {s₁ : Shared} {oI oC oD : Obj} {news nw : List (Addr × Obj)} {G : Value → List (Addr × Obj) → Prop} {y : Value} {h' : Heap} {tk : Nat}
  (F : Fr h₀ L h' m) (N : News h₀ L h' ((I, oI) :: (C, oC) :: (D, oD) :: nw)) (off : Off3 I C D nw) (sub : ∀ p ∈ news, p ∈ nw) (g : G y nw) : CEnd h₀ L m s₁ I oI C oC D oD news G y { s₁ with heap := h', toks := tk } :=
 ⟨h', tk, nw, rfl, F, N, off, sub, g⟩
theorem CEnd.ext {h₀ : Heap} {L I C D : Addr} {m : Str → Option Value} {s₁ : Shared} {oI oC oD : Obj} {news nw mk : List (Addr × Obj)} {G : Value → List (Addr × Obj) → Prop} {y : Value} {h h' : Heap} {tk : Nat}
  (F : Fr h₀ L h m) (N : News h₀ L h ((I, oI) :: (C, oC) :: (D, oD) :: nw)) (off : Off3 I C D nw) (sub : ∀ p ∈ news, p ∈ nw) (E : Ext h h') (hm : ∀ p ∈ mk, h.get? p.1 = none ∧ h'.get? p.1 = some p.2) (g : G y (nw ++ mk)) :
  CEnd h₀ L m s₁ I oI C oC D oD news G y { s₁ with heap := h', toks := tk } := by
 have N' := News.ext N E
 have ne : ∀ p ∈ mk, ∀ b o, h.get? b = some o → p.1 ≠ b := fun p hp b o e z => by have := (hm p hp).1; rw [z, e] at this; cases this
 refine ⟨h', tk, nw ++ mk, rfl, F.keeps E, fun p hp => ?_, Off3.of fun p hp => ?_, fun p hp => List.mem_append.mpr (.inl (sub p hp)), g⟩
 ·by_cases q : p ∈ mk
  ·refine ⟨(hm p q).2, ?_, ?_⟩
   ·obtain ⟨oL, _, _, hL, _⟩ := F.ns; exact ne p q _ _ hL
   ·cases e : h₀.get? p.1 with
    | none => rfl
    | some o => exact absurd rfl (ne p q _ _ (F.keep _ _ e))
  ·refine N' p ?_
   simp only [List.mem_cons, List.mem_append] at hp ⊢
   rcases hp with hp | hp | hp | hp | hp
   ·exact .inl hp
   ·exact .inr (.inl hp)
   ·exact .inr (.inr (.inl hp))
   ·exact .inr (.inr (.inr hp))
   ·exact absurd hp q
 ·rcases List.mem_append.mp hp with q | q
  ·exact off.mem p q
  ·exact ⟨ne p q _ _ (N _ (.head _)).1, ne p q _ _ (N _ (.tail _ (.head _))).1, ne p q _ _ (N _ (.tail _ (.tail _ (.head _)))).1⟩
section
variable {prog : Program} {w : World} {A : Around} {s : Shared} {h₀ : Heap} {L : Addr} {m : Str → Option Value} {env : Env} {elt ct : Expr} {x : Str} {scope : Scope} {cl : List (Str × Addr)}
 {S : List (Addr × Obj) → Prop} {P : Nat → Value → Prop} {Fin : List Value → List (Addr × Obj) → Prop}
theorem news_app {h₀ h : Heap} {L : Addr} {a b c : Addr × Obj} {news nw : List (Addr × Obj)} (N : News h₀ L h (a :: b :: c :: nw)) (sub : ∀ p ∈ news, p ∈ nw) : News h₀ L h (a :: b :: c :: (news ++ nw)) := by
 intro p hp
 refine N p ?_
 simp only [List.mem_cons, List.mem_append] at hp ⊢
 rcases hp with q | q | q | q | q
 ·exact .inl q
 ·exact .inr (.inl q)
 ·exact .inr (.inr (.inl q))
 ·exact .inr (.inr (.inr (sub p q)))
 ·exact .inr (.inr (.inr q))
theorem off_app {I C D : Addr} {news nw : List (Addr × Obj)} (o : Off3 I C D nw) (sub : ∀ p ∈ news, p ∈ nw) : Off3 I C D (news ++ nw) :=
 Off3.of fun p hp => o.mem p ((List.mem_append.mp hp).elim (sub p) id)
theorem compU_ind {n : Nat} {news : List (Addr × Obj)} (G : Nat → Value → List (Addr × Obj) → Prop) (mono : ∀ i y l l', (∀ p ∈ l, p ∈ l') → G i y l → G i y l')
  (hS : ∀ nw, (∀ p ∈ news, p ∈ nw) → S nw)
  (step : ∀ i v ys nw I oI C oC D m₂ h tk (E' : Value → Shared → Prop), i < n → P i v → NsObj oC m₂ → m₂ x = some v → Fr h₀ L h m → News h₀ L h ((I, oI) :: (C, oC) :: (D, lst ys) :: (news ++ nw)) → Off3 I C D (news ++ nw) → ((@Ne Nat I C) ∧ (@Ne Nat I D) ∧ (@Ne Nat C D)) →
   wpAny (model prog w) A (eval elt (compEnvC scope cl C env)) (CEnd h₀ L m { s with heap := h, toks := tk } I oI C oC D (lst ys) (news ++ nw) (G i)) E' { s with heap := h, toks := tk })
  (fin : ∀ ys nw, All2 (fun i y => G i y (news ++ nw)) (List.range n) ys → Fin ys (news ++ nw)) :
  CompRest prog w A h₀ L m env elt x scope cl s S P Fin n 0 [] news := by
 have go : ∀ k i ys nw, i + k = n → All2 (fun i y => G i y (news ++ nw)) (List.range i) ys → CompRest prog w A h₀ L m env elt x scope cl s S P Fin k i ys (news ++ nw) := by
  intro k
  induction k with
  | zero => intro i ys nw e a; exact fin ys nw (by rw [show n = i by exact oz63 e]; exact a)
  | succ k ih =>
   intro i ys nw e a v I oI C oC D m₂ h tk E' hP hC hx F N off ne
   refine wpAny_mono (step i v ys nw I oI C oC D m₂ h tk E' (by exact oz62 e) hP hC hx F N off ne) (fun y s' q => ?_) fun _ _ z => z
   walk_at "cg"
   obtain ⟨h', tk', nw', e1, F', N', off', sub', g⟩ := q
   walk_at "bg"
   have sub : ∀ p ∈ news, p ∈ nw' := fun p hp => sub' p (List.mem_append.mpr (.inl hp))
   refine ⟨h', tk', news ++ nw', e1, F', news_app N' sub, off_app off' sub, hS _ fun p hp => List.mem_append.mpr (.inl hp), ih (i + 1) (ys ++ [y]) nw' (by exact oz61 e) ?_⟩
   rw [List.range_succ]
   exact (a.mono fun j z q => mono _ _ _ _ (fun p hp => List.mem_append.mpr (.inr (sub' p hp))) q).append (.cons (mono _ _ _ _ (fun p hp => List.mem_append.mpr (.inr hp)) g) .nil)
 have := go n 0 [] [] (by exact oz60) .nil
 rwa [List.append_nil] at this
theorem compT_ind {n : Nat} {news : List (Addr × Obj)} (b : Nat → Bool) (G : Nat → Value → List (Addr × Obj) → Prop) (mono : ∀ i y l l', (∀ p ∈ l, p ∈ l') → G i y l → G i y l')
  (hS : ∀ nw, (∀ p ∈ news, p ∈ nw) → S nw)
  (step : ∀ i v ys nw I oI C oC D m₂ h tk (E' : Value → Shared → Prop), i < n → P i v → NsObj oC m₂ → m₂ x = some v → Fr h₀ L h m → News h₀ L h ((I, oI) :: (C, oC) :: (D, lst ys) :: (news ++ nw)) → Off3 I C D (news ++ nw) → ((@Ne Nat I C) ∧ (@Ne Nat I D) ∧ (@Ne Nat C D)) →
   wpAny (model prog w) A (isTrue ct (compEnvC scope cl C env) (eval ct (compEnvC scope cl C env))) (fun ok s' => ok = b i ∧ if ok = true then
    wpAny (model prog w) A (eval elt (compEnvC scope cl C env)) (CEnd h₀ L m { s with heap := h, toks := tk } I oI C oC D (lst ys) (news ++ nw) (G i)) E' s'
    else CEnd h₀ L m { s with heap := h, toks := tk } I oI C oC D (lst ys) (news ++ nw) (fun _ _ => True) Value.none s') E' { s with heap := h, toks := tk })
  (fin : ∀ ys nw, All2 (fun i y => G i y (news ++ nw)) ((List.range n).filter b) ys → Fin ys (news ++ nw)) :
  CompRestT prog w A h₀ L m env ct elt x scope cl s S P Fin n 0 [] news := by
 have go : ∀ k i ys nw, i + k = n → All2 (fun i y => G i y (news ++ nw)) ((List.range i).filter b) ys → CompRestT prog w A h₀ L m env ct elt x scope cl s S P Fin k i ys (news ++ nw) := by
  intro k
  induction k with
  | zero => intro i ys nw e a; exact fin ys nw (by rw [show n = i by exact oz63 e]; exact a)
  | succ k ih =>
   intro i ys nw e a v I oI C oC D m₂ h tk E' hP hC hx F N off ne
   refine wpAny_mono (step i v ys nw I oI C oC D m₂ h tk E' (by exact oz62 e) hP hC hx F N off ne) (fun ok s' q => ?_) fun _ _ z => z
   walk_at "cg"
   obtain ⟨eb, q⟩ := q
   walk_at "bg"
   cases ok with
   | true =>
    simp only [if_true] at q ⊢
    refine wpAny_mono q (fun y s' q => ?_) fun _ _ z => z
    walk_at "cg"
    obtain ⟨h', tk', nw', e1, F', N', off', sub', g⟩ := q
    walk_at "bg"
    have sub : ∀ p ∈ news, p ∈ nw' := fun p hp => sub' p (List.mem_append.mpr (.inl hp))
    refine ⟨h', tk', news ++ nw', e1, F', news_app N' sub, off_app off' sub, hS _ fun p hp => List.mem_append.mpr (.inl hp), ih (i + 1) (ys ++ [y]) nw' (by exact oz61 e) ?_⟩
    rw [filter_range_succ, ← eb]
    exact (a.mono fun j z q => mono _ _ _ _ (fun p hp => List.mem_append.mpr (.inr (sub' p hp))) q).append (.cons (mono _ _ _ _ (fun p hp => List.mem_append.mpr (.inr hp)) g) .nil)
   | false =>
    simp only [Bool.false_eq_true, if_false] at q ⊢
    walk_at "cg"
    obtain ⟨h', tk', nw', e1, F', N', off', sub', g⟩ := q
    walk_at "bg"
    have sub : ∀ p ∈ news, p ∈ nw' := fun p hp => sub' p (List.mem_append.mpr (.inl hp))
    refine ⟨h', tk', news ++ nw', e1, F', news_app N' sub, off_app off' sub, hS _ fun p hp => List.mem_append.mpr (.inl hp), ih (i + 1) ys nw' (by exact oz61 e) ?_⟩
    rw [filter_range_succ, ← eb]
    simp only [Bool.false_eq_true, if_false, List.append_nil]
    exact a.mono fun j z q => mono _ _ _ _ (fun p hp => List.mem_append.mpr (.inr (sub' p hp))) q
 have := go n 0 [] [] (by exact oz60) .nil
 rwa [List.append_nil] at this
end
theorem range_small {a b : Int} (h1 : -1000000 < a) (h2 : a < 1000000) (h3 : -1000000 < b) (h4 : b < 1000000) : Builtin.Range.small a b 1 = true := by
 unfold Builtin.Range.small Builtin.Range.rangeFitsLong Builtin.Range.rangeSize
 rw [if_pos (by decide : (1 : Int) > 0), if_pos (by decide : (1 : Int) > 0), Int.ediv_one]
 by_cases q : a < b
 ·rw [if_pos q]; simp only [Bool.and_eq_true, Bool.or_eq_true, decide_eq_true_eq, beq_iff_eq]; omega
 ·rw [if_neg q]; simp only [Bool.and_eq_true, Bool.or_eq_true, decide_eq_true_eq, beq_iff_eq]; omega
theorem range_size {a b : Int} {n : Nat} (h : b - a = (n : Int)) : Builtin.Range.rangeSize a b 1 = (n : Int) := by
 unfold Builtin.Range.rangeSize
 rw [if_pos (by decide), Int.ediv_one]
 split <;> (first | exact oz57 h | omega)
theorem ints_of_range_filter {n : Nat} {ys : List Value} {f : Nat → Int} {b : Nat → Bool} {p : Int → Bool} (hb : ∀ i, b i = p (f i)) (h : All2 (fun i y => ∃ t, y = Value.int (f i) t) ((List.range n).filter b) ys) : IntsAre ys (((List.range n).map f).filter p) := by
 rw [List.filter_map]
 have e : (List.range n).filter (p ∘ f) = (List.range n).filter b := List.filter_congr fun i _ => (hb i).symm
 rw [e]
 exact All2.ints (All2.map f (fun _ _ h => h) h)
theorem srcAt_sub {h₀ : Heap} {ax : Addr} {its : Array Value} {k : Nat} {news : List (Addr × Obj)} (hm : (ax, ({ cls := .type "list", data := .seq its k } : Obj)) ∈ news) : ∀ nw, (∀ p ∈ news, p ∈ nw) → SrcAt h₀ ax its nw :=
 fun _ s => .inr ⟨_, s _ hm, rfl, _, rfl⟩
end
section
set_option maxRecDepth 100000
section
variable {prog : Program} {w : World} {A : Around} {E : Value → Shared → Prop} {s : Shared}
theorem adjust_upto (b n : Nat) (hb : b ≤ n) : Builtin.Slice.sliceAdjust none (some (b : Int)) 1 (n : Int) = (0, (b : Int)) := by
 unfold Builtin.Slice.sliceAdjust
 have h1 : ¬ ((1 : Int) < 0) := by lia
 have h2 : ¬ ((b : Int) < 0) := by lia
 simp only [h1, h2, if_false]
 congr 1
 lia
theorem places_upto (b : Nat) : Builtin.Slice.slicePlaces 0 (b : Int) 1 = b := by
 unfold Builtin.Slice.slicePlaces
 have h1 : (1 : Int) > 0 := by lia
 simp only [h1, if_true, Int.ediv_one]
 split <;> lia
theorem sliceApplied_upto {sl : Addr} {b n : Nat} {u : Tok} {Q : Int × Int × Nat → Shared → Prop} (hs : s.heap.IsSliceOf sl .none (.int b u) .none) (hb : b ≤ n) (h : Q (0, 1, b) s) :
  wpAny (model prog w) A (Builtin.Slice.sliceApplied (.ref sl) (pure (n : Int))) Q E s := by
 obtain ⟨os, hos, hcs, hds⟩ := id hs
 unfold Builtin.Slice.sliceApplied Builtin.Slice.sliceFields
 refine wpAny_bind (wpAny_bind (wpAny_field hos hds (x := .none) rfl (wpAny_bind (wpAny_field hos hds (x := .int b u) rfl (wpAny_bind (wpAny_field hos hds (x := .none) rfl (wpAny_pure ?_)))))))
 refine wpAny_bind (slicePart_none ?_)
 show wpAny _ _ (if ((1 : Int) == 0) = true then _ else _) _ _ s
 rw [if_neg (by decide)]
 refine wpAny_bind (slicePart_none (wpAny_bind (slicePart_int (wpAny_bind (wpAny_pure ?_)))))
 show wpAny _ _ (match Builtin.Slice.sliceAdjust none (some (b : Int)) 1 (n : Int) with | (lo, hi) => pure (lo, (1 : Int), Builtin.Slice.slicePlaces lo hi 1)) _ _ s
 rw [adjust_upto b n hb]
 show wpAny _ _ (pure ((0 : Int), (1 : Int), Builtin.Slice.slicePlaces 0 (b : Int) 1)) _ _ s
 rw [places_upto b]
 exact wpAny_pure h
theorem pick_upto (xs : Array Value) (b : Nat) (hb : b ≤ xs.size) : ((List.range b).filterMap fun (k : Nat) => xs[((0 : Int) + (k : Int) * 1).toNat]?).toArray = (xs.toList.take b).toArray := by
 have e : (fun (k : Nat) => xs[((0 : Int) + (k : Int) * 1).toNat]?) = fun k => xs.toList[k]? := by
  funext k
  have : ((0 : Int) + (k : Int) * 1).toNat = k := by lia
  rw [this]; simp
 rw [e]
 congr 1
 have hb' : b ≤ xs.toList.length := by simpa using hb
 generalize xs.toList = l at hb'
 (revert l; refine hold_pi ?_; set_option tactic.hygienic false in intros)
 clear e hb
 induction b with
 | zero => simp
 | succ b ih =>
  rw [List.range_succ, List.filterMap_append, ih (by lia), List.take_add_one]
  congr 1
theorem getItem_tuple_upto {t sl : Addr} {items : Array Value} {b : Nat} {u : Tok} {Q : Value → Shared → Prop} (ht : IsTup s.heap t items) (hs : s.heap.IsSliceOf sl .none (.int b u) .none) (hb : b < items.size)
  (h : Q (.ref s.heap.objs.size) { s with heap := s.heap.push { cls := .type "tuple", data := .seq (items.toList.take b).toArray } })
  (hsz : items.size ≤ sizeLine := by size_fits) : wpAny (model prog w) A (getItem (.ref t) (.ref sl)) Q E s := by
 have hdrop : sizeOk (.seq (items.toList.take b).toArray) := by
  show (items.toList.take b).toArray.size ≤ sizeLine
  rw [List.size_toArray, List.length_take, Array.length_toList]
  lia
 obtain ⟨os, hos, hcs, hds⟩ := id hs
 have hTs : s.TypeIs (.ref sl) "slice" := ⟨os, hos, hcs⟩
 unfold getItem
 try with_reducible refine wpAny_holding ?_
 first | refine wpAny_bind (wpAny_pure ?_) | skip
 refine wpAny_bind (wpAny_sequenceKey ht.typeIs (by decide) ?_)
 refine wpAny_bind (wpAny_callSpecial?_slot (name := Str.ofString "__getitem__") ht.typeIs slot_tuple_getitem
  (wpAny_call_entry slot_tuple_getitem ht.typeIs entry_tuple_getitem ?_ (args_tuple_getitem _ _)))
 show wpAny _ _ (Builtin.Tuple.tupleItemsOf (.ref t) >>= _) _ _ s
 refine wpAny_bind (tupleItemsOf_ ht ?_)
 refine wpAny_bind (wpAny_typeOf hTs ?_)
 rw [if_pos (by decide)]
 refine wpAny_bind (sliceApplied_upto hs (Nat.le_of_lt hb) ?_)
 have hno : ¬ (((0 : Int) == 0 && (1 : Int) == 1 && b == items.size) = true) := by
  have : (b == items.size) = false := by rw [beq_eq_false_iff_ne]; lia
  rw [this]; simp
 show wpAny _ _ (if ((0 : Int) == 0 && (1 : Int) == 1 && b == items.size) = true then _ else _) _ _ s
 rw [if_neg hno, pick_upto items b (Nat.le_of_lt hb)]
 first
  | exact wpAny_bind (m := Builtin.Tuple.tupleExact _) (wpAny_newObj_type (wpAny_pure ⟨_, rfl, wpAny_pure h⟩) hdrop)
  | exact wpAny_bind (m := Builtin.Tuple.tupleExact _) (wpAny_newObj_type (wpAny_bind (wpAny_pure (wpAny_pure ⟨_, rfl, wpAny_pure h⟩))) hdrop)
  | exact wpAny_bind (wpAny_bind (m := Builtin.Tuple.tupleExact _) (wpAny_newObj_type (wpAny_pure (wpAny_pure ⟨_, rfl, wpAny_pure h⟩)) hdrop))
  | exact wpAny_bind (wpAny_bind (m := Builtin.Tuple.tupleExact _) (wpAny_newObj_type (wpAny_pure ⟨_, rfl, wpAny_pure h⟩) hdrop))
theorem eq_pair {l b : Addr} {x y : Str} {n k : Int} {t1 t2 u1 u2 : Tok} {Q : Value → Shared → Prop} (hl : s.heap.IsTuple l #[.str x t1, .int n t2]) (hb : s.heap.IsTuple b #[.str y u1, .int k u2]) (hu : A.units < cLine)
  (h : Q (.bool (x == y && n == k)) s) : wpAny (model prog w) A (compareOp .Eq (.ref l) (.ref b)) Q E s := by
 refine SeqAt.eq_tupleAt (e := fun j => if j = 0 then x == y else n == k) hl hb hu (fun j h1 h2 => ?_) ?_
 ·match j, h1 with
  | 0, _ => exact SeqAt.EqAt.str_str _ _ _ _
  | 1, _ => exact SeqAt.EqAt.int_int _ _ _ _
  | j + 2, h1 => exact absurd h1 (by simp)
 ·have e : ((List.range (min (#[Value.str x t1, .int n t2]).size (#[Value.str y u1, .int k u2]).size)).all (fun j => if j = 0 then x == y else n == k) && (#[Value.str x t1, .int n t2]).size == (#[Value.str y u1, .int k u2]).size) = (x == y && n == k) := by
   show ((List.range 2).all _ && (2 == 2)) = _
   simp [List.range, List.range.loop]
  rw [e]; exact h
variable {h₀ : Heap} {L : Addr} {m : Str → Option Value} {news : List (Addr × Obj)}
theorem slice_tuple_upto {value slice : Expr} {t : Addr} {items : Array Value} {b : Nat} {u : Tok} {Q : Value → Shared → Prop}
  (F : Fr h₀ L s.heap m) (N : News h₀ L s.heap news) (ht : IsTup s.heap t items) (hb : b < items.size)
  (h : ∀ h', Fr h₀ L h' m → News h₀ L h' ((s.heap.objs.size + 1, { cls := .type "tuple", data := .seq (items.toList.take b).toArray }) :: news) → Q (.ref (s.heap.objs.size + 1)) { s with heap := h' })
  (hs : subscripted slice false (.ref t) (.ref s.heap.objs.size) = operate [.ref s.heap.objs.size, .ref t] (getItem (.ref t) (.ref s.heap.objs.size)) := by with_unfolding_all rfl)
  (hg : ∀ r, letTemporaryGo value (.ref t) r = pure () := by intro _; with_unfolding_all rfl)
  (hsz : items.size ≤ sizeLine := by size_fits) :
  wpAny (model prog w) A (subscriptTail value slice (.ref t) (.ref s.heap.objs.size)) Q E { s with heap := s.heap.push { cls := .type "slice", data := .fields #[.none, .int (b : Int) u, .none] } } := by
 have ht' : IsTup (s.heap.push { cls := .type "slice", data := .fields #[.none, .int (b : Int) u, .none] }) t items := ht.keeps fun _ _ e => Heap.get?_push_of_some _ e
 refine subscriptTail_ops (s := { s with heap := s.heap.push { cls := .type "slice", data := .fields #[.none, .int (b : Int) u, .none] } }) ht'.typeIs slot_tuple_getitem.lookup
  (getItem_tuple_upto ht' (Heap.IsSliceOf.new ..) hb ?_ hsz) hs hg
 have N1 := News.push (F.push { cls := .type "slice", data := .fields #[.none, .int (b : Int) u, .none] }) (N.grown fun _ _ e => Heap.get?_push_of_some _ e) { cls := .type "tuple", data := .seq (items.toList.take b).toArray }
 rw [Heap.size_push] at N1
 show Q (.ref (s.heap.push _).objs.size) _
 rw [Heap.size_push]
 exact h _ ((F.push _).push _) N1
end
end
section
set_option maxRecDepth 100000
noncomputable def Hold (p : Prop) : Prop := p
theorem hold_it {p : Prop} (h : Hold p) : p := h
structure WalkI (prog : Program) (w : World) (A : Around) (I : Addr) (n : Nat) (P : Nat → Value → Prop) (St : Nat → Heap → Prop) (Dn : Prop) : Prop where
 item : ∀ i (s : Shared) (Q : Option Value → Shared → Prop) (E : Value → Shared → Prop), i < n → St i s.heap →
  (∀ v h' tk, P i v → St (i + 1) h' → (∀ b o, b ≠ I → s.heap.get? b = some o → h'.get? b = some o) → Q (some v) { s with heap := h', toks := tk }) → wpAny (model prog w) A (pyNext (.ref I)) Q E s
 done : Dn → ∀ (s : Shared) (Q : Option Value → Shared → Prop) (E : Value → Shared → Prop), St n s.heap →
  (∀ h' tk, (∀ b o, b ≠ I → s.heap.get? b = some o → h'.get? b = some o) → Q none { s with heap := h', toks := tk }) → wpAny (model prog w) A (pyNext (.ref I)) Q E s
theorem WalkI.of {prog : Program} {w : World} {A : Around} {I : Addr} {fp : List Addr} {n : Nat} {P : Nat → Value → Prop} {St : Nat → Heap → Prop} (W : Walks prog w A I fp [I] n P St) : WalkI prog w A I n P St True where
 item := fun i s Q E hi st hQ => W.item i s Q E hi st fun v h' tk p st' k => hQ v h' tk p st' fun b o hb e => k b o (by simpa using hb) e
 done := fun _ s Q E st hQ => W.done s Q E st fun h' tk k => hQ h' tk fun b o hb e => k b o (by simpa using hb) e
theorem WalkI.str {prog : Program} {w : World} {A : Around} (I : Addr) (x : Str) (t : Tok) :
  WalkI prog w A I x.cps.size (SignAt x) (fun i h => h.IsStrIter I "str_ascii_iterator" x t i) (A.handled = none) where
 item := fun i s Q E hi st hQ => by
  refine wpAny_pyNext_ascii_item st (c := x.cps[i]) (by simp [hi]) fun h' hit' hs' => ?_
  exact hQ _ h' (s.toks + 1) ⟨_, _, by simp [hi], rfl⟩ hit' fun b o hb e => hs'.extBut b o hb e
 done := fun hh s Q E st hQ => wpAny_pyNext_ascii_end hh st (by simp) fun h' he' => hQ h' s.toks fun b o hb e => he' b o hb e
theorem news_sub {h₀ h : Heap} {L : Addr} {news all : List (Addr × Obj)} (N : News h₀ L h all) (sub : ∀ p ∈ news, p ∈ all) : News h₀ L h news := fun p hp => N p (sub p hp)
theorem news_drop2 {h₀ h : Heap} {L : Addr} {a b : Addr × Obj} {r : List (Addr × Obj)} (N : News h₀ L h (a :: b :: r)) : News h₀ L h (a :: r) := fun p hp => N p (by
 rcases List.mem_cons.mp hp with rfl | hp
 ·exact .head _
 ·exact .tail _ (.tail _ hp))
theorem news_ne {h₀ h : Heap} {L a b : Addr} {o p : Obj} {news : List (Addr × Obj)} (N : News h₀ L h news) (ha : (a, o) ∈ news) (hb : (b, p) ∈ news) (hc : o.cls ≠ p.cls) : @Ne Nat a b := fun e => by
 have h1 := (N _ ha).1
 have h2 := (N _ hb).1
 dsimp only at h1 h2
 rw [show a = b from e, h2] at h1
 cases h1
 exact hc rfl
noncomputable def ovr (m₀ : Str → Option Value) : List (Str × Option Value) → Str → Option Value
 | [], y => m₀ y
 | (x, v) :: r, y => if y = x then v else ovr m₀ r y
theorem ovr_eq {m' m₀ : Str → Option Value} {ps : List (Str × Option Value)} (h1 : ∀ p ∈ ps, m' p.1 = p.2) (h2 : ∀ y, (∀ p ∈ ps, y ≠ p.1) → m' y = m₀ y) : m' = ovr m₀ ps := by
 have key : ∀ (qs : List (Str × Option Value)), (∀ p ∈ qs, m' p.1 = p.2) → ∀ y, ((∀ p ∈ qs, y ≠ p.1) → m' y = m₀ y) → m' y = ovr m₀ qs y := by
  intro qs
  induction qs with
  | nil => intro _ y h; exact h fun _ hp => nomatch hp
  | cons q r ih =>
   walk_at "cg"
   obtain ⟨x, v⟩ := q
   walk_at "bg"
   intro h1 y h2
   rw [ovr]
   by_cases e : y = x
   ·rw [if_pos e, e]; exact h1 _ (.head _)
   ·rw [if_neg e]; exact ih (fun p hp => h1 p (.tail _ hp)) y fun hr => h2 fun p hp => by
     rcases List.mem_cons.mp hp with rfl | hp
     ·exact e
     ·exact hr p hp
 funext y
 exact key ps h1 y (h2 y)
theorem ovr_self {m₀ : Str → Option Value} {ps : List (Str × Option Value)} (h : ∀ p ∈ ps, m₀ p.1 = p.2) : m₀ = ovr m₀ ps := ovr_eq h fun _ _ => rfl
noncomputable def FEnd (h₀ : Heap) (L I : Addr) (oI : Obj) (J : (Str → Option Value) → List (Addr × Obj) → Array GenState → Prop) (s : Shared) (Q : Flow → Shared → Prop) (f : Flow) (s₂ : Shared) : Prop :=
 match f with
 | .ret v => Q (.ret v) s₂
 | .brk => Q .next s₂
 | _ => ∃ h' tk gs m' nw, s₂ = { s with heap := h', toks := tk, gens := gs } ∧ Fr h₀ L h' m' ∧ News h₀ L h' ((I, oI) :: nw) ∧ (∀ p ∈ nw, p.1 ≠ I) ∧ J m' nw gs
section
variable {prog : Program} {w : World} {A : Around} {s : Shared} {env : Env} {h₀ : Heap}
theorem FEnd.next {L I : Addr} {oI : Obj} {J : (Str → Option Value) → List (Addr × Obj) → Array GenState → Prop} {Q : Flow → Shared → Prop} {h' : Heap} {tk : Nat} {gs : Array GenState} {m' : Str → Option Value} {nw all : List (Addr × Obj)}
  (F : Fr h₀ L h' m') (N : News h₀ L h' all) (sub : ∀ p ∈ (I, oI) :: nw, p ∈ all) (off : ∀ p ∈ nw, p.1 ≠ I) (j : J m' nw gs) : FEnd h₀ L I oI J s Q .next { s with heap := h', toks := tk, gens := gs } :=
 ⟨h', tk, gs, m', nw, rfl, F, fun p hp => N p (sub p hp), off, j⟩
theorem codeAny_for_my {Q : Flow → Shared → Prop} {target : Expr} {body : List Stmt} {I : Addr} {n : Nat} {P : Nat → Value → Prop} {St : Nat → Heap → Prop} {Dn : Prop} {m : Str → Option Value} {news : List (Addr × Obj)}
  (src : Heap → Prop) (W : WalkI prog w A I n P St Dn) (hIo : ∀ i h, St i h → ∃ o, h.get? I = some o)
  (hSt : ∀ i h h' o, St i h → h.get? I = some o → h'.get? I = some o → src h' → St i h')
  (hLI : env.locals ≠ I) (hI₀ : h₀.get? I = none)
  (hst : St 0 s.heap) (F : Fr h₀ env.locals s.heap m) (N : News h₀ env.locals s.heap news) (off : ∀ p ∈ news, p.1 ≠ I)
  (J : Nat → (Str → Option Value) → List (Addr × Obj) → Array GenState → Prop) (hsrc : ∀ i m' nw gs h, J i m' nw gs → Fr h₀ env.locals h m' → News h₀ env.locals h nw → src h) (h0 : J 0 m news s.gens)
  (turn : ∀ i v m₁ nw gs h tk oI, i < n → P i v → J i m₁ nw gs → Fr h₀ env.locals h m₁ → News h₀ env.locals h ((I, oI) :: nw) → (∀ p ∈ nw, p.1 ≠ I) →
   wpAny (model prog w) A (assign target env v) (fun _ s₂ => wpAny (model prog w) A (execs body env) (FEnd h₀ env.locals I oI (J (i + 1)) s Q) (fun _ _ => False) s₂) (fun _ _ => False) { s with heap := h, toks := tk, gens := gs })
  (fin : ∀ m₁ nw gs, J n m₁ nw gs → Dn ∧ ∀ h tk, Fr h₀ env.locals h m₁ → News h₀ env.locals h nw → Q .next { s with heap := h, toks := tk, gens := gs })
  (ht : ∀ v, letOwnedTupleGo target (.ref I) v = pure () := by intro _; rfl) :
  codeAny (model prog w) A (.forLoop target (.ref I) body [] env) (fun r s' => match r with | .ok f => Q f s' | .error _ => False) s := by
 refine codeAny_forLoop
  (fun k s' => ∃ h' tk gs m' nw i, s' = { s with heap := h', toks := tk, gens := gs } ∧ St i h' ∧ Fr h₀ env.locals h' m' ∧ News h₀ env.locals h' nw ∧ (∀ p ∈ nw, p.1 ≠ I) ∧ J i m' nw gs ∧ i ≤ n ∧ k = n + 1 - i) ?_ (n + 1)
  (xi6 s.heap s.toks s.gens m news 0 ⟨rfl, hst, F, N, off, h0, Nat.zero_le _, rfl⟩) ht
 intro k s' hGJ
 walk_at "cg"
 obtain ⟨h', tk, gs, m', nw, i, rfl, hst', F', N', off', hJ, hi, rfl⟩ := hGJ
 walk_at "bg"
 have next : ∀ h₁ : Heap, (∀ b o, b ≠ I → h'.get? b = some o → h₁.get? b = some o) → Fr h₀ env.locals h₁ m' ∧ News h₀ env.locals h₁ nw := fun h₁ hk₁ =>
  ⟨⟨F'.ns.at' fun o e => hk₁ _ o hLI e, fun b o e => hk₁ b o (fun z => by rw [z, hI₀] at e; cases e) (F'.keep b o e), F'.above⟩, fun p hp => ⟨hk₁ _ _ (off' p hp) (N' p hp).1, (N' p hp).2⟩⟩
 by_cases hlt : i < n
 ·refine W.item i _ _ _ hlt hst' fun v h₁ tk₁ hP hst₁ hk₁ => ?_
  walk_at "cg"
  obtain ⟨F₁, N₁⟩ := next h₁ hk₁
  walk_at "bg"
  walk_at "cg"
  obtain ⟨oI, heI⟩ := hIo _ _ hst₁
  walk_at "bg"
  have N₂ : News h₀ env.locals h₁ ((I, oI) :: nw) := fun p hp => by
   rcases List.mem_cons.mp hp with rfl | hp
   ·exact ⟨heI, Ne.symm hLI, hI₀⟩
   ·exact N₁ p hp
  refine wpAny_mono (turn i v m' nw gs h₁ tk₁ oI hlt hP hJ F₁ N₂ off') (fun _ s₂ h₂ => wpAny_mono h₂ (fun f s₃ h₃ => ?_) fun _ _ z => z.elim) fun _ _ z => z.elim
  have go : (∃ h' tk gs m' nw, s₃ = { s with heap := h', toks := tk, gens := gs } ∧ Fr h₀ env.locals h' m' ∧ News h₀ env.locals h' ((I, oI) :: nw) ∧ (∀ p ∈ nw, p.1 ≠ I) ∧ J (i + 1) m' nw gs) →
    ∃ k, k < n + 1 - i ∧ ∃ h' tk gs m' nw j, s₃ = { s with heap := h', toks := tk, gens := gs } ∧ St j h' ∧ Fr h₀ env.locals h' m' ∧ News h₀ env.locals h' nw ∧ (∀ p ∈ nw, p.1 ≠ I) ∧ J j m' nw gs ∧ j ≤ n ∧ k = n + 1 - j := by
   intro hGJ
   walk_at "cg"
   obtain ⟨g₃, tk₃, gs₃, m₃, nw₃, rfl, F₃, N₃, off₃, J₃⟩ := hGJ
   walk_at "bg"
   have N₃' : News h₀ env.locals g₃ nw₃ := fun p hp => N₃ p (.tail _ hp)
   exact ⟨n + 1 - (i + 1), by exact oz49 hlt, xi6 g₃ tk₃ gs₃ m₃ nw₃ (i + 1) ⟨rfl, hSt _ _ _ _ hst₁ heI (N₃ _ (.head _)).1 (hsrc _ _ _ _ _ J₃ F₃ N₃'), F₃, N₃', off₃, J₃, hlt, rfl⟩⟩
  cases f with
  | ret v => exact h₃
  | brk => exact h₃
  | cont => exact go h₃
  | next => exact go h₃
 ·have hin : i = n := by exact oz66 hi hlt
  subst hin
  walk_at "cg"
  obtain ⟨dn, q⟩ := fin _ _ _ hJ
  walk_at "bg"
  refine W.done dn _ _ _ hst' fun h₁ tk₁ hk₁ => wpAny_execs_nil ?_
  walk_at "cg"
  obtain ⟨F₁, N₁⟩ := next h₁ hk₁
  walk_at "bg"
  exact q h₁ tk₁ F₁ N₁
theorem codeAny_for_name {Q : Flow → Shared → Prop} {x : Str} {px : Pos} {body : List Stmt} {I : Addr} {n : Nat} {P : Nat → Value → Prop} {St : Nat → Heap → Prop} {Dn : Prop} {m : Str → Option Value} {news : List (Addr × Obj)}
  (src : Heap → Prop) (W : WalkI prog w A I n P St Dn) (hIo : ∀ i h, St i h → ∃ o, h.get? I = some o)
  (hSt : ∀ i h h' o, St i h → h.get? I = some o → h'.get? I = some o → src h' → St i h')
  (hx : env.kindOf x = some .local) (hp : (env.scope.kind == .class || (env.scope.kind == .module && env.locals != env.globals)) = false)
  (hLI : env.locals ≠ I) (hI₀ : h₀.get? I = none)
  (hst : St 0 s.heap) (F : Fr h₀ env.locals s.heap m) (N : News h₀ env.locals s.heap news) (off : ∀ p ∈ news, p.1 ≠ I)
  (J : Nat → (Str → Option Value) → List (Addr × Obj) → Array GenState → Prop) (hsrc : ∀ i m' nw gs h, J i m' nw gs → Fr h₀ env.locals h m' → News h₀ env.locals h nw → src h) (h0 : J 0 m news s.gens)
  (turn : ∀ i v m₁ nw gs h tk oI, i < n → P i v → J i m₁ nw gs → Fr h₀ env.locals h (fun y => if y = x then some v else m₁ y) → News h₀ env.locals h ((I, oI) :: nw) → (∀ p ∈ nw, p.1 ≠ I) →
   wpAny (model prog w) A (execs body env) (FEnd h₀ env.locals I oI (J (i + 1)) s Q) (fun _ _ => False) { s with heap := h, toks := tk, gens := gs })
  (fin : ∀ m₁ nw gs, J n m₁ nw gs → Dn ∧ ∀ h tk, Fr h₀ env.locals h m₁ → News h₀ env.locals h nw → Q .next { s with heap := h, toks := tk, gens := gs }) :
  codeAny (model prog w) A (.forLoop (.Name x px) (.ref I) body [] env) (fun r s' => match r with | .ok f => Q f s' | .error _ => False) s := by
 refine codeAny_for_my src W hIo hSt hLI hI₀ hst F N off J hsrc h0 (fun i v m₁ nw gs h tk oI hi hP hJ F₁ N₁ off₁ => ?_) fin
 refine wpAny_assign_Name (wpAny_storeName_local hx F₁.ns (fun h₂ hn₂ hs₂ => ?_) hp)
 exact turn i v m₁ nw gs h₂ _ oI hi hP hJ (F₁.set hn₂ hs₂) (N₁.set hs₂) off₁
theorem for_str {E : Value → Shared → Prop} {Q : Flow → Shared → Prop} {x : Str} {px : Pos} {body : List Stmt} {u : Str} {tu : Tok} {m : Str → Option Value} {news : List (Addr × Obj)}
  (ha : u.cps.all (· < 128) = true)
  (hx : env.kindOf x = some .local) (hp : (env.scope.kind == .class || (env.scope.kind == .module && env.locals != env.globals)) = false)
  (F : Fr h₀ env.locals s.heap m) (N : News h₀ env.locals s.heap news)
  (J : Nat → (Str → Option Value) → List (Addr × Obj) → Array GenState → Prop) (h0 : J 0 m news s.gens)
  (turn : ∀ i c tc m₁ nw gs h tk I oI, u.cps[i]? = some c → J i m₁ nw gs → Fr h₀ env.locals h (fun y => if y = x then some (.str ⟨#[c]⟩ tc) else m₁ y) → News h₀ env.locals h ((I, oI) :: nw) → (∀ p ∈ nw, p.1 ≠ I) →
   wpAny (model prog w) A (execs body env) (FEnd h₀ env.locals I oI (J (i + 1)) s Q) (fun _ _ => False) { s with heap := h, toks := tk, gens := gs })
  (fin : ∀ m₁ nw gs, J u.cps.size m₁ nw gs → A.handled = none ∧ ∀ h tk, Fr h₀ env.locals h m₁ → News h₀ env.locals h nw → Q .next { s with heap := h, toks := tk, gens := gs }) :
  wpAny (model prog w) A (pyIter (.str u tu)) (fun it s₂ => codeAny (model prog w) A (.forLoop (.Name x px) it body [] env) (fun r s' => match r with | .ok f => Q f s' | .error _ => False) s₂) E s := by
 refine wpAny_pyIter_ascii ha ?_
 have up : ∀ (o' : Obj) b o, s.heap.get? b = some o → (s.heap.push o').get? b = some o := fun o' b o e => Heap.get?_push_of_some _ e
 refine codeAny_for_name (Q := Q) (s := { s with heap := s.heap.push _ }) (fun _ => True) (WalkI.str s.heap.objs.size u tu) (fun i h ⟨o, e, _⟩ => ⟨o, e⟩) (fun i h h' o st e e' _ => ?_) hx hp (Nat.ne_of_lt F.ns.lt) (next_is_new F) ⟨_, Heap.get?_push_size _ rfl, rfl, rfl⟩ (F.push _) (N.grown (up _))
  (fun p hp => Nat.ne_of_lt (Heap.lt_size (N p hp).1)) J (fun _ _ _ _ _ _ _ _ => trivial) h0 (fun i v m₁ nw gs h tk oI hi hP hJ F₁ N₁ off₁ => ?_) fin
 ·obtain ⟨o', q, r⟩ := st; rw [e] at q; cases q; exact ⟨o, e', r⟩
 ·walk_at "cg"
  obtain ⟨c, tc, hc, rfl⟩ := hP
  walk_at "bg"
  exact turn i c tc m₁ nw gs h tk _ oI hc hJ F₁ N₁ off₁
theorem for_range {E : Value → Shared → Prop} {Q : Flow → Shared → Prop} {x : Str} {px : Pos} {body : List Stmt} {r : Addr} {a b : Int} {t u v : Tok} {n : Nat} {m : Str → Option Value} {news : List (Addr × Obj)}
  (hr : IsRange s.heap r a b 1 t u v) (hsm : Builtin.Range.small a b 1 = true) (hn : Builtin.Range.rangeSize a b 1 = ((n : Nat) : Int)) (hh : A.handled = none)
  (hx : env.kindOf x = some .local) (hp : (env.scope.kind == .class || (env.scope.kind == .module && env.locals != env.globals)) = false)
  (F : Fr h₀ env.locals s.heap m) (N : News h₀ env.locals s.heap news)
  (J : Nat → (Str → Option Value) → List (Addr × Obj) → Array GenState → Prop) (h0 : J 0 m news s.gens)
  (turn : ∀ i ti m₁ nw gs h tk I oI, i < n → J i m₁ nw gs → Fr h₀ env.locals h (fun y => if y = x then some (.int (a + (i : Int)) ti) else m₁ y) → News h₀ env.locals h ((I, oI) :: nw) → (∀ p ∈ nw, p.1 ≠ I) →
   wpAny (model prog w) A (execs body env) (FEnd h₀ env.locals I oI (J (i + 1)) s Q) (fun _ _ => False) { s with heap := h, toks := tk, gens := gs })
  (fin : ∀ m₁ nw gs, J n m₁ nw gs → ∀ h tk, Fr h₀ env.locals h m₁ → News h₀ env.locals h nw → Q .next { s with heap := h, toks := tk, gens := gs }) :
  wpAny (model prog w) A (pyIter (.ref r)) (fun it s₂ => codeAny (model prog w) A (.forLoop (.Name x px) it body [] env) (fun r s' => match r with | .ok f => Q f s' | .error _ => False) s₂) E s := by
 refine wpAny_pyIter_range hr hsm ?_
 have up : ∀ (o' : Obj) b o, s.heap.get? b = some o → (s.heap.push o').get? b = some o := fun o' b o e => Heap.get?_push_of_some _ e
 refine codeAny_for_name (Q := Q) (s := { s with heap := s.heap.push _ }) (fun _ => True) (WalkI.of (LCg.range_walks (I := s.heap.objs.size) hh a n)) (fun i h e => ⟨_, e⟩) (fun i h h' o st e e' _ => ?_) hx hp (Nat.ne_of_lt F.ns.lt) (next_is_new F) (by show IsRangeIter _ _ _ _ _; rw [hn]; simpa using Heap.get?_push_size _ rfl) (F.push _) (N.grown (up _))
  (fun p hp => Nat.ne_of_lt (Heap.lt_size (N p hp).1)) J (fun _ _ _ _ _ _ _ _ => trivial) h0 (fun i v m₁ nw gs h tk oI hi hP hJ F₁ N₁ off₁ => ?_) fun m₁ nw gs j => ⟨trivial, fin m₁ nw gs j⟩
 ·have st' : h.get? s.heap.objs.size = some _ := st
  show h'.get? _ = some _
  rw [e', ← e]; exact st'
 ·walk_at "cg"
  obtain ⟨ti, rfl⟩ := hP
  walk_at "bg"
  exact turn i ti m₁ nw gs h tk _ oI hi hJ F₁ N₁ off₁
theorem for_list {E : Value → Shared → Prop} {Q : Flow → Shared → Prop} {x : Str} {px : Pos} {body : List Stmt} {l : Addr} {vs : List Value} {m : Str → Option Value} {news : List (Addr × Obj)}
  (hl : s.heap.IsList l vs.toArray) (hh : A.handled = none)
  (hx : env.kindOf x = some .local) (hp : (env.scope.kind == .class || (env.scope.kind == .module && env.locals != env.globals)) = false)
  (F : Fr h₀ env.locals s.heap m) (N : News h₀ env.locals s.heap news)
  (J : Nat → (Str → Option Value) → List (Addr × Obj) → Array GenState → Prop) (h0 : J 0 m news s.gens)
  (hsrc : ∀ i m' nw gs h, J i m' nw gs → Fr h₀ env.locals h m' → News h₀ env.locals h nw → h.IsList l vs.toArray)
  (turn : ∀ i v m₁ nw gs h tk I oI, vs[i]? = some v → J i m₁ nw gs → Fr h₀ env.locals h (fun y => if y = x then some v else m₁ y) → News h₀ env.locals h ((I, oI) :: nw) → (∀ p ∈ nw, p.1 ≠ I) →
   wpAny (model prog w) A (execs body env) (FEnd h₀ env.locals I oI (J (i + 1)) s Q) (fun _ _ => False) { s with heap := h, toks := tk, gens := gs })
  (fin : ∀ m₁ nw gs, J vs.length m₁ nw gs → ∀ h tk, Fr h₀ env.locals h m₁ → News h₀ env.locals h nw → Q .next { s with heap := h, toks := tk, gens := gs }) :
  wpAny (model prog w) A (pyIter (.ref l)) (fun it s₂ => codeAny (model prog w) A (.forLoop (.Name x px) it body [] env) (fun r s' => match r with | .ok f => Q f s' | .error _ => False) s₂) E s := by
 refine wpAny_pyIter_list hl ?_
 have up : ∀ (o' : Obj) b o, s.heap.get? b = some o → (s.heap.push o').get? b = some o := fun o' b o e => Heap.get?_push_of_some _ e
 have hne : l ≠ s.heap.objs.size := by obtain ⟨o, e, _⟩ := hl; exact Nat.ne_of_lt (Heap.lt_size e)
 have W : Walks prog w A s.heap.objs.size _ [s.heap.objs.size] vs.length _ _ := Walks.list (prog := prog) (w := w) hh s.heap.objs.size l hne vs.toArray
 refine codeAny_for_name (Q := Q) (s := { s with heap := s.heap.push _ }) (fun h => h.IsList l vs.toArray) (WalkI.of W) (fun i h st => by obtain ⟨o, e, _⟩ := st.1; exact ⟨o, e⟩) (fun i h h' o st e e' q => ?_) hx hp (Nat.ne_of_lt F.ns.lt) (next_is_new F) ⟨⟨_, Heap.get?_push_size _ rfl, rfl, rfl⟩, hl.push _⟩ (F.push _) (N.grown (up _))
  (fun p hp => Nat.ne_of_lt (Heap.lt_size (N p hp).1)) J hsrc h0 (fun i v m₁ nw gs h tk oI hi hP hJ F₁ N₁ off₁ => ?_) fun m₁ nw gs j => ⟨trivial, fin m₁ nw gs j⟩
 ·obtain ⟨o', q', r⟩ := st.1; rw [e] at q'; cases q'; exact ⟨⟨o, e', r⟩, q⟩
 ·exact turn i v m₁ nw gs h tk _ oI (by simpa using hP) hJ F₁ N₁ off₁
theorem wpAny_for_of {E : Value → Shared → Prop} {Q : Flow → Shared → Prop} {target iter : Expr} {body : List Stmt} {pos : Pos}
  (h : wpAny (model prog w) A (eval iter env) (fun xv s₁ => wpAny (model prog w) A (pyIter xv) (fun it s₂ => codeAny (model prog w) A (.forLoop target it body [] env) (fun r s' => match r with | .ok f => Q f s' | .error _ => False) s₂) E s₁) E s)
  (hs : ∀ x, foldedSetIterable iter env x = pure x) :
  wpAny (model prog w) A (exec (.For target iter body [] pos) env) Q E s :=
 wpAny_For (wpAny_mono h (fun xv s₁ h₁ => wpAny_mono h₁ (fun it s₂ h₂ => codeAny_mono h₂ fun r s' q => by cases r with | ok f => exact q | error e => exact q.elim) fun _ _ z => z) fun _ _ z => z) hs
end
end
section
set_option maxRecDepth 100000
section
variable {prog : Program} {w : World} {A : Around} {E : Value → Shared → Prop} {s : Shared}
theorem next_tuple_end' {it t : Addr} {i : Nat} {items} {Q : Option Value → Shared → Prop} (hh : ∀ h', Heap.ExtBut it s.heap h' → HOk h' A.handled)
  (hit : IsTupIter s.heap it t i) (ht : IsTup s.heap t items) (hx : items[i]? = none)
  (hQ : ∀ h', Heap.ExtBut it s.heap h' → Q none { s with heap := h' }) : wpAny (model prog w) A (pyNext (.ref it)) Q E s := by
 obtain ⟨o, ho, hc, hd⟩ := id hit
 obtain ⟨ol, hol, _, nl, hdl⟩ := ht
 unfold pyNext
 refine wpAny_bind (wpAny_attempt (wpAny_callSpecial?_slot (name := Str.ofString "__next__") hit.typeIs slot_tupleiter_next
  (wpAny_call_entry slot_tupleiter_next hit.typeIs entry_tupleiter_next ?_ (args_tupleiter_next _))))
 show wpAny _ _ (field (.ref it) 0 >>= _) _ _ s
 refine wpAny_bind (wpAny_field ho hd (x := .ref t) rfl ?_)
 show wpAny _ _ (if (Value.ref t == Value.none) = true then _ else _) _ _ s
 rw [if_neg (show ¬ ((Value.ref t == Value.none) = true) from Bool.false_ne_true)]
 show wpAny _ _ (field (.ref it) 1 >>= _) _ _ s
 refine wpAny_bind (wpAny_field ho hd (x := .int i 0) rfl ?_)
 show wpAny _ _ (seqItems? (.ref t) >>= _) _ _ s
 refine wpAny_bind (wpAny_seqItems hol hdl ?_)
 simp only [Int.toNat_natCast, hx]
 refine wpAny_bind (wpAny_rule (wpAny_bind (wpAny_setField ho hd (by simp) ?_)))
 show wpAny _ _ (newExc (.type "StopIteration") [] >>= _) _ _ _
 refine stop_raised (hh _ (Heap.SameBut.update ..).extBut) fun h' e ext he => ?_
 obtain ⟨oe, he1, he2⟩ := he
 refine wpAny_bind (wpAny_isInstance (T := "StopIteration") (b := true) ⟨_, he1, he2⟩ isSubtype_stop ?_)
 exact wpAny_pure (hQ _ fun b o hb e => ext b o ((Heap.SameBut.update ..).extBut b o hb e))
theorem unpackItems_tuple' {t : Addr} {items : Array Value} {Q : List Value → Shared → Prop} (hh : ∀ h', Heap.ExtBut s.heap.objs.size s.heap h' → HOk h' A.handled) (ht : IsTup s.heap t items)
  (hQ : ∀ h', Heap.ExtBut s.heap.objs.size s.heap h' → Q items.toList { s with heap := h' }) : wpAny (model prog w) A (unpackItems (.ref t) items.size none) Q E s := by
 have hlt : t ≠ s.heap.objs.size := by obtain ⟨o, ho, _⟩ := ht; exact Nat.ne_of_lt (Heap.lt_size ho)
 unfold unpackItems
 refine wpAny_bind ?_
 ·unfold notIterableAtAll
  refine wpAny_bind (wpAny_specialOf ht.typeIs slot_tuple_iter.lookup ?_)
  refine wpAny_pure ?_
  simp only [Bool.false_eq_true, if_false]
  refine wpAny_bind (wpAny_holding (iter_tuple ht ?_))
  refine wpAny_bind (wpAny_holding (draw_tuple hlt items.size 0 _ _ ⟨_, Heap.get?_push_size _ rfl, rfl, rfl⟩ (ht.push _) (by lia) fun h₁ hit₁ hs₁ => ?_))
  have hall : List.take items.size (List.drop 0 items.toList) = items.toList := by
   rw [List.drop_zero]; exact List.take_of_length_le (by simp)
  rw [hall]
  rw [if_neg (by simp)]
  have ht₁ : IsTup h₁ t items := (ht.push _).extBut hs₁.extBut hlt
  refine wpAny_bind (wpAny_holding (next_tuple_end' (fun h₂ he₂ => hh h₂ fun b o hb e => he₂ b o hb (hs₁.extBut b o hb (Heap.get?_push_of_some _ e))) hit₁ ht₁ (by simp) fun h₂ he₂ => ?_))
  simp only [Option.isSome_none, Bool.false_eq_true, if_false]
  refine wpAny_pure (hQ h₂ fun b o hb e => he₂ b o hb (hs₁.extBut b o hb (Heap.get?_push_of_some _ e)))
variable {h₀ : Heap} {L : Addr} {m : Str → Option Value} {news : List (Addr × Obj)} {env : Env}
theorem HOk.fr {hh : Option Value} {h : Heap} (H : HOk h₀ hh) (F : Fr h₀ L h m) : HOk h hh := H.ext F.keep
theorem unpackItemsN' {t : Addr} {items : Array Value} {n : Nat} {Q : List Value → Shared → Prop} (F : Fr h₀ L s.heap m) (N : News h₀ L s.heap news) (H : HOk h₀ A.handled) (ht : IsTup s.heap t items)
  (hn : n = items.size) (h : ∀ h', Fr h₀ L h' m → News h₀ L h' news → Q items.toList { s with heap := h' }) : wpAny (model prog w) A (unpackItems (.ref t) n none) Q E s := by
 subst hn
 exact unpackItems_tuple' (fun h' he => H.fr (F.extBut he (Nat.le_refl _))) ht fun h' he => h h' (F.extBut he (Nat.le_refl _)) (N.extBut he (Nat.le_refl _))
theorem unpackN' {elts : List Expr} {k} {pos : Pos} {t : Addr} {items : Array Value} {Q : Unit → Shared → Prop} (F : Fr h₀ L s.heap m) (N : News h₀ L s.heap news) (H : HOk h₀ A.handled) (ht : IsTup s.heap t items)
  (hn : (assignEach elts env).length = items.size) (hstar : (assignEach elts env).findIdx? (·.1) = none)
  (h : ∀ h', Fr h₀ L h' m → News h₀ L h' news → wpAny (model prog w) A (assignInOrder ((assignEach elts env).map (·.2)) items.toList) Q E { s with heap := h' }) :
  wpAny (model prog w) A (assign (.Tuple elts k pos) env (.ref t)) Q E s := by
 rw [assign_Tuple]
 refine wpAny_bind (wpAny_standAt ?_)
 unfold unpack
 rw [hstar, hn]
 exact wpAny_bind (wpAny_holding (unpackItemsN' F N H ht rfl h))
end
end
section
set_option maxRecDepth 100000
noncomputable def Made (h h' : Heap) (mk : List (Addr × Obj)) : Prop := ∀ p ∈ mk, h.get? p.1 = none ∧ h'.get? p.1 = some p.2
theorem Ext.none {h h' : Heap} {a : Addr} (E : Ext h h') (e : h'.get? a = Option.none) : h.get? a = Option.none := by
 cases q : h.get? a with
 | none => rfl
 | some o => rw [E _ _ q] at e; cases e
theorem made_of {h₀ g h' : Heap} {L : Addr} {news mk : List (Addr × Obj)} (E : Ext h₀ g) (N : News g L h' news) (sub : ∀ p ∈ mk, p ∈ news) : Made h₀ h' mk :=
 fun p hp => ⟨Ext.none E (N p (sub p hp)).2.2, (N p (sub p hp)).1⟩
theorem Made.ext {h h' h'' : Heap} {mk : List (Addr × Obj)} (M : Made h h' mk) (E : Ext h' h'') : Made h h'' mk := fun p hp => ⟨(M p hp).1, E _ _ (M p hp).2⟩
theorem Made.news {h₀ h h' : Heap} {L : Addr} {m : Str → Option Value} {mk news : List (Addr × Obj)} (M : Made h h' mk) (F : Fr h₀ L h m) (N : News h₀ L h' news) : News h₀ L h' (mk ++ news) := by
 intro p hp
 rcases List.mem_append.mp hp with q | q
 ·refine ⟨(M p q).2, fun e => ?_, ?_⟩
  ·obtain ⟨oL, _, _, hL, _⟩ := F.ns
   have := (M p q).1; rw [e, hL] at this; cases this
  ·cases e : h₀.get? p.1 with
   | none => rfl
   | some o => have := (M p q).1; rw [F.keep _ _ e] at this; cases this
 ·exact N p q
noncomputable abbrev ExtB (S : List Addr) (h h' : Heap) : Prop := ∀ b o, b ∉ S → h.get? b = some o → h'.get? b = some o
theorem ExtB.ext {h h' : Heap} (E : ExtB [] h h') : Ext h h' := fun b o e => E b o (by walk_at "ms") e
theorem ext_of_led {h₀ h g h' : Heap} {L L' : Addr} {m' : Str → Option Value} {led all : List (Addr × Obj)} {S : List Addr} (keep : ∀ b o, h.get? b = some o → b ∉ led.map (·.1) → g.get? b = some o) (N : News h₀ L h led) (F' : Fr g L' h' m') (N' : News g L' h' all)
  (sub : ∀ p ∈ led, p.1 ∉ S → p ∈ all) : ExtB S h h' := by
 intro b o hb e
 by_cases q : b ∈ led.map (·.1)
 ·obtain ⟨p, hp, rfl⟩ := List.mem_map.mp q
  have e1 := (N p hp).1
  rw [e] at e1; cases e1
  exact (N' p (sub p hp hb)).1
 ·exact F'.keep _ _ (keep b o e q)
theorem made_led {h₀ h g h' : Heap} {L L' : Addr} {led all mk : List (Addr × Obj)} (keep : ∀ b o, h.get? b = some o → b ∉ led.map (·.1) → g.get? b = some o) (N' : News g L' h' all) (sub : ∀ p ∈ mk, p ∈ all) (off : ∀ p ∈ mk, p.1 ∉ led.map (·.1)) : Made h h' mk := by
 intro p hp
 refine ⟨?_, (N' p (sub p hp)).1⟩
 cases e : h.get? p.1 with
 | none => rfl
 | some o => have := (N' p (sub p hp)).2.2; rw [keep _ _ e (off p hp)] at this; cases this
section
variable {prog : Program} {w : World} {A : Around} {E : Value → Shared → Prop} {s : Shared} {h₀ : Heap} {L : Addr} {m : Str → Option Value}
theorem append_led {la : Addr} {its : Array Value} {k : Nat} {x : Value} {all : List (Addr × Obj)} (rest : List (Addr × Obj)) {Q : Value → Shared → Prop} (F : Fr h₀ L s.heap m) (N : News h₀ L s.heap all) (hm : (la, W.listOf its k) ∈ all)
  (sub : ∀ p ∈ rest, p ∈ all) (off : ∀ p ∈ rest, p.1 ≠ la) (hsz : its.size ≤ sizeLine)
  (h : ∀ h', Fr h₀ L h' m → News h₀ L h' ((la, W.listOf (its.push x) (k + 1)) :: rest) → Q .none { s with heap := h' }) : wpAny (model prog w) A (call (.builtin "list.append") [.ref la, x]) Q E s := by
 refine append_at (hsz := hsz) (N _ hm).1 fun h' hs he => h h' (F.change hs (N _ hm).2.1 (N _ hm).2.2) fun p hp => ?_
 rcases List.mem_cons.mp hp with rfl | hp
 ·exact ⟨he, (N _ hm).2⟩
 ·exact ⟨(hs.2 _ (off p hp)).trans (N p (sub p hp)).1, (N p (sub p hp)).2⟩
theorem append_led3 {la : Addr} {its : Array Value} {k : Nat} {x : Value} {a b : Addr × Obj} {R : List (Addr × Obj)} {Q : Value → Shared → Prop} (F : Fr h₀ L s.heap m) (N : News h₀ L s.heap (a :: b :: (la, W.listOf its k) :: R))
  (o1 : a.1 ≠ la) (o2 : b.1 ≠ la) (o3 : ∀ p ∈ R, p.1 ≠ la) (hsz : its.size ≤ sizeLine)
  (h : ∀ h', Fr h₀ L h' m → News h₀ L h' ((la, W.listOf (its.push x) (k + 1)) :: a :: b :: R) → Q .none { s with heap := h' }) : wpAny (model prog w) A (call (.builtin "list.append") [.ref la, x]) Q E s := by
 refine append_led (a :: b :: R) F N (.tail _ (.tail _ (.head _))) (fun p hp => ?_) (fun p hp => ?_) hsz h
 ·rcases List.mem_cons.mp hp with rfl | hp
  ·exact .head _
  ·rcases List.mem_cons.mp hp with rfl | hp
   ·exact .tail _ (.head _)
   ·exact .tail _ (.tail _ (.tail _ hp))
 ·rcases List.mem_cons.mp hp with rfl | hp
  ·exact o1
  ·rcases List.mem_cons.mp hp with rfl | hp
   ·exact o2
   ·exact o3 p hp
theorem news_fold3 {h : Heap} {a b c : Addr × Obj} {mk mk2 l1 l2 tl : List (Addr × Obj)} (e1 : mk = l1) (e2 : mk2 = l2) (N : News h₀ L h (a :: b :: c :: ((l1 ++ l2) ++ tl))) : News h₀ L h (a :: b :: c :: ((mk ++ mk2) ++ tl)) := by
 rw [e1, e2]; exact N
theorem news_fold2 {h : Heap} {a b : Addr × Obj} {mk mk2 l1 l2 tl : List (Addr × Obj)} (e1 : mk = l1) (e2 : mk2 = l2) (N : News h₀ L h (a :: b :: ((l1 ++ l2) ++ tl))) : News h₀ L h (a :: b :: ((mk ++ mk2) ++ tl)) := by
 rw [e1, e2]; exact N
end
noncomputable def SpecL (w : World) (mean : ExcName → Option Value) (mg mb : Str → Option Value) (hh : Option Value) (nd nu : Nat) (f : Addr) (args : List Value) (led : List (Addr × Obj)) (S : List Addr) (Ret : Heap → Heap → Value → Prop) : Prop :=
 ∀ (dp un : Nat) (gd : Option (List Code)) (cn : Str) (cs : Scope) (a : Addr) (ccd : Value) (cl : List (Str × Addr)) (outer : List Env) (A₀ : Around) (base h₀ : Heap) (L : Addr) (m : Str → Option Value) (s : Shared) (Q E : Value → Shared → Prop),
  Below A₀ base outer h₀ → Fr h₀ L s.heap m → (hd.heap_39 w.params).In h₀ → Top EP LS0 mean mg mb h₀ → cs.kind = .function →
  dp + nd < recursionLimit → un + nu < cLine → HOk s.heap hh → News h₀ L s.heap led →
  (∀ r h' tk', ExtB S s.heap h' → Ret s.heap h' r → Q r { s with heap := h', toks := tk' }) →
   wpAny (model PG w) (ad hh dp un gd cn cs L a ccd cl outer) (call (.ref f) args) Q E s
noncomputable def SpecL.at (w : World) (mean : ExcName → Option Value) (mg mb : Str → Option Value) (hh : Option Value) (nd nu : Nat) (f : Addr) (args : List Value) (led : List (Addr × Obj)) (S : List Addr) (Ret : Heap → Heap → Value → Prop) (dp un : Nat) (gd : Option (List Code)) (cn : Str) (cs : Scope) (a : Addr) (ccd : Value) (cl : List (Str × Addr)) (outer : List Env) (A₀ : Around) (base h₀ : Heap) (L : Addr) (m : Str → Option Value) (s : Shared) (Q E : Value → Shared → Prop) : Prop :=
  Below A₀ base outer h₀ → Fr h₀ L s.heap m → (hd.heap_39 w.params).In h₀ → Top EP LS0 mean mg mb h₀ → cs.kind = .function →
  dp + nd < recursionLimit → un + nu < cLine → HOk s.heap hh → News h₀ L s.heap led →
  (∀ r h' tk', ExtB S s.heap h' → Ret s.heap h' r → Q r { s with heap := h', toks := tk' }) →
   wpAny (model PG w) (ad hh dp un gd cn cs L a ccd cl outer) (call (.ref f) args) Q E s
theorem SpecL.use {w : World} {mean : ExcName → Option Value} {mg mb : Str → Option Value} {hh : Option Value} {nd nu : Nat} {f : Addr} {args : List Value} {led : List (Addr × Obj)} {S : List Addr} {Ret : Heap → Heap → Value → Prop}
  (C : SpecL w mean mg mb hh nd nu f args led S Ret) {dp un : Nat} {gd : Option (List Code)} {cn : Str} {cs : Scope} {a : Addr} {ccd : Value} {cl : List (Str × Addr)} {outer : List Env} {A₀ : Around} {base h₀ : Heap} {L : Addr} {m : Str → Option Value} {s : Shared} {Q E : Value → Shared → Prop}
  {news : List (Addr × Obj)}
  (B : Below A₀ base outer h₀) (F : Fr h₀ L s.heap m) (X : (hd.heap_39 w.params).In h₀) (N : News h₀ L s.heap news) (T : Top EP LS0 mean mg mb h₀) (hk : cs.kind = .function)
  (h1 : dp + nd < recursionLimit) (h2 : un + nu < cLine) (hp : HOk s.heap hh) (sub : ∀ p ∈ led, p ∈ news) (hS : ∀ a ∈ S, a ∈ led.map (·.1))
  (k : ∀ r h' tk', ExtB S s.heap h' → Fr h₀ L h' m → (∀ p ∈ news, p.1 ∉ S → h'.get? p.1 = some p.2 ∧ p.1 ≠ L ∧ h₀.get? p.1 = none) → Ret s.heap h' r → Q r { s with heap := h', toks := tk' }) :
  wpAny (model PG w) (ad hh dp un gd cn cs L a ccd cl outer) (call (.ref f) args) Q E s := by
 have hSn : ∀ a ∈ S, h₀.get? a = none ∧ a ≠ L := fun a ha => by
  obtain ⟨p, hp, rfl⟩ := List.mem_map.mp (hS a ha)
  exact ⟨(N p (sub p hp)).2.2, (N p (sub p hp)).2.1⟩
 refine C _ _ _ _ _ _ _ _ _ _ _ _ _ _ _ _ _ B F X T hk h1 h2 hp (fun p hp => N p (sub p hp)) fun r h' tk' e hr => k r h' tk' e ⟨F.ns.at' fun o q => e _ _ (fun z => (hSn _ z).2 rfl) q, fun b o q => e _ _ (fun z => by rw [(hSn _ z).1] at q; cases q) (F.keep _ _ q), F.above⟩ (fun p hp hn => ⟨e _ _ hn (N p hp).1, (N p hp).2⟩) hr
theorem SpecL.use0 {w : World} {mean : ExcName → Option Value} {mg mb : Str → Option Value} {hh : Option Value} {nd nu : Nat} {f : Addr} {args : List Value} {led : List (Addr × Obj)} {Ret : Heap → Heap → Value → Prop}
  (C : SpecL w mean mg mb hh nd nu f args led [] Ret) {dp un : Nat} {gd : Option (List Code)} {cn : Str} {cs : Scope} {a : Addr} {ccd : Value} {cl : List (Str × Addr)} {outer : List Env} {A₀ : Around} {base h₀ : Heap} {L : Addr} {m : Str → Option Value} {s : Shared} {Q E : Value → Shared → Prop}
  {news : List (Addr × Obj)}
  (B : Below A₀ base outer h₀) (F : Fr h₀ L s.heap m) (X : (hd.heap_39 w.params).In h₀) (N : News h₀ L s.heap news) (T : Top EP LS0 mean mg mb h₀) (hk : cs.kind = .function)
  (h1 : dp + nd < recursionLimit) (h2 : un + nu < cLine) (hp : HOk s.heap hh) (sub : ∀ p ∈ led, p ∈ news)
  (k : ∀ r h' tk', Ext s.heap h' → Fr h₀ L h' m → News h₀ L h' news → Ret s.heap h' r → Q r { s with heap := h', toks := tk' }) :
  wpAny (model PG w) (ad hh dp un gd cn cs L a ccd cl outer) (call (.ref f) args) Q E s :=
 SpecL.use C B F X N T hk h1 h2 hp sub (fun _ h => nomatch h) fun r h' tk' e F' N' hr => k r h' tk' e.ext F' (fun p hp => N' p hp (by walk_at "ms")) hr
end
section
set_option maxRecDepth 100000
section
variable {prog : Program} {w : World} {A : Around} {E : Value → Shared → Prop} {h : Heap} {g : Array GenState} {d : Drawn} {t : Nat} {os : OsState}
variable {nm q : Str} {C N : Addr} {bs bm : List Value} {hdct : Bool} {sn : List Str} {sub : List Value} {ab : Bool} {col : Option Bool} {dd : Option Addr} {k0 k1 k2 k3 k5 : Option Value} {B newId initId : String}
theorem exc_call {fI : Addr} (F : ExcBaseFacts B newId initId bm) {mN : Str → Option Value} {rest : List Value} {R : Result → Shared → Prop}
  (hC : h.get? C = some (excClassObj nm q C N bs bm hdct sn sub ab col dd k0 k1 k2 k3 k5 newId)) (hn : h.Ns N mN) (hni : mN "__init__" = some (.ref fI))
  (hb : ∀ self, Looks (model prog w) h (bindSpecial (.ref fI) self) (.ref fI, [self]))
  (hq : codeAny (model prog w) (A.under (.builtin "type.__call__" ⟨.ref C :: rest, []⟩)) (.call (.ref fI) ⟨.ref (h.objs.size + 1) :: rest, []⟩) (InitBack (h.objs.size + 1) R)
   ⟨(h.push { cls := .type "tuple", data := .seq rest.toArray }).push { cls := .ref C, data := .fields #[.ref h.objs.size, .none, .none, .none, .bool false, .none] }, g, d, t, os⟩) (hrest : rest.length ≤ sizeLine := by size_fits) :
  codeAny (model prog w) A (.call (.ref C) ⟨rest, []⟩) R ⟨h, g, d, t, os⟩ := by
 have f1 := tc_lookup
 have f2 := tc_bind (.ref C)
 have hT : (⟨h, g, d, t, os⟩ : Shared).TypeIs (.ref C) "type" := ⟨_, hC, rfl⟩
 refine codeAny_of_tree ?_
 show wpAny _ _ (callAny (.ref C) _) _ _ _
 repeat (any_goals (first | assumption | with_reducible refine wpAny_loadPart_at hC ?_ | wp_step))
 refine ⟨rfl, ?_⟩
 refine codeAny_call_builtin_at (Code.quiet_builtin _ (by decide +kernel)) entry_typeCall (wpAny_check_type_call_sub hC ?_)
 unfold Builtin.«type.__call__»
 repeat (first | with_reducible refine wpAny_loadPart_at hC ?_ | with_reducible refine wpAny_madeBy_exc hC ?_ | wp_step)
 refine codeAny_call_builtin_code (Code.quiet_builtin _ F.quiet) (wpAny_check_new_sub F hC ?_)
 refine codeAny_exc_new_sub F hC ?_ hrest
 show wpAny _ _ _ _ _ ⟨(h.push { cls := .type "tuple", data := .seq rest.toArray }).push { cls := .ref C, data := .fields #[.ref h.objs.size, .none, .none, .none, .bool false, .none] }, g, d, t, os⟩
 have k : ∀ b o, h.get? b = some o → ((h.push { cls := .type "tuple", data := .seq rest.toArray }).push { cls := .ref C, data := .fields #[.ref h.objs.size, .none, .none, .none, .bool false, .none] }).get? b = some o := fun b o e => Heap.get?_push_of_some _ (Heap.get?_push_of_some _ e)
 have hC₁ := k _ _ hC
 have hn₁ : ((h.push { cls := .type "tuple", data := .seq rest.toArray }).push { cls := .ref C, data := .fields #[.ref h.objs.size, .none, .none, .none, .bool false, .none] }).Ns N mN :=
  let ⟨o, es, ep, e, r⟩ := hn; ⟨o, es, ep, k _ _ e, r⟩
 have hget : ((h.push { cls := .type "tuple", data := .seq rest.toArray }).push
   { cls := .ref C, data := .fields #[.ref h.objs.size, .none, .none, .none, .bool false, .none] }).get? (h.objs.size + 1) = some
   { cls := .ref C, data := .fields #[.ref h.objs.size, .none, .none, .none, .bool false, .none] } := by heap_get
 have hcC : (Value.ref C :: bm).contains (.ref C) = true := by walk_at "ms"
 unfold isInstance
 repeat (first | with_reducible refine wpAny_loadPart_at hget ?_ | wp_step)
 dsimp only
 refine wpAny_isSubtype_exc hC₁ ?_
 rw [hcC]
 repeat (first | with_reducible refine wpAny_loadPart_at hget ?_ | wp_step)
 show wpAny _ _ (typeLookup (.ref C) _) _ _ _
 refine wpAny_typeLookup_exc hC₁ hn₁ F.mroIs F.init.lookup ?_
 rw [hni]
 refine wpAny_holding (wpAny_bind (((hb _).keeps k).here ?_))
 refine wpAny_bind (wpAny_call (codeAny_mono hq fun r s' z => ?_))
 rcases r with e | (v | _ | _ | _) <;> first | exact z | exact z.elim | skip
 obtain ⟨rfl, z⟩ := z
 exact wpAny_pure (wpAny_pure z)
end
section
variable {prog : Program} {w : World} {A : Around} {E : Value → Shared → Prop} {s : Shared} {K : Frag} {x C : Addr} {ox : Obj} {od : Option Obj} {name : Str}
theorem exc_method {f : Addr} {pl : Sem Bool} {Q : Value × List Value → Shared → Prop} (X : K.In s.heap) (I : InstAt s.heap x ox C od) (hga : findIn K (.ref C) "__getattribute__" = some (some (.builtin "BaseException.__getattribute__"))) (hk : findIn K (.ref C) "__getattr__" = some none)
  (hf : findIn K (.ref C) name = some (some (.ref f))) (ht : typeIn K (.ref f) = some (.type "function")) (hs : shadowIn od name = some false) (h : Q (.ref f, [.ref x]) s) :
  wpAny (model prog w) A (getMethod (.ref x) name pl) Q E s := by
 have hcan : (Manifest.canonical "BaseException.__getattribute__" != "object.__getattribute__") = false := by decide +kernel
 unfold getMethod specialOf
 refine wpAny_bind (wpAny_bind (I.type.here ((looks_findIn X hga).here ?_)))
 dsimp only
 rw [hcan, if_neg (by decide)]
 refine wpAny_bind (wpAny_bind (I.type.here ((looks_findIn X hk).here ?_)))
 refine wpAny_bind (wpAny_bind (I.type.here ((looks_findIn X hf).here (wpAny_bind ((looks_typeIn X ht).here ?_)))))
 rw [if_neg (by decide +kernel)]
 refine wpAny_bind (wpAny_loadPart I.at_ ?_)
 have hd := I.dict
 cases e : ox.dict with
 | none => exact wpAny_bind (wpAny_rule (wpAny_pure h))
 | some dx =>
  cases od with
  | none => rw [e] at hd; exact hd.elim
  | some o =>
   rw [e] at hd
   obtain ⟨r, a, b⟩ := Option.map_eq_some_iff.mp hs
   refine wpAny_bind (wpAny_bind (wpAny_loadPart hd ?_))
   rw [nsLook_of a]
   refine wpAny_pure ?_
   rw [b]
   exact wpAny_bind (wpAny_rule (wpAny_pure h))
theorem exc_value {v : Value} {expr : Bool} {Q : Value → Shared → Prop} (X : K.In s.heap) (I : InstAt s.heap x ox C od) (hga : findIn K (.ref C) "__getattribute__" = some (some (.builtin "BaseException.__getattribute__"))) (hk : findIn K (.ref C) "__getattr__" = some none)
  (hm : mroIn K C (.type "BaseException") = some true) (hf : findObj K C od name = some (.value v)) (hh : handedIn v = true) (h : ∀ tk, Q v { s with toks := tk }) : wpAny (model prog w) A (getAttr (.ref x) name expr) Q E s := by
 obtain ⟨hp, g, d, t, os⟩ := s
 have hx2 : (Value.builtin "BaseException.__getattribute__" == Value.builtin "object.__getattribute__") = false := by decide +kernel
 have hx1 : (onTheHeap (Value.ref C) && Value.builtin "BaseException.__getattribute__" == Value.builtin "object.__getattribute__") = false := by rw [hx2]; rfl
 have hx0 : (expr && onTheHeap (Value.builtin "BaseException.__getattribute__")) = false := by cases expr <;> rfl
 have hkd : builtinKind "BaseException.__getattribute__" = some .slot := by decide +kernel
 have hsplit : splitId "BaseException.__getattribute__" = some ("BaseException", "__getattribute__") := by decide +kernel
 have L0 := I.type (M := model prog w)
 have L1 := looks_findIn (M := model prog w) X hga
 have L2 := looks_findIn (M := model prog w) X hk
 have L3 := looks_find (M := model prog w) X I hf
 have hi : Looks (model prog w) hp (isInstance (.ref x) (.type "BaseException")) true := I.type.andThen (looks_mroIn X hm)
 unfold getAttr getAttrBy
 refine wpAny_bind (wpAny_mkText (wpAny_holding (wpAny_bind (L0.at (wpAny_bind (L1.at ?_))))))
 dsimp only
 rw [hx1]
 simp only [Bool.false_eq_true, if_false]
 unfold getAttrByItsOwn hookBefore
 rw [if_pos (show onTheHeap (Value.ref C) = true from rfl)]
 refine wpAny_bind (L2.at ?_)
 dsimp only
 refine wpAny_bind (wpAny_attempt (wpAny_holding ?_))
 unfold callGetattribute
 rw [hx0]
 simp only [Bool.false_eq_true, if_false]
 unfold boundAndCalled
 have FX := PySem.F.attr_Exception
 rw [FX.ga.bind (.ref x)]
 refine wpAny_bind (wpAny_pure (wpAny_call ?_))
 show codeAny _ _ (.call (.builtin "BaseException.__getattribute__") ⟨[.ref x, .str name t], []⟩) _ _
 refine codeAny_call_builtin FX.ga.plain PySem.F.entry_bexc_ga ?_
 refine @check_slot (model prog w) _ _ ⟨hp, g, d, t + 1, os⟩ "BaseException.__getattribute__" "BaseException" "__getattribute__" (.ref x) [.str name t] [] _ hkd hsplit hi (PySem.F.args_bexc_ga (.ref x) (.str name t)) ?_
 unfold Builtin.«object.__getattribute__»
 refine wpAny_bind (wpAny_of_eq (a := (Value.ref x, [Value.str name t])) rfl ?_)
 dsimp only
 refine wpAny_bind (wpAny_of_eq (a := name) rfl ?_)
 refine wpAny_bind (L0.at ?_)
 refine wpAny_bind (L3.at ?_)
 dsimp only
 refine wpAny_pure ?_
 dsimp only
 rw [handedOut_of hh]
 exact wpAny_pure (h _)
end
end
section
open Builtin Builtin.ObjectAttr
set_option maxRecDepth 100000
section
variable {prog : Program} {w : World} {A : Around} {E : Value → Shared → Prop} {h : Heap} {g : Array GenState} {d : Drawn} {t : Nat} {os : OsState}
variable {nm q : Str} {C N x : Addr} {bs bm : List Value} {sn : List Str} {sub : List Value} {ab : Bool} {col : Option Bool} {dd : Option Addr} {k0 k1 k2 k3 k5 : Option Value} {B newId sa owner : String}
 {mN : Str → Option Value} {name : Str} {v : Value}
theorem store0 {o : Obj} {Q : Unit → Shared → Prop} (SF : StoreFacts B bm sa owner)
  (hC : h.get? C = some (excClassObj nm q C N bs bm true sn sub ab col dd k0 k1 k2 k3 k5 newId)) (hn : h.Ns N mN) (hns : mN "__setattr__" = none) (hna : mN name = none)
  (hB : typeLookup (.type B) name = pure none) (hx : h.get? x = some o) (hc : o.cls = .ref C) (hnc : ∀ c, o.data ≠ .cls c) (hdn : o.dict = none)
  (hq : ∀ h' tk', h'.get? x = some { o with dict := some h.objs.size } → h'.Ns1 h.objs.size (fun y => if y = name then some v else none) → (∀ b ob, b ≠ x → h.get? b = some ob → h'.get? b = some ob) → Q () ⟨h', g, d, tk', os⟩) :
  wpAny (model prog w) A (setAttr (.ref x) name v) Q E ⟨h, g, d, t, os⟩ := by
 have f3 := SF.slot.bind (.ref x)
 unfold setAttr callSpecial? specialOf
 repeat (any_goals (first | assumption | (with_reducible refine wpAny_loadPart_at hx ?_; rw [hc]) | (with_reducible refine wpAny_typeLookup_exc hC hn SF.mro SF.slot.lookup ?_; rw [hns]) | wp_step))
 refine codeAny_call_builtin SF.slot.plain SF.entry (wpAny_check_sa SF hC hx hc ?_)
 have hpass := SF.passes (.ref x)
 unfold Builtin.«object.__setattr__»
 repeat (first | rw [refuse_eq] | (rw [refuseLoop_ref, hpass]) | (with_reducible refine wpAny_loadPart_at hx ?_; rw [hc]) | with_reducible refine wpAny_mroOf_exc hC ?_ | (with_reducible refine wpAny_typeLookup_exc hC hn SF.mro hB ?_; rw [hna]) | wp_step)
 rw [hdn, if_neg (by simp [typeHasDict])]
 split
 ·rename_i hcd
  cases hcd
 split
 ·rename_i c hcd
  exact absurd hcd (hnc c)
 have hx₁ : (h.push { cls := .type "dict", data := .dict #[] }).get? x = some o := Heap.get?_push_of_some _ hx
 have hxs : x ≠ h.objs.size := Nat.ne_of_lt (Heap.lt_size hx)
 refine wpAny_bind (wpAny_alloc' (wpAny_bind (wpAny_update' hx₁ (wpAny_pure ?_))))
 have hgd : ((h.push { cls := .type "dict", data := .dict #[] }).update x fun o => { cls := o.cls, dict := some h.objs.size, data := o.data, slots := o.slots }).get? h.objs.size = some { cls := .type "dict", data := .dict #[] } :=
  (Heap.get?_update_ne _ _ _ _ hxs.symm).trans (Heap.get?_push_at rfl rfl)
 have hnd : ((h.push { cls := .type "dict", data := .dict #[] }).update x fun o => { cls := o.cls, dict := some h.objs.size, data := o.data, slots := o.slots }).Ns h.objs.size (fun _ => none) :=
  ⟨_, #[], _, hgd, rfl, fun e he => absurd he (by walk_at "ms"), fun _ => rfl⟩
 show wpAny _ _ (storeInDict h.objs.size _ name v) _ _ _
 unfold storeInDict newKeyGuard
 refine wpAny_bind (wpAny_pure (wpAny_bind (wpAny_nsSet1 (Heap.Ns1.of_empty hnd) fun h' hn' hs => ?_)))
 walk_at "cg"
 obtain ⟨oD, esD, epD, hoD, hdD, hcD⟩ := hn'.count (Within.cons name v Within.nil)
 walk_at "bg"
 refine wpAny_bind (wpAny_lookBehind hoD (by rw [hdD]; exact pastItsLine_dict (Nat.le_trans hcD (by rw [List.length_cons, List.length_nil, sizeLine_eq]; omega))) ?_)
 wp_walk
 refine hq h' _ ?_ hn' fun b ob hbx hb => (hs.2 b (Nat.ne_of_lt (Heap.lt_size hb))).trans ((Heap.get?_update_ne _ _ _ _ hbx).trans (Heap.get?_push_of_some _ hb))
 refine (hs.2 x hxs).trans (Heap.get?_update_self _ hx₁ ?_)
 have hfr := (Heap.get?_some_iff.mp hx).2
 walk_at "cg"
 obtain ⟨oc, od, odt, osl⟩ := o
 walk_at "bg"
 cases odt <;> first | rfl | exact hfr
end
end
set_option maxRecDepth 100000 in
theorem fill0 : PySem.Challenge.rw_mj0200_01.foot = 13 ∧ hd.heap_39 = hd.heap_39 := by k_fill; exact ⟨rfl, rfl⟩
set_option compiler.extract_closed false in
local macro_rules | `(tactic| walk_at "eval ListComp") => `(tactic| (k_here; first | (lct_look; k_dflt (refine LCt.ListComp_T (F₀ := by k_asm) (by with_unfolding_all rfl) (by decide) (by rfl) (by decide) (by rfl) ?_)) | (k_dflt (refine LCg.ListComp_U (F₀ := by k_asm) (by with_unfolding_all rfl) (by decide) (by rfl) (by decide) (by rfl) ?_))))
set_option compiler.extract_closed false in
local macro_rules | `(tactic| walk_at "exec Assign cons ListComp") => `(tactic| (k_here; first | (lct_look; k_dflt (refine LCt.Assign_ListComp_T (F₀ := by k_asm) (by rfl) (by with_unfolding_all rfl) (by with_unfolding_all rfl) (by decide) (by rfl) (by decide) (by rfl) (by rfl) (by rfl) ?_)) | (k_dflt (refine LCg.Assign_ListComp_U (F₀ := by k_asm) (by rfl) (by with_unfolding_all rfl) (by with_unfolding_all rfl) (by decide) (by rfl) (by decide) (by rfl) (by rfl) (by rfl) ?_))))
section
noncomputable abbrev nagO (dx ta : Addr) (tb : Value) : Obj := { cls := .ref 115, dict := some dx, data := .fields #[.ref ta, tb, .none, .none, .bool false, .none] }
noncomputable def nagM (n : Int) (t : Tok) (msg : Str) (t2 : Tok) (y : Str) (t3 : Tok) : Str → Option Value := fun z =>
 if z = Str.ofString "line" then some (.str y t3) else if z = Str.ofString "msg" then some (.str msg t2) else if z = Str.ofString "lineno" then some (.int n t) else none
noncomputable def NagD (n : Int) (msg y : Str) (od : Obj) : Prop := ∃ es ep t t2 t3, od.data = .dict es ep ∧ StrKeys es ∧ ∀ z, nsFind es z = nagM n t msg t2 y t3 z
theorem lookIn_of {od : Obj} {es : Array DictEntry} {ep : Nat} {z : Str} {r : Option Value} (hd : od.data = .dict es ep) (hk : StrKeys es) (hf : nsFind es z = r) : lookIn z od = some r := by
 unfold lookIn
 rw [hd]
 dsimp only
 unfold nsFind findBy at hf
 rw [← Array.find?_toList] at hf
 cases q : es.toList.find? (fun e => e.key.isStr z) with
 | some e => rw [q] at hf; rw [← hf]; rfl
 | none =>
  rw [q] at hf
  dsimp only
  rw [if_neg, ← hf]
  ·rfl
  ·intro h
   obtain ⟨e, he, hr⟩ := List.any_eq_true.mp h
   obtain ⟨n, t, hn⟩ := hk e (Array.mem_toList_iff.mp he)
   unfold DictEntry.refKey at hr
   rw [hn] at hr
   cases hr
theorem ns_some_of {K : Frag} {h : Heap} {N : Addr} {m : Str → Option Value} {n : Str} {v : Value} (X : K.In h) (G : h.Ns N m) (e : nsIn K N n = some (some v)) : m n = some v := by
 obtain ⟨o, es, ep, ho, hd, _, hf⟩ := G
 unfold nsIn at e
 split at e
 ·rename_i c d es' n' sl q
  have := X _ _ q
  rw [ho] at this
  cases this
  cases hd
  split at e
  ·rename_i en he
   cases e
   rw [← hf]
   unfold nsFind findBy
   rw [← Array.find?_toList, he]
   rfl
  ·split at e <;> cases e
 ·cases e
variable (w : World) (mean : ExcName → Option Value) (mg mb : Str → Option Value)
noncomputable abbrev nag0 (ta : Addr) : Obj := { cls := .ref 115, data := .fields #[.ref ta, .none, .none, .none, .bool false, .none] }
noncomputable def NagP (g : Heap) (L e dx ta : Addr) (mA : Str → Option Value) (h : Heap) : Prop :=
 h.get? e = some (nagO dx ta .none) ∧ h.Ns1 dx mA ∧ (@Ne Nat dx e) ∧ (@Ne Nat e L) ∧ (@Ne Nat dx L) ∧ g.get? e = none ∧ g.get? dx = none
theorem cls_ok {P : Params} : nsOkIn (hd.heap_39 P) 114 = true := by
 unfold nsOkIn
 rw [show (hd.heap_39 P).lookup 114 = some _ by k_is]
 show Array.all _ _ = true
 rw [← Array.all_toList]
 rfl
section
variable {A : Around} {E : Value → Shared → Prop} {s : Shared} {g : Heap} {L e dx ta : Addr} {m : Str → Option Value} {name : Str} {v : Value}
theorem nag_first {w : World} {Q : Unit → Shared → Prop} (F : Fr g L s.heap m) (X : (hd.heap_39 w.params).In g) (he : s.heap.get? e = some (nag0 ta)) (heL : @Ne Nat e L) (heg : g.get? e = none)
  (hna : nsIn (hd.heap_39 w.params) 114 name = some none) (hB : typeLookup (.type "Exception") name = pure none)
  (k : ∀ h' tk' dx, Fr g L h' m → NagP g L e dx ta (fun y => if y = name then some v else none) h' → Q () { s with heap := h', toks := tk' }) : wpAny (model PG w) A (setAttr (.ref e) name v) Q E s := by
 obtain ⟨hp, gs, d, tk, os⟩ := s
 have Xs : (hd.heap_39 w.params).In hp := X.keeps F.keep
 have new : hp.objs.size ≠ L ∧ g.get? hp.objs.size = none := ⟨Nat.ne_of_gt F.ns.lt, by
  cases q : g.get? hp.objs.size with
  | none => rfl
  | some o => exact absurd (Heap.lt_size (F.keep _ _ q)) (Nat.lt_irrefl _)⟩
 refine store0 (C := 115) (N := 114) PySem.F.store_Exception (Xs 115 _ (by k_is)) (.of_isNs (isNs_of_in Xs cls_ok)) (nsMap_none_of_in Xs cls_ok (by k_is)) (nsMap_none_of_in Xs cls_ok hna) hB he rfl (fun c => nofun) rfl (fun h' tk' h1 h2 h3 => ?_)
 refine k h' tk' hp.objs.size ⟨F.ns.at' fun o q => h3 _ o (fun z => heL z.symm) q, fun b o q => h3 b o (fun z => by rw [z, heg] at q; cases q) (F.keep b o q), F.above⟩ ⟨h1, h2, Nat.ne_of_gt (Heap.lt_size he), heL, new.1, heg, new.2⟩
theorem nag_next {w : World} {mA : Str → Option Value} {ns : List Str} {Q : Unit → Shared → Prop} (F : Fr g L s.heap m) (X : (hd.heap_39 w.params).In g) (P : NagP g L e dx ta mA s.heap)
  (hna : nsIn (hd.heap_39 w.params) 114 name = some none) (hB : typeLookup (.type "Exception") name = pure none) (hw : Within mA ns) (hsz : ns.length ≤ 100)
  (k : ∀ h' tk', Fr g L h' m → NagP g L e dx ta (fun y => if y = name then some v else mA y) h' → Q () { s with heap := h', toks := tk' }) : wpAny (model PG w) A (setAttr (.ref e) name v) Q E s := by
 obtain ⟨hp, gs, d, tk, os⟩ := s
 have Xs : (hd.heap_39 w.params).In hp := X.keeps F.keep
 obtain ⟨p1, p2, p3, p4, p5, p6, p7⟩ := P
 refine store_attr (C := 115) (N := 114) PySem.F.store_Exception (Xs 115 _ (by k_is)) (.of_isNs (isNs_of_in Xs cls_ok)) (nsMap_none_of_in Xs cls_ok (by k_is)) (nsMap_none_of_in Xs cls_ok hna) hB (fun z => by
   have := X 115 _ (show (hd.heap_39 w.params).lookup 115 = some _ by k_is)
   rw [← z, p6] at this; cases this) ⟨_, p1, rfl, (fun c => nofun), .inr ⟨dx, rfl, p3, p2⟩⟩ (fun h' tk' I' hk hsame => ?_) hw (Nat.le_trans hsz (by decide))
 obtain ⟨o1, e1, e2, e3, e4, e5⟩ := hsame _ p1
 have e6 := e5 dx rfl
 obtain ⟨oc, od, odt, osl⟩ := o1
 dsimp only at e2 e3 e4 e6
 subst e2 e3 e4 e6
 have kk : ∀ b o, b ≠ e → b ≠ dx → hp.get? b = some o → h'.get? b = some o := fun b o hb hbd q => hk b o hb (fun o₀ d' q1 q2 z => by
  dsimp only at p1; rw [p1] at q1; cases q1; cases q2; exact hbd z) q
 have I2 : h'.Ns1 dx (fun y => if y = name then some v else mA y) := by
  obtain ⟨o, q1, _, _, q⟩ := I'
  rw [e1] at q1; cases q1
  rcases q with ⟨z, _⟩ | ⟨d', z, _, q⟩
  ·cases z
  ·cases z; exact q
 exact k h' tk' ⟨F.ns.at' fun o q => kk _ o (fun z => p4 z.symm) (fun z => p5 z.symm) q, fun b o q => kk b o (fun z => by rw [z, p6] at q; cases q) (fun z => by rw [z, p7] at q; cases q) (F.keep b o q), F.above⟩ ⟨e1, I2, p3, p4, p5, p6, p7⟩
end
theorem nob_lineno : typeLookup (.type "Exception") (Str.ofString "lineno") = pure none := by rw [typeLookup_type, builtinLookup_eq_fast]; kernel_rfl
theorem nob_msg : typeLookup (.type "Exception") (Str.ofString "msg") = pure none := by rw [typeLookup_type, builtinLookup_eq_fast]; kernel_rfl
theorem nob_line : typeLookup (.type "Exception") (Str.ofString "line") = pure none := by rw [typeLookup_type, builtinLookup_eq_fast]; kernel_rfl
set_option maxRecDepth 100000 in
set_option maxHeartbeats 1000000 in
theorem nag_spec (n : Int) (t : Tok) (msg : Str) (t2 : Tok) (y : Str) (t3 : Tok) : SpecN w mean mg mb none 2 20 115 [.int n t, .str msg t2, .str y t3] (fun _ => True)
  (fun h h' r => ∃ e dx ta od, r = .ref e ∧ Made h h' [(e, nagO dx ta .none), (dx, od)] ∧ NagD n msg y od) := by
 walk_at "ih"
 obtain ⟨hp, g, d, tk, os⟩ := s
 have Xs : (hd.heap_39 w.params).In hp := X.keeps F.keep
 have hC := Xs 115 _ (by k_is)
 have hok : nsOkIn (hd.heap_39 w.params) 114 = true := cls_ok
 have hfn : isFn (hd.heap_39 w.params) (.ref 91) = true := by k_is
 refine wpAny_call ?_
 refine exc_call (C := 115) (fI := 91) PySem.F.excBase_Exception hC (Heap.Ns.of_isNs (isNs_of_in (K := hd.heap_39 w.params) Xs (N := 114) hok)) ?_ (fun self => bind_fn Xs self (beq_iff_eq.mp hfn)) ?_
 ·exact ns_some_of Xs (.of_isNs (isNs_of_in Xs hok)) (by k_is)
 have N0 : News h₀ L ((hp.push { cls := .type "tuple", data := .seq [Value.int n t, .str msg t2, .str y t3].toArray }).push { cls := .ref 115, data := .fields #[.ref hp.objs.size, .none, .none, .none, .bool false, .none] }) [(hp.objs.size + 1, { cls := .ref 115, data := .fields #[.ref hp.objs.size, .none, .none, .none, .bool false, .none] }), (hp.objs.size, { cls := .type "tuple", data := .seq [Value.int n t, .str msg t2, .str y t3].toArray })] := by
  have q := ((News.nil (h₀ := h₀) (L := L) (h := hp)).push F { cls := .type "tuple", data := .seq [Value.int n t, .str msg t2, .str y t3].toArray }).push (F.push _) { cls := .ref 115, data := .fields #[.ref hp.objs.size, .none, .none, .none, .bool false, .none] }
  rw [Heap.size_push] at q
  exact q
 have F0 := (F.push { cls := .type "tuple", data := .seq [Value.int n t, .str msg t2, .str y t3].toArray }).push { cls := .ref 115, data := .fields #[.ref hp.objs.size, .none, .none, .none, .bool false, .none] }
 refine' enterM (s := ⟨_, g, d, tk, os⟩) (A := (ad none dp un gd cn cs L a ccd cl outer).under _) (env := envX cn cs L a ccd cl) (outer := outer) (binds := [(Str.ofString "self", .ref (hp.objs.size + 1)), (Str.ofString "lineno", .int n t), (Str.ofString "msg", .str msg t2), (Str.ofString "line", .str y t3)]) B F0 N0 X T ?kA ?kF ?kK ?k6 ?k7 ?k8 ?k9 ?kB ?kH ?c5 ?c2 ?c3 ?c4
 case kA => exact rfl
 case kF => exact rfl
 case kK => assumption
 case k6 => k_is
 case k7 => k_is
 case k8 => rw [depth_under_make]; ktr_room
 case k9 => exact BindsTo.of_eq rfl
 case c5 => decide
 case kB => exact locs rfl
 case c2 => exact rfl
 case c3 => exact rfl
 case c4 => exact rfl
 intro g' h' L' eL' keep F' N' B' X' T'
 try dsimp only
 (try (refine fold2 ?_; intro qk ek hqk hek))
 walk_at "ws"
 show wpAny _ _ _ _ _ _
 rename News _ _ _ _ => N9
 rename Fr _ _ _ _ => F9
 have p9 := N9 (hp.objs.size + 1, _) (.tail _ (.head _))
 refine nag_first F9 X' p9.1 p9.2.1 p9.2.2 (by k_is) nob_lineno (fun h1 tk1 dx F1 P1 => ?_)
 clear N9 F9 p9
 walk_at "ws"
 show wpAny _ _ _ _ _ _
 refine nag_next F1 X' P1 (by k_is) nob_msg (by within_ways) (by decide) (fun h2 tk2 F2 P2 => ?_)
 walk_at "ws"
 show wpAny _ _ _ _ _ _
 refine nag_next F2 X' P2 (by k_is) nob_line (by within_ways) (by decide) (fun h3 tk3 F3 P3 => ?_)
 walk_at "ws"
 have old : ∀ b o, hp.get? b = some o → g'.get? b = some o := fun b o e => keep b o (Heap.get?_push_of_some _ (Heap.get?_push_of_some _ e)) (by
  have := Heap.lt_size e
  simp only [List.map_cons, List.map_nil, List.mem_cons, List.not_mem_nil, or_false]
  rintro (q | q)
  ·exact absurd (q ▸ this) (Nat.not_lt.mpr (Nat.le_succ _))
  ·exact absurd (q ▸ this) (Nat.lt_irrefl _))
 have new : ∀ b, g'.get? b = none → hp.get? b = none := fun b e => by
  cases q : hp.get? b with
  | none => rfl
  | some o => rw [old _ _ q] at e; cases e
 obtain ⟨p1, ⟨od, es, ep, q1, q2, q3, _, q4⟩, p3, p4, p5, p6, p7⟩ := P3
 refine ⟨rfl, hret _ h3 tk3 (fun b o e => F3.keep _ _ (old b o e)) (xi4 _ dx _ od ⟨rfl, List.forall_mem_cons.mpr ⟨⟨new _ p6, p1⟩, List.forall_mem_cons.mpr ⟨⟨new _ p7, q1⟩, List.forall_mem_nil _⟩⟩, es, ep, t, t2, t3, q2, q3, q4⟩)⟩
end
section
set_option maxRecDepth 100000
noncomputable def ExtF (S fs : List Addr) (h h' : Heap) : Prop := ∀ b o, b ∉ S → h.get? b = some o → (b ∉ fs → h'.get? b = some o) ∧ ∃ sl, h'.get? b = some { o with slots := sl }
theorem ExtF.trans {S fs : List Addr} {h h' h'' : Heap} (x : ExtF S fs h h') (y : ExtF S fs h' h'') : ExtF S fs h h'' := fun b o hb e => by
 obtain ⟨e1, sl, e2⟩ := x b o hb e
 obtain ⟨_, sl', e3⟩ := y b _ hb e2
 exact ⟨fun q => (y b o hb (e1 q)).1 q, sl', e3⟩
theorem ExtF.mono {S S' fs fs' : List Addr} {h h' : Heap} (x : ExtF S fs h h') (k : ∀ a ∈ S, a ∈ S') (k' : ∀ a ∈ fs, a ∈ fs') : ExtF S' fs' h h' := fun b o hb e => by
 obtain ⟨e1, e2⟩ := x b o (fun q => hb (k _ q)) e
 exact ⟨fun q => e1 (fun z => q (k' _ z)), e2⟩
theorem ExtF.andThen {S S' fs fs' : List Addr} {h h' h'' : Heap} (x : ExtF S fs h h') (y : ExtF S' fs' h' h'') (k : ∀ a ∈ S', a ∈ S ∨ h.get? a = none) (k' : ∀ a ∈ fs', a ∈ fs) : ExtF S fs h h'' := fun b o hb e => by
 obtain ⟨e1, sl, e2⟩ := x b o hb e
 have hb' : b ∉ S' := fun q => by
  rcases k b q with z | z
  ·exact hb z
  ·rw [z] at e; cases e
 obtain ⟨_, sl', e3⟩ := y b _ hb' e2
 exact ⟨fun q => (y b o hb' (e1 q)).1 (fun z => q (k' _ z)), sl', e3⟩
structure Fly (h : Heap) (e dx ta T : Addr) (fl : Value) : Prop where
 at_ : h.get? e = some (nagO dx ta (.ref T))
 t : ∃ oT ts, h.get? T = some oT ∧ oT.data = .fields ts ∧ ts[3]? = some fl
 ne : @Ne Nat T e
theorem frames_of {S fs : List Addr} {h h' base : Heap} {l : List Env} (x : ExtF S fs h h') (hS : ∀ a ∈ S, ∀ o, h.get? a = some o → ∃ vs, o.data = .fields vs) (hl : h.FunFrames base l) : h'.FunFrames base l :=
 hl.of_keeps fun b o ho hn => by
  obtain ⟨_, sl, e⟩ := x b o (fun q => by obtain ⟨vs, z⟩ := hS b q o ho; exact hn vs z) ho
  exact ⟨_, e, rfl⟩
section
variable {M : Model} {A : Around} {E : Value → Shared → Prop} {s : Shared} {base : Heap} {env : Env} {outer : List Env} {L e dx ta T : Addr}
theorem entry_new {head : Value} {hadNext : Bool} {tb : Value} {Q : Unit → Shared → Prop} (hfr : A.frames = some (env :: outer)) (hl : s.heap.FunFrames base (env :: outer)) (hf : env.frame = some L) (he : s.heap.get? e = some (nagO dx ta tb))
  (h : ∀ h' T', ExtF [e] ((env :: outer).filterMap (·.frame)) s.heap h' → Fly h' e dx ta T' (rawInt L) → s.heap.get? T' = none → Q () { s with heap := h' }) :
  wpAny M A (do let a ← frameOf env; let pl ← entryPlaceOf L hadNext; let b ← EntryCells.newEntry head a .none (rawInt L) .none pl; setField (.ref e) 1 b) Q E s := by
 have hene : e ∉ (env :: outer).filterMap (·.frame) := fun hm => by
  obtain ⟨_, o, ho, hnf⟩ := hl.mem hm
  rw [he] at ho; injection ho with ho; subst ho; exact hnf _ rfl
 refine wpAny_bind (wpAny_frameOf_fun hfr hl hf fun h₁ hs₁ => ?_)
 refine wpAny_bind (wpAny_entryPlaceOf fun pl hpl => ?_)
 unfold EntryCells.newEntry newFields
 refine wpAny_bind (wpAny_newObj_type ?_ (hpl.sizeOk5 _ _ _ _ _))
 have he₁ : h₁.get? e = some (nagO dx ta tb) := (hs₁.2.1 e hene).trans he
 have hne : h₁.objs.size ≠ e := Nat.ne_of_gt (Heap.lt_size he₁)
 have new : s.heap.get? h₁.objs.size = none := by
  cases q : s.heap.get? h₁.objs.size with
  | none => rfl
  | some o => obtain ⟨sl, z⟩ := hs₁.2.2 _ _ q; exact absurd (Heap.lt_size z) (Nat.lt_irrefl _)
 generalize hoT : ({ cls := .type "traceback", dict := none, data := .fields ([head, .ref L, .none, rawInt L, .none] ++ (if pl.isEmpty then List.replicate 6 Value.none else pl)).toArray } : Obj) = oT
 (revert oT; refine hold_pi ?_; set_option tactic.hygienic false in intros)
 have hnf : oT.isFreed = false := by rw [← hoT]; rfl
 have hTd : oT.data = .fields ([head, .ref L, .none, rawInt L, .none] ++ (if pl.isEmpty then List.replicate 6 Value.none else pl)).toArray := by rw [← hoT]
 have he₂ := Heap.get?_push_of_some (h := h₁) oT he₁
 refine wpAny_setField he₂ rfl (show (1 : Nat) < 6 by decide) ?_
 refine h _ h₁.objs.size (fun b o hb ho => ?_) ⟨Heap.get?_update_self _ he₂ rfl, (xi2 oT _ ⟨(Heap.get?_update_other _ _ (Ne.symm hne)).trans (Heap.get?_push_size _ hnf), hTd, ?_⟩), hne⟩ new
 ·have hbe : b ≠ e := by simpa using hb
  have up : ∀ o, h₁.get? b = some o → ((h₁.push oT).update e (Obj.mapFields (·.setIfInBounds 1 (Value.ref h₁.objs.size)))).get? b = some o := fun o q => by
   rw [Heap.get?_update_other _ _ (Ne.symm hbe)]; exact Heap.get?_push_of_some _ q
  obtain ⟨sl, z⟩ := hs₁.2.2 b o ho
  exact ⟨fun q => up _ ((hs₁.2.1 b q).trans ho), sl, up _ z⟩
 ·first | (simp; done) | (rcases hpl with rfl | ⟨_, _, _, _, _, _, _, rfl⟩ <;> simp)
theorem flight_off {fl : Value} {Q : Unit → Shared → Prop} (hx : Fly s.heap e dx ta T fl) (h : ∀ h', ExtF [T] [] s.heap h' → Fly h' e dx ta T .none → Q () { s with heap := h' }) : wpAny M A (setFlight (.ref e) none) Q E s := by
 obtain ⟨he, ⟨oT, ts, hT, hd, h3⟩, hne⟩ := hx
 unfold setFlight
 refine wpAny_bind (wpAny_field he rfl (x := .ref T) rfl ?_)
 rw [if_pos (show (Value.ref T != Value.none) = true from by walk_at "ms")]
 refine wpAny_setField hT hd (Array.getElem?_eq_some_iff.mp h3).1 ?_
 have oth : ∀ b, b ≠ T → (s.heap.update T (Obj.mapFields (·.setIfInBounds 3 ((none : Option Addr).elim Value.none fun f => rawInt f)))).get? b = s.heap.get? b := fun b hb => Heap.get?_update_other _ _ (Ne.symm hb)
 refine h _ (fun b o hb ho => ?_) ⟨(oth e (Ne.symm hne)).trans he, (xi2 _ _ ⟨Heap.get?_update_self _ hT (Obj.isFreed_of_fields (Obj.data_mapFields hd _)), Obj.data_mapFields hd _, by simp [(Array.getElem?_eq_some_iff.mp h3).1]⟩), hne⟩
 have hbe : b ≠ T := by simpa using hb
 exact ⟨fun _ => (oth b hbe).trans ho, o.slots, (oth b hbe).trans ho⟩
theorem leave_first {Q : Unit → Shared → Prop} (hfr : A.frames = some (env :: outer)) (hl : s.heap.FunFrames base (env :: outer)) (hf : env.frame = some L) (he : s.heap.get? e = some (nagO dx ta .none))
  (h : ∀ h' T', ExtF [e] ((env :: outer).filterMap (·.frame)) s.heap h' → Fly h' e dx ta T' .none → s.heap.get? T' = none → Q () { s with heap := h' }) : wpAny M A (leaving env (.ref e)) Q E s := by
 unfold leaving noteFrame
 simp only [hf]
 refine wpAny_bind (wpAny_bind (wpAny_field he rfl (x := .none) rfl ?_))
 rw [if_neg (by decide)]
 refine entry_new hfr hl hf he fun h₁ T' x fl hn => ?_
 refine flight_off fl fun h₂ y fl₂ => h h₂ T' ?_ fl₂ hn
 exact x.andThen y (fun a q => .inr (by rw [List.mem_singleton.mp q]; exact hn)) (fun _ q => nomatch q)
theorem note_on {Q : Unit → Shared → Prop} (hfr : A.frames = some (env :: outer)) (hl : s.heap.FunFrames base (env :: outer)) (hf : env.frame = some L) (hx : Fly s.heap e dx ta T .none)
  (h : ∀ h' T', ExtF [e, T] ((env :: outer).filterMap (·.frame)) s.heap h' → Fly h' e dx ta T' (rawInt L) → s.heap.get? T' = none → Q () { s with heap := h' }) : wpAny M A (noteFrame (.ref e) env) Q E s := by
 obtain ⟨he, ⟨oT, ts, hT, hd, h3⟩, hne⟩ := hx
 unfold noteFrame
 simp only [hf]
 refine wpAny_bind (wpAny_field he rfl (x := .ref T) rfl ?_)
 rw [if_pos (show (Value.ref T != Value.none) = true from by walk_at "ms")]
 refine wpAny_bind (wpAny_field hT hd h3 ?_)
 rw [if_neg (show ¬ ((Value.none == rawInt L) = true) from by simp [rawInt])]
 refine wpAny_bind (wpAny_setField hT hd (Array.getElem?_eq_some_iff.mp h3).1 ?_)
 have oth : ∀ b, b ≠ T → (s.heap.update T (Obj.mapFields (·.setIfInBounds 3 Value.none))).get? b = s.heap.get? b := fun b hb => Heap.get?_update_other _ _ (Ne.symm hb)
 have x1 : ExtF [e, T] ((env :: outer).filterMap (·.frame)) s.heap (s.heap.update T (Obj.mapFields (·.setIfInBounds 3 Value.none))) := fun b o hb ho => by
  have hbe : b ≠ T := fun z => hb (by simp [z])
  exact ⟨fun _ => (oth b hbe).trans ho, o.slots, (oth b hbe).trans ho⟩
 refine entry_new hfr (hl.of_keeps fun b o hb hnf => ⟨o, (oth b fun z => ?_).trans hb, rfl⟩) hf ((oth e (Ne.symm hne)).trans he) fun h₁ T' x fl hn => ?_
 ·rw [z, hT] at hb; cases hb; exact hnf _ hd
 ·refine h h₁ T' (x1.trans (x.mono (fun _ q => by simp at q; simp [q]) fun _ q => q)) fl ?_
  cases q : s.heap.get? T' with
  | none => rfl
  | some o =>
   by_cases z : T' = T
   ·have := Heap.get?_update_self (Obj.mapFields (·.setIfInBounds 3 Value.none)) hT (Obj.isFreed_of_fields (Obj.data_mapFields hd _))
    dsimp only at hn
    rw [z, this] at hn; cases hn
   ·dsimp only at hn
    rw [oth _ z, q] at hn; cases hn
end
end
section
set_option maxRecDepth 100000
section
variable {w : World} {A : Around} {E : Value → Shared → Prop} {s : Shared} {env : Env}
noncomputable def Nagging (w : World) (E : Value → Shared → Prop) (v : Value) (s₁ : Shared) : Prop :=
 ∃ e dx ta, v = .ref e ∧ (hd.heap_39 w.params).In s₁.heap ∧ s₁.heap.get? e = some (nagO dx ta .none) ∧ E (.ref e) s₁
theorem Raise_nag {x : PySem.Expr} {pos : Pos} {Q : Flow → Shared → Prop} (hh : A.handled = none)
  (h : wpAny (model PG w) A (eval x env) (Nagging w E) E s) : wpAny (model PG w) A (exec (.Raise (some x) none pos) env) Q E s := by
 have hcB : (Value.ref 115 :: [Value.type "Exception", .type "BaseException", .type "object"]).contains (.type "BaseException") = true := by decide
 show wpAny _ A (do standAt pos; raiseStmt env (some (do let v ← eval x env; standAt pos; pure v)) none) Q E s
 refine wpAny_bind (wpAny_standAt ?_)
 unfold raiseStmt
 dsimp only
 refine wpAny_bind (wpAny_bind (wpAny_mono h (fun v s₁ h₁ => wpAny_bind (wpAny_standAt (wpAny_pure ?_))) fun _ _ x => x))
 obtain ⟨e, dx, ta, rfl, X, he, hE⟩ := h₁
 obtain ⟨hp, g, d, tk, os⟩ := s₁
 have hC : hp.get? 115 = some (excClassObj _ _ 115 _ _ [Value.type "Exception", .type "BaseException", .type "object"] _ _ _ _ _ _ _ _ _ _ _ _) := X 115 _ (by k_is)
 repeat (first | with_reducible refine wpAny_loadPart_at he ?_ | with_reducible refine wpAny_loadPart_at hC ?_ | (with_reducible refine wpAny_isSubtype_exc hC ?_; rw [hcB]) | wp_step)
 exact wpAny_raiseNew_none hh hE
end
end
section
set_option maxRecDepth 100000
theorem Fr.extF {g h h' : Heap} {L : Addr} {m : Str → Option Value} {S fs : List Addr} (F : Fr g L h m) (x : ExtF S fs h h') (hS : ∀ a ∈ S, g.get? a = none ∧ (@Ne Nat a L)) (hf : ∀ a ∈ fs, a = L ∨ g.get? a = none) : Fr g L h' m := by
 refine ⟨?_, fun b o e => ?_, F.above⟩
 ·obtain ⟨o, es, ep, e1, e2, r⟩ := F.ns
  obtain ⟨_, sl, e3⟩ := x L o (fun q => (hS L q).2 rfl) e1
  exact ⟨_, es, ep, e3, e2, r⟩
 ·have hb : b ∉ S := fun q => by rw [(hS b q).1] at e; cases e
  obtain ⟨e1, _⟩ := x b o hb (F.keep b o e)
  refine e1 fun q => ?_
  rcases hf b q with z | z
  ·have h1 := Heap.lt_size e
   have h2 := F.above
   rw [z] at h1
   exact absurd h1 (Nat.not_lt.mpr h2)
  ·rw [z] at e; cases e
section
variable {w : World} {A : Around} {E : Value → Shared → Prop} {s : Shared} {g base : Heap} {outer : List Env} {L a e dx ta T : Addr} {m : Str → Option Value} {name : Str} {scope : Scope} {cd : Value} {mean : ExcName → Option Value} {mg mb : Str → Option Value}
theorem catch_nag {n : Str} {b₀ : Stmt} {suite : List Stmt} {np pos : Pos} {Q : Flow → Shared → Prop}
  (hfr : A.frames = some (envOf name scope L a cd :: outer)) (hl : s.heap.FunFrames base (envOf name scope L a cd :: outer)) (hx : Fly s.heap e dx ta T .none) (F : Fr g L s.heap m) (X : (hd.heap_39 w.params).In g) (TT : Top EP LS0 mean mg mb g)
  (heg : g.get? e = none) (heL : @Ne Nat e L) (hTg : g.get? T = none) (hTL : @Ne Nat T L) (hfs : ∀ b ∈ outer.filterMap (fun x : Env => x.frame), g.get? b = none)
  (k : ∀ h' T' tk, ExtF [e, T] ((envOf name scope L a cd :: outer).filterMap (·.frame)) s.heap h' → Fly h' e dx ta T' .none → s.heap.get? T' = none → Fr g L h' m →
   ∀ h₁, Heap.SameBut L h' h₁ → Fr g L h₁ (fun y => if y = n then some (.ref e) else m y) →
   wpAny (model PG w) (A.mark (some (.ref e))) (execs (b₀ :: suite) (envOf name scope L a cd))
    (fun f s₄ => wpAny (model PG w) A (do bindName (envOf name scope L a cd) n .none; unbindBehindTheSuite (envOf name scope L a cd) n pos) (fun _ s₅ => Q f s₅) E s₄) (fun _ _ => False) { s with heap := h₁, toks := tk })
  (hk : scope.kind = .function := by rfl) (hlo : (envOf name scope L a cd).kindOf n = some .local := by rfl) (hxn : (envOf name scope L a cd).kindOf (Str.ofString "NannyNag") = some .globalImplicit := by rfl) :
  wpAny (model PG w) A (noteFrame (.ref e) (envOf name scope L a cd)) (fun _ s₂ => wpAny (model PG w) A (setFlight (.ref e) none) (fun _ s₃ =>
    wpAny (model PG w) A (handleBy (.ref e) (envOf name scope L a cd) [.ExceptHandler (some (.Name (Str.ofString "NannyNag") np)) (some n) (b₀ :: suite) pos]) Q E s₃) E s₂) E s := by
 refine note_on hfr hl rfl hx fun h₁ T₁ x₁ fl₁ n₁ => ?_
 refine flight_off fl₁ fun h₂ x₂ fl₂ => ?_
 have x₂' := x₁.andThen x₂ (fun b q => .inr (by rw [List.mem_singleton.mp q]; exact n₁)) (fun _ q => nomatch q)
 have hS : ∀ b ∈ [e, T], g.get? b = none ∧ (@Ne Nat b L) := fun b hb => by
  simp only [List.mem_cons, List.not_mem_nil, or_false] at hb
  rcases hb with rfl | rfl
  ·exact ⟨heg, heL⟩
  ·exact ⟨hTg, hTL⟩
 have hF : ∀ b ∈ (envOf name scope L a cd :: outer).filterMap (fun x : Env => x.frame), b = L ∨ g.get? b = none := fun b hb => by
  have hb' : b ∈ L :: outer.filterMap (fun x : Env => x.frame) := hb
  rcases List.mem_cons.mp hb' with q | q
  ·exact .inl q
  ·exact .inr (hfs b q)
 have F₂ := Fr.extF F x₂' hS hF
 refine wpAny_handleBy_cons (codeAny_handlers_test (name_K F₂ X (topRead_of TT) (by k_is) ?_ hk hxn)) (by intro q; cases q)
 have hC := X 115 _ (show (hd.heap_39 w.params).lookup 115 = some _ by k_is)
 refine wpAny_excMatches_sub_self (F₂.keep _ _ hC) fl₂.at_ rfl (by decide) (codeAny_handlers_suite_as ?_)
 refine flight_off fl₂ fun h₃ x₃ fl₃ => ?_
 have x₃' := x₂'.andThen x₃ (fun b q => .inr (by rw [List.mem_singleton.mp q]; exact n₁)) (fun _ q => nomatch q)
 have F₃ := Fr.extF F x₃' hS hF
 refine wpAny_storeName_local hlo F₃.ns (fun h₄ hn₄ hs₄ => ?_) (by show (scope.kind == .class || (scope.kind == .module && L != mainGlobals)) = false; rw [hk]; rfl)
 refine wpAny_mono (k h₃ T₁ _ x₃' fl₃ n₁ F₃ h₄ hs₄ (F₃.set hn₄ hs₄)) (fun f s₅ z => z) fun _ _ z => z.elim
end
end
section
set_option maxRecDepth 100000
structure HidB (w : World) (mean : ExcName → Option Value) (mg mb : Str → Option Value) (A₀ : Around) (base G g : Heap) (outer : List Env) (L : Addr) (oL : Obj) : Prop where
 bel : Below A₀ base outer G
 at_ : G.get? L = some oL
 ne : ∀ b, (@Ne Nat b L) → g.get? b = G.get? b
 non : g.get? L = none
 size : g.objs.size = G.objs.size
 bL : base.get? L = none
 X : (hd.heap_39 w.params).In g
 T : Top EP LS0 mean mg mb g
theorem freed_slots (o : Obj) (sl : Array (Option Value)) : ({ o with slots := sl } : Obj).isFreed = o.isFreed := by obtain ⟨_, _, dt, _⟩ := o; cases dt <;> rfl
section
variable {w : World} {mean : ExcName → Option Value} {mg mb : Str → Option Value} {A₀ : Around} {base G g : Heap} {outer : List Env} {L L' : Addr} {oL : Obj}
theorem HidB.ground (H : HidB w mean mg mb A₀ base G g outer L oL) {h : Heap} {m : Str → Option Value} {sl : Array (Option Value)} (F : Fr g L' h m) (hL : h.get? L = some { oL with slots := sl }) :
  ∃ h₀, Below A₀ base outer h₀ ∧ Fr h₀ L' h m ∧ (hd.heap_39 w.params).In h₀ ∧ Top EP LS0 mean mg mb h₀ ∧ ∀ b, (@Ne Nat b L) → g.get? b = none → h₀.get? b = none := by
 have self : (G.update L (fun o => { o with slots := sl })).get? L = some { oL with slots := sl } := Heap.get?_update_self _ H.at_ ((freed_slots _ _).trans (Heap.get?_some_iff.mp H.at_).2)
 have oth : ∀ b, (@Ne Nat b L) → (G.update L (fun o => { o with slots := sl })).get? b = G.get? b := fun b hb => Heap.get?_update_other _ _ (Ne.symm hb)
 have up : ∀ b o, g.get? b = some o → (G.update L (fun o => { o with slots := sl })).get? b = some o := fun b o e => by
  have hb : b ≠ L := fun z => by rw [z, H.non] at e; cases e
  rw [oth b hb, ← H.ne b hb]; exact e
 refine ⟨G.update L (fun o => { o with slots := sl }), ⟨H.bel.stack, fun b o e => ?_, H.bel.frames.of_keeps fun b o e _ => ?_⟩, ⟨F.ns, fun b o e => ?_, ?_⟩, H.X.keeps up, H.T.keeps up, fun b hb e => ?_⟩
 ·have hb : b ≠ L := fun z => by rw [z, H.bL] at e; cases e
  rw [oth b hb]; exact H.bel.stays b o e
 ·by_cases z : b = L
  ·rw [z, H.at_] at e; cases e
   exact ⟨{ oL with slots := sl }, by rw [z]; exact self, rfl⟩
  ·exact ⟨o, (oth b z).trans e, rfl⟩
 ·by_cases z : b = L
  ·rw [z] at e; rw [self] at e; cases e; rw [z]; exact hL
  ·rw [oth b z, ← H.ne b z] at e; exact F.keep b o e
 ·rw [Heap.size_after_update, ← H.size]; exact F.above
 ·rw [oth b hb, ← H.ne b hb]; exact e
theorem hide_ground {h₁ : Heap} {h₀ : Heap} {news : List (Addr × Obj)} {m : Str → Option Value} (BG : Below A₀ base outer G) (hL : G.get? L = some oL) (hbL : base.get? L = none) (h0L : h₀.get? L = none) (h0G : ∀ b o, h₀.get? b = some o → G.get? b = some o)
  (X : (hd.heap_39 w.params).In h₀) (T : Top EP LS0 mean mg mb h₀) (F : Fr G L' h₁ m) (N : News G L' h₁ news) (hLL : @Ne Nat L L') :
  ∃ g, HidB w mean mg mb A₀ base G g outer L oL ∧ Fr g L' h₁ m ∧ News g L' h₁ ((L, oL) :: news) ∧ ∀ b o, (@Ne Nat b L) → G.get? b = some o → g.get? b = some o := by
 have ne : ∀ b o, (@Ne Nat b L) → G.get? b = some o → (hideAll G [L]).get? b = some o := fun b o hb e => hideAll_get _ e (by simpa using hb)
 have of : ∀ b o, (hideAll G [L]).get? b = some o → G.get? b = some o := fun b o e => of_hideAll _ e
 have up : ∀ b o, h₀.get? b = some o → (hideAll G [L]).get? b = some o := fun b o e => ne b o (fun z => by rw [z, h0L] at e; cases e) (h0G b o e)
 have non : (hideAll G [L]).get? L = none := hideAll_none _ (by walk_at "ms")
 refine ⟨hideAll G [L], ⟨BG, hL, fun b hb => ?_, non, hideAll_size _ _, hbL, X.keeps up, T.keeps up⟩, ⟨F.ns, fun b o e => F.keep b o (of b o e), by rw [hideAll_size]; exact F.above⟩, fun p hp => ?_, ne⟩
 ·cases e : G.get? b with
  | some o => exact ne b o hb e
  | none =>
   cases q : (hideAll G [L]).get? b with
   | none => rfl
   | some o => rw [of b o q] at e; cases e
 ·rcases List.mem_cons.mp hp with rfl | hp
  ·exact ⟨F.keep _ _ hL, hLL, non⟩
  ·refine ⟨(N p hp).1, (N p hp).2.1, ?_⟩
   cases q : (hideAll G [L]).get? p.1 with
   | none => rfl
   | some o => have := of _ _ q; rw [(N p hp).2.2] at this; cases this
theorem SpecN.useH {hh : Option Value} {nd nu : Nat} {f : Addr} {args : List Value} {Pre : Heap → Prop} {Ret : Heap → Heap → Value → Prop} (C : SpecN w mean mg mb hh nd nu f args Pre Ret) (H : HidB w mean mg mb A₀ base G g outer L oL)
  {dp un : Nat} {gd : Option (List Code)} {cn : Str} {cs : Scope} {a : Addr} {ccd : Value} {cl : List (Str × Addr)} {m : Str → Option Value} {s : Shared} {Q E : Value → Shared → Prop} {news : List (Addr × Obj)} {sl : Array (Option Value)}
  (F : Fr g L' s.heap m) (N : News g L' s.heap news) (hm : (L, { oL with slots := sl }) ∈ news) (hk : cs.kind = .function) (h1 : dp + nd < recursionLimit) (h2 : un + nu < cLine) (hp : Pre s.heap)
  (k : ∀ r h' tk', Ext s.heap h' → Fr g L' h' m → News g L' h' news → Ret s.heap h' r → Q r { s with heap := h', toks := tk' }) :
  wpAny (model PG w) (ad hh dp un gd cn cs L' a ccd cl outer) (call (.ref f) args) Q E s := by
 walk_at "cg"
 obtain ⟨h₀, B2, F2, X2, T2, _⟩ := H.ground F (N _ hm).1
 walk_at "bg"
 exact C _ _ _ _ _ _ _ _ _ _ _ _ _ _ _ _ _ B2 F2 X2 T2 hk h1 h2 hp fun r h' tk' e hr => k r h' tk' e (F.keeps e) (News.ext N e) hr
theorem SpecL.useH {hh : Option Value} {nd nu : Nat} {f : Addr} {args : List Value} {led : List (Addr × Obj)} {S : List Addr} {Ret : Heap → Heap → Value → Prop} (C : SpecL w mean mg mb hh nd nu f args led S Ret) (H : HidB w mean mg mb A₀ base G g outer L oL)
  {dp un : Nat} {gd : Option (List Code)} {cn : Str} {cs : Scope} {a : Addr} {ccd : Value} {cl : List (Str × Addr)} {m : Str → Option Value} {s : Shared} {Q E : Value → Shared → Prop} {news : List (Addr × Obj)} {sl : Array (Option Value)}
  (F : Fr g L' s.heap m) (N : News g L' s.heap news) (hm : (L, { oL with slots := sl }) ∈ news) (hk : cs.kind = .function) (h1 : dp + nd < recursionLimit) (h2 : un + nu < cLine) (hp : HOk s.heap hh)
  (sub : ∀ p ∈ led, p ∈ news ∧ (@Ne Nat p.1 L)) (hS : ∀ a ∈ S, a ∈ led.map (·.1))
  (k : ∀ r h' tk', ExtB S s.heap h' → Fr g L' h' m → (∀ p ∈ news, p.1 ∉ S → h'.get? p.1 = some p.2 ∧ p.1 ≠ L' ∧ g.get? p.1 = none) → Ret s.heap h' r → Q r { s with heap := h', toks := tk' }) :
  wpAny (model PG w) (ad hh dp un gd cn cs L' a ccd cl outer) (call (.ref f) args) Q E s := by
 walk_at "cg"
 obtain ⟨h₀, B2, F2, X2, T2, n2⟩ := H.ground F (N _ hm).1
 walk_at "bg"
 have hSn : ∀ a ∈ S, g.get? a = none ∧ a ≠ L' := fun a ha => by
  walk_at "cg"
  obtain ⟨p, hp, rfl⟩ := List.mem_map.mp (hS a ha)
  walk_at "bg"
  exact ⟨(N p (sub p hp).1).2.2, (N p (sub p hp).1).2.1⟩
 refine C _ _ _ _ _ _ _ _ _ _ _ _ _ _ _ _ _ B2 F2 X2 T2 hk h1 h2 hp (fun p hp => ⟨(N p (sub p hp).1).1, (N p (sub p hp).1).2.1, n2 _ (sub p hp).2 (N p (sub p hp).1).2.2⟩) fun r h' tk' e hr => ?_
 exact k r h' tk' e ⟨F.ns.at' fun o q => e _ _ (fun z => (hSn _ z).2 rfl) q, fun b o q => e _ _ (fun z => by rw [(hSn _ z).1] at q; cases q) (F.keep _ _ q), F.above⟩ (fun p hp hn => ⟨e _ _ hn (N p hp).1, (N p hp).2⟩) hr
end
end
section
noncomputable def wsTab (count : List Int) (b : Int) : List Int :=
 if decide ((count.length : Int) ≤ b) = true then (count ++ (List.replicate (b - (count.length : Int) + 1).toNat [(0 : Int)]).flatten).set b.toNat ((count ++ (List.replicate (b - (count.length : Int) + 1).toNat [(0 : Int)]).flatten).getD b.toNat 0 + 1)
 else count.set b.toNat (count.getD b.toNat 0 + 1)
noncomputable def wsRun : List Int → Int → Int → Int → List Nat → List Int × Int × Int × Int
 | count, b, n, nt, [] => (count, b, n, nt)
 | count, b, n, nt, c :: r => if c = 32 then wsRun count (b + 1) (n + 1) nt r else if c = 9 then wsRun (wsTab count b) 0 (n + 1) (nt + 1) r else (count, b, n, nt)
section
variable {count : List Int} {b n nt : Int} {l : List Nat} {i c : Nat}
theorem drop_at (h : l[i]? = some c) : l.drop i = c :: l.drop (i + 1) := by
 walk_at "cg"
 obtain ⟨hi, rfl⟩ := List.getElem?_eq_some_iff.mp h
 walk_at "bg"
 exact List.drop_eq_getElem_cons hi
theorem sp_code : (({ cps := #[c] } : Str) == Str.ofString " ") = decide (c = 32) := by
 have e : Str.ofString " " = { cps := #[32] } := by decide +kernel
 rw [e]
 by_cases h : c = 32
 ·subst h; decide
 ·rw [decide_eq_false h]; refine beq_eq_false_iff_ne.mpr fun q => h ?_
  injection q with q; injection q with q; injection q
theorem tab_code : (({ cps := #[c] } : Str) == Str.ofString "\t") = decide (c = 9) := by
 have e : Str.ofString "\t" = { cps := #[9] } := by decide +kernel
 rw [e]
 by_cases h : c = 9
 ·subst h; decide
 ·rw [decide_eq_false h]; refine beq_eq_false_iff_ne.mpr fun q => h ?_
  injection q with q; injection q with q; injection q
theorem ws_sp (h : l[i]? = some c) (h1 : (({ cps := #[c] } : Str) == Str.ofString " ") = true) : wsRun count b n nt (l.drop i) = wsRun count (b + 1) (n + 1) nt (l.drop (i + 1)) := by
 rw [sp_code] at h1
 rw [drop_at h, wsRun, if_pos (of_decide_eq_true h1)]
theorem ws_tb (h : l[i]? = some c) (h1 : ¬ (({ cps := #[c] } : Str) == Str.ofString " ") = true) (h2 : (({ cps := #[c] } : Str) == Str.ofString "\t") = true) : wsRun count b n nt (l.drop i) = wsRun (wsTab count b) 0 (n + 1) (nt + 1) (l.drop (i + 1)) := by
 rw [sp_code] at h1; rw [tab_code] at h2
 rw [drop_at h, wsRun, if_neg (fun q => h1 (decide_eq_true q)), if_pos (of_decide_eq_true h2)]
theorem ws_no (h : l[i]? = some c) (h1 : ¬ (({ cps := #[c] } : Str) == Str.ofString " ") = true) (h2 : ¬ (({ cps := #[c] } : Str) == Str.ofString "\t") = true) : wsRun count b n nt (l.drop i) = (count, b, n, nt) := by
 rw [sp_code] at h1; rw [tab_code] at h2
 rw [drop_at h, wsRun, if_neg (fun q => h1 (decide_eq_true q)), if_neg (fun q => h2 (decide_eq_true q))]
theorem tab_pos (h : decide ((count.length : Int) ≤ b) = true) : (count ++ (List.replicate (b - (count.length : Int) + 1).toNat [(0 : Int)]).flatten).set b.toNat ((count ++ (List.replicate (b - (count.length : Int) + 1).toNat [(0 : Int)]).flatten).getD b.toNat 0 + 1) = wsTab count b := by
 unfold wsTab; rw [if_pos h]
theorem tab_neg (h : ¬ decide ((count.length : Int) ≤ b) = true) : count.set b.toNat (count.getD b.toNat 0 + 1) = wsTab count b := by
 unfold wsTab; rw [if_neg h]
theorem sp_is (h1 : (({ cps := #[c] } : Str) == Str.ofString " ") = true) : c = 32 := by rw [sp_code] at h1; exact of_decide_eq_true h1
theorem tab_is (h1 : (({ cps := #[c] } : Str) == Str.ofString "\t") = true) : c = 9 := by rw [tab_code] at h1; exact of_decide_eq_true h1
theorem blank_more {x : Array Nat} (h : ∀ (j c : Nat), j < i → x[j]? = some c → c = 32 ∨ c = 9) (hc : x[i]? = some c) (h1 : c = 32 ∨ c = 9) : ∀ (j c : Nat), j < i + 1 → x[j]? = some c → c = 32 ∨ c = 9 := by
 intro j d hj hd
 rcases Nat.lt_succ_iff_lt_or_eq.mp hj with q | q
 ·exact h j d q hd
 ·subst q; rw [hc] at hd; cases hd; exact h1
theorem flat_len (k : Nat) : (List.replicate k [(0 : Int)]).flatten.length = k := by walk_at "ms"
theorem tab_len (hb0 : 0 ≤ b) (hb : b ≤ i) (hc : count.length ≤ i + 1) : (wsTab count b).length ≤ i + 1 + 1 := by
 unfold wsTab
 split
 ·rename_i h
  have := of_decide_eq_true h
  rw [List.length_set, List.length_append, flat_len]; exact oz37 this hb
 ·rw [List.length_set]; exact oz34 hc
end
noncomputable abbrev wsD (w : World) (x : Str) (t : Tok) (n nt : Int) (tn tnt : Tok) (D' : Addr) (sm : Bool) (k1 k2 k3 k4 k5 : Tok) : Obj :=
 dictOf [⟨PyData.keyHash w.params (Str.ofString "raw"), .str (Str.ofString "raw") k1, .str x t⟩, ⟨PyData.keyHash w.params (Str.ofString "n"), .str (Str.ofString "n") k2, .int n tn⟩,
  ⟨PyData.keyHash w.params (Str.ofString "nt"), .str (Str.ofString "nt") k3, .int nt tnt⟩, ⟨PyData.keyHash w.params (Str.ofString "norm"), .str (Str.ofString "norm") k4, .ref D'⟩,
  ⟨PyData.keyHash w.params (Str.ofString "is_simple"), .str (Str.ofString "is_simple") k5, .bool sm⟩] 5
inductive WsAt (w : World) (x : Str) (r : Value) (mk : List (Addr × Obj)) : Prop
 | mk (a d D' D : Addr) (t : Tok) (count : List Int) (b n nt : Int) (vs : List Value) (tb tn tnt : Tok) (sm : Bool) (k1 k2 k3 k4 k5 : Tok) (c0 : r = .ref a) (c1 : wsRun [] 0 0 0 x.cps.toList = (count, b, n, nt)) (c2 : IntsAre vs count) (c3 : 0 ≤ b) (c4 : b ≤ 20) (c5 : 0 ≤ n) (c6 : n ≤ 20) (c7 : 0 ≤ nt) (c8 : nt ≤ 20) (c9 : count.length ≤ 21) (c10 : mk = [(a, instObj 180 d), (d, wsD w x t n nt tn tnt D' sm k1 k2 k3 k4 k5), (D', { cls := .type "tuple", data := .seq #[.ref D, .int b tb] }), (D, { cls := .type "tuple", data := .seq vs.toArray })]) : WsAt w x r mk
local macro_rules | `(tactic| walk_at "exec For Name Attribute cons nil") => `(tactic| (k_here; refine hold_it ?_))
set_option maxRecDepth 100000 in
set_option maxHeartbeats 8000000 in
theorem ws_spec : ∀ (w : World) (mean : ExcName → Option Value) (mg mb : Str → Option Value) (hh : Option Value) (x : Str) (t : Tok) (hx : x.length ≤ 20) (ha : x.cps.all (· < 128) = true) (hnb : hh = none ∨ ∃ (i c : Nat), x.cps[i]? = some c ∧ c ≠ 32 ∧ c ≠ 9), SpecN w mean mg mb hh 3 30 180 [.str x t] (fun h => HOk h hh) (fun h h' r => ∃ mk, Made h h' mk ∧ WsAt w x r mk) := by
 intro w mean mg mb hh x t hx ha hnb
 intro dp un gd cn cs a ccd cl outer A₀ base h₀ L m s Q E
 revert hx ha hnb
 show ∀ (hx : x.length ≤ 20) (ha : x.cps.all (· < 128) = true) (hnb : hh = none ∨ ∃ (i c : Nat), x.cps[i]? = some c ∧ c ≠ 32 ∧ c ≠ 9), SpecN.at w mean mg mb hh 3 30 180 [.str x t] (fun h => HOk h hh) (fun h h' r => ∃ mk, Made h h' mk ∧ WsAt w x r mk) dp un gd cn cs a ccd cl outer A₀ base h₀ L m s Q E
 revert w mean mg mb hh x t dp un gd cn cs a ccd cl outer A₀ base h₀ L m s Q E
 exists hc, kS zeW <| kS (yF yT) <| kS (yF yT) <| kS (yF yT) <| kS yT <| kS zeR <| kS yN <| kS yN <| kS yN <| kS yT <| kS zeR <| kS (inferInstanceAs (Nonempty Scope)) <| kS yN <| kS zeV <| kS yL <| kS yL <| kS zeA <| kS yH <| kS yH <| kS yN <| kS (yF yT) <| kS zeS <| kS (yF <| yF yP) <| kO (yF <| yF yP), 99, w, mean, mg, mb, hh, x, t, dp, un, gd, cn, cs, a, ccd, cl, outer, A₀, base, h₀, L, m, s, Q, E
 intro hx ha hnb
 unfold SpecN.at; intro B F X T hk hdp hun hpre hret
 refine' enterCls (C := 180) (fI := 135) (binds := [(Str.ofString "ws", .str x t)]) (pos := [.str x t]) ?k1 ?k2 ?k3 ?k5 ?kA ?kF ?kK ?hm ?hi ?hfn ?k6 ?k7 ?k8 ?k9 ?kB ?h ?c5 ?c2 ?c3 ?c4
 case kA => exact rfl
 case kF => exact rfl
 case kK => assumption
 case k1 => exact B
 case k2 => exact F
 case k3 => exact X
 case k5 => exact T
 case hm => k_is
 case hi => k_is
 case hfn => k_is
 case k6 => k_is
 case k7 => k_is
 case k8 => ktr_room
 case k9 => exact fun x s => BindsTo.of_eq rfl
 case c5 => decide
 case kB => exact fun x => locs rfl
 case c2 => exact rfl
 case c3 => exact rfl
 case c4 => exact rfl
 intro x1 dx g h' L' l1 l2 n1 n2 eg F' N' B' X' T'
 k_lt2 l1
 k_lt2 l2
 try dsimp only
 (try (refine fold2 ?_; intro qk ek hqk hek))
 have H' : HOk g hh := hpre.ext eg
 revert n1 n2 eg F' N' B' X' T' l1 l2 hqk hek H'; revert x1 dx g h' L' qk ek; exists hc, kS yN <| kS yN <| kS yH <| kS yH <| kS yN <| kS (yF (yF yP)) <| kO (yF (yF yP)), 1, x1, dx, g, h', L', qk, ek; intro n1 n2 eg F' N' B' X' T' l1 l2 hqk hek H'
 walk_at "ws"
 refine unpackItemsN' (by k_asm) (by k_asm) H' (News.isTup (by k_asm) (.head _)) (by rfl) ?_
 intro h' F' N'
 rename_i zv1 zv2 zv3 zv4 zv5 zv6 zv7; revert zv5 zv6 zv7 F' N'; revert zv1 zv2 tk zv3 zv4 h'; exists hc, kS yN <| kS yH <| kS yN <| kS yN <| kS yH <| kO yH, 2, zv1, zv2, tk, zv3, zv4, h'; intro _ _ _ F' N'
 walk_at "ws"
 show wpAny _ _ _ _ _ _
 rename_i zv5 _ zv10 zv6 zv8 _ _ zv9 zv11 zv12; revert zv10 zv11 zv12; revert zv5 zv6 zv8 zv9 tk; exists hc, kS yN <| kS yH <| kS yN <| kS yH <| kO yN, 3, zv5, zv6, zv8, zv9, tk; intro _ _ _
 refine wpAny_mono (Q := fun f s₂ => f = .next ∧ ∃ (count : List Int) (b n nt : Int) (vs : List Value) (k : Nat) (lc : Addr) (t1 t2 t3 t4 : Tok) (h : Heap) (tk : Nat) (mF : Str → Option Value), s₂ = { s with heap := h, toks := tk } ∧
   wsRun [] 0 0 0 x.cps.toList = (count, b, n, nt) ∧ IntsAre vs count ∧ 0 ≤ b ∧ b ≤ 20 ∧ 0 ≤ n ∧ n ≤ 20 ∧ 0 ≤ nt ∧ nt ≤ 20 ∧ count.length ≤ 21 ∧
   Fr g L' h mF ∧ mF (Str.ofString "self") = some (.ref x1) ∧ mF (Str.ofString "count") = some (.ref lc) ∧ mF (Str.ofString "b") = some (.int b t1) ∧ mF (Str.ofString "n") = some (.int n t2) ∧ mF (Str.ofString "nt") = some (.int nt t3) ∧
   (@LT.lt Nat instLTNat x1 lc) ∧ News g L' h [(lc, W.listOf vs.toArray k), (x1, instObj 180 dx), (dx, dictOf [{ hash := PyData.keyHash w.params (Str.ofString "raw"), key := Value.str (Str.ofString "raw") t4, val := Value.str x t }] 1)]) (wpAny_for_of ?_ (by intro _; rfl)) ?_ (fun _ _ z => z)
 ·walk_at "ws"
  rename News _ _ _ _ => N9
  rename Fr _ _ _ _ => F9
  have hm : ∃ m₀, Fr g L' _ m₀ ∧ m₀ (Str.ofString "self") = some _ ∧ m₀ (Str.ofString "S") = some _ ∧ m₀ (Str.ofString "T") = some _ ∧ m₀ (Str.ofString "count") = some _ ∧ m₀ (Str.ofString "b") = some _ ∧ m₀ (Str.ofString "n") = some _ ∧ m₀ (Str.ofString "nt") = some _ := ⟨_, F9, rfl, rfl, rfl, rfl, rfl, rfl, rfl⟩
  refine exC (kO (yF yT)) hm ?_; clear hm; intro m₀ hZ; revert hZ; revert m₀; refine hzC (kO (yF yT)) 4 ?_; generalize zz _ _ _ = m₀; intro hZ; obtain ⟨F9', e1, e2, e3, e4, e5, e6, e7⟩ := hZ
  refine for_str ha rfl rfl F9' (news_drop2 N9)
   (fun i m' nw gs => gs = s.gens ∧ (∀ (j c : Nat), j < i → x.cps[j]? = some c → c = 32 ∨ c = 9) ∧ ∃ (count : List Int) (b n nt : Int) (vs : List Value) (k : Nat) (lc : Addr) (vch : Option Value) (t1 t2 t3 t4 : Tok),
    wsRun [] 0 0 0 x.cps.toList = wsRun count b n nt (x.cps.toList.drop i) ∧ IntsAre vs count ∧ 0 ≤ b ∧ b ≤ i ∧ 0 ≤ n ∧ n ≤ i ∧ 0 ≤ nt ∧ nt ≤ i ∧ count.length ≤ i + 1 ∧
    m' = ovr m₀ [(Str.ofString "ch", vch), (Str.ofString "self", some (.ref x1)), (Str.ofString "S", some (.str (Str.ofString " ") 353)), (Str.ofString "T", some (.str (Str.ofString "\t") 354)), (Str.ofString "count", some (.ref lc)), (Str.ofString "b", some (.int b t1)), (Str.ofString "n", some (.int n t2)), (Str.ofString "nt", some (.int nt t3))] ∧
    (@LT.lt Nat instLTNat x1 lc) ∧ nw = [(lc, W.listOf vs.toArray k), (x1, instObj 180 dx), (dx, dictOf [{ hash := PyData.keyHash w.params (Str.ofString "raw"), key := Value.str (Str.ofString "raw") t4, val := Value.str x t }] 1)])
   ?_ ?_ ?_
  ·exact ⟨rfl, fun j c h => absurd h (Nat.not_lt_zero _), xi12 [] 0 0 0 [] 0 _ (m₀ (Str.ofString "ch")) _ _ _ _ ⟨rfl, .nil, Int.le_refl _, Int.le_refl _, Int.le_refl _, Int.le_refl _, Int.le_refl _, Int.le_refl _, Nat.zero_le _, ovr_self (List.forall_mem_cons.mpr ⟨rfl, List.forall_mem_cons.mpr ⟨e1, List.forall_mem_cons.mpr ⟨e2, List.forall_mem_cons.mpr ⟨e3, List.forall_mem_cons.mpr ⟨e4, List.forall_mem_cons.mpr ⟨e5, List.forall_mem_cons.mpr ⟨e6, List.forall_mem_cons.mpr ⟨e7, List.forall_mem_nil _⟩⟩⟩⟩⟩⟩⟩⟩), by omega, rfl⟩⟩
  ·intro i c tc m₁ nw gs h tk I oI hc hGJ
   generalize hJO : FEnd _ _ _ _ _ _ _ = QO
   revert QO
   refine hold_pi ?_
   intro QO hJO
   obtain ⟨rfl, hbl, hZ⟩ := hGJ; refine exC (kS yL <| kS zeI <| kS zeI <| kS zeI <| kS yL <| kS yN <| kS yN <| kS yT <| kS yN <| kS yN <| kS yN <| kO yN) hZ ?_; clear hZ; intro count b n nt vs k lc vch t1 t2 t3 t4 hZ; revert hc hJO hbl hZ; revert i c tc m₁ nw h tk I oI QO count b n nt vs k lc vch t1 t2 t3 t4; exists hc, kS yN <| kS yN <| kS yN <| kS (yF yT) <| kS yL <| kS yH <| kS yN <| kS yN <| kS zeO <| kS (yF (yF yP)) <| kS yL <| kS zeI <| kS zeI <| kS zeI <| kS yL <| kS yN <| kS yN <| kS yT <| kS yN <| kS yN <| kS yN <| kO yN, 5, i, c, tc, m₁, nw, h, tk, I, oI, QO, count, b, n, nt, vs, k, lc, vch, t1, t2, t3, t4; intro hc hJO hbl hZ; obtain ⟨hrun, hvs, hb0, hb1, hn0, hn1, hnt0, hnt1, hcl, rfl, hlc, rfl⟩ := hZ
   intro F1 N1 off1
   clear F9 F9' N9
   have hi : i < 20 := by
    have h1 : x.cps.size ≤ 20 := hx
    walk_at "cg"
    obtain ⟨q, _⟩ := Array.getElem?_eq_some_iff.mp hc
    walk_at "bg"
    exact oz36 q h1
   have hc' : x.cps.toList[i]? = some c := by simpa using hc
   have ne1 : @Ne Nat lc I := off1 _ (.head _)
   have ne2 : @Ne Nat x1 I := off1 _ (.tail _ (.head _))
   have ne3 : @Ne Nat dx I := off1 _ (.tail _ (.tail _ (.head _)))
   walk_at "wp"
   all_goals (try dsimp only)
   ·subst hJO
    refine FEnd.next (by assumption) (by assumption) (by k_allIn) (List.forall_mem_cons.mpr ⟨ne1, List.forall_mem_cons.mpr ⟨ne2, List.forall_mem_cons.mpr ⟨ne3, List.forall_mem_nil _⟩⟩⟩)
     ⟨rfl, blank_more hbl hc (.inl (sp_is (by assumption))), xi12 count (b + 1) (n + 1) nt vs k lc _ _ _ _ t4 ⟨hrun.trans (ws_sp hc' (by assumption)), hvs, by exact oz32 hb0, by exact oz31 hb1, by exact oz32 hn0, by exact oz31 hn1, by omega, by exact oz35 hnt1, by exact oz34 hcl, ovr_eq (by walk_at "oi") (by walk_at "oo"), hlc, rfl⟩⟩
   ·rename IntsAre (List.set _ _ _) _ => hi9
    rw [tab_pos (by assumption)] at hi9
    subst hJO
    refine FEnd.next (nw := [(_, W.listOf _ _), (x1, instObj 180 dx), (dx, dictOf _ _)]) (by assumption) (by assumption) (by k_allIn) (List.forall_mem_cons.mpr ⟨by k_ne, List.forall_mem_cons.mpr ⟨ne2, List.forall_mem_cons.mpr ⟨ne3, List.forall_mem_nil _⟩⟩⟩)
     ⟨rfl, blank_more hbl hc (.inr (tab_is (by assumption))), xi12 (wsTab count b) 0 (n + 1) (nt + 1) _ _ _ _ _ _ _ t4 ⟨hrun.trans (ws_tb hc' (by assumption) (by assumption)), hi9, by omega, by exact oz33, by exact oz32 hn0, by exact oz31 hn1, by exact oz32 hnt0, by exact oz31 hnt1, tab_len hb0 hb1 hcl, ovr_eq (by walk_at "oi") (by walk_at "oo"), by omega, rfl⟩⟩
   ·rename IntsAre (List.set _ _ _) _ => hi9
    rw [tab_neg (by assumption)] at hi9
    subst hJO
    refine FEnd.next (nw := [(lc, W.listOf _ _), (x1, instObj 180 dx), (dx, dictOf _ _)]) (by assumption) (by assumption) (by k_allIn) (List.forall_mem_cons.mpr ⟨ne1, List.forall_mem_cons.mpr ⟨ne2, List.forall_mem_cons.mpr ⟨ne3, List.forall_mem_nil _⟩⟩⟩)
     ⟨rfl, blank_more hbl hc (.inr (tab_is (by assumption))), xi12 (wsTab count b) 0 (n + 1) (nt + 1) _ _ _ _ _ _ _ t4 ⟨hrun.trans (ws_tb hc' (by assumption) (by assumption)), hi9, by omega, by exact oz33, by exact oz32 hn0, by exact oz31 hn1, by exact oz32 hnt0, by exact oz31 hnt1, tab_len hb0 hb1 hcl, ovr_eq (by walk_at "oi") (by walk_at "oo"), hlc, rfl⟩⟩
   ·subst hJO
    exact ⟨rfl, xi14 count b n nt vs k lc t1 t2 t3 t4 _ _ _ ⟨rfl, hrun.trans (ws_no hc' (by assumption) (by assumption)), hvs, hb0, by exact oz30 hb1 hi, hn0, by exact oz30 hn1 hi, hnt0, by exact oz30 hnt1 hi, by exact oz29 hcl hi, F1, rfl, rfl, rfl, rfl, rfl, hlc, fun p hp => N1 p (.tail _ hp)⟩⟩
  ·intro m₁ nw gs hGJ
   obtain ⟨rfl, hbl, hZ⟩ := hGJ; refine exC (kS yL <| kS zeI <| kS zeI <| kS zeI <| kS yL <| kS yN <| kS yN <| kS yT <| kS yN <| kS yN <| kS yN <| kO yN) hZ ?_; clear hZ; intro count b n nt vs k lc vch t1 t2 t3 t4 hZ; revert hZ; revert m₁ nw count b n nt vs k lc vch t1 t2 t3 t4; exists hc, kS (yF yT) <| kS yL <| kS yL <| kS zeI <| kS zeI <| kS zeI <| kS yL <| kS yN <| kS yN <| kS yT <| kS yN <| kS yN <| kS yN <| kO yN, 6, m₁, nw, count, b, n, nt, vs, k, lc, vch, t1, t2, t3, t4; intro hZ; obtain ⟨hrun, hvs, hb0, hb1, hn0, hn1, hnt0, hnt1, hcl, rfl, hlc, rfl⟩ := hZ
   have h1 : x.cps.size ≤ 20 := hx
   rw [List.drop_of_length_le (by walk_at "ms")] at hrun
   refine ⟨?_, fun h tk F1 N1 => ⟨rfl, xi14 count b n nt vs k lc t1 t2 t3 t4 _ _ _ ⟨rfl, hrun, hvs, hb0, by exact oz28 hb1 h1, hn0, by exact oz28 hn1 h1, hnt0, by exact oz28 hnt1 h1, by exact oz27 hcl h1, F1, rfl, rfl, rfl, rfl, rfl, hlc, N1⟩⟩⟩
   rcases hnb with q | ⟨i, c, q1, q2, q3⟩
   ·exact q
   ·walk_at "cg"
    obtain ⟨q, _⟩ := Array.getElem?_eq_some_iff.mp q1
    walk_at "bg"
    exact absurd (hbl i c q q1) (by exact oz26 q2 q3)
 ·intro f s₂ hGJ
  obtain ⟨rfl, hZ⟩ := hGJ; refine exC (kS yL <| kS zeI <| kS zeI <| kS zeI <| kS yL <| kS yN <| kS yN <| kS yN <| kS yN <| kS yN <| kS yN <| kS yH <| kS yN <| kO (yF yT)) hZ ?_; clear hZ; intro count b n nt vs k lc t1 t2 t3 t4 h tk mF hZ; revert hZ; revert s₂ count b n nt vs k lc t1 t2 t3 t4 h tk mF; exists hc, kS zeS <| kS yL <| kS zeI <| kS zeI <| kS zeI <| kS yL <| kS yN <| kS yN <| kS yN <| kS yN <| kS yN <| kS yN <| kS yH <| kS yN <| kO (yF yT), 7, s₂, count, b, n, nt, vs, k, lc, t1, t2, t3, t4, h, tk, mF; intro hZ; obtain ⟨rfl, hrun, hvs, hb0, hb1, hn0, hn1, hnt0, hnt1, hcl, F1, e1, e2, e3, e4, e5, hlc, N1⟩ := hZ
  have eF : mF = ovr mF [(Str.ofString "self", some (.ref x1)), (Str.ofString "count", some (.ref lc)), (Str.ofString "b", some (.int b t1)), (Str.ofString "n", some (.int n t2)), (Str.ofString "nt", some (.int nt t3))] := ovr_self (List.forall_mem_cons.mpr ⟨e1, List.forall_mem_cons.mpr ⟨e2, List.forall_mem_cons.mpr ⟨e3, List.forall_mem_cons.mpr ⟨e4, List.forall_mem_cons.mpr ⟨e5, List.forall_mem_nil _⟩⟩⟩⟩⟩)
  rw [eF] at F1
  clear eF
  walk_at "ws"
  rename News _ _ _ _ => N9
  have q1 : @Ne Nat _ x1 := news_ne N9 (.tail _ (.head _)) (.tail _ (.tail _ (.tail _ (.head _)))) (by intro h; cases h)
  have q2 : @Ne Nat _ dx := news_ne N9 (.tail _ (.head _)) (.tail _ (.tail _ (.tail _ (.tail _ (.head _))))) (show Value.type "tuple" ≠ Value.type "dict" by decide)
  rename_i zv11 zv12 zv13 zv14 zv15 zv18 zv16 zv17 zv19 zv20; revert zv18 zv19 N9 zv20 q1 q2; revert zv11 zv12 zv13 tk zv14 zv15 zv16 zv17; exists hc, kS yH <| kS yN <| kS yH <| kS yN <| kS yN <| kS yH <| kS yN <| kO yH, 8, zv11, zv12, zv13, tk, zv14, zv15, zv16, zv17; intro _ _ N9 _ q1 q2
  walk_at "ws"
  rename News _ _ _ _ => N8
  rename Fr _ _ _ _ => F8
  exact ⟨rfl, hret _ _ _ (fun b o e => F8.keep _ _ (eg _ _ e)) ⟨[(x1, _), (dx, _), (_, _), (_, _)], made_of eg N8 (List.forall_mem_cons.mpr ⟨.tail _ (.tail _ (.tail _ (.head _))), List.forall_mem_cons.mpr ⟨.tail _ (.tail _ (.tail _ (.tail _ (.head _)))), List.forall_mem_cons.mpr ⟨.head _, List.forall_mem_cons.mpr ⟨.tail _ (.head _), List.forall_mem_nil _⟩⟩⟩⟩), x1, dx, _, _, t, count, b, n, nt, vs, t1, t2, t3, _, _, _, _, _, _, rfl, hrun, hvs, hb0, hb1, hn0, hn1, hnt0, hnt1, hcl, rfl⟩⟩
end
section
local macro_rules | `(tactic| walk_at "own 0") => `(tactic| skip)
noncomputable def wsC (x : Str) : List Int := (wsRun [] 0 0 0 x.cps.toList).1
noncomputable def wsB (x : Str) : Int := (wsRun [] 0 0 0 x.cps.toList).2.1
noncomputable def wsN (x : Str) : Int := (wsRun [] 0 0 0 x.cps.toList).2.2.1
noncomputable def wsNt (x : Str) : Int := (wsRun [] 0 0 0 x.cps.toList).2.2.2
noncomputable def lrS (x : Str) : Int := max ((wsC x).length - 1) (wsB x)
local macro_rules | `(tactic| walk_at "call builtin:len") => `(tactic| ((with_reducible show wpAny _ _ (call (Value.builtin "len") [Value.ref _]) _ _ _); refine len_tuple (News.isTup (by k_asm) (.tail _ (.tail _ (.tail _ (.head _))))) ?_ ?_; (· simp only [List.size_toArray]; rw [IntsAre.length (by assumption)]; omega); (rw [List.size_toArray, IntsAre.length (by assumption)])))
theorem ws_parts {x : Str} {count : List Int} {b n nt : Int} (h : wsRun [] 0 0 0 x.cps.toList = (count, b, n, nt)) : wsC x = count ∧ wsB x = b ∧ wsN x = n ∧ wsNt x = nt := by
 unfold wsC wsB wsN wsNt; rw [h]; exact ⟨rfl, rfl, rfl, rfl⟩
set_option maxRecDepth 100000 in
set_option maxHeartbeats 8000000 in
theorem lr_spec : ∀ (w : World) (mean : ExcName → Option Value) (mg mb : Str → Option Value) (x : Str) (ra : Addr) (mk : List (Addr × Obj)) (hw : WsAt w x (.ref ra) mk), SpecL w mean mg mb none 2 20 142 [.ref ra] mk [] (fun _ _ r => ∃ t, r = .int (lrS x) t) := by
 intro w mean mg mb x ra mk hw
 intro dp un gd cn cs a ccd cl outer A₀ base h₀ L m s Q E
 revert ra mk hw
 show ∀ (ra : Addr) (mk : List (Addr × Obj)) (hw : WsAt w x (.ref ra) mk), SpecL.at w mean mg mb none 2 20 142 [.ref ra] mk [] (fun _ _ r => ∃ t, r = .int (lrS x) t) dp un gd cn cs a ccd cl outer A₀ base h₀ L m s Q E
 revert w mean mg mb x dp un gd cn cs a ccd cl outer A₀ base h₀ L m s Q E
 exists hc, kS zeW <| kS (yF yT) <| kS (yF yT) <| kS (yF yT) <| kS zeR <| kS yN <| kS yN <| kS yT <| kS zeR <| kS (inferInstanceAs (Nonempty Scope)) <| kS yN <| kS zeV <| kS yL <| kS yL <| kS zeA <| kS yH <| kS yH <| kS yN <| kS (yF yT) <| kS zeS <| kS (yF <| yF yP) <| kO (yF <| yF yP), 99, w, mean, mg, mb, x, dp, un, gd, cn, cs, a, ccd, cl, outer, A₀, base, h₀, L, m, s, Q, E
 intro ra mk hw
 obtain ⟨xa, d, D', D, t, count, b, n, nt, vs, tb, tn, tnt, sm, k1, k2, k3, k4, k5, e0, hrun, hvs, hb0, hb1, hn0, hn1, hnt0, hnt1, hcl, rfl⟩ := hw
 cases e0
 unfold SpecL.at; intro B F X T hk hdp hun hHO hled hret
 (refine wpAny_call ?_; k_dflt (refine' enterM (binds := [(Str.ofString "self", .ref ra)]) ?k1z1 ?k2z1 ?kNz1 ?k3z1 ?k5z1 ?kAz1 ?kFz1 ?kKz1 ?k6z1 ?k7z1 ?k8z1 ?k9z1 ?kBz1 ?_ ?c5z1 ?c2z1 ?c3z1 ?c4z1; (case kAz1 => exact rfl); (case kFz1 => exact rfl); (case kKz1 => assumption); (case k1z1 => k_asm); (case k2z1 => k_asm); (case kNz1 => exact hled); (case k3z1 => k_asm); (case k5z1 => k_asm); (case k6z1 => k_is); (case k7z1 => k_is); (case k8z1 => ktr_room); (case k9z1 => exact BindsTo.of_eq rfl); (case c5z1 => decide); (case kBz1 => exact locs rfl); (case c2z1 => exact rfl); (case c3z1 => exact rfl); (case c4z1 => exact rfl); k_whole; intro g h' L' eL' keep F' N' B' X' T'; (try dsimp only); (try (refine fold2 ?_; intro qk ek hqk hek))))
 have hZ := ws_parts hrun; obtain ⟨c1, c2, c3, c4⟩ := hZ
 revert hrun hvs hb0 hb1 hn0 hn1 hnt0 hnt1 hcl hled eL' keep F' N' B' X' T' hqk hek c1 c2 c3 c4; revert ra d D' D t count b n nt vs tb tn tnt sm k1 k2 k3 k4 k5 g h' L' qk ek; exists hc, kS yN <| kS yN <| kS yN <| kS yN <| kS yN <| kS yL <| kS zeI <| kS zeI <| kS zeI <| kS yL <| kS yN <| kS yN <| kS yN <| kS zeB <| kS yN <| kS yN <| kS yN <| kS yN <| kS yN <| kS yH <| kS yH <| kS yN <| kS (yF (yF yP)) <| kO (yF (yF yP)), 1, ra, d, D', D, t, count, b, n, nt, vs, tb, tn, tnt, sm, k1, k2, k3, k4, k5, g, h', L', qk, ek; intro hrun hvs hb0 hb1 hn0 hn1 hnt0 hnt1 hcl hled eL' keep F' N' B' X' T' hqk hek c1 c2 c3 c4
 walk_at "wp"
 rename News _ _ _ _ => N9
 rename Fr _ _ _ _ => F9
 refine hret _ _ _ (ext_of_led keep hled F9 N9 fun p hp _ => hp) ⟨_, congrArg (Value.int · _) ?_⟩
 unfold lrS; rw [c1, c2]; omega
noncomputable def ilSum (count : List Int) (ts : Int) (k : Nat) : Int := ((List.range k).map fun i : Nat => (ts + (i : Int)).fdiv ts * count.getD (ts + (i : Int)).toNat 0).sum
theorem ilSum_succ (count : List Int) (ts : Int) (k : Nat) : ilSum count ts (k + 1) = ilSum count ts k + (ts + (k : Int)).fdiv ts * count.getD (ts + (k : Int)).toNat 0 := by
 unfold ilSum; rw [List.range_succ, List.map_append, List.sum_append]; simp
theorem il_q {ts : Int} (h0 : 1 ≤ ts) (h1 : ts ≤ 30) {k : Nat} (hk : k ≤ 30) : 0 ≤ (ts + (k : Int)).fdiv ts ∧ (ts + (k : Int)).fdiv ts ≤ 60 := by
 rw [Int.fdiv_eq_ediv_of_nonneg _ (by omega)]
 have h2 := Int.ediv_le_self (a := ts + (k : Int)) ts (by exact oz47 h0)
 exact ⟨Int.ediv_nonneg (by exact oz47 h0) (by omega), by exact oz46 h2 h1 hk⟩
theorem getD_bound {count : List Int} (hcb : ∀ c ∈ count, 0 ≤ c ∧ c ≤ 50) (i : Nat) : 0 ≤ count.getD i 0 ∧ count.getD i 0 ≤ 50 := by
 rw [List.getD_eq_getElem?_getD]
 cases q : count[i]? with
 | none => simp
 | some c => exact hcb c (List.mem_of_getElem? q)
theorem ilSum_bound {count : List Int} {ts : Int} (h0 : 1 ≤ ts) (h1 : ts ≤ 30) (hcb : ∀ c ∈ count, 0 ≤ c ∧ c ≤ 50) : ∀ k : Nat, k ≤ 30 → 0 ≤ ilSum count ts k ∧ ilSum count ts k ≤ 3000 * k := by
 intro k
 induction k with
 | zero => intro _; exact ⟨Int.le_refl _, Int.le_refl _⟩
 | succ k ih =>
  intro hk
  have a := ih (by exact oz45 hk)
  have q := il_q h0 h1 (show k ≤ 30 by exact oz45 hk)
  have c := getD_bound hcb (ts + (k : Int)).toNat
  rw [ilSum_succ]
  have p0 := Int.mul_nonneg q.1 c.1
  have p1 := Int.mul_le_mul q.2 c.2 c.1 (by decide)
  exact oz44 a.1 p0 a.2 p1
noncomputable def ilS (x : Str) (ts : Int) : Int := wsB x + ts * (ilSum (wsC x) ts (((wsC x).length : Int) - ts).toNat + wsNt x)
theorem range_size2 {a b : Int} : Builtin.Range.rangeSize a b 1 = (((b - a).toNat : Nat) : Int) := by
 unfold Builtin.Range.rangeSize
 rw [if_pos (by decide), Int.ediv_one]
 split <;> omega
local macro_rules | `(tactic| walk_at "exec For Name Call cons nil") => `(tactic| (k_here; refine hold_it ?_))
set_option maxRecDepth 100000 in
set_option maxHeartbeats 8000000 in
theorem il_spec : ∀ (w : World) (mean : ExcName → Option Value) (mg mb : Str → Option Value) (x : Str) (ra : Addr) (mk : List (Addr × Obj)) (ts : Int) (tt : Tok) (h0 : 1 ≤ ts) (h1 : ts ≤ 30) (hcb : ∀ c ∈ wsC x, 0 ≤ c ∧ c ≤ 50) (hw : WsAt w x (.ref ra) mk), SpecL w mean mg mb none 2 20 149 [.ref ra, .int ts tt] mk [] (fun _ _ r => ∃ t, r = .int (ilS x ts) t) := by
 intro w mean mg mb x ra mk ts tt h0 h1 hcb hw
 intro dp un gd cn cs a ccd cl outer A₀ base h₀ L m s Q E
 revert ra mk h0 h1 hcb hw
 show ∀ (ra : Addr) (mk : List (Addr × Obj)) (h0 : 1 ≤ ts) (h1 : ts ≤ 30) (hcb : ∀ c ∈ wsC x, 0 ≤ c ∧ c ≤ 50) (hw : WsAt w x (.ref ra) mk), SpecL.at w mean mg mb none 2 20 149 [.ref ra, .int ts tt] mk [] (fun _ _ r => ∃ t, r = .int (ilS x ts) t) dp un gd cn cs a ccd cl outer A₀ base h₀ L m s Q E
 revert w mean mg mb x ts tt dp un gd cn cs a ccd cl outer A₀ base h₀ L m s Q E
 exists hc, kS zeW <| kS (yF yT) <| kS (yF yT) <| kS (yF yT) <| kS zeR <| kS zeI <| kS yN <| kS yN <| kS yN <| kS yT <| kS zeR <| kS (inferInstanceAs (Nonempty Scope)) <| kS yN <| kS zeV <| kS yL <| kS yL <| kS zeA <| kS yH <| kS yH <| kS yN <| kS (yF yT) <| kS zeS <| kS (yF <| yF yP) <| kO (yF <| yF yP), 99, w, mean, mg, mb, x, ts, tt, dp, un, gd, cn, cs, a, ccd, cl, outer, A₀, base, h₀, L, m, s, Q, E
 intro ra mk h0 h1 hcb hw
 obtain ⟨xa, d, D', D, t, count, b, n, nt, vs, tb, tn, tnt, sm, k1, k2, k3, k4, k5, e0, hrun, hvs, hb0, hb1, hn0, hn1, hnt0, hnt1, hcl, rfl⟩ := hw
 cases e0
 unfold SpecL.at; intro B F X T hk hdp hun hHO hled hret
 (refine wpAny_call ?_; k_dflt (refine' enterM (binds := [(Str.ofString "self", .ref ra), (Str.ofString "tabsize", .int ts tt)]) ?k1z2 ?k2z2 ?kNz2 ?k3z2 ?k5z2 ?kAz2 ?kFz2 ?kKz2 ?k6z2 ?k7z2 ?k8z2 ?k9z2 ?kBz2 ?_ ?c5z2 ?c2z2 ?c3z2 ?c4z2; (case kAz2 => exact rfl); (case kFz2 => exact rfl); (case kKz2 => assumption); (case k1z2 => k_asm); (case k2z2 => k_asm); (case kNz2 => exact hled); (case k3z2 => k_asm); (case k5z2 => k_asm); (case k6z2 => k_is); (case k7z2 => k_is); (case k8z2 => ktr_room); (case k9z2 => exact BindsTo.of_eq rfl); (case c5z2 => decide); (case kBz2 => exact locs rfl); (case c2z2 => exact rfl); (case c3z2 => exact rfl); (case c4z2 => exact rfl); k_whole; intro g h' L' eL' keep F' N' B' X' T'; (try dsimp only); (try (refine fold2 ?_; intro qk ek hqk hek))))
 have hZ := ws_parts hrun; obtain ⟨c1, c2, c3, c4⟩ := hZ
 rw [c1] at hcb
 revert hcb hrun hvs hb0 hb1 hn0 hn1 hnt0 hnt1 hcl hled eL' keep F' N' B' X' T' hqk hek c1 c2 c3 c4; revert ra d D' D t count b n nt vs tb tn tnt sm k1 k2 k3 k4 k5 g h' L' qk ek; exists hc, kS yN <| kS yN <| kS yN <| kS yN <| kS yN <| kS yL <| kS zeI <| kS zeI <| kS zeI <| kS yL <| kS yN <| kS yN <| kS yN <| kS zeB <| kS yN <| kS yN <| kS yN <| kS yN <| kS yN <| kS yH <| kS yH <| kS yN <| kS (yF (yF yP)) <| kO (yF (yF yP)), 2, ra, d, D', D, t, count, b, n, nt, vs, tb, tn, tnt, sm, k1, k2, k3, k4, k5, g, h', L', qk, ek; intro hcb hrun hvs hb0 hb1 hn0 hn1 hnt0 hnt1 hcl hled eL' keep F' N' B' X' T' hqk hek c1 c2 c3 c4
 walk_at "ws"
 show wpAny _ _ _ _ _ _
 rename_i zv1 zv2 zv3 zv4 zv5; revert zv4 zv5; revert zv1 zv2 zv3 tk; exists hc, kS yH <| kS yN <| kS yH <| kO yN, 3, zv1, zv2, zv3, tk; intro _ _
 refine wpAny_mono (Q := fun f s₂ => f = .next ∧ ∃ (vi : Option Value) (t1 : Tok) (h : Heap) (tk : Nat) (mF : Str → Option Value), s₂ = { s with heap := h, toks := tk } ∧ Fr g L' h (ovr mF [(Str.ofString "i", vi), (Str.ofString "count", some (.ref D)), (Str.ofString "trailing", some (.int b tb)), (Str.ofString "tabsize", some (.int ts tt)), (Str.ofString "self", some (.ref ra)), (Str.ofString "il", some (.int (ilSum count ts ((count.length : Int) - ts).toNat) t1))]) ∧
   News g L' h [(ra, instObj 180 d), (d, wsD w x t n nt tn tnt D' sm k1 k2 k3 k4 k5), (D', { cls := .type "tuple", data := .seq #[.ref D, .int b tb] }), (D, { cls := .type "tuple", data := .seq vs.toArray })]) (wpAny_for_of ?_ (by intro _; rfl)) ?_ (fun _ _ z => z)
 ·walk_at "ws"
  rename News _ _ _ _ => N9
  rename Fr _ _ _ _ => F9
  rename IsRange _ _ _ _ _ _ _ _ => hr
  have hm : ∃ m₀, Fr g L' _ m₀ ∧ m₀ (Str.ofString "count") = some _ ∧ m₀ (Str.ofString "trailing") = some _ ∧ m₀ (Str.ofString "tabsize") = some _ ∧ m₀ (Str.ofString "self") = some _ ∧ m₀ (Str.ofString "il") = some _ := ⟨_, F9, rfl, rfl, rfl, rfl, rfl⟩
  refine exC (kO (yF yT)) hm ?_; clear hm; intro m₀ hZ; rename_i zv4 zv5 zv6 zv7 zv8 zv9; revert hr F9 N9 zv9 hZ; revert zv4 zv5 zv6 zv7 zv8 m₀; exists hc, kS yH <| kS yN <| kS yN <| kS yN <| kS yN <| kO (yF yT), 4, zv4, zv5, zv6, zv7, zv8, m₀; intro hr F9 N9 _ hZ; obtain ⟨F9', e1, e2, e3, e4, e5⟩ := hZ
  refine for_range hr (range_small (by exact oz43 h0) (by exact oz42 h1) (by exact oz41) (by exact oz40 hcl)) range_size2 rfl rfl rfl F9' N9
   (fun i m' nw gs => gs = s.gens ∧ ∃ (vi : Option Value) (t1 : Tok), m' = ovr m₀ [(Str.ofString "i", vi), (Str.ofString "count", some (.ref D)), (Str.ofString "trailing", some (.int b tb)), (Str.ofString "tabsize", some (.int ts tt)), (Str.ofString "self", some (.ref ra)), (Str.ofString "il", some (.int (ilSum count ts i) t1))] ∧
    nw = [(ra, instObj 180 d), (d, wsD w x t n nt tn tnt D' sm k1 k2 k3 k4 k5), (D', { cls := .type "tuple", data := .seq #[.ref D, .int b tb] }), (D, { cls := .type "tuple", data := .seq vs.toArray })]) ?_ ?_ ?_
  ·exact ⟨rfl, xi2 (m₀ (Str.ofString "i")) _ ⟨ovr_self (List.forall_mem_cons.mpr ⟨rfl, List.forall_mem_cons.mpr ⟨e1, List.forall_mem_cons.mpr ⟨e2, List.forall_mem_cons.mpr ⟨e3, List.forall_mem_cons.mpr ⟨e4, List.forall_mem_cons.mpr ⟨e5, List.forall_mem_nil _⟩⟩⟩⟩⟩⟩), rfl⟩⟩
  ·intro i ti m₁ nw gs h tk I oI hi hGJ
   generalize hJO : FEnd _ _ _ _ _ _ _ = QO
   revert QO
   refine hold_pi ?_
   intro QO hJO
   obtain ⟨rfl, hZ⟩ := hGJ; refine exC (kS yT <| kO yN) hZ ?_; clear hZ; intro vi t1 hZ; revert hi hJO hZ; revert i ti m₁ nw h tk I oI QO vi t1; exists hc, kS yN <| kS yN <| kS (yF yT) <| kS yL <| kS yH <| kS yN <| kS yN <| kS zeO <| kS (yF (yF yP)) <| kS yT <| kO yN, 5, i, ti, m₁, nw, h, tk, I, oI, QO, vi, t1; intro hi hJO hZ; obtain ⟨rfl, rfl⟩ := hZ
   intro F1 N1 off1
   clear F9 F9' N9
   have hs1 := ilSum_bound h0 h1 hcb i (by exact oz39 h0 hi hcl)
   have hq := il_q h0 h1 (show i ≤ 30 by exact oz39 h0 hi hcl)
   have hq0 := hq.1
   have hq1 := hq.2
   walk_at "wp"
   subst hJO
   refine FEnd.next (by assumption) (by assumption) (fun _ h => h) off1 ⟨rfl, xi2 _ _ ⟨ovr_eq (List.forall_mem_cons.mpr ⟨rfl, List.forall_mem_cons.mpr ⟨rfl, List.forall_mem_cons.mpr ⟨rfl, List.forall_mem_cons.mpr ⟨rfl, List.forall_mem_cons.mpr ⟨rfl, List.forall_mem_cons.mpr ⟨congrArg (fun z => some (Value.int z _)) (ilSum_succ count ts i).symm, List.forall_mem_nil _⟩⟩⟩⟩⟩⟩) (by walk_at "oo"), rfl⟩⟩
  ·intro m₁ nw gs hGJ
   obtain ⟨rfl, hZ⟩ := hGJ; refine exC (kS yT <| kO yN) hZ ?_; clear hZ; intro vi t1 hZ; revert hZ; revert m₁ nw vi t1; exists hc, kS (yF yT) <| kS yL <| kS yT <| kO yN, 6, m₁, nw, vi, t1; intro hZ; obtain ⟨rfl, rfl⟩ := hZ
   intro h tk F1 N1
   exact ⟨rfl, xi5 vi t1 h tk _ ⟨rfl, F1, N1⟩⟩
 ·intro f s₂ hGJ
  obtain ⟨rfl, hZ⟩ := hGJ; refine exC (kS yT <| kS yN <| kS yH <| kS yN <| kO (yF yT)) hZ ?_; clear hZ; intro vi t1 h tk mF hZ; revert hZ; revert s₂ vi t1 h tk mF; exists hc, kS zeS <| kS yT <| kS yN <| kS yH <| kS yN <| kO (yF yT), 7, s₂, vi, t1, h, tk, mF; intro hZ; obtain ⟨rfl, F1, N1⟩ := hZ
  have hs1 := ilSum_bound h0 h1 hcb ((count.length : Int) - ts).toNat (by exact oz38 h0 hcl)
  generalize hS : ilSum count ts ((count.length : Int) - ts).toNat = S at F1 hs1
  (revert S; refine hold_pi ?_; set_option tactic.hygienic false in intros)
  revert hS F1 hs1; revert S; refine hzC (kO zeI) 8 ?_; generalize zz _ _ _ = S; intro hS F1 hs1
  walk_at "wp"
  all_goals (try dsimp only)
  rename News _ _ _ _ => N9
  rename Fr _ _ _ _ => F9
  refine hret _ _ _ (ext_of_led keep hled F9 N9 fun p hp _ => hp) ⟨_, congrArg (Value.int · _) ?_⟩
  unfold ilS; rw [c1, c2, c4, hS]
end
section
section
variable {A : Around} {s : Shared}
theorem ints_get {vs : List Value} {ns : List Int} (h : IntsAre vs ns) {j : Nat} (hj : j < vs.toArray.size) : ∃ t, vs.toArray[j] = .int (ns.getD j 0) t := by
 have hj' : j < ns.length := by simpa [h.length] using hj
 walk_at "cg"
 obtain ⟨t, e⟩ := IntsAre.get h j ns[j] (by simp [hj'])
 walk_at "bg"
 refine ⟨t, ?_⟩
 have : vs[j]? = some (vs.toArray[j]) := by simp at hj ⊢
 rw [this] at e
 rw [Option.some.inj e]; simp [List.getD, hj']
theorem eqAt_ints {l b : Addr} {vs us : List Value} {ns ms : List Int} (hl : s.heap.IsTuple l vs.toArray) (hb : s.heap.IsTuple b us.toArray) (hi : IntsAre vs ns) (hj : IntsAre us ms) (hu : A.units < cLine) :
  SeqAt.EqAt A s (.ref l) (.ref b) (decide (ns = ms)) := by
 by_cases hne : l = b
 ·subst hne
  have e : vs = us := by
   walk_at "cg"
   obtain ⟨o, e1, _, n1, d1⟩ := hl
   walk_at "bg"
   walk_at "cg"
   obtain ⟨o2, e2, _, n2, d2⟩ := hb
   walk_at "bg"
   rw [e1] at e2; cases e2
   rw [d1] at d2; injection d2 with d2 _; simpa using congrArg Array.toList d2
  subst e
  have : ns = ms := by rw [← hi.numsOf, ← hj.numsOf]
  rw [decide_eq_true this]
  exact SeqAt.EqAt.same _
 ·refine SeqAt.EqAt.of_refs hne ?_
  have h := SeqAt.RcAt.tuples (e := fun j => ns.getD j 0 == ms.getD j 0) hl hb hu (fun j h1 h2 => by
   walk_at "cg"
   obtain ⟨t1, e1⟩ := ints_get hi h1
   walk_at "bg"
   walk_at "cg"
   obtain ⟨t2, e2⟩ := ints_get hj h2
   walk_at "bg"
   rw [e1, e2]; exact SeqAt.EqAt.int_int _ _ _ _)
  have e : ((List.range (min vs.toArray.size us.toArray.size)).all (fun j => ns.getD j 0 == ms.getD j 0) && vs.toArray.size == us.toArray.size) = decide (ns = ms) := by
   rw [List.size_toArray, List.size_toArray, hi.length, hj.length]
   by_cases q : ns = ms
   ·subst q; simp
   ·rw [decide_eq_false q]
    by_cases r : ns.length = ms.length
    ·rw [Bool.and_eq_false_iff]; left
     rw [Bool.eq_false_iff]
     intro z
     refine q (List.ext_getElem r fun i h1 h2 => ?_)
     have := List.all_eq_true.mp z i (by simp; omega)
     simpa [List.getD, h1, h2] using this
    ·simp [r]
  rw [e] at h; exact h
end
noncomputable def eqS (x y : Str) : Bool := decide (wsC x = wsC y) && wsB x == wsB y
section
variable {prog : Program} {w : World} {A : Around} {E : Value → Shared → Prop} {s : Shared}
theorem eq_norm {l b D1 D2 : Addr} {vs us : List Value} {ns ms : List Int} {p q : Int} {t1 t2 : Tok} {Q : Value → Shared → Prop} (hl : s.heap.IsTuple l #[.ref D1, .int p t1]) (hb : s.heap.IsTuple b #[.ref D2, .int q t2]) (h1 : s.heap.IsTuple D1 vs.toArray) (h2 : s.heap.IsTuple D2 us.toArray)
  (hi : IntsAre vs ns) (hj : IntsAre us ms) (hu : A.units + 1 < cLine) (h : Q (.bool (decide (ns = ms) && p == q)) s) : wpAny (model prog w) A (compareOp .Eq (.ref l) (.ref b)) Q E s := by
 refine SeqAt.eq_tupleAt (e := fun j => if j = 0 then decide (ns = ms) else p == q) hl hb (by omega) (fun j g1 g2 => ?_) ?_
 ·match j, g1 with
  | 0, _ => exact eqAt_ints h1 h2 hi hj (by show A.units + 1 < cLine; exact hu)
  | 1, _ => exact SeqAt.EqAt.int_int _ _ _ _
  | j + 2, g1 => exact absurd g1 (by walk_at "ms")
 ·have e : ((List.range (min (#[Value.ref D1, .int p t1]).size (#[Value.ref D2, .int q t2]).size)).all (fun j => if j = 0 then decide (ns = ms) else p == q) && (#[Value.ref D1, .int p t1]).size == (#[Value.ref D2, .int q t2]).size) = (decide (ns = ms) && p == q) := by
   show ((List.range 2).all _ && (2 == 2)) = _
   simp [List.range, List.range.loop]
  rw [e]; exact h
end
variable (w : World) (mean : ExcName → Option Value) (mg mb : Str → Option Value)
local macro_rules | `(tactic| walk_at "compareOp Eq ref ref") => `(tactic| (refine hold_it ?_))
set_option maxRecDepth 100000 in
set_option maxHeartbeats 1000000 in
theorem equal_spec (x y : Str) (ra rb : Addr) (mk mk2 : List (Addr × Obj)) (hw : WsAt w x (.ref ra) mk) (hw2 : WsAt w y (.ref rb) mk2) : SpecL w mean mg mb none 2 20 156 [.ref ra, .ref rb] (mk ++ mk2) [] (fun _ _ r => r = .bool (eqS x y)) := by
 walk_at "cg"
 obtain ⟨xa, d, D', D, t, count, b, n, nt, vs, tb, tn, tnt, sm, k1, k2, k3, k4, k5, e0, hrun, hvs, hb0, hb1, hn0, hn1, hnt0, hnt1, hcl, rfl⟩ := hw
 walk_at "bg"
 cases e0
 walk_at "cg"
 obtain ⟨xa, d2, D2', D2, t2, count2, b2, n2, nt2, vs2, tb2, tn2, tnt2, sm2, q1, q2, q3, q4, q5, e0, hrun2, hvs2, hb02, hb12, hn02, hn12, hnt02, hnt12, hcl2, rfl⟩ := hw2
 walk_at "bg"
 cases e0
 walk_at "il"
 dsimp only [List.cons_append, List.nil_append] at hled
 (refine wpAny_call ?_; k_dflt (refine' enterM (binds := [(Str.ofString "self", .ref ra), (Str.ofString "other", .ref rb)]) ?k1z3 ?k2z3 ?kNz3 ?k3z3 ?k5z3 ?kAz3 ?kFz3 ?kKz3 ?k6z3 ?k7z3 ?k8z3 ?k9z3 ?kBz3 ?_ ?c5z3 ?c2z3 ?c3z3 ?c4z3; (case kAz3 => exact rfl); (case kFz3 => exact rfl); (case kKz3 => assumption); (case k1z3 => k_asm); (case k2z3 => k_asm); (case kNz3 => exact hled); (case k3z3 => k_asm); (case k5z3 => k_asm); (case k6z3 => k_is); (case k7z3 => k_is); (case k8z3 => ktr_room); (case k9z3 => exact BindsTo.of_eq rfl); (case c5z3 => decide); (case kBz3 => exact locs rfl); (case c2z3 => exact rfl); (case c3z3 => exact rfl); (case c4z3 => exact rfl); k_whole; intro g h' L' eL' keep F' N' B' X' T'; (try dsimp only); (try (refine fold2 ?_; intro qk ek hqk hek))))
 walk_at "cg"
 obtain ⟨c1, c2, c3, c4⟩ := ws_parts hrun
 walk_at "bg"
 walk_at "cg"
 obtain ⟨c12, c22, c32, c42⟩ := ws_parts hrun2
 walk_at "bg"
 walk_at "ws"
 show wpAny _ _ _ _ _ _
 rename News _ _ _ _ => N9
 rename Fr _ _ _ _ => F9
 refine eq_norm (N9.isTup (.tail _ (.tail _ (.head _)))) (N9.isTup (.tail _ (.tail _ (.tail _ (.tail _ (.tail _ (.tail _ (.head _)))))))) (N9.isTup (.tail _ (.tail _ (.tail _ (.head _))))) (N9.isTup (.tail _ (.tail _ (.tail _ (.tail _ (.tail _ (.tail _ (.tail _ (.head _))))))))) hvs hvs2 ?_ ?_
 ·ktr_units
 walk_at "ws"
 all_goals (try dsimp only)
 refine hret _ _ _ (ext_of_led keep hled F9 N9 fun p hp _ => hp) (congrArg Value.bool ?_)
 unfold eqS; rw [c1, c2, c12, c22]
end
section
local macro_rules | `(tactic| walk_at "own 0") => `(tactic| skip)
noncomputable def WitIn (led : List (Addr × Obj)) (ls : List (Int × Int × Int)) (vs : List Value) : Prop :=
 All2 (fun q v => ∃ (a : Addr) (t1 t2 t3 : Tok), v = .ref a ∧ (a, ({ cls := .type "tuple", data := .seq #[.int q.1 t1, .int q.2.1 t2, .int q.2.2 t3] } : Obj)) ∈ led) ls vs
theorem WitIn.mono {led led' : List (Addr × Obj)} {ls : List (Int × Int × Int)} {vs : List Value} (h : WitIn led ls vs) (s : ∀ p ∈ led, p ∈ led') : WitIn led' ls vs := All2.mono (fun _ _ ⟨a, t1, t2, t3, e, m⟩ => ⟨a, t1, t2, t3, e, s _ m⟩) h
noncomputable def witS (x y : Str) (k : Nat) : List (Int × Int × Int) := ((List.range k).map fun i : Nat => (1 + (i : Int), ilS x (1 + (i : Int)), ilS y (1 + (i : Int)))).filter fun q => q.2.1 != q.2.2
theorem witS_succ (x y : Str) (k : Nat) : witS x y (k + 1) = witS x y k ++ (if (ilS x (1 + (k : Int)) != ilS y (1 + (k : Int))) = true then [(1 + (k : Int), ilS x (1 + (k : Int)), ilS y (1 + (k : Int)))] else []) := by
 unfold witS
 rw [List.range_succ, List.map_append, List.filter_append]
 congr 1
 simp only [List.map_cons, List.map_nil, List.filter]
 cases (ilS x (1 + (k : Int)) != ilS y (1 + (k : Int))) <;> rfl
noncomputable def wlenS (x y : Str) : Int := max (lrS x) (lrS y) + 1
theorem news_fold {h₀ h : Heap} {L : Addr} {a : Addr × Obj} {mk mk2 l1 l2 : List (Addr × Obj)} (e1 : mk = l1) (e2 : mk2 = l2) (N : News h₀ L h (a :: (l1 ++ l2))) : News h₀ L h (a :: ((mk ++ mk2) ++ [])) := by
 rw [List.append_nil, e1, e2]; exact N
theorem news_wit {h₀ h : Heap} {L la Dn : Addr} {o : Obj} {i : Addr × Obj} {vs : List Value} {k : Nat} {M tl : List (Addr × Obj)} (N : News h₀ L h ((la, W.listOf (vs.toArray.push (Value.ref Dn)) (k + 1)) :: (Dn, o) :: i :: (M ++ tl))) :
  News h₀ L h (i :: (la, W.listOf (vs ++ [Value.ref Dn]).toArray (k + 1)) :: (M ++ ((Dn, o) :: tl))) := by
 rw [List.push_toArray] at N
 intro p hp
 refine N p ?_
 exact subm (by walk_at "sz") hp
local macro_rules | `(tactic| walk_at "exec For Name Call cons nil") => `(tactic| (k_here; refine hold_it ?_))
set_option maxRecDepth 100000 in
set_option maxHeartbeats 8000000 in
theorem wit_spec : ∀ (w : World) (mean : ExcName → Option Value) (mg mb : Str → Option Value) (x y : Str) (ra rb : Addr) (mk mk2 : List (Addr × Obj)) (hcx : ∀ c ∈ wsC x, 0 ≤ c ∧ c ≤ 50) (hcy : ∀ c ∈ wsC y, 0 ≤ c ∧ c ≤ 50) (hw : WsAt w x (.ref ra) mk) (hw2 : WsAt w y (.ref rb) mk2), SpecL w mean mg mb none 3 30 163 [.ref ra, .ref rb] (mk ++ mk2) [] (fun h h' r => ∃ la vs k tl, r = .ref la ∧ Made h h' ((la, W.listOf vs k) :: tl) ∧ WitIn tl (witS x y (wlenS x y).toNat) vs.toList) := by
 intro w mean mg mb x y ra rb mk mk2 hcx hcy hw hw2
 intro dp un gd cn cs a ccd cl outer A₀ base h₀ L m s Q E
 revert hcx hcy hw hw2
 show ∀ (hcx : ∀ c ∈ wsC x, 0 ≤ c ∧ c ≤ 50) (hcy : ∀ c ∈ wsC y, 0 ≤ c ∧ c ≤ 50) (hw : WsAt w x (.ref ra) mk) (hw2 : WsAt w y (.ref rb) mk2), SpecL.at w mean mg mb none 3 30 163 [.ref ra, .ref rb] (mk ++ mk2) [] (fun h h' r => ∃ la vs k tl, r = .ref la ∧ Made h h' ((la, W.listOf vs k) :: tl) ∧ WitIn tl (witS x y (wlenS x y).toNat) vs.toList) dp un gd cn cs a ccd cl outer A₀ base h₀ L m s Q E
 revert w mean mg mb x y ra rb mk mk2 dp un gd cn cs a ccd cl outer A₀ base h₀ L m s Q E
 exists hc, kS zeW <| kS (yF yT) <| kS (yF yT) <| kS (yF yT) <| kS zeR <| kS zeR <| kS yN <| kS yN <| kS yL <| kS yL <| kS yN <| kS yN <| kS yT <| kS zeR <| kS (inferInstanceAs (Nonempty Scope)) <| kS yN <| kS zeV <| kS yL <| kS yL <| kS zeA <| kS yH <| kS yH <| kS yN <| kS (yF yT) <| kS zeS <| kS (yF <| yF yP) <| kO (yF <| yF yP), 99, w, mean, mg, mb, x, y, ra, rb, mk, mk2, dp, un, gd, cn, cs, a, ccd, cl, outer, A₀, base, h₀, L, m, s, Q, E
 intro hcx hcy hw hw2
 have hw' := hw
 have hw2' := hw2
 obtain ⟨xa, d, D', D, t, count, b, n, nt, vs, tb, tn, tnt, sm, k1, k2, k3, k4, k5, e0, hrun, hvs, hb0, hb1, hn0, hn1, hnt0, hnt1, hcl, hmk⟩ := hw
 cases e0
 obtain ⟨xa, d2, D2', D2, t2, count2, b2, n2, nt2, vs2, tb2, tn2, tnt2, sm2, q1, q2, q3, q4, q5, e0, hrun2, hvs2, hb02, hb12, hn02, hn12, hnt02, hnt12, hcl2, hmk2⟩ := hw2
 cases e0
 unfold SpecL.at; intro B F X T hk hdp hun hHO hled hret
 (refine wpAny_call ?_; k_dflt (refine' enterM (binds := [(Str.ofString "self", .ref ra), (Str.ofString "other", .ref rb)]) ?k1z4 ?k2z4 ?kNz4 ?k3z4 ?k5z4 ?kAz4 ?kFz4 ?kKz4 ?k6z4 ?k7z4 ?k8z4 ?k9z4 ?kBz4 ?_ ?c5z4 ?c2z4 ?c3z4 ?c4z4; (case kAz4 => exact rfl); (case kFz4 => exact rfl); (case kKz4 => assumption); (case k1z4 => k_asm); (case k2z4 => k_asm); (case kNz4 => exact hled); (case k3z4 => k_asm); (case k5z4 => k_asm); (case k6z4 => k_is); (case k7z4 => k_is); (case k8z4 => ktr_room); (case k9z4 => exact BindsTo.of_eq rfl); (case c5z4 => decide); (case kBz4 => exact locs rfl); (case c2z4 => exact rfl); (case c3z4 => exact rfl); (case c4z4 => exact rfl); k_whole; intro g h' L' eL' keep F' N' B' X' T'; (try dsimp only); (try (refine fold2 ?_; intro qk ek hqk hek))))
 obtain ⟨c1, c2, c3, c4⟩ := ws_parts hrun
 obtain ⟨c12, c22, c32, c42⟩ := ws_parts hrun2
 have sub1 : ∀ p ∈ mk, p ∈ mk ++ mk2 := fun p hp => List.mem_append.mpr (.inl hp)
 have sub2 : ∀ p ∈ mk2, p ∈ mk ++ mk2 := fun p hp => List.mem_append.mpr (.inr hp)
 have N1 := N'
 rw [hmk, hmk2] at N1
 dsimp only [List.cons_append, List.nil_append] at N1
 revert hrun hvs hb0 hb1 hn0 hn1 hnt0 hnt1 hcl hmk hrun2 hvs2 hb02 hb12 hn02 hn12 hnt02 hnt12 hcl2 hmk2 eL' keep F' N' B' X' T' hqk hek c1 c2 c3 c4 c12 c22 c32 c42 N1; revert d D' D t count b n nt vs tb tn tnt sm k1 k2 k3 k4 k5 d2 D2' D2 t2 count2 b2 n2 nt2 vs2 tb2 tn2 tnt2 sm2 q1 q2 q3 q4 q5 g h' L' qk ek; exists hc, kS yN <| kS yN <| kS yN <| kS yN <| kS yL <| kS zeI <| kS zeI <| kS zeI <| kS yL <| kS yN <| kS yN <| kS yN <| kS zeB <| kS yN <| kS yN <| kS yN <| kS yN <| kS yN <| kS yN <| kS yN <| kS yN <| kS yN <| kS yL <| kS zeI <| kS zeI <| kS zeI <| kS yL <| kS yN <| kS yN <| kS yN <| kS zeB <| kS yN <| kS yN <| kS yN <| kS yN <| kS yN <| kS yH <| kS yH <| kS yN <| kS (yF (yF yP)) <| kO (yF (yF yP)), 1, d, D', D, t, count, b, n, nt, vs, tb, tn, tnt, sm, k1, k2, k3, k4, k5, d2, D2', D2, t2, count2, b2, n2, nt2, vs2, tb2, tn2, tnt2, sm2, q1, q2, q3, q4, q5, g, h', L', qk, ek; intro hrun hvs hb0 hb1 hn0 hn1 hnt0 hnt1 hcl hmk hrun2 hvs2 hb02 hb12 hn02 hn12 hnt02 hnt12 hcl2 hmk2 eL' keep F' N' B' X' T' hqk hek c1 c2 c3 c4 c12 c22 c32 c42 N1
 walk_at "ws"
 ((try (refine ⟨?kinz5, ?_⟩; (case kinz5 => k_in))); k_dflt (refine' SpecL.use0 (lr_spec w mean mg mb x ra _ hw') ?k1z5 ?k2z5 ?k3z5 ?k4z5 ?k5z5 ?kKz5 ?kdz5 ?kuz5 ?kpz5 ?ksz5 ?_; (case k1z5 => k_asm); (case k2z5 => k_asm); (case k3z5 => k_asm); (case k4z5 => k_asm); (case k5z5 => k_asm); (case kKz5 => first | exact rfl | assumption); (case kdz5 => ktr_room); (case kuz5 => ktr_units); (case kpz5 => first | exact trivial | assumption); (case ksz5 => exact (by rw [hmk]; k_allIn))))
 intro r h9 tk9 e9 F9 N9 hr
 obtain ⟨t9, rfl⟩ := hr
 revert e9 F9 N9; revert tk h9 tk9 t9; exists hc, kS yN <| kS yH <| kS yN <| kO yN, 2, tk, h9, tk9, t9; intro e9 F9 N9
 walk_at "ws"
 ((try (refine ⟨?kinz6, ?_⟩; (case kinz6 => k_in))); k_dflt (refine' SpecL.use0 (lr_spec w mean mg mb y rb _ hw2') ?k1z6 ?k2z6 ?k3z6 ?k4z6 ?k5z6 ?kKz6 ?kdz6 ?kuz6 ?kpz6 ?ksz6 ?_; (case k1z6 => k_asm); (case k2z6 => k_asm); (case k3z6 => k_asm); (case k4z6 => k_asm); (case k5z6 => k_asm); (case kKz6 => first | exact rfl | assumption); (case kdz6 => ktr_room); (case kuz6 => ktr_units); (case kpz6 => first | exact trivial | assumption); (case ksz6 => exact (by rw [hmk2]; k_allIn))))
 intro r h9 tk9 e9 F9 N9 hr
 obtain ⟨t9, rfl⟩ := hr
 have hl1 : lrS x ≤ 20 ∧ 0 ≤ lrS x := by unfold lrS; rw [c1, c2]; omega
 have hl2 : lrS y ≤ 20 ∧ 0 ≤ lrS y := by unfold lrS; rw [c12, c22]; omega
 revert e9 F9 N9; revert h9 tk9 t9; exists hc, kS yH <| kS yN <| kO yN, 3, h9, tk9, t9; intro e9 F9 N9
 walk_at "ws"
 show wpAny _ _ _ _ _ _
 rename_i zv1 zv2 _ _ zv3 _ zv5 zv4 zv6 zv7; revert zv5 zv6 zv7; revert zv1 zv2 zv3 zv4 tk; exists hc, kS yH <| kS yN <| kS yN <| kS yH <| kO yN, 4, zv1, zv2, zv3, zv4, tk; intro _ _ _
 refine wpAny_mono (Q := fun f s₂ => f = .next ∧ ∃ (la : Addr) (vs : List Value) (k : Nat) (tl : List (Addr × Obj)) (h : Heap) (tk : Nat) (mF : Str → Option Value) (vi : Option Value), s₂ = { s with heap := h, toks := tk } ∧ Fr g L' h (ovr mF [(Str.ofString "ts", vi), (Str.ofString "a", some (.ref la)), (Str.ofString "self", some (.ref ra)), (Str.ofString "other", some (.ref rb))]) ∧
   News g L' h ((la, W.listOf vs.toArray k) :: ((mk ++ mk2) ++ tl)) ∧ (∀ p ∈ (la, W.listOf vs.toArray k) :: tl, ∀ q ∈ mk ++ mk2, q.1 ≠ p.1) ∧ WitIn tl (witS x y (wlenS x y).toNat) vs) (wpAny_for_of ?_ (by intro _; rfl)) ?_ (fun _ _ z => z)
 ·walk_at "ws"
  rename News _ _ _ _ => N9
  rename Fr _ _ _ _ => F9
  rename IsRange _ _ _ _ _ _ _ _ => hr
  have hwl : (if lrS y > lrS x then lrS y else lrS x) + 1 = wlenS x y := by unfold wlenS; omega
  have hwl0 : 1 ≤ wlenS x y ∧ wlenS x y ≤ 21 := by omega
  rw [hwl] at hr
  have hm : ∃ m₀, Fr g L' _ m₀ ∧ m₀ (Str.ofString "a") = some _ ∧ m₀ (Str.ofString "self") = some _ ∧ m₀ (Str.ofString "other") = some _ := ⟨_, F9, rfl, rfl, rfl⟩
  obtain ⟨m₀, F9', e1, e2, e3⟩ := hm
  have N8 := news_fold hmk hmk2 N9
  rename_i zv6 zv7 zv8 zv9 zv10 zv11; revert hr F9 N9 zv11 F9' e1 e2 e3 N8; revert zv6 zv7 zv8 zv9 zv10 m₀; exists hc, kS yH <| kS yN <| kS yN <| kS yN <| kS yN <| kO (yF yT), 5, zv6, zv7, zv8, zv9, zv10, m₀; intro hr F9 N9 _ F9' e1 e2 e3 N8
  refine for_range (n := (wlenS x y).toNat) hr (range_small (by omega) (by omega) (by exact oz103 hwl0.1) (by exact oz102 hwl0.2)) (range_size (by exact oz101 hwl0.1)) rfl rfl rfl F9' N8
   (fun i m' nw gs => gs = s.gens ∧ ∃ (vi : Option Value) (la : Addr) (vs : List Value) (k : Nat) (tl : List (Addr × Obj)), m' = ovr m₀ [(Str.ofString "ts", vi), (Str.ofString "a", some (.ref la)), (Str.ofString "self", some (.ref ra)), (Str.ofString "other", some (.ref rb))] ∧
    nw = (la, W.listOf vs.toArray k) :: ((mk ++ mk2) ++ tl) ∧ OwnOff tl [la] ∧ (∀ p ∈ (la, W.listOf vs.toArray k) :: tl, ∀ q ∈ mk ++ mk2, q.1 ≠ p.1) ∧ WitIn tl (witS x y i) vs ∧ vs.length ≤ i) ?_ ?_ ?_
  ·refine ⟨rfl, m₀ (Str.ofString "ts"), _, [], 0, [], ovr_self (List.forall_mem_cons.mpr ⟨rfl, List.forall_mem_cons.mpr ⟨e1, List.forall_mem_cons.mpr ⟨e2, List.forall_mem_cons.mpr ⟨e3, List.forall_mem_nil _⟩⟩⟩⟩), rfl, (fun _ h => (nomatch h)), ?_, All2.nil, Nat.le_refl _⟩
   refine List.forall_mem_cons.mpr ⟨?_, List.forall_mem_nil _⟩
   rw [hmk, hmk2]; simp only [List.cons_append, List.nil_append]
   k_all
  ·intro i ti m₁ nw gs h tk I oI hi hGJ
   generalize hJO : FEnd _ _ _ _ _ _ _ = QO
   revert QO
   refine hold_pi ?_
   intro QO hJO
   obtain ⟨rfl, vi, la, vs', k, tl, rfl, rfl, offa, offm, hwit, hvl⟩ := hGJ
   intro F1 N1 off1
   clear F9 F9' N9 N8
   have ne1 : @Ne Nat la I := off1 _ (.head _)
   have N2 := N1
   rw [hmk, hmk2] at N2
   dsimp only [List.cons_append, List.nil_append] at N2
   have hi' : (i : Int) + 1 ≤ 21 := by exact oz100 hi hwl0.2
   have hH : HOk h none := trivial
   revert hi hJO offa offm hwit hvl F1 N1 off1 ne1 N2 hi' hH; revert i ti h tk I oI QO vi la vs' k tl; exists hc, kS yN <| kS yN <| kS yH <| kS yN <| kS yN <| kS zeO <| kS (yF (yF yP)) <| kS yT <| kS yN <| kS yL <| kS yN <| kO yL, 6, i, ti, h, tk, I, oI, QO, vi, la, vs', k, tl; intro hi hJO offa offm hwit hvl F1 N1 off1 ne1 N2 hi' hH
   walk_at "ws"
   ((try (refine ⟨?kinz7, ?_⟩; (case kinz7 => k_in))); k_dflt (refine' SpecL.use0 (il_spec w mean mg mb x ra _ (1 + (i : Int)) ti (by exact oz99) (by exact oz98 hi') hcx hw') ?k1z7 ?k2z7 ?k3z7 ?k4z7 ?k5z7 ?kKz7 ?kdz7 ?kuz7 ?kpz7 ?ksz7 ?_; (case k1z7 => k_asm); (case k2z7 => k_asm); (case k3z7 => k_asm); (case k4z7 => k_asm); (case k5z7 => k_asm); (case kKz7 => first | exact rfl | assumption); (case kdz7 => ktr_room); (case kuz7 => ktr_units); (case kpz7 => first | exact trivial | assumption); (case ksz7 => exact (by rw [hmk]; k_allIn))))
   intro r h9 tk9 e9 F9 N9 hr
   obtain ⟨t9, rfl⟩ := hr
   revert e9 F9 N9; revert h9 tk9 t9; exists hc, kS yH <| kS yN <| kO yN, 7, h9, tk9, t9; intro e9 F9 N9
   walk_at "ws"
   ((try (refine ⟨?kinz8, ?_⟩; (case kinz8 => k_in))); k_dflt (refine' SpecL.use0 (il_spec w mean mg mb y rb _ (1 + (i : Int)) ti (by exact oz99) (by exact oz98 hi') hcy hw2') ?k1z8 ?k2z8 ?k3z8 ?k4z8 ?k5z8 ?kKz8 ?kdz8 ?kuz8 ?kpz8 ?ksz8 ?_; (case k1z8 => k_asm); (case k2z8 => k_asm); (case k3z8 => k_asm); (case k4z8 => k_asm); (case k5z8 => k_asm); (case kKz8 => first | exact rfl | assumption); (case kdz8 => ktr_room); (case kuz8 => ktr_units); (case kpz8 => first | exact trivial | assumption); (case ksz8 => exact (by rw [hmk2]; k_allIn))))
   intro r h9 tk9 e9 F9 N9 hr
   obtain ⟨t9, rfl⟩ := hr
   revert e9 F9 N9; revert h9 tk9 t9; exists hc, kS yH <| kS yN <| kO yN, 8, h9, tk9, t9; intro e9 F9 N9
   walk_at "ws"
   split
   ·walk_at "ws"
    ((try (refine ⟨?kinz9, ?_⟩; (case kinz9 => k_in))); k_dflt (refine' SpecL.use0 (il_spec w mean mg mb x ra _ (1 + (i : Int)) ti (by exact oz99) (by exact oz98 hi') hcx hw') ?k1z9 ?k2z9 ?k3z9 ?k4z9 ?k5z9 ?kKz9 ?kdz9 ?kuz9 ?kpz9 ?ksz9 ?_; (case k1z9 => k_asm); (case k2z9 => k_asm); (case k3z9 => k_asm); (case k4z9 => k_asm); (case k5z9 => k_asm); (case kKz9 => first | exact rfl | assumption); (case kdz9 => ktr_room); (case kuz9 => ktr_units); (case kpz9 => first | exact trivial | assumption); (case ksz9 => exact (by rw [hmk]; k_allIn))))
    intro r h9 tk9 e9 F9 N9 hr
    obtain ⟨t9, rfl⟩ := hr
    revert e9 F9 N9; revert h9 tk9 t9; exists hc, kS yH <| kS yN <| kO yN, 9, h9, tk9, t9; intro e9 F9 N9
    walk_at "ws"
    ((try (refine ⟨?kinz10, ?_⟩; (case kinz10 => k_in))); k_dflt (refine' SpecL.use0 (il_spec w mean mg mb y rb _ (1 + (i : Int)) ti (by exact oz99) (by exact oz98 hi') hcy hw2') ?k1z10 ?k2z10 ?k3z10 ?k4z10 ?k5z10 ?kKz10 ?kdz10 ?kuz10 ?kpz10 ?ksz10 ?_; (case k1z10 => k_asm); (case k2z10 => k_asm); (case k3z10 => k_asm); (case k4z10 => k_asm); (case k5z10 => k_asm); (case kKz10 => first | exact rfl | assumption); (case kdz10 => ktr_room); (case kuz10 => ktr_units); (case kpz10 => first | exact trivial | assumption); (case ksz10 => exact (by rw [hmk2]; k_allIn))))
    intro r h9 tk9 e9 F9 N9 hr
    obtain ⟨t9, rfl⟩ := hr
    revert e9 F9 N9; revert h9 tk9 t9; exists hc, kS yH <| kS yN <| kO yN, 10, h9, tk9, t9; intro e9 F9 N9
    walk_at "ws"
    rename News _ _ _ _ => N9
    rename Fr _ _ _ _ => F9
    rename Addr => Dn
    have oD : ∀ q ∈ mk ++ mk2, q.1 ≠ Dn := by
     rw [hmk, hmk2]; simp only [List.cons_append, List.nil_append]
     k_all
    have N8 := news_fold3 hmk hmk2 N9
    refine append_led3 F9 N8 (by k_ne) (Ne.symm ne1) ?_ ?_ ?_
    ·intro p hp
     rcases List.mem_append.mp hp with q | q
     ·exact offm _ (.head _) p q
     ·exact offa p q la (.head _)
    ·rw [List.size_toArray]; exact Nat.le_trans (show vs'.length ≤ 100 by exact oz97 hi' hvl) (by decide)
    intro h' F' N'
    rename_i zv12 zv13; revert F9 N9 zv13 oD N8 F' N'; revert Dn zv12 h'; exists hc, kS yN <| kS yH <| kO yH, 11, Dn, zv12, h'; intro F9 N9 _ oD N8 F' N'
    walk_at "ws"
    have N7 := news_wit N'
    subst hJO
    refine FEnd.next F' N7 (fun _ h => h) ?_ ⟨rfl, _, la, vs' ++ [Value.ref Dn], k + 1, _, ovr_eq (by walk_at "oi") (by walk_at "oo"), rfl, ?_, ?_, ?_, ?_⟩
    ·intro p hp
     simp only [List.mem_cons, List.mem_append] at hp
     rcases hp with rfl | q | rfl | q
     ·exact ne1
     ·exact off1 p (.tail _ (List.mem_append.mpr (.inl (List.mem_append.mpr q))))
     ·k_ne
     ·exact off1 p (.tail _ (List.mem_append.mpr (.inr q)))
    ·intro p hp
     rcases List.mem_cons.mp hp with rfl | q
     ·intro b hb; rw [List.mem_singleton.mp hb]; k_ne
     ·exact offa p q
    ·intro p hp
     revert p; refine fc ?_ (fc ?_ (fun p q => ?_))
     ·exact offm (la, W.listOf vs'.toArray k) (.head _)
     ·exact oD
     ·exact offm p (.tail _ q)
    ·rw [witS_succ, if_pos (by assumption)]
     exact (hwit.mono fun p hp => .tail _ hp).append (.cons ⟨Dn, _, _, _, rfl, .head _⟩ .nil)
    ·rw [List.length_append, List.length_singleton]; exact oz96 hvl
   ·walk_at "ws"
    have N8 := news_fold2 hmk hmk2 N9
    subst hJO
    refine FEnd.next F9 N8 (fun _ h => h) off1 ⟨rfl, _, la, vs', k, tl, ovr_eq (by walk_at "oi") (by walk_at "oo"), rfl, offa, offm, ?_, by exact oz95 hvl⟩
    rw [witS_succ, if_neg (by assumption), List.append_nil]; exact hwit
  ·rintro m₁ nw gs ⟨rfl, vi, la, vs', k, tl, rfl, rfl, offa, offm, hwit, hvl⟩ h tk F1 N1
   exact ⟨rfl, la, vs', k, tl, h, tk, _, vi, rfl, F1, N1, offm, hwit⟩
 ·rintro f s₂ ⟨rfl, la, vs', k, tl, h, tk, mF, vi, rfl, F1, N1, off, hwit⟩
  revert F1 N1 off hwit; revert la vs' k tl h tk mF vi; exists hc, kS yN <| kS yL <| kS yN <| kS yL <| kS yH <| kS yN <| kS (yF yT) <| kO yT, 12, la, vs', k, tl, h, tk, mF, vi; intro F1 N1 off hwit
  walk_at "ws"
  all_goals (try dsimp only)
  show Q _ _
  refine hret _ _ _ (ext_of_led keep hled F1 N1 fun p hp _ => .tail _ (List.mem_append.mpr (.inl hp))) ⟨la, vs'.toArray, k, tl, rfl, made_led (h₀ := h₀) (L := L) keep N1 ?_ ?_, hwit⟩
  ·intro p hp
   rcases List.mem_cons.mp hp with rfl | hp
   ·exact .head _
   ·exact .tail _ (List.mem_append.mpr (.inr hp))
  ·intro p hp q
   obtain ⟨r, hr, e⟩ := List.mem_map.mp q
   exact off p hp r hr e
end
section
noncomputable def strI (z : Int) : Str := Str.ofString (toString z)
theorem strI_len {z : Int} (h0 : 0 ≤ z) (h1 : z ≤ 20) : (strI z).length ≤ 2 := by
 have : ∀ k : Fin 21, (strI (k.val : Int)).length ≤ 2 := by decide +kernel
 have e : z = ((⟨z.toNat, by exact oz25 h1⟩ : Fin 21).val : Int) := by simp; omega
 rw [e]; exact this _
noncomputable def joinS (ns : List Int) : Str := Txt.join (Str.ofString ", ") (ns.map strI)
theorem join_sum {ns : List Int} (hl : ns.length ≤ 20) (hb : ∀ z ∈ ns, 0 ≤ z ∧ z ≤ 20) : ((ns.map strI).map (·.length)).sum + (ns.map strI).length * (Str.ofString ", ").length ≤ 100 := by
 have h1 := StrLaws.sumLen_le (B := 2) (ns.map strI) (fun y hy => by obtain ⟨z, hz, rfl⟩ := List.mem_map.mp hy; exact strI_len (hb z hz).1 (hb z hz).2)
 have h2 : (Str.ofString ", ").length = 2 := by decide +kernel
 rw [h2]; rw [List.length_map] at h1 ⊢; exact oz24 h1 hl
theorem joinS_len {ns : List Int} (hl : ns.length ≤ 20) (hb : ∀ z ∈ ns, 0 ≤ z ∧ z ≤ 20) : (joinS ns).length ≤ 100 := by
 show (Builtin.Str.glued _ _).length ≤ _
 rw [StrLaws.glued_eq_join]
 exact Nat.le_trans (StrLaws.join_length_le _ _) (join_sum hl hb)
noncomputable def wordsS (ns : List Int) : Str := (if 1 < ns.length then Str.ofString "at tab sizes " else Str.ofString "at tab size ") ++ joinS ns
noncomputable def dressS (d : Bool) (w : Str) : Str := if d = true then Str.ofString "<" ++ w ++ Str.ofString ">" else w
noncomputable def nameS (x : Str) (n : Int) (d : Bool) (ns : List Int) : Str :=
 if x = Str.ofString "" ∧ n = 0 then (if d = true then Str.ofString "{" ++ wordsS ns ++ Str.ofString "}" else wordsS ns)
 else x ++ Str.ofString "~:" ++ strI n ++ Str.ofString "(" ++ dressS d (wordsS ns) ++ Str.ofString ")"
section
variable {ns : List Int} {J x : Str} {n : Int} {d : Bool}
theorem words_pos (hJ : joinS ns = J) (h : decide (1 < (ns.length : Int)) = true) : Str.ofString "at tab sizes " ++ J = wordsS ns := by
 unfold wordsS; rw [if_pos (by have := of_decide_eq_true h; exact oz23 this), hJ]
theorem words_neg (hJ : joinS ns = J) (h : ¬ decide (1 < (ns.length : Int)) = true) : Str.ofString "at tab size " ++ J = wordsS ns := by
 unfold wordsS; rw [if_neg (fun q => h (decide_eq_true (by exact oz22 q))), hJ]
theorem nm1 (hx : (x == Str.ofString "") = true) (hn : (n == 0) = true) (hd : d = true) : Str.ofString "{" ++ wordsS ns ++ Str.ofString "}" = nameS x n d ns := by
 unfold nameS; rw [if_pos ⟨beq_iff_eq.mp hx, beq_iff_eq.mp hn⟩, if_pos hd]
theorem nm2 (hx : (x == Str.ofString "") = true) (hn : (n == 0) = true) (hd : ¬ d = true) : wordsS ns = nameS x n d ns := by
 unfold nameS; rw [if_pos ⟨beq_iff_eq.mp hx, beq_iff_eq.mp hn⟩, if_neg hd]
theorem nm3 (hx : ¬ (x == Str.ofString "") = true) (hd : d = true) : x ++ Str.ofString "~:" ++ Str.ofString (toString n) ++ Str.ofString "(" ++ (Str.ofString "<" ++ wordsS ns ++ Str.ofString ">") ++ Str.ofString ")" = nameS x n d ns := by
 unfold nameS dressS; rw [if_neg (fun q => hx (beq_iff_eq.mpr q.1)), if_pos hd]; rfl
theorem nm4 (hx : ¬ (x == Str.ofString "") = true) (hd : ¬ d = true) : x ++ Str.ofString "~:" ++ Str.ofString (toString n) ++ Str.ofString "(" ++ wordsS ns ++ Str.ofString ")" = nameS x n d ns := by
 unfold nameS dressS; rw [if_neg (fun q => hx (beq_iff_eq.mpr q.1)), if_neg hd]; rfl
theorem nm5 (hx : ¬ (n == 0) = true) (hd : d = true) : x ++ Str.ofString "~:" ++ Str.ofString (toString n) ++ Str.ofString "(" ++ (Str.ofString "<" ++ wordsS ns ++ Str.ofString ">") ++ Str.ofString ")" = nameS x n d ns := by
 unfold nameS dressS; rw [if_neg (fun q => hx (beq_iff_eq.mpr q.2)), if_pos hd]; rfl
theorem nm6 (hx : ¬ (n == 0) = true) (hd : ¬ d = true) : x ++ Str.ofString "~:" ++ Str.ofString (toString n) ++ Str.ofString "(" ++ wordsS ns ++ Str.ofString ")" = nameS x n d ns := by
 unfold nameS dressS; rw [if_neg (fun q => hx (beq_iff_eq.mpr q.2)), if_neg hd]; rfl
end
set_option maxRecDepth 100000 in
set_option maxHeartbeats 8000000 in
theorem name_spec : ∀ (w : World) (mean : ExcName → Option Value) (mg mb : Str → Option Value) (x : Str) (t t2 : Tok) (n : Int) (d : Bool) (az : Addr) (vs : List Value) (ns : List Int) (hx : x.length ≤ 10) (hn0 : 0 ≤ n) (hn1 : n ≤ 10) (hns : IntsAre vs ns) (hl : ns.length ≤ 20) (hb : ∀ z ∈ ns, 0 ≤ z ∧ z ≤ 20), SpecN w mean mg mb none 2 20 250 [.str x t, .int n t2, .bool d, .ref az] (fun h => h.IsList az vs.toArray) (fun h h' r => ∃ t, r = .str (nameS x n d ns) t) := by
 intro w mean mg mb x t t2 n d az vs ns hx hn0 hn1 hns hl hb
 intro dp un gd cn cs a ccd cl outer A₀ base h₀ L m s Q E
 revert hx hn0 hn1 hns hl hb
 show ∀ (hx : x.length ≤ 10) (hn0 : 0 ≤ n) (hn1 : n ≤ 10) (hns : IntsAre vs ns) (hl : ns.length ≤ 20) (hb : ∀ z ∈ ns, 0 ≤ z ∧ z ≤ 20), SpecN.at w mean mg mb none 2 20 250 [.str x t, .int n t2, .bool d, .ref az] (fun h => h.IsList az vs.toArray) (fun h h' r => ∃ t, r = .str (nameS x n d ns) t) dp un gd cn cs a ccd cl outer A₀ base h₀ L m s Q E
 revert w mean mg mb x t t2 n d az vs ns dp un gd cn cs a ccd cl outer A₀ base h₀ L m s Q E
 exists hc, kS zeW <| kS (yF yT) <| kS (yF yT) <| kS (yF yT) <| kS zeR <| kS yN <| kS yN <| kS zeI <| kS zeB <| kS yN <| kS yL <| kS yL <| kS yN <| kS yN <| kS yT <| kS zeR <| kS (inferInstanceAs (Nonempty Scope)) <| kS yN <| kS zeV <| kS yL <| kS yL <| kS zeA <| kS yH <| kS yH <| kS yN <| kS (yF yT) <| kS zeS <| kS (yF <| yF yP) <| kO (yF <| yF yP), 99, w, mean, mg, mb, x, t, t2, n, d, az, vs, ns, dp, un, gd, cn, cs, a, ccd, cl, outer, A₀, base, h₀, L, m, s, Q, E
 intro hx hn0 hn1 hns hl hb
 unfold SpecN.at; intro B F X T hk hdp hun hpre hret
 (refine wpAny_call ?_; k_dflt (refine' enterH (binds := [(Str.ofString "lead", .str x t), (Str.ofString "number", .int n t2), (Str.ofString "dressed", .bool d), (Str.ofString "sizes", .ref az)]) ?k1z11 ?k2z11 ?k3z11 ?k5z11 ?kAz11 ?kFz11 ?kKz11 ?k6z11 ?k7z11 ?k8z11 ?k9z11 ?kBz11 ?_ ?c5z11 ?c2z11 ?c3z11 ?c4z11; (case kAz11 => exact rfl); (case kFz11 => exact rfl); (case kKz11 => assumption); (case k1z11 => k_asm); (case k2z11 => k_asm); (case k3z11 => k_asm); (case k5z11 => k_asm); (case k6z11 => k_is); (case k7z11 => k_is); (case k8z11 => ktr_room); (case k9z11 => exact BindsTo.of_eq rfl); (case c5z11 => decide); (case kBz11 => exact locs rfl); (case c2z11 => exact rfl); (case c3z11 => exact rfl); (case c4z11 => exact rfl); k_whole; intro h' L' eL' F' N' B' X' T'; (try dsimp only); (try (refine fold2 ?_; intro qk ek hqk hek))))
 revert eL' F' N' hqk hek; revert h' L' qk ek; exists hc, kS yH <| kS yN <| kS (yF (yF yP)) <| kO (yF (yF yP)), 1, h', L', qk, ek; intro eL' F' N' hqk hek
 walk_at "ws"
 all_goals (split <;> walk_at "ws")
 all_goals
  refine LCg.CompSrc.base rfl (by assumption) (by assumption) hpre ?_ fun g => ?_
  ·rw [List.size_toArray, hns.length]; exact Nat.le_trans hl (by decide)
  refine compU_ind (fun i v _ => ∃ z t, ns[i]? = some z ∧ v = Value.str (strI z) t) (fun _ _ _ _ _ h => h) (fun _ _ => .inl hpre) ?_ ?_
  ·intro i v ys nw I oI C oC D m₂ h tk E' hi hv hC hx9 F N off ne
   obtain ⟨z, tz, rfl, hz⟩ := IntsAre.item' hns (show vs[i]? = some v by simpa using hv)
   have hz2 := hb z (List.mem_of_getElem? hz)
   rename_i zv1 _ _ zv2 _; revert zv1 zv2; exists hc, kS yN <| kO yN, 4, zv1, zv2
   walk_at "ws"
   exact CEnd.intro F N off (fun _ h => h) ⟨_, _, hz, rfl⟩
  ·intro ys nw al
   unfold LCg.FinE
   intro D h tk F' N' off
   have a' : StrsAre ys (ns.map strI) := strs_of_range (by rw [List.size_toArray, hns.length]) al
   have hj := joinS_len hl hb
   rename_i zv1 _ zv2 zv3 _; revert zv1 zv2 zv3; exists hc, kS yN <| kS yN <| kO yN, 5, zv1, zv2, zv3
   walk_at "ws"
   refine join_list (N'.isList (.head _)) a' (Nat.le_trans (join_sum hl hb) (by decide)) ?_
   intro t' k
   show wpAny _ _ _ _ _ _
   have ej : Txt.join (Str.ofString ", ") (ns.map strI) = joinS ns := rfl
   rw [ej]
   generalize hJ : joinS ns = J at hj
   (revert J; refine hold_pi ?_; set_option tactic.hygienic false in intros)
   walk_at "wp"
   all_goals (try dsimp only)
   all_goals (refine hret _ _ _ (Fr.keep (by assumption)) ⟨_, congrArg (Value.str · _) ?_⟩)
   all_goals (first | rw [words_pos hJ (by assumption)] | rw [words_neg hJ (by assumption)])
   all_goals first
    | with_reducible exact nm1 (by assumption) (by assumption) (by assumption)
    | with_reducible exact nm2 (by assumption) (by assumption) (by assumption)
    | with_reducible exact nm3 (by assumption) (by assumption)
    | with_reducible exact nm4 (by assumption) (by assumption)
    | with_reducible exact nm5 (by assumption) (by assumption)
    | with_reducible exact nm6 (by assumption) (by assumption)
    | exact absurd (show false = true by assumption) (by decide)
    | exact absurd rfl (show ¬ true = true by assumption)
end
section
set_option maxRecDepth 100000
section
variable {prog : Program} {w : World} {A : Around} {E : Value → Shared → Prop} {s : Shared}
theorem gen_made {env : Env} {elt iter : Expr} {x : Str} {px : Pos} {ifs : List Expr} {scope : Scope} {cl : List (Str × Addr)} {pos : Pos} {Q : Value → Shared → Prop}
  (hh : A.handled = none) (hco : scope.isCoroutine = false) (hclos : closureFor scope env = pure cl) (hcell : ∀ y ∈ scope.names, y.2 ≠ .cell) (h0 : scope.names.lookup (".0" : Str) = some NameKind.local)
  (hx : scope.names.lookup x = some .local) (hkind : scope.kind = .function) (hroom : A.depth < recursionLimit)
  (h : wpAny (model prog w) A (eval iter env) (fun xv s₁ => wpAny (model prog w) A (pyIter xv) (fun it s₂ => s₂.heap.NoLimit ∧
   wpAny (model prog w) A (genexprCode env pos (env.qual ++ "<genexpr>") scope) (fun code s₃ => wpAny (model prog w) A (builtinsFor env.globals env.builtins) (fun bi s₄ =>
    ∃ I fp fpx wr n₀ P St₀ pz F, it = .ref I ∧ (∀ A' : Around, A'.handled = none → Walks prog w A' I fp wr n₀ P St₀) ∧ St₀ 0 s₄.heap ∧ (∀ b ∈ fp, b ∈ fpx) ∧ (∀ b ∈ fpx, b < s₄.heap.objs.size) ∧ cStatics ∈ fpx ∧ s₄.heap.NoLimit ∧ cStatics ∉ wr ∧
     (∀ href : Heap, (∀ b o, s₄.heap.get? b = some o → href.get? b = some o) →
      QuietGen prog w (genEnv scope cl s₄.heap.objs.size code bi env) x ifs elt fpx wr P pz F href) ∧
     (∀ a h₅ tk gs, gs.bare = true → s₄.heap.objs.size < a → h₅.objs.size = a + 1 → (∀ b o, s₄.heap.get? b = some o → h₅.get? b = some o) →
      WalksS prog w A.in4 a (a :: s₄.heap.objs.size :: fpx) (s₄.heap.objs.size :: wr) (GenOnlyQ s₄.gens.size) (passing pz n₀ 0).length
       (fun j y => ∃ i, (passing pz n₀ 0)[j]? = some i ∧ F i y) (GenAt prog w A.in4 a s₄.gens.size s₄.heap.objs.size fpx wr pz n₀ F) →
      GenAt prog w A.in4 a s₄.gens.size s₄.heap.objs.size fpx wr pz n₀ F 0 { s₄ with gens := s₄.gens.push gs, toks := tk, heap := h₅ } →
      Q (.ref a) { s₄ with gens := s₄.gens.push gs, toks := tk, heap := h₅ })) E s₃) E s₂) E s₁) E s)
  (hs : ∀ x, genFold iter env x = pure x) :
  wpAny (model prog w) A (eval (.GeneratorExp elt [⟨.Name x px, iter, ifs, 0⟩] scope pos) env) Q E s := by
 refine wpAny_GeneratorExp_make hco hclos hcell h0 hkind hroom (wpAny_mono h (fun xv s₁ h₁ => wpAny_mono h₁ (fun it s₂ h₂ => ⟨h₂.1, wpAny_mono h₂.2 (fun code s₃ h₃ => wpAny_mono h₃ (fun bi s₄ h₄ => ?_)
  fun _ _ e => e) fun _ _ e => e⟩) fun _ _ e => e) fun _ _ e => e) hs
 walk_at "cg"
 obtain ⟨I, fp, fpx, wr, n₀, P, St₀, pz, F, rfl, W₀, hst, hfp, hfx, hcs, hl₄, hcw, hq, hQ⟩ := h₄
 walk_at "bg"
 have hclt : cStatics < s₄.heap.objs.size := let ⟨_, hn, _⟩ := hl₄; hn.lt
 intro h' hn' hs'
 have hsz : h'.objs.size = s₄.heap.objs.size + 1 := by rw [hs'.1, Heap.size_push]
 have keep' : ∀ b o, s₄.heap.get? b = some o → h'.get? b = some o := fun b o e => hs'.extBut b o (Nat.ne_of_lt (Heap.lt_size e)) (Heap.get?_push_of_some _ e)
 have hsub : ∀ b ∈ wr, b ∈ fpx := fun b hb => hfp b ((W₀ A hh).sub b hb)
 have haC : h'.objs.size ≠ s₄.heap.objs.size := by rw [hsz]; exact Nat.succ_ne_self _
 have haf : h'.objs.size ∉ fpx := fun hm => by have := hfx _ hm; exact oz56 this hsz
 have keep₅ : ∀ b o, s₄.heap.get? b = some o → (h'.push { cls := .type "generator", data := .fields #[.int s₄.gens.size 0, .str "<genexpr>" (s₄.toks + 1), .str (env.qual ++ "<genexpr>") (s₄.toks + 1 + 1)] }).get? b = some o :=
  fun b o e => Heap.get?_push_of_some _ (keep' b o e)
 refine hQ _ _ _ _ rfl (by exact oz55 hsz) (by rw [Heap.size_push]) keep₅ (WalksS.genexpQ (A := A.in4) hh _ _ _ _ wr pz n₀ F haC haf hsub hroom hcs (Nat.ne_of_lt hclt) hcw) ?_
 refine GenAt.fresh (A := A.in4) (cenv := genEnv scope cl s₄.heap.objs.size code bi env) (m := fun y => if y = ".0" then some (.ref I) else none) hh
  (fun A' hA => (W₀ A' hA).mono_fp hfp) pz F hx (by simp [genEnv, hkind]) hco
  (fun hm => Nat.lt_irrefl _ (hfx _ hm)) (hq _ keep₅) ⟨_, _, _, Heap.get?_push_size _ rfl, rfl, rfl, rfl⟩ (Array.getElem?_push_size ..) ((W₀ A hh).frame _ _ _ hst fun b _ o e => keep₅ b o e) (hn'.push _) (hl₄.keeps keep₅)
end
noncomputable abbrev tabO (ps : Array Value) : Obj := { cls := .none, data := .fields ps }
end
section
noncomputable def TabOk (ps : Array Value) : Prop := ps = #[] ∨ ∃ c', ps = #[rawInt 118, rawInt 13, .ref c']
noncomputable abbrev gPos : Pos := { line := 118, col := 13, endLine := 118, endCol := 39 }
set_option maxRecDepth 100000 in
theorem gen_code {w : World} {A : Around} {E : Value → Shared → Prop} {s : Shared} {env : Env} {q : Str} {sc : Scope} {ps : Array Value} {Q : Value → Shared → Prop} (X : (hd.heap_39 w.params).In s.heap) (hc : env.code = .ref 190) (h6 : s.heap.get? 186 = some (tabO ps)) (hps : TabOk ps)
  (h : ∀ code h' tk ps', Heap.ExtBut 186 s.heap h' → h'.get? 186 = some (tabO ps') → TabOk ps' → Q code { s with heap := h', toks := tk }) : wpAny (model PG w) A (genexprCode env gPos q sc) Q E s := by
 have h190 := X 190 _ (by k_is)
 have ht : TriplesOk ps.toList := by rcases hps with rfl | ⟨c', rfl⟩ <;> trivial
 have hok : s.heap.IsCode 190 186 ps := ⟨_, _, _, _, _, _, _, _, _, _, h190, rfl, rfl, rfl, rfl, rfl, rfl, h6, rfl, ht, by decide⟩
 have htab : s.heap.TableAt 190 186 ps := ⟨(xi2 _ _ ⟨h190, rfl, rfl, rfl⟩), h6⟩
 rcases hps with rfl | ⟨c', rfl⟩
 ·exact wpAny_genexprCodeX hc hok htab rfl fun c' h' tk e _ _ _ _ t _ => h _ h' tk _ e t.2 (.inr ⟨c', rfl⟩)
 ·exact wpAny_genexprCode_hit hc hok (c' := .ref c') (by rfl) (h _ s.heap s.toks _ (Heap.ExtBut.refl _ _) h6 (.inr ⟨c', rfl⟩))
section
variable {prog : Program} {w : World} {A : Around} {E : Value → Shared → Prop} {s : Shared}
theorem elt_str {cenv : Env} {x : Str} {p1 p2 p3 p4 p5 : Pos} {k : Nat} {m₂ mg mb : Str → Option Value} {tu : Addr} {z : Int} {t1 : Tok} {b c : Value} {Q : Value → Shared → Prop}
  (hk : cenv.scope.kind = .function) (hx : cenv.kindOf x = some .local) (hs : cenv.kindOf (Str.ofString "str") = some .globalImplicit) (hn : s.heap.Ns cenv.locals m₂) (hv : m₂ x = some (.ref tu))
  (ht : IsTup s.heap tu #[.int z t1, b, c]) (hg : s.heap.Ns cenv.globals mg) (hmiss : mg (Str.ofString "str") = none) (hb : s.heap.Ns cenv.builtins mb) (hvb : mb (Str.ofString "str") = some (.type "str"))
  (hz : z.natAbs.log2 < 1920) (hd : (x == ("__debug__" : Str)) = false) (h : ∀ t' tk, Q (.str (toString z) t') { s with toks := tk }) :
  wpAny (model prog w) A (eval (.Call (.Name (Str.ofString "str") p1) [.Subscript (.Name x p2) (.Constant (.int 0) k p3) p4] [] p5) cenv) Q E s := by
 refine wpAny_Call_NameR (Calls.Name_function_global hk hs (Calls.loadGlobal_builtin hg hmiss hb hvb ?_) (by decide))
 refine PyProof.Rows.callWith_type rfl (Calls.evalArgs_plain (Calls.spliced_cons (Subscript_ (wpAny_Name (wpAny_loadName_local hk hx hn hv (wpAny_Constant_int ?_)) hd))))
 refine item_tuple ht (by decide) (by decide) (j := 0) (by rfl) rfl ?_
 refine Calls.spliced_nil ?_
 exact P.str_of_int hz (h _ _)
end
section
variable {prog : Program} {w : World} {A : Around} {E : Value → Shared → Prop} {s : Shared}
theorem genAt_any {a : Addr} {g : Nat} {C : Addr} {fp wr : List Addr} {pz : Nat → Bool} {n₀ : Nat} {F : Nat → Value → Prop} {j : Nat} {s s' : Shared} (h : GenAt prog w A a g C fp wr pz n₀ F j s) (hg : s'.gens = s.gens) (hc : cStatics ∈ fp)
  (k : ∀ b ∈ a :: C :: fp, ∀ o, s.heap.get? b = some o → s'.heap.get? b = some o) : GenAt prog w A a g C fp wr pz n₀ F j s' := by
 walk_at "cg"
 obtain ⟨⟨o, nm, qn, ho, r⟩, ⟨mc, hns, hnn⟩, gs, hgs, hgo⟩ := h
 walk_at "bg"
 exact ⟨⟨o, nm, qn, k a (List.mem_cons_self ..) o ho, r⟩, ⟨mc, hns.at' fun o e => k cStatics (List.mem_cons_of_mem _ (List.mem_cons_of_mem _ hc)) o e, hnn⟩, gs, by rw [hg]; exact hgs, fun s'' hal => hgo s'' fun b hb o e => hal b hb o (k b (List.mem_cons_of_mem _ hb) o e)⟩
theorem passing_all (n : Nat) : passing (fun _ => true) n 0 = List.range n := by
 unfold passing; rw [List.drop_zero]; exact List.filter_eq_self.mpr fun _ _ => rfl
theorem join_gen {a : Addr} {g : Nat} {C : Addr} {fp wr wr' : List Addr} {n : Nat} {ns : List Int} {t : Tok} {Q : Value → Shared → Prop}
  (W : WalksS prog w A.in4 a (a :: C :: fp) wr' (GenOnlyQ g) (passing (fun _ => true) n 0).length (fun j y => ∃ i, (passing (fun _ => true) n 0)[j]? = some i ∧ ∃ z t, ns[i]? = some z ∧ y = Value.str (strI z) t)
   (GenAt prog w A.in4 a g C fp wr (fun _ => true) n (fun i y => ∃ z t, ns[i]? = some z ∧ y = Value.str (strI z) t)))
  (hat : GenAt prog w A.in4 a g C fp wr (fun _ => true) n (fun i y => ∃ z t, ns[i]? = some z ∧ y = Value.str (strI z) t) 0 s) (hfp : ∀ b ∈ a :: C :: fp, b < s.heap.objs.size)
  (hn : n = ns.length) (hl : ns.length ≤ 20) (hb : ∀ z ∈ ns, 0 ≤ z ∧ z ≤ 20) (h : ∀ s' t' k, Moved wr' (GenOnlyQ g) s s' → Q (.str (joinS ns) t') { s' with toks := k }) :
  wpAny (model prog w) A (call (.builtin "str.join") [.str (Str.ofString ", ") t, .ref a]) Q E s := by
 have hpl : (passing (fun _ => true) n 0).length = ns.length := by rw [passing_all, List.length_range, hn]
 refine SC.joinGen W.in4_2 (fun i s st => let ⟨⟨o, _, _, ho, hc, _⟩, _⟩ := st; ⟨o, ho, hc⟩) hat hfp (List.mem_cons_self ..) (fun i v ⟨_, _, z, t, _, e⟩ => (xi2 _ t e)) (fun s' l hm hacc => ?_) (by rw [hpl]; exact Nat.le_trans hl (by decide))
 have e : l.map (·.1) = ns.map strI := by
  have h1 := hacc.1
  rw [List.size_toArray, strValues, List.length_map, hpl] at h1
  refine List.ext_getElem (by simp [h1]) fun i h2 h3 => ?_
  rw [List.length_map] at h2
  walk_at "cg"
  obtain ⟨j, e1, z, t', e2, e3⟩ := hacc.2 i (.str l[i].1 l[i].2) (by simp [strValues, h2])
  walk_at "bg"
  rw [passing_all, List.getElem?_range (by exact oz48 h2 hn h1)] at e1
  cases e1
  injection e3 with e3 _
  walk_at "cg"
  obtain ⟨h4, e2⟩ := List.getElem?_eq_some_iff.mp e2
  walk_at "bg"
  rw [List.getElem_map, List.getElem_map, e3, e2]
 rw [e]
 refine ⟨?_, fun t' k => h s' t' k hm⟩
 exact joinOk_of (Nat.le_trans (join_sum hl hb) (by decide))
end
noncomputable def SpecG (w : World) (mean : ExcName → Option Value) (mg mb : Str → Option Value) (nd nu : Nat) (f : Addr) (args : List Value) (led : List (Addr × Obj)) (S : List Addr) (Ret : Heap → Heap → Value → Prop) : Prop :=
 ∀ (dp un : Nat) (gd : Option (List Code)) (cn : Str) (cs : Scope) (a : Addr) (ccd : Value) (cl : List (Str × Addr)) (outer : List Env) (A₀ : Around) (base h₀ : Heap) (L : Addr) (m : Str → Option Value) (s : Shared) (Q E : Value → Shared → Prop),
  Below A₀ base outer h₀ → Fr h₀ L s.heap m → (hd.heap_39 w.params).In h₀ → Top EP LS0 mean mg mb h₀ → cs.kind = .function →
  dp + nd < recursionLimit → un + nu < cLine → News h₀ L s.heap led → AllBare s.gens →
  (∀ r h' tk' gs', ExtB S s.heap h' → AllBare gs' → Ret s.heap h' r → Q r { s with heap := h', toks := tk', gens := gs' }) →
   wpAny (model PG w) (ad none dp un gd cn cs L a ccd cl outer) (call (.ref f) args) Q E s
noncomputable def SpecG.at (w : World) (mean : ExcName → Option Value) (mg mb : Str → Option Value) (nd nu : Nat) (f : Addr) (args : List Value) (led : List (Addr × Obj)) (S : List Addr) (Ret : Heap → Heap → Value → Prop) (dp un : Nat) (gd : Option (List Code)) (cn : Str) (cs : Scope) (a : Addr) (ccd : Value) (cl : List (Str × Addr)) (outer : List Env) (A₀ : Around) (base h₀ : Heap) (L : Addr) (m : Str → Option Value) (s : Shared) (Q E : Value → Shared → Prop) : Prop :=
  Below A₀ base outer h₀ → Fr h₀ L s.heap m → (hd.heap_39 w.params).In h₀ → Top EP LS0 mean mg mb h₀ → cs.kind = .function →
  dp + nd < recursionLimit → un + nu < cLine → News h₀ L s.heap led → AllBare s.gens →
  (∀ r h' tk' gs', ExtB S s.heap h' → AllBare gs' → Ret s.heap h' r → Q r { s with heap := h', toks := tk', gens := gs' }) →
   wpAny (model PG w) (ad none dp un gd cn cs L a ccd cl outer) (call (.ref f) args) Q E s
local macro_rules | `(tactic| walk_at "eval GeneratorExp") => `(tactic| (refine hold_it ?_))
set_option maxRecDepth 100000 in
set_option maxHeartbeats 8000000 in
theorem fmt_spec : ∀ (w : World) (mean : ExcName → Option Value) (mg mb : Str → Option Value) (lw : Addr) (vs : List Value) (k : Nat) (tl : List (Addr × Obj)) (ls : List (Int × Int × Int)) (ps : Array Value) (hps : TabOk ps) (h186 : ∀ p ∈ tl, p.1 ≠ 186) (hw : WitIn tl ls vs) (hl : ls.length ≤ 20) (hb : ∀ z ∈ ls.map (·.1), 0 ≤ z ∧ z ≤ 20), SpecG w mean mg mb 3 40 191 [.ref lw] ((186, tabO ps) :: (lw, W.listOf vs.toArray k) :: tl) [186] (fun _ h' r => (∃ ps', TabOk ps' ∧ h'.get? 186 = some (tabO ps')) ∧ ∃ t, r = .str (wordsS (ls.map (·.1))) t) := by
 intro w mean mg mb lw vs k tl ls ps hps h186 hw hl hb
 intro dp un gd cn cs a ccd cl outer A₀ base h₀ L m s Q E
 revert hps h186 hw hl hb
 show ∀ (hps : TabOk ps) (h186 : ∀ p ∈ tl, p.1 ≠ 186) (hw : WitIn tl ls vs) (hl : ls.length ≤ 20) (hb : ∀ z ∈ ls.map (·.1), 0 ≤ z ∧ z ≤ 20), SpecG.at w mean mg mb 3 40 191 [.ref lw] ((186, tabO ps) :: (lw, W.listOf vs.toArray k) :: tl) [186] (fun _ h' r => (∃ ps', TabOk ps' ∧ h'.get? 186 = some (tabO ps')) ∧ ∃ t, r = .str (wordsS (ls.map (·.1))) t) dp un gd cn cs a ccd cl outer A₀ base h₀ L m s Q E
 revert w mean mg mb lw vs k tl ls ps dp un gd cn cs a ccd cl outer A₀ base h₀ L m s Q E
 exists hc, kS zeW <| kS (yF yT) <| kS (yF yT) <| kS (yF yT) <| kS yN <| kS yL <| kS yN <| kS yL <| kS yL <| kS zeY <| kS yN <| kS yN <| kS yT <| kS zeR <| kS (inferInstanceAs (Nonempty Scope)) <| kS yN <| kS zeV <| kS yL <| kS yL <| kS zeA <| kS yH <| kS yH <| kS yN <| kS (yF yT) <| kS zeS <| kS (yF <| yF yP) <| kO (yF <| yF yP), 99, w, mean, mg, mb, lw, vs, k, tl, ls, ps, dp, un, gd, cn, cs, a, ccd, cl, outer, A₀, base, h₀, L, m, s, Q, E
 intro hps h186 hw hl hb
 unfold SpecG.at; intro B F X T hk hdp hun hled hAB hret
 (refine wpAny_call ?_; k_dflt (refine' enterM (binds := [(Str.ofString "w", .ref lw)]) ?k1z12 ?k2z12 ?kNz12 ?k3z12 ?k5z12 ?kAz12 ?kFz12 ?kKz12 ?k6z12 ?k7z12 ?k8z12 ?k9z12 ?kBz12 ?_ ?c5z12 ?c2z12 ?c3z12 ?c4z12; (case kAz12 => exact rfl); (case kFz12 => exact rfl); (case kKz12 => assumption); (case k1z12 => k_asm); (case k2z12 => k_asm); (case kNz12 => exact hled); (case k3z12 => k_asm); (case k5z12 => k_asm); (case k6z12 => k_is); (case k7z12 => k_is); (case k8z12 => ktr_room); (case k9z12 => exact BindsTo.of_eq rfl); (case c5z12 => decide); (case kBz12 => exact locs rfl); (case c2z12 => exact rfl); (case c3z12 => exact rfl); (case c4z12 => exact rfl); k_whole; intro g h' L' eL' keep F' N' B' X' T'; (try dsimp only); (try (refine fold2 ?_; intro qk ek hqk hek))))
 revert eL' keep F' N' B' X' T' hqk hek; revert g h' L' qk ek; exists hc, kS yH <| kS yH <| kS yN <| kS (yF (yF yP)) <| kO (yF (yF yP)), 1, g, h', L', qk, ek; intro eL' keep F' N' B' X' T' hqk hek
 walk_at "ws"
 show wpAny _ _ _ _ _ _
 rename News _ _ _ _ => N9
 rename Fr _ _ _ _ => F9
 refine gen_made (cl := []) rfl rfl rfl (by decide) rfl rfl rfl (by ktr_room) ?_ (fun _ => rfl)
 revert tk; exists ho, kO yN, 2, tk; dsimp only [Cu.un, kO]
 walk_at "ws"
 refine wpAny_pyIter_list (N9.isList (.tail _ (.head _))) ?_
 refine ⟨(T'.keeps F9.keep).nolimit.push _, ?_⟩
 refine gen_code (ps := ps) ((X'.keeps F9.keep).keeps fun _ _ e => Heap.get?_push_of_some _ e) rfl (Heap.get?_push_of_some _ (N9.get (.head _))) hps ?_
 intro code h2 tk2 ps2 ext2 hp2 hok2
 have hlt186 : (186 : Nat) < h'.objs.size := Heap.lt_size (N9.get (.head _))
 have TT := T'.keeps F9.keep
 have kp : ∀ b o, b ≠ 186 → h'.get? b = some o → h2.get? b = some o := fun b o hb e => ext2 b o hb (Heap.get?_push_of_some _ e)
 have ns2 : ∀ {a : Addr} {m : Str → Option Value}, h'.Ns a m → h2.Ns a m := fun {a m} hn => hn.at' fun o e => kp a o (fun z => by
  refine exC (kS zeO <| kS zeY <| kO yN) hn ?_; clear hn; intro o' es ep hZ; revert ext2 hp2 hok2 kp e z hZ; revert h2 ps2 a m o o' es ep; exists hc, kS yH <| kS zeY <| kS yN <| kS (yF yT) <| kS zeO <| kS zeO <| kS zeY <| kO yN, 3, h2, ps2, a, m, o, o', es, ep; intro ext2 hp2 hok2 kp e z hZ; obtain ⟨e1, e2, _⟩ := hZ
  rw [z, N9.get (.head _)] at e1; cases e1; cases e2) e
 have hl2 : h2.NoLimit := let ⟨mc, hn, hnn⟩ := TT.nolimit; ⟨mc, ns2 hn, hnn⟩
 have hZ := TT.bmain; refine exC (kS yN <| kO zeO) hZ ?_; clear hZ; intro bm ob hZ; revert ext2 hp2 hok2 kp ns2 hl2 hZ; revert code h2 tk2 ps2 bm ob; exists hc, kS zeV <| kS yH <| kS yN <| kS zeY <| kS yN <| kO zeO, 4, code, h2, tk2, ps2, bm, ob; intro ext2 hp2 hok2 kp ns2 hl2 hZ; obtain ⟨b1, b2, b3, b4, b5, b6⟩ := hZ
 refine wpAny_builtinsFor (ns2 TT.g) b1 b2 (kp bm ob (fun z => by rw [z, N9.get (.head _)] at b3; cases b3; cases b6) b3) b4 b5 b6 ?_
 have hlw := N9.isList (.tail _ (.head _))
 have hlwlt : lw < h'.objs.size := Heap.lt_size (N9.get (.tail _ (.head _)))
 have lt2 : ∀ {b : Addr} {o : Obj}, h2.get? b = some o → b < h2.objs.size := fun e => Heap.lt_size e
 have hI2 : h2.get? h'.objs.size = some { cls := Value.type "list_iterator", data := Data.fields #[Value.ref lw, Value.int 0 0] } := ext2 _ _ (Nat.ne_of_gt hlt186) (Heap.get?_push_size _ rfl)
 have hlw2 : h2.IsList lw vs.toArray := let ⟨o, e, r⟩ := hlw; ⟨o, kp lw o (fun z => by rw [z, N9.get (.head _)] at e; cases e; cases r.1) e, r⟩
 have hmem : ∀ p ∈ tl, h2.get? p.1 = some p.2 := fun p hp => kp _ _ (h186 p hp) (N9 p (.tail _ (.tail _ hp))).1
 have hfpx : ∀ b ∈ h'.objs.size :: lw :: cStatics :: mainGlobals :: builtinsNs :: tl.map (·.1), b < h2.objs.size := by
  intro b hb
  simp only [List.mem_cons, List.mem_map] at hb
  rcases hb with rfl | rfl | rfl | rfl | rfl | ⟨p, hp, rfl⟩
  ·exact lt2 hI2
  ·obtain ⟨o, e, _⟩ := hlw2; exact lt2 e
  ·exact (let ⟨_, hn, _⟩ := hl2; hn.lt)
  ·exact (ns2 TT.g).lt
  ·exact (ns2 TT.b).lt
  ·exact lt2 (hmem p hp)
 refine (xi9 h'.objs.size [h'.objs.size, lw] (h'.objs.size :: lw :: cStatics :: mainGlobals :: builtinsNs :: tl.map (·.1)) [h'.objs.size] vs.toArray.size _ _ (fun _ => true) (fun i y => ∃ z t, (ls.map (·.1))[i]? = some z ∧ y = Value.str (strI z) t) ⟨rfl, (fun A' hA => Walks.list hA _ _ (Nat.ne_of_lt hlwlt) vs.toArray), ⟨⟨_, hI2, rfl, rfl⟩, hlw2⟩, ?_, ?_, ?_, hl2, ?_, ?_, ?_⟩)
 ·intro b hb
  simp only [List.mem_cons, List.not_mem_nil, or_false] at hb
  rcases hb with rfl | rfl <;> simp
 ·exact hfpx
 ·simp
 ·intro hm
  have hZ := TT.nolimit; refine exC (kO (yF yT)) hZ ?_; clear hZ; intro mc hZ; revert hZ; revert mc; exists ho, kO (yF yT), 5, mc; intro hZ; obtain ⟨hn, _⟩ := hZ
  have q := hn.lt
  simp only [List.mem_cons, List.not_mem_nil, or_false] at hm
  exact Nat.lt_irrefl _ (hm ▸ q)
 ·intro href hk2
  refine ⟨fun A' E' i v s₂ m₂ hA hP hC hx hfp => ?_, fun A' E' i v s₂ m₂ hA hP hpz hC hx hfp => ?_⟩
  ·exact wpAny_pure ⟨rfl, s₂.heap, s₂.toks, rfl, fun _ _ e => e⟩
  ·have hZ := All2.getR hw (i := i) (b := v) (by simpa using hP); obtain ⟨⟨z, z2, z3⟩, hZ⟩ := hZ; obtain ⟨hls, hZ⟩ := hZ; refine exC (kS yN <| kS yN <| kS yN <| kO yN) hZ ?_; clear hZ; intro at' u1 u2 u3 hZ; revert hk2 hA hP hC hx hfp hls hZ; revert href A' E' i v s₂ m₂ z z2 z3 at' u1 u2 u3; exists hc, kS yH <| kS zeA <| kS (yF (yF yP)) <| kS yN <| kS zeV <| kS zeS <| kS (yF yT) <| kS zeI <| kS zeI <| kS zeI <| kS yN <| kS yN <| kS yN <| kO yN, 6, href, A', E', i, v, s₂, m₂, z, z2, z3, at', u1, u2, u3; intro hk2 hA hP hC hx hfp hls hZ; obtain ⟨rfl, hin⟩ := hZ
   have hz := hb z (List.mem_map.mpr ⟨_, List.mem_of_getElem? hls, rfl⟩)
   have nI : ∀ b o, h'.get? b = some o → b ∉ [h'.objs.size] := fun b o e hm => by
    rw [List.mem_singleton.mp hm] at e; exact Nat.lt_irrefl _ (Heap.lt_size e)
   have k2 : ∀ b o, b ∈ h'.objs.size :: lw :: cStatics :: mainGlobals :: builtinsNs :: tl.map (·.1) → b ≠ 186 → h'.get? b = some o → s₂.heap.get? b = some o := fun b o hb hb6 e => hfp b hb (nI b o e) o (hk2 b o (kp b o hb6 e))
   have ns3 : ∀ {a : Addr} {m : Str → Option Value}, a ∈ h'.objs.size :: lw :: cStatics :: mainGlobals :: builtinsNs :: tl.map (·.1) → h'.Ns a m → s₂.heap.Ns a m := fun {a m} ha hn => hn.at' fun o e => k2 a o ha (fun z => by
    refine exC (kS zeO <| kS zeY <| kO yN) hn ?_; clear hn; intro o' es ep hZ; revert ha e z hZ; revert a m o o' es ep; exists hc, kS yN <| kS (yF yT) <| kS zeO <| kS zeO <| kS zeY <| kO yN, 7, a, m, o, o', es, ep; intro ha e z hZ; obtain ⟨e1, e2, _⟩ := hZ
    rw [z, N9.get (.head _)] at e1; cases e1; cases e2) e
   refine elt_str (s := s₂) rfl rfl rfl hC hx (tu := at') (z := z) ⟨_, k2 _ _ (by simp only [List.mem_cons, List.mem_map]; exact .inr (.inr (.inr (.inr (.inr ⟨_, hin, rfl⟩))))) (h186 _ hin) (N9.get (.tail _ (.tail _ hin))), rfl, _, rfl⟩
    (ns3 (a := mainGlobals) (by walk_at "ms") TT.g) (mg_none_of X' T'.g (by k_is)) (ns3 (a := builtinsNs) (by walk_at "ms") TT.b) ((TT.builtins _ (by decide)).trans (show bootBuiltins (Str.ofString "str") = some (.type "str") by decide +kernel)) ?_ (by decide) fun t' tk => ⟨(xi2 z t' ⟨by rw [List.getElem?_map, hls]; rfl, rfl⟩), ?_⟩
   ·have : ∀ k : Fin 21, ((k.val : Int)).natAbs.log2 < 1920 := by decide +kernel
    have e : z = ((⟨z.toNat, by exact oz25 hz.2⟩ : Fin 21).val : Int) := by simp; omega
    rw [e]; exact this _
   ·exact ⟨s₂.heap, tk, rfl, fun _ _ e => e⟩
 ·intro a h5 tk5 gs5 hgb hag hsz5 hk5 WW hat
  try dsimp only at hag hsz5 hk5 WW hat
  have g186 : g.get? 186 = none := (N9 _ (.head _)).2.2
  have kg : ∀ b o, b ≠ 186 → h'.get? b = some o → h5.get? b = some o := fun b o hb e => hk5 b o (kp b o hb e)
  have L186 : L' ≠ 186 := fun z => (N9 _ (.head _)).2.1 z.symm
  have F5 : Fr g L' h5 (fun y => List.lookup y [(Str.ofString "w", Value.ref lw)].reverse) := ⟨F9.ns.at' fun o e => kg _ o L186 e, fun b o e => kg b o (fun z => by rw [z, g186] at e; cases e) (F9.keep b o e), F9.above⟩
  have above : ∀ b, h'.objs.size ≤ b → b ≠ L' ∧ g.get? b = none := fun b hb => ⟨fun z => Nat.lt_irrefl _ (Nat.lt_of_lt_of_le F9.ns.lt (z ▸ hb)), by
   cases e : g.get? b with
   | none => rfl
   | some o => exact absurd (Nat.lt_of_lt_of_le (Heap.lt_size (F9.keep _ _ e)) hb) (Nat.lt_irrefl _)⟩
  have hge : h'.objs.size ≤ h2.objs.size := Nat.le_of_lt (Heap.lt_size hI2)
  obtain ⟨TL, hT1, hT2⟩ : ∃ TL : List (Addr × Obj), News g L' h5 TL ∧ ∀ b ∈ a :: h2.objs.size :: h'.objs.size :: lw :: tl.map (·.1), ∀ o, h5.get? b = some o → (b, o) ∈ TL := by
   refine ⟨(a :: h2.objs.size :: h'.objs.size :: lw :: tl.map (·.1)).filterMap fun b => (h5.get? b).map fun o => (b, o), fun p hp => ?_, fun b hb o e => List.mem_filterMap.mpr ⟨b, hb, by rw [e]; rfl⟩⟩
   have hZ := List.mem_filterMap.mp hp; refine exC (kO yN) hZ ?_; clear hZ; intro b hZ; revert hgb hag hsz5 hk5 WW hat kg F5 hp hZ; revert a h5 tk5 gs5 p b; exists hc, kS yN <| kS yH <| kS yN <| kS zeGS <| kS (zeP2 yN zeO) <| kO yN, 8, a, h5, tk5, gs5, p, b; intro hgb hag hsz5 hk5 WW hat kg F5 hp hZ; obtain ⟨hb, e⟩ := hZ
   cases q : h5.get? b with
   | none => rw [q] at e; cases e
   | some o =>
    rw [q] at e; cases e
    refine ⟨q, ?_⟩
    simp only [List.mem_cons, List.mem_map] at hb
    rcases hb with rfl | rfl | rfl | rfl | ⟨p', hp', rfl⟩
    ·exact above _ (Nat.le_trans hge (Nat.le_of_lt hag))
    ·exact above _ hge
    ·exact above _ (Nat.le_refl _)
    ·exact (N9 _ (.tail _ (.head _))).2
    ·exact (N9 _ (.tail _ (.tail _ hp'))).2
  have N5 : News g L' h5 ((186, tabO ps2) :: (lw, W.listOf vs.toArray k) :: TL) := by
   refine fun p hp => ?_
   rcases List.mem_cons.mp hp with rfl | hp
   ·exact ⟨hk5 _ _ hp2, (N9 _ (.head _)).2⟩
   ·rcases List.mem_cons.mp hp with rfl | hp
    ·exact ⟨kg _ _ (fun z => by have := (N9 _ (.tail _ (.head _))).1; dsimp only at this z; rw [z, N9.get (.head _)] at this; cases this) (N9 _ (.tail _ (.head _))).1, (N9 _ (.tail _ (.head _))).2⟩
    ·exact hT1 p hp
  have kb : ∀ {h8 : Heap} {m8 : Str → Option Value}, Fr g L' h8 m8 → News g L' h8 ((186, tabO ps2) :: (lw, W.listOf vs.toArray k) :: TL) → ∀ b ∈ a :: h2.objs.size :: h'.objs.size :: lw :: cStatics :: mainGlobals :: builtinsNs :: tl.map (·.1), ∀ o, h5.get? b = some o → h8.get? b = some o := by
   intro h8 m8 F8 N8 b hb o e
   have st : ∀ {a : Addr} {m : Str → Option Value}, g.Ns a m → ∀ o, h5.get? a = some o → h8.get? a = some o := fun {a m} hn o e => by
    refine exC (kS zeO <| kS zeY <| kO yN) hn ?_; clear hn; intro o' es ep hZ; rename_i zv1 zv2 zv3; revert hgb hag hsz5 hk5 WW hat kg F5 hT1 hT2 N5 F8 N8 hb zv3 e hZ; revert zv1 h5 tk5 gs5 TL h8 m8 b zv2 a m o o' es ep; exists hc, kS yN <| kS yH <| kS yN <| kS zeGS <| kS yL <| kS yH <| kS (yF yT) <| kS yN <| kS zeO <| kS yN <| kS (yF yT) <| kS zeO <| kS zeO <| kS zeY <| kO yN, 9, zv1, h5, tk5, gs5, TL, h8, m8, b, zv2, a, m, o, o', es, ep; intro hgb hag hsz5 hk5 WW hat kg F5 hT1 hT2 N5 F8 N8 hb _ e hZ; obtain ⟨e1, _⟩ := hZ
    have := F5.keep _ _ e1
    rw [e] at this; cases this
    exact F8.keep _ _ e1
   simp only [List.mem_cons] at hb
   rcases hb with rfl | rfl | rfl | rfl | rfl | rfl | rfl | hb
   ·exact (N8 _ (.tail _ (.tail _ (hT2 _ (by walk_at "ms") o e)))).1
   ·exact (N8 _ (.tail _ (.tail _ (hT2 _ (by walk_at "ms") o e)))).1
   ·exact (N8 _ (.tail _ (.tail _ (hT2 _ (by walk_at "ms") o e)))).1
   ·exact (N8 _ (.tail _ (.tail _ (hT2 _ (by walk_at "ms") o e)))).1
   ·exact (let ⟨_, hn, _⟩ := T'.nolimit; st hn o e)
   ·exact st T'.g o e
   ·exact st T'.b o e
   ·exact (N8 _ (.tail _ (.tail _ (hT2 _ (by simp only [List.mem_cons]; exact .inr (.inr (.inr (.inr hb)))) o e)))).1
  have hL8 : L' < h'.objs.size := F9.ns.lt
  have hg8 : ∀ b o, g.get? b = some o → b < h'.objs.size := fun b o e => Heap.lt_size (F9.keep b o e)
  have htl : ∀ p ∈ tl, p.1 < h'.objs.size ∧ p ∈ TL ∧ p.1 ≠ L' ∧ g.get? p.1 = none := fun p hp =>
   ⟨Heap.lt_size (N9 p (.tail _ (.tail _ hp))).1, hT2 p.1 (by simp only [List.mem_cons, List.mem_map]; exact .inr (.inr (.inr (.inr ⟨p, hp, rfl⟩)))) p.2 (kg _ _ (h186 p hp) (N9 p (.tail _ (.tail _ hp))).1), (N9 p (.tail _ (.tail _ hp))).2⟩
  clear F9 N9
  have hvl : vs.length = ls.length := (All2.length hw).symm
  revert hgb hag hsz5 hk5 WW hat kg F5 hT1 hT2 N5 kb htl; revert a h5 tk5 gs5 TL; exists hc, kS yN <| kS yH <| kS yN <| kS zeGS <| kO yL, 10, a, h5, tk5, gs5, TL; intro hgb hag hsz5 hk5 WW hat kg F5 hT1 hT2 N5 kb htl
  walk_at "ws"
  show wpAny _ _ _ _ _ _
  rename News _ _ _ _ => N9
  refine len_list (N9.isList (.tail _ (.head _))) (by rw [List.size_toArray, hvl]; omega) ?_
  rename_i zv1 zv2 zv3 zv4; revert zv4 N9; revert zv1 zv2 zv3 tk; exists hc, kS yH <| kS yN <| kS yH <| kO yN, 11, zv1, zv2, zv3, tk; intro _ N9
  walk_at "wp"
  all_goals (try dsimp only)
  all_goals
   rename News _ _ _ _ => N8
   rename Fr _ _ _ _ => F8
   refine join_gen WW (genAt_any hat rfl (by walk_at "ms") (kb F8 N8)) (fun b hb => ?_) (by rw [List.size_toArray, hvl, List.length_map]) (by rw [List.length_map]; exact hl) hb ?_
   ·obtain ⟨⟨oa, _, _, hoa, _⟩, _⟩ := hat
    have ha8 := Heap.lt_size (kb F8 N8 a (by walk_at "ms") oa hoa)
    rcases List.mem_cons.mp hb with rfl | hb
    ·exact ha8
    ·rcases List.mem_cons.mp hb with rfl | hb
     ·exact Nat.lt_trans hag ha8
     ·exact Nat.lt_trans (Nat.lt_trans (hfpx _ hb) hag) ha8
   intro hGJ
   obtain ⟨hp, gs6, dr, tk6, os6⟩ := hGJ
   intro t' kk hm
   have e1 : dr = s.drawn := hm.drawn
   have e2 : os6 = s.os := hm.os
   subst e1 e2
   have kw : ∀ b, b < h'.objs.size → b ∉ [h2.objs.size, h'.objs.size] := fun b hb hm => by
    simp only [List.mem_cons, List.not_mem_nil, or_false] at hm
    rcases hm with rfl | rfl
    ·exact absurd hge (Nat.not_le.mpr hb)
    ·exact Nat.lt_irrefl _ hb
   have F9 : Fr g L' hp _ := ⟨F8.ns.at' fun o e => hm.heap _ o (kw _ hL8) e, fun b o e => hm.heap b o (kw b (hg8 b o e)) (F8.keep b o e), F8.above⟩
   have N9 : News g L' hp ((186, tabO ps2) :: (lw, PySem.W.listOf vs.toArray k) :: tl) := by
    refine fun p hp => ?_
    rcases List.mem_cons.mp hp with rfl | hp
    ·exact ⟨hm.heap _ _ (kw _ hlt186) (N8 _ (.head _)).1, (N8 _ (.head _)).2⟩
    ·rcases List.mem_cons.mp hp with rfl | hp
     ·exact ⟨hm.heap _ _ (kw _ hlwlt) (N8 _ (.tail _ (.head _))).1, (N8 _ (.tail _ (.head _))).2⟩
     ·exact ⟨hm.heap _ _ (kw _ (htl p hp).1) (N8 p (.tail _ (.tail _ (htl p hp).2.1))).1, (htl p hp).2.2⟩
   have hAB2 : AllBare gs6 := (hAB.push hgb).movedS hm
   have hj : (joinS (ls.map (·.1))).length ≤ 100 := joinS_len (by rw [List.length_map]; exact hl) hb
   generalize hJ : joinS (ls.map (·.1)) = J at hj
   (revert J; refine hold_pi ?_; set_option tactic.hygienic false in intros)
   try dsimp only
   clear hm kb F8 N8 hat WW hT2 htl
   walk_at "wp"
  all_goals (try dsimp only)
  all_goals
   rename News _ _ _ _ => N8
   rename Fr _ _ _ _ => F8
   refine hret _ _ _ _ (ext_of_led keep hled F8 N8 fun p hp hn => ?_) hAB2 ⟨⟨ps2, hok2, N8.get (.head _)⟩, _, congrArg (Value.str · _) ?_⟩
   ·simp only [List.mem_cons] at hp hn ⊢
    rcases hp with rfl | hp
    ·exact absurd (.inl rfl) hn
    ·exact .inr hp
  ·exact words_pos hJ (by rw [List.length_map, ← hvl, ← List.size_toArray]; assumption)
  ·exact words_neg hJ (by rw [List.length_map, ← hvl, ← List.size_toArray]; assumption)
end
section
local macro_rules | `(tactic| walk_at "own 0") => `(tactic| skip)
noncomputable def SpecR (w : World) (mean : ExcName → Option Value) (mg mb : Str → Option Value) (nd nu : Nat) (f : Addr) (args : List Value) (led : List (Addr × Obj)) (S : List Addr) (Ret Exc : Heap → Heap → Value → Prop) : Prop :=
 ∀ (dp un : Nat) (gd : Option (List Code)) (cn : Str) (cs : Scope) (a : Addr) (ccd : Value) (cl : List (Str × Addr)) (outer : List Env) (A₀ : Around) (base h₀ : Heap) (L : Addr) (m : Str → Option Value) (s : Shared) (Q E : Value → Shared → Prop),
  Below A₀ base outer h₀ → Fr h₀ L s.heap m → (hd.heap_39 w.params).In h₀ → Top EP LS0 mean mg mb h₀ → cs.kind = .function →
  dp + nd < recursionLimit → un + nu < cLine → News h₀ L s.heap led → AllBare s.gens →
  (∀ r h' tk' gs', ExtB S s.heap h' → AllBare gs' → Ret s.heap h' r → Q r { s with heap := h', toks := tk', gens := gs' }) →
  (∀ v h' tk' gs', ExtF S ((envX cn cs L a ccd cl :: outer).filterMap (·.frame)) s.heap h' → AllBare gs' → Exc s.heap h' v → E v { s with heap := h', toks := tk', gens := gs' }) →
   wpAny (model PG w) (ad none dp un gd cn cs L a ccd cl outer) (call (.ref f) args) Q E s
noncomputable def SpecR.at (w : World) (mean : ExcName → Option Value) (mg mb : Str → Option Value) (nd nu : Nat) (f : Addr) (args : List Value) (led : List (Addr × Obj)) (S : List Addr) (Ret Exc : Heap → Heap → Value → Prop) (dp un : Nat) (gd : Option (List Code)) (cn : Str) (cs : Scope) (a : Addr) (ccd : Value) (cl : List (Str × Addr)) (outer : List Env) (A₀ : Around) (base h₀ : Heap) (L : Addr) (m : Str → Option Value) (s : Shared) (Q E : Value → Shared → Prop) : Prop :=
  Below A₀ base outer h₀ → Fr h₀ L s.heap m → (hd.heap_39 w.params).In h₀ → Top EP LS0 mean mg mb h₀ → cs.kind = .function →
  dp + nd < recursionLimit → un + nu < cLine → News h₀ L s.heap led → AllBare s.gens →
  (∀ r h' tk' gs', ExtB S s.heap h' → AllBare gs' → Ret s.heap h' r → Q r { s with heap := h', toks := tk', gens := gs' }) →
  (∀ v h' tk' gs', ExtF S ((envX cn cs L a ccd cl :: outer).filterMap (·.frame)) s.heap h' → AllBare gs' → Exc s.heap h' v → E v { s with heap := h', toks := tk', gens := gs' }) →
   wpAny (model PG w) (ad none dp un gd cn cs L a ccd cl outer) (call (.ref f) args) Q E s
noncomputable def lookW (x y : Str) : List Int := (witS x y (wlenS x y).toNat).map (·.1)
theorem words_len {ns : List Int} (hl : ns.length ≤ 20) (hb : ∀ z ∈ ns, 0 ≤ z ∧ z ≤ 20) : (wordsS ns).length ≤ 200 := by
 have h1 := joinS_len hl hb
 unfold wordsS
 have h2 : (Str.ofString "at tab sizes ").length = 13 := by decide +kernel
 have h3 : (Str.ofString "at tab size ").length = 12 := by decide +kernel
 rw [Str.length_append]
 split <;> (first | exact oz1 h2 h1 | exact oz2 h3 h1)
noncomputable def NagAt (h h' : Heap) (n : Int) (msg y : Str) (v : Value) : Prop :=
 ∃ e dx ta T od, v = .ref e ∧ Fly h' e dx ta T .none ∧ h'.get? dx = some od ∧ NagD n msg y od ∧ h.get? e = none ∧ h.get? dx = none ∧ h.get? T = none
theorem SpecG.use {w : World} {mean : ExcName → Option Value} {mg mb : Str → Option Value} {nd nu : Nat} {f : Addr} {args : List Value} {led : List (Addr × Obj)} {S : List Addr} {Ret : Heap → Heap → Value → Prop}
  (C : SpecG w mean mg mb nd nu f args led S Ret) {dp un : Nat} {gd : Option (List Code)} {cn : Str} {cs : Scope} {a : Addr} {ccd : Value} {cl : List (Str × Addr)} {outer : List Env} {A₀ : Around} {base h₀ : Heap} {L : Addr} {m : Str → Option Value} {s : Shared} {Q E : Value → Shared → Prop}
  {news : List (Addr × Obj)}
  (B : Below A₀ base outer h₀) (F : Fr h₀ L s.heap m) (X : (hd.heap_39 w.params).In h₀) (N : News h₀ L s.heap news) (T : Top EP LS0 mean mg mb h₀) (hk : cs.kind = .function)
  (h1 : dp + nd < recursionLimit) (h2 : un + nu < cLine) (hAB : AllBare s.gens) (sub : ∀ p ∈ led, p ∈ news) (hS : ∀ a ∈ S, a ∈ led.map (·.1))
  (k : ∀ r h' tk' gs', ExtB S s.heap h' → AllBare gs' → Fr h₀ L h' m → (∀ p ∈ news, p.1 ∉ S → h'.get? p.1 = some p.2 ∧ p.1 ≠ L ∧ h₀.get? p.1 = none) → Ret s.heap h' r → Q r { s with heap := h', toks := tk', gens := gs' }) :
  wpAny (model PG w) (ad none dp un gd cn cs L a ccd cl outer) (call (.ref f) args) Q E s := by
 have hSn : ∀ a ∈ S, h₀.get? a = none ∧ a ≠ L := fun a ha => by
  walk_at "cg"
  obtain ⟨p, hp, rfl⟩ := List.mem_map.mp (hS a ha)
  walk_at "bg"
  exact ⟨(N p (sub p hp)).2.2, (N p (sub p hp)).2.1⟩
 refine C _ _ _ _ _ _ _ _ _ _ _ _ _ _ _ _ _ B F X T hk h1 h2 (fun p hp => N p (sub p hp)) hAB fun r h' tk' gs' e ab hr => k r h' tk' gs' e ab ⟨F.ns.at' fun o q => e _ _ (fun z => (hSn _ z).2 rfl) q, fun b o q => e _ _ (fun z => by rw [(hSn _ z).1] at q; cases q) (F.keep _ _ q), F.above⟩ (fun p hp hn => ⟨e _ _ hn (N p hp).1, (N p hp).2⟩) hr
theorem look_end {hp0 hb h5 h' : Heap} {L' e dx ta T : Addr} {fs : List Addr} {od : Obj} {n : Int} {msg y : Str} {ps : Array Value} (k0 : ExtB [186] hp0 hb) (k1 : Ext hb h5) (hm : Made hb h5 [(e, nagO dx ta .none), (dx, od)]) (hd : NagD n msg y od)
  (x : ExtF [e] (L' :: fs) h5 h') (fl : Fly h' e dx ta T .none) (hn : h5.get? T = none) (hL : hp0.get? L' = none) (hfr : ∀ b ∈ L' :: fs, ∃ o, hb.get? b = some o ∧ ∀ vs, o.data ≠ .fields vs) (h6 : hb.get? 186 = some (tabO ps)) :
  ExtF [186] fs hp0 h' ∧ NagAt hp0 h' n msg y (.ref e) ∧ h'.get? 186 = some (tabO ps) := by
 have n6 : ∀ b, hb.get? b = none → b ≠ 186 ∧ hp0.get? b = none := fun b q => by
  have z : b ≠ 186 := fun z => by rw [z, h6] at q; cases q
  refine ⟨z, ?_⟩
  cases r : hp0.get? b with
  | none => rfl
  | some o => rw [k0 b o (by simpa using z) r] at q; cases q
 have he := hm _ (.head _)
 have hdx := hm _ (.tail _ (.head _))
 have f6 : 186 ∉ L' :: fs := fun q => by
  walk_at "cg"
  obtain ⟨o, e1, e2⟩ := hfr _ q
  walk_at "bg"
  rw [h6] at e1; cases e1; exact e2 _ rfl
 have nf : ∀ b, hb.get? b = none → b ∉ L' :: fs := fun b q z => by obtain ⟨o, e1, _⟩ := hfr _ z; rw [q] at e1; cases e1
 have dne : dx ≠ e := fun z => by
  have h1 := he.2; have h2 := hdx.2
  dsimp only at h1 h2
  rw [← z, h2] at h1
  walk_at "cg"
  obtain ⟨es, ep, _, _, _, q, _⟩ := hd
  walk_at "bg"
  cases h1; cases q
 have up : ∀ b o, b ≠ e → b ∉ L' :: fs → h5.get? b = some o → h'.get? b = some o := fun b o h1 h2 h3 => (x b o (by simpa using h1) h3).1 h2
 refine ⟨fun b o hb' ho => ?_, ⟨e, dx, ta, T, od, rfl, fl, up _ _ dne (nf _ hdx.1) hdx.2, hd, (n6 _ he.1).2, (n6 _ hdx.1).2, ?_⟩, up _ _ (fun z => (n6 _ he.1).1 z.symm) f6 (k1 _ _ h6)⟩
 ·have h1 := k1 _ _ (k0 b o hb' ho)
  have hbe : b ≠ e := fun z => by rw [z, (n6 _ he.1).2] at ho; cases ho
  have hbL : b ≠ L' := fun z => by rw [z, hL] at ho; cases ho
  walk_at "cg"
  obtain ⟨q1, q2⟩ := x b o (by simpa using hbe) h1
  walk_at "bg"
  exact ⟨fun z => q1 (fun r => (List.mem_cons.mp r).elim hbL z), q2⟩
 ·cases r : hp0.get? T with
  | none => rfl
  | some o =>
   by_cases z : T = 186
   ·rw [z, k1 _ _ h6] at hn; cases hn
   ·rw [k1 _ _ (k0 T o (by simpa using z) r)] at hn; cases hn
local macro_rules | `(tactic| walk_at "exec Raise some none") => `(tactic| (k_here; refine hold_it ?_))
set_option maxRecDepth 100000 in
set_option maxHeartbeats 8000000 in
theorem look_spec : ∀ (w : World) (mean : ExcName → Option Value) (mg mb : Str → Option Value) (x y : Str) (t t2 t3 : Tok) (n : Int) (d : Bool) (ps : Array Value) (hps : TabOk ps) (hx : x.length ≤ 20) (hy : y.length ≤ 20) (hxa : x.cps.all (· < 128) = true) (hya : y.cps.all (· < 128) = true) (hcx : ∀ c ∈ wsC x, 0 ≤ c ∧ c ≤ 50) (hcy : ∀ c ∈ wsC y, 0 ≤ c ∧ c ≤ 50) (hl : (witS x y (wlenS x y).toNat).length ≤ 20) (hb : ∀ z ∈ lookW x y, 0 ≤ z ∧ z ≤ 20), SpecR w mean mg mb 5 60 212 [.str x t, .str y t2, .int n t3, .bool d] [(186, tabO ps)] [186] (fun _ h' r => r = .none ∧ eqS x y = true ∧ ∃ ps', TabOk ps' ∧ h'.get? 186 = some (tabO ps')) (fun h h' v => eqS x y = false ∧ (∃ ps', TabOk ps' ∧ h'.get? 186 = some (tabO ps')) ∧ NagAt h h' n (dressS d (wordsS (lookW x y))) y v) := by
 intro w mean mg mb x y t t2 t3 n d ps hps hx hy hxa hya hcx hcy hl hb
 intro dp un gd cn cs a ccd cl outer A₀ base h₀ L m s Q E
 show SpecR.at w mean mg mb 5 60 212 [.str x t, .str y t2, .int n t3, .bool d] [(186, tabO ps)] [186] (fun _ h' r => r = .none ∧ eqS x y = true ∧ ∃ ps', TabOk ps' ∧ h'.get? 186 = some (tabO ps')) (fun h h' v => eqS x y = false ∧ (∃ ps', TabOk ps' ∧ h'.get? 186 = some (tabO ps')) ∧ NagAt h h' n (dressS d (wordsS (lookW x y))) y v) dp un gd cn cs a ccd cl outer A₀ base h₀ L m s Q E
 revert hps hx hy hxa hya hcx hcy hl hb
 revert w mean mg mb x y t t2 t3 n d ps dp un gd cn cs a ccd cl outer A₀ base h₀ L m s Q E
 exists hc, kS zeW <| kS (yF yT) <| kS (yF yT) <| kS (yF yT) <| kS zeR <| kS zeR <| kS yN <| kS yN <| kS yN <| kS zeI <| kS zeB <| kS zeY <| kS yN <| kS yN <| kS yT <| kS zeR <| kS (inferInstanceAs (Nonempty Scope)) <| kS yN <| kS zeV <| kS yL <| kS yL <| kS zeA <| kS yH <| kS yH <| kS yN <| kS (yF yT) <| kS zeS <| kS (yF <| yF yP) <| kO (yF <| yF yP), 99, w, mean, mg, mb, x, y, t, t2, t3, n, d, ps, dp, un, gd, cn, cs, a, ccd, cl, outer, A₀, base, h₀, L, m, s, Q, E; intro hps hx hy hxa hya hcx hcy hl hb
 unfold SpecR.at; intro B F X T hk hdp hun hled hAB hret hexc
 (refine wpAny_call ?_; k_dflt (refine' enterM (binds := [(Str.ofString "lead", .str x t), (Str.ofString "line", .str y t2), (Str.ofString "number", .int n t3), (Str.ofString "dressed", .bool d)]) ?k1z13 ?k2z13 ?kNz13 ?k3z13 ?k5z13 ?kAz13 ?kFz13 ?kKz13 ?k6z13 ?k7z13 ?k8z13 ?k9z13 ?kBz13 ?_ ?c5z13 ?c2z13 ?c3z13 ?c4z13; (case kAz13 => exact rfl); (case kFz13 => exact rfl); (case kKz13 => assumption); (case k1z13 => k_asm); (case k2z13 => k_asm); (case kNz13 => exact hled); (case k3z13 => k_asm); (case k5z13 => k_asm); (case k6z13 => k_is); (case k7z13 => k_is); (case k8z13 => ktr_room); (case k9z13 => exact BindsTo.of_eq rfl); (case c5z13 => decide); (case kBz13 => exact locs rfl); (case c2z13 => exact rfl); (case c3z13 => exact rfl); (case c4z13 => exact rfl); k_whole; intro g h' L' eL' keep F' N' B' X' T'; (try dsimp only); (try (refine fold2 ?_; intro qk ek hqk hek))))
 walk_at "ws"
 ((try (refine ⟨?kinz14, ?_⟩; (case kinz14 => k_in))); k_dflt (refine' SpecN.use (ws_spec w mean mg mb none y t2 hy hya (.inl rfl)) ?k1z14 ?k2z14 ?k3z14 ?k4z14 ?k5z14 ?kKz14 ?kdz14 ?kuz14 ?kpz14 ?_; (case k1z14 => k_asm); (case k2z14 => k_asm); (case k3z14 => k_asm); (case k4z14 => k_asm); (case k5z14 => k_asm); (case kKz14 => first | exact rfl | assumption); (case kdz14 => ktr_room); (case kuz14 => ktr_units); (case kpz14 => first | exact trivial | skip)))
 rename News _ _ _ _ => Na
 rename Fr _ _ _ _ => Fa
 intro r1 h1 tk1 e1 F1 N1 hr1
 walk_at "cg"
 obtain ⟨mk2, hm2, hw2⟩ := hr1
 walk_at "bg"
 replace N1 := hm2.news Fa N1
 clear Fa Na
 have hw2' := hw2
 walk_at "cg"
 obtain ⟨rb, d2, D2', D2, tt2, count2, b2, n2, nt2, vs2, tb2, tn2, tnt2, sm2, q1, q2, q3, q4, q5, rfl, hrun2, hvs2, hb02, hb12, hn02, hn12, hnt02, hnt12, hcl2, hmk2⟩ := hw2
 walk_at "bg"
 rw [hmk2] at N1
 dsimp only [List.cons_append, List.nil_append] at N1
 walk_at "ws"
 ((try (refine ⟨?kinz15, ?_⟩; (case kinz15 => k_in))); k_dflt (refine' SpecN.use (ws_spec w mean mg mb none x t hx hxa (.inl rfl)) ?k1z15 ?k2z15 ?k3z15 ?k4z15 ?k5z15 ?kKz15 ?kdz15 ?kuz15 ?kpz15 ?_; (case k1z15 => k_asm); (case k2z15 => k_asm); (case k3z15 => k_asm); (case k4z15 => k_asm); (case k5z15 => k_asm); (case kKz15 => first | exact rfl | assumption); (case kdz15 => ktr_room); (case kuz15 => ktr_units); (case kpz15 => first | exact trivial | skip)))
 rename News _ _ _ _ => Na
 rename Fr _ _ _ _ => Fa
 intro r1 h2 tk2 e2 F2 N2 hr2
 walk_at "cg"
 obtain ⟨mk, hm, hw⟩ := hr2
 walk_at "bg"
 replace N2 := hm.news Fa N2
 clear Fa Na
 have hw' := hw
 walk_at "cg"
 obtain ⟨ra, d1, D', D, tt, count, b, nn, nt, vs, tb, tn, tnt, sm, k1, k2, k3, k4, k5, rfl, hrun, hvs, hb0, hb1, hn0, hn1, hnt0, hnt1, hcl, hmk⟩ := hw
 walk_at "bg"
 rw [hmk] at N2
 dsimp only [List.cons_append, List.nil_append] at N2
 walk_at "ws"
 ((try (refine ⟨?kinz16, ?_⟩; (case kinz16 => k_in))); k_dflt (refine' SpecL.use0 (equal_spec w mean mg mb x y ra rb mk mk2 hw' hw2') ?k1z16 ?k2z16 ?k3z16 ?k4z16 ?k5z16 ?kKz16 ?kdz16 ?kuz16 ?kpz16 ?ksz16 ?_; (case k1z16 => k_asm); (case k2z16 => k_asm); (case k3z16 => k_asm); (case k4z16 => k_asm); (case k5z16 => k_asm); (case kKz16 => first | exact rfl | assumption); (case kdz16 => ktr_room); (case kuz16 => ktr_units); (case kpz16 => first | exact trivial | assumption); (case ksz16 => exact (by rw [hmk, hmk2]; k_allIn))))
 intro r h9 tk9 e9 F9 N9 hr
 subst hr
 walk_at "ws"
 split
 ·rename_i heq
  have heq' : eqS x y = false := by simpa using heq
  walk_at "ws"
  ((try (refine ⟨?kinz17, ?_⟩; (case kinz17 => k_in))); k_dflt (refine' SpecL.use0 (wit_spec w mean mg mb x y ra rb mk mk2 hcx hcy hw' hw2') ?k1z17 ?k2z17 ?k3z17 ?k4z17 ?k5z17 ?kKz17 ?kdz17 ?kuz17 ?kpz17 ?ksz17 ?_; (case k1z17 => k_asm); (case k2z17 => k_asm); (case k3z17 => k_asm); (case k4z17 => k_asm); (case k5z17 => k_asm); (case kKz17 => first | exact rfl | assumption); (case kdz17 => ktr_room); (case kuz17 => ktr_units); (case kpz17 => first | exact trivial | assumption); (case ksz17 => exact (by rw [hmk, hmk2]; k_allIn))))
  rename News _ _ _ _ => Na
  rename Fr _ _ _ _ => Fa
  intro r h3 tk3 e3 F3 N3 hr
  walk_at "cg"
  obtain ⟨la, vsw, kw, tl, rfl, hmw, hwit⟩ := hr
  walk_at "bg"
  have o186 : ∀ p ∈ tl, p.1 ≠ 186 := fun p hp z => by
   have h1 := (hmw p (.tail _ hp)).1
   rw [z, Na.get (a := 186) (o := tabO ps) (by k_mem)] at h1; cases h1
  replace N3 := hmw.news Fa N3
  clear Na Fa
  dsimp only [List.cons_append, List.nil_append] at N3
  walk_at "ws"
  refine ⟨X'.keeps F3.keep, ?_⟩
  refine SpecG.use (fmt_spec w mean mg mb la vsw.toList kw tl (witS x y (wlenS x y).toNat) ps hps o186 hwit hl hb) B' F3 X' N3 T' rfl (by ktr_room) (by ktr_units) hAB ?hs (by walk_at "ms") ?_
  case hs =>
   intro p hp
   revert p; refine fc ?_ (fc ?_ (fun p hp => ?_))
   ·exact List.mem_cons_of_mem _ (List.mem_append.mpr (.inr (by k_mem)))
   ·exact .head _
   ·exact List.mem_cons_of_mem _ (List.mem_append.mpr (.inl hp))
  intro r h4 tk4 gs4 e4 ab4 F4 N4 hr
  walk_at "cg"
  obtain ⟨⟨ps2, hps2, h186⟩, tw, rfl⟩ := hr
  walk_at "bg"
  have N5 : News g L' h4 [(186, tabO ps2)] := List.forall_mem_cons.mpr ⟨⟨h186, (N3 (186, tabO ps) (List.mem_cons_of_mem _ (List.mem_append.mpr (.inr (by k_mem))))).2⟩, List.forall_mem_nil _⟩
  have hwl : (wordsS (lookW x y)).length ≤ 200 := words_len (by unfold lookW; rw [List.length_map]; exact hl) hb
  clear N3 F3 N4
  have hWe : wordsS (List.map (fun x => x.1) (witS x y (wlenS x y).toNat)) = wordsS (lookW x y) := rfl
  rw [hWe]
  generalize hW : wordsS (lookW x y) = W at hwl hexc ⊢
  (revert W; refine hold_pi ?_; set_option tactic.hygienic false in intros)
  walk_at "ws"
  show wpAny _ _ _ _ _ _
  rename Fr _ _ _ _ => Fr1
  refine Raise_nag rfl ?_
  walk_at "ws"
  generalize hM : dressS d W = M at hexc
  (revert M; refine hold_pi ?_; set_option tactic.hygienic false in intros)
  have eM1 : d = true → Str.ofString "<" ++ W ++ Str.ofString ">" = M := fun h => by rw [← hM]; unfold dressS; rw [if_pos h]
  have eM2 : ¬ d = true → W = M := fun h => by rw [← hM]; unfold dressS; rw [if_neg h]
  split
  all_goals
   walk_at "ws"
   rename News _ _ _ _ => Nb
   rename Fr _ _ _ _ => Fb
  all_goals
   first | rw [eM1 (by assumption)] | rw [eM2 (by assumption)]
   ((try (refine ⟨?kinz18, ?_⟩; (case kinz18 => k_in))); k_dflt (refine' SpecN.use (nag_spec w mean mg mb n t3 M _ y t2) ?k1z18 ?k2z18 ?k3z18 ?k4z18 ?k5z18 ?kKz18 ?kdz18 ?kuz18 ?kpz18 ?_; (case k1z18 => k_asm); (case k2z18 => k_asm); (case k3z18 => k_asm); (case k4z18 => k_asm); (case k5z18 => k_asm); (case kKz18 => first | exact rfl | assumption); (case kdz18 => ktr_room); (case kuz18 => ktr_units); (case kpz18 => first | exact trivial | skip)))
   intro r h5 tk5 e5 F5 N5 hr
   walk_at "cg"
   obtain ⟨e, dx, ta, od, rfl, hmade, hnag⟩ := hr
   walk_at "bg"
   refine ⟨e, dx, ta, rfl, X'.keeps F5.keep, (hmade _ (.head _)).2, ?_⟩
   refine unf2 (by assumption) ?_
   try dsimp only
   refine leave_first (base := base) (outer := envX cn cs L a ccd cl :: outer) (B'.push F5).stack (B'.push F5).frames rfl (hmade _ (.head _)).2 (fun h6 T' x6 fl6 hn6 => ?_)
   replace x6 : ExtF [e] (L' :: (envX cn cs L a ccd cl :: outer).filterMap (·.frame)) h5 h6 := x6
   have hL0 : s.heap.get? L' = none := by rw [eL']; exact Heap.get?_none_of_le (Nat.le_refl _)
   have hfr := fun b (hb : b ∈ L' :: (envX cn cs L a ccd cl :: outer).filterMap (fun x : Env => x.frame)) => ((Below.push (name := cn) (scope := cs) (a := a) (cd := ccd) B' Fb hk).frames.mem (b := b) hb).2
   have := look_end (L' := L') (hp0 := s.heap) (ps := ps2) (fs := (envX cn cs L a ccd cl :: outer).filterMap (·.frame)) (fun b o hb e => Fb.keep b o (keep b o e (by simpa using hb))) e5 hmade hnag x6 fl6 hn6 hL0 hfr (Nb.get (by k_mem))
   exact hexc _ _ _ _ this.1 ab4 ⟨heq', ⟨ps2, hps2, this.2.2⟩, this.2.1⟩
 ·walk_at "ws"
  all_goals (try dsimp only)
  rename News _ _ _ _ => Nb
  rename Fr _ _ _ _ => Fb
  rename_i heq
  exact hret _ _ _ _ (fun b o hb e => Fb.keep b o (keep b o e (by simpa using hb))) hAB ⟨rfl, by simpa using heq, ps, hps, Nb.get (by k_mem)⟩
end
section
set_option maxRecDepth 100000
section
variable {w : World} {mean : ExcName → Option Value} {mg mb : Str → Option Value} {A₀ : Around} {base G g : Heap} {outer : List Env} {L L' : Addr} {oL : Obj}
theorem SpecR.useH {nd nu : Nat} {f : Addr} {args : List Value} {led : List (Addr × Obj)} {S : List Addr} {Ret Exc : Heap → Heap → Value → Prop} (C : SpecR w mean mg mb nd nu f args led S Ret Exc) (H : HidB w mean mg mb A₀ base G g outer L oL)
  {dp un : Nat} {gd : Option (List Code)} {cn : Str} {cs : Scope} {a : Addr} {ccd : Value} {cl : List (Str × Addr)} {m : Str → Option Value} {s : Shared} {Q E : Value → Shared → Prop} {news : List (Addr × Obj)} {sl : Array (Option Value)}
  (F : Fr g L' s.heap m) (N : News g L' s.heap news) (hm : (L, { oL with slots := sl }) ∈ news) (hk : cs.kind = .function) (h1 : dp + nd < recursionLimit) (h2 : un + nu < cLine) (hAB : AllBare s.gens)
  (sub : ∀ p ∈ led, p ∈ news ∧ (@Ne Nat p.1 L)) (hS : ∀ a ∈ S, a ∈ led.map (·.1)) (hSd : ∀ a ∈ S, ∀ o, s.heap.get? a = some o → ∃ vs, o.data = .fields vs)
  (k : ∀ r h' tk' gs', ExtB S s.heap h' → AllBare gs' → Fr g L' h' m → (∀ p ∈ news, p.1 ∉ S → h'.get? p.1 = some p.2 ∧ p.1 ≠ L' ∧ g.get? p.1 = none) → Ret s.heap h' r → Q r { s with heap := h', toks := tk', gens := gs' })
  (kx : ∀ v h' tk' gs', ExtF S ((envX cn cs L' a ccd cl :: outer).filterMap (·.frame)) s.heap h' → AllBare gs' → Exc s.heap h' v → h'.FunFrames base (envX cn cs L' a ccd cl :: outer) → E v { s with heap := h', toks := tk', gens := gs' }) :
  wpAny (model PG w) (ad none dp un gd cn cs L' a ccd cl outer) (call (.ref f) args) Q E s := by
 walk_at "cg"
 obtain ⟨h₀, B2, F2, X2, T2, n2⟩ := H.ground F (N _ hm).1
 walk_at "bg"
 have hSn : ∀ a ∈ S, g.get? a = none ∧ a ≠ L' := fun a ha => by
  walk_at "cg"
  obtain ⟨p, hp, rfl⟩ := List.mem_map.mp (hS a ha)
  walk_at "bg"
  exact ⟨(N p (sub p hp).1).2.2, (N p (sub p hp).1).2.1⟩
 refine C _ _ _ _ _ _ _ _ _ _ _ _ _ _ _ _ _ B2 F2 X2 T2 hk h1 h2 (fun p hp => ⟨(N p (sub p hp).1).1, (N p (sub p hp).1).2.1, n2 _ (sub p hp).2 (N p (sub p hp).1).2.2⟩) hAB (fun r h' tk' gs' e ab hr => ?_) (fun v h' tk' gs' x ab hx => ?_)
 ·exact k r h' tk' gs' e ab ⟨F.ns.at' fun o q => e _ _ (fun z => (hSn _ z).2 rfl) q, fun b o q => e _ _ (fun z => by rw [(hSn _ z).1] at q; cases q) (F.keep _ _ q), F.above⟩ (fun p hp hn => ⟨e _ _ hn (N p hp).1, (N p hp).2⟩) hr
 ·have q := pushX (env := envX cn cs L' a ccd cl) B2 F2 rfl hk
  exact kx v h' tk' gs' x ab hx (frames_of x hSd q.frames)
end
end
section
set_option maxRecDepth 100000
section
variable {prog : Program} {w : World} {K : Type} [DecidableEq K] {knd : KeyKind prog w K} {A : Around} {E : Value → Shared → Prop} {s : Shared}
theorem items_end' {it d : Addr} {i ep : Nat} {kvs : List (K × Value)} {ok ov : Value} {Q : Option Value → Shared → Prop} (hh : ∀ h', Heap.ExtBut it s.heap h' → HOk h' A.handled) (hit : IsItemIter s.heap it d i kvs.length ep ok ov)
  (hm : s.heap.DictAt knd d kvs ep) (hx : kvs[i]? = none) (hQ : ∀ h', Heap.ExtBut it s.heap h' → Q none { s with heap := h' }) : wpAny (model prog w) A (pyNext (.ref it)) Q E s := by
 walk_at "cg"
 obtain ⟨od, es, hod, hcd, hdd, hk, hpr, hn⟩ := id hm
 walk_at "bg"
 have hT : s.TypeIs (.ref it) "dict_itemiterator" := ⟨_, hit, rfl⟩
 unfold pyNext
 refine wpAny_bind (wpAny_attempt (wpAny_callSpecial?_slot (name := Str.ofString "__next__") hT PySem.F.slot_dict_itemiterator_next
  (wpAny_call_entry PySem.F.slot_dict_itemiterator_next hT PySem.F.entry_dict_itemiterator_next ?_ (PySem.F.args_dict_itemiterator_next_1 _))))
 refine wpAny_bind (wpAny_pure ?_)
 refine wpAny_bind ?_
 refine wpAny_bind ?_
 first | refine wpAny_bind (wpAny_typeNameOfWhole_itemiter hT (wpAny_pure ?_)) | refine wpAny_bind (wpAny_typeNameOf_itemiter hT (wpAny_pure ?_))
 refine wpAny_bind (wpAny_fieldsOf hit rfl ?_)
 have hown : Builtin.Dict_items.ownsTuple "dict_itemiterator" = true := by decide
 simp only [hown, if_true]
 show wpAny _ _ (if (Value.ref d == Value.none) = true then _ else _) _ _ s
 rw [if_neg (show ¬ ((Value.ref d == Value.none) = true) from Bool.false_ne_true)]
 refine wpAny_bind (wpAny_pure ?_)
 refine wpAny_bind (wpAny_dictEntries hod hdd ?_)
 have hsz : es.size = kvs.length := by rw [← hpr.length]; simp
 rw [if_neg (by rw [hsz]; simp)]
 refine wpAny_bind (wpAny_pure ?_)
 refine wpAny_bind (wpAny_dictEpoch hod hdd ?_)
 rw [if_neg (by walk_at "ms")]
 refine wpAny_pure ?_
 have hge : es.size ≤ i := by rw [hsz]; simpa using hx
 simp only [show ¬ ((i : Int) < 0) from by exact oz50, if_false, Int.toNat_natCast, Array.getElem?_eq_none hge]
 refine wpAny_bind ?_
 first | refine wpAny_bind (wpAny_typeNameOfWhole_itemiter hT (wpAny_pure ?_)) | refine wpAny_bind (wpAny_typeNameOf_itemiter hT (wpAny_pure ?_))
 show wpAny _ _ (setField (.ref it) 2 .none >>= _) _ _ s
 refine wpAny_bind (wpAny_setField hit rfl (by walk_at "ms") ?_)
 show wpAny _ _ (newExc (.type "StopIteration") [] >>= _) _ _ _
 refine stop_raised (hh _ (Heap.SameBut.update ..).extBut) fun h' e ext he => ?_
 walk_at "cg"
 obtain ⟨oe, he1, he2⟩ := he
 walk_at "bg"
 refine wpAny_bind (wpAny_isInstance (T := "StopIteration") (b := true) ⟨_, he1, he2⟩ isSubtype_stop ?_)
 exact wpAny_pure (hQ _ fun b o hb e => ext b o ((Heap.SameBut.update ..).extBut b o hb e))
end
section
variable {prog : Program} {w : World} {K : Type} [DecidableEq K] {knd : KeyKind prog w K} {A : Around} {E : Value → Shared → Prop} {s : Shared} {env : Env} {h₀ : Heap}
theorem for_items {Q : Flow → Shared → Prop} {xk xv : Str} {pk pv pt : Pos} {x1 : Nat} {body : List Stmt} {v d : Addr} {od : Obj} {kvs : List (K × Value)} {m : Str → Option Value} {news : List (Addr × Obj)}
  (H : HOk h₀ A.handled) (hv : s.heap.IsItemsView v d) (hod : od.IsDictOf knd kvs)
  (hxk : env.kindOf xk = some .local) (hxv : env.kindOf xv = some .local) (hp : (env.scope.kind == .class || (env.scope.kind == .module && env.locals != env.globals)) = false)
  (F : Fr h₀ env.locals s.heap m) (N : News h₀ env.locals s.heap news)
  (J : Nat → (Str → Option Value) → List (Addr × Obj) → Array GenState → Prop) (hsrc : ∀ i m' nw gs, J i m' nw gs → (d, od) ∈ nw) (h0 : J 0 m news s.gens)
  (turn : ∀ i k x key m₁ nw gs h tk I oI, kvs[i]? = some (k, x) → knd.is k key = true → J i m₁ nw gs → Fr h₀ env.locals h (fun y => if y = xv then some x else if y = xk then some key else m₁ y) → News h₀ env.locals h ((I, oI) :: nw) → (∀ p ∈ nw, p.1 ≠ I) →
   wpAny (model prog w) A (execs body env) (FEnd h₀ env.locals I oI (J (i + 1)) s Q) (fun _ _ => False) { s with heap := h, toks := tk, gens := gs })
  (fin : ∀ m₁ nw gs, J kvs.length m₁ nw gs → ∀ h tk, Fr h₀ env.locals h m₁ → News h₀ env.locals h nw → Q .next { s with heap := h, toks := tk, gens := gs }) :
  wpAny (model prog w) A (pyIter (.ref v)) (fun it s₂ => codeAny (model prog w) A (.forLoop (.Tuple [.Name xk pk, .Name xv pv] x1 pt) it body [] env) (fun r s' => match r with | .ok f => Q f s' | .error _ => False) s₂) E s := by
 walk_at "cg"
 obtain ⟨es, ep, o1, o2, o3, o4, o5⟩ := hod
 walk_at "bg"
 have at_ : ∀ {h : Heap}, h.get? d = some od → h.DictAt knd d kvs ep := fun e => ⟨od, es, e, o1, o2, o3, o4, o5⟩
 refine wpAny_pyIter_items hv (at_ (N _ (hsrc _ _ _ _ h0)).1) ?_
 have hLI : env.locals ≠ s.heap.objs.size := Nat.ne_of_lt F.ns.lt
 have hI₀ := next_is_new F
 generalize hI : s.heap.objs.size = I at hLI hI₀
 (revert I; refine hold_pi ?_; set_option tactic.hygienic false in intros)
 have hpI : ∀ p ∈ news, p.1 ≠ I := fun p hp => by rw [← hI]; exact Nat.ne_of_lt (Heap.lt_size (N p hp).1)
 have h1 : IsItemIter (s.heap.push { cls := .type "dict_itemiterator", data := .fields #[.none, .bool false, .ref d, .int 0 0, .int kvs.length 0, .int ep 0, .none, .none] }) I d 0 kvs.length ep .none .none := by rw [← hI]; exact Heap.get?_push_size _ rfl
 have F1 := F.push { cls := .type "dict_itemiterator", data := .fields #[.none, .bool false, .ref d, .int 0 0, .int kvs.length 0, .int ep 0, .none, .none] }
 have N1 : News h₀ env.locals (s.heap.push { cls := .type "dict_itemiterator", data := .fields #[.none, .bool false, .ref d, .int 0 0, .int kvs.length 0, .int ep 0, .none, .none] }) news := N.grown fun _ _ e => Heap.get?_push_of_some _ e
 generalize s.heap.push { cls := .type "dict_itemiterator", data := .fields #[.none, .bool false, .ref d, .int 0 0, .int kvs.length 0, .int ep 0, .none, .none] } = hs at h1 F1 N1
 (revert hs; refine hold_pi ?_; set_option tactic.hygienic false in intros)
 refine codeAny_forLoop_any
  (fun k s' => ∃ h' tk gs m' nw i ok ov, s' = { s with heap := h', toks := tk, gens := gs } ∧ IsItemIter h' I d i kvs.length ep ok ov ∧ Fr h₀ env.locals h' m' ∧ News h₀ env.locals h' nw ∧ (∀ p ∈ nw, p.1 ≠ I) ∧ J i m' nw gs ∧ i ≤ kvs.length ∧ k = kvs.length + 1 - i) ?_ (kvs.length + 1)
  (xi8 hs s.toks s.gens m news 0 .none .none ⟨rfl, h1, F1, N1, hpI, h0, Nat.zero_le _, rfl⟩)
 intro n s' hGJ
 walk_at "cg"
 obtain ⟨G, tk, gs, m', nw, i, ok, ov, rfl, hit', F', N', off', hJ, hi, rfl⟩ := hGJ
 walk_at "bg"
 have frI : ∀ {h₁ : Heap}, (∀ b o, b ≠ I → G.get? b = some o → h₁.get? b = some o) → Fr h₀ env.locals h₁ m' ∧ News h₀ env.locals h₁ nw := fun hk₁ =>
  ⟨⟨F'.ns.at' fun o e => hk₁ _ o hLI e, fun b o e => hk₁ b o (fun z => by rw [z, hI₀] at e; cases e) (F'.keep b o e), F'.above⟩, fun p hp => ⟨hk₁ _ _ (off' p hp) (N' p hp).1, (N' p hp).2⟩⟩
 have hd' := at_ (N' _ (hsrc _ _ _ _ hJ)).1
 cases hkv : kvs[i]? with
 | none =>
  have hsz : i = kvs.length := Nat.le_antisymm hi (by simpa using hkv)
  subst hsz
  refine items_end' (s := { s with heap := G, toks := tk, gens := gs }) (fun h' he => H.fr (frI he).1) hit' hd' hkv fun h₁ he₁ => wpAny_execs_nil ?_
  walk_at "cg"
  obtain ⟨F₁, N₁⟩ := frI he₁
  walk_at "bg"
  exact fin _ _ _ hJ h₁ tk F₁ N₁
 | some kv =>
  walk_at "cg"
  obtain ⟨k, x⟩ := kv
  walk_at "bg"
  have hlt : i < kvs.length := (List.getElem?_eq_some_iff.mp hkv).1
  refine wpAny_pyNext_items_item (s := { s with heap := G, toks := tk, gens := gs }) hit' hd' hkv fun key h₁ hkey heo ht₁ hz₁ hk₁ => ?_
  dsimp only at hz₁ hk₁ ht₁ heo
  refine wpAny_letOwnedTupleGo_items heo fun h₂ he₂ hs₂ => ?_
  have hs₂' : Heap.SameBut I h₁ h₂ := hs₂
  have hIG : I < G.objs.size := Heap.lt_size hit'
  have ht₂ : IsTup h₂ G.objs.size #[key, x] := ⟨_, (hs₂'.2 _ (Nat.ne_of_gt hIG)).trans ht₁, rfl, _, rfl⟩
  walk_at "cg"
  obtain ⟨F₂, N₂⟩ := frI (h₁ := h₂) fun b o hb e => hs₂'.extBut b o hb (hk₁ b o hb e)
  walk_at "bg"
  obtain ⟨oI, hoI, hback⟩ : ∃ oI, h₂.get? I = some oI ∧ ∀ h' : Heap, h'.get? I = some oI → IsItemIter h' I d (i + 1) kvs.length ep key x := ⟨_, he₂, fun _ e => e⟩
  have N₃ : News h₀ env.locals h₂ ((I, oI) :: nw) := fun p hp => by
   rcases List.mem_cons.mp hp with rfl | hp
   ·exact ⟨hoI, Ne.symm hLI, hI₀⟩
   ·exact N₂ p hp
  refine unpackN' (s := { s with heap := h₂, toks := tk, gens := gs }) F₂ N₃ H ht₂ rfl rfl fun h₃ F₃ N₄ => ?_
  show wpAny _ _ (do holding [x] (assign (.Name xk pk) env key); do holding [] (assign (.Name xv pv) env x); pure ()) _ _ _
  refine wpAny_bind (wpAny_holding (wpAny_assign_Name (wpAny_storeName_local hxk F₃.ns (fun h₄ hn₄ hs₄ => ?_) hp)))
  have F₄ := F₃.set hn₄ hs₄
  have N₅ := N₄.set hs₄
  refine wpAny_bind (wpAny_holding (wpAny_assign_Name (wpAny_storeName_local hxv F₄.ns (fun h₅ hn₅ hs₅ => wpAny_pure ?_) hp)))
  have F₅ := F₄.set hn₅ hs₅
  have N₆ := N₅.set hs₅
  refine wpAny_mono (turn i k x key m' nw gs h₅ _ I oI hkv hkey hJ F₅ N₆ off') (fun f s₃ h₃ => ?_) fun _ _ z => z.elim
  have go : (∃ h' tk gs m' nw', s₃ = { s with heap := h', toks := tk, gens := gs } ∧ Fr h₀ env.locals h' m' ∧ News h₀ env.locals h' ((I, oI) :: nw') ∧ (∀ p ∈ nw', p.1 ≠ I) ∧ J (i + 1) m' nw' gs) →
    ∃ k, k < kvs.length + 1 - i ∧ ∃ h' tk gs m' nw j ok ov, s₃ = { s with heap := h', toks := tk, gens := gs } ∧ IsItemIter h' I d j kvs.length ep ok ov ∧ Fr h₀ env.locals h' m' ∧ News h₀ env.locals h' nw ∧ (∀ p ∈ nw, p.1 ≠ I) ∧ J j m' nw gs ∧ j ≤ kvs.length ∧ k = kvs.length + 1 - j := by
   intro hGJ
   walk_at "cg"
   obtain ⟨g₃, tk₃, gs₃, m₃, nw₃, rfl, F₃, N₃, off₃, J₃⟩ := hGJ
   walk_at "bg"
   exact ⟨kvs.length + 1 - (i + 1), by exact oz49 hlt, xi8 g₃ tk₃ gs₃ m₃ nw₃ (i + 1) key x ⟨rfl, hback _ (N₃ _ (.head _)).1, F₃, fun p hp => N₃ p (.tail _ hp), off₃, J₃, hlt, rfl⟩⟩
  cases f with
  | ret v => exact h₃
  | brk => exact h₃
  | cont => exact go h₃
  | next => exact go h₃
theorem for_listT {Q : Flow → Shared → Prop} {elts : List PySem.Expr} {x1 : Nat} {pt : Pos} {body : List Stmt} {l : Addr} {vs : List Value} {m : Str → Option Value} {news : List (Addr × Obj)}
  (hh : A.handled = none) (hl : s.heap.IsList l vs.toArray) (hrefs : ∀ v ∈ vs, ∃ a, v = Value.ref a) (F : Fr h₀ env.locals s.heap m) (N : News h₀ env.locals s.heap news)
  (J : Nat → (Str → Option Value) → List (Addr × Obj) → Array GenState → Prop) (h0 : J 0 m news s.gens) (hsrc : ∀ i m' nw gs h, J i m' nw gs → Fr h₀ env.locals h m' → News h₀ env.locals h nw → h.IsList l vs.toArray)
  (turn : ∀ i v m₁ nw gs h tk I oI, vs[i]? = some v → J i m₁ nw gs → Fr h₀ env.locals h m₁ → News h₀ env.locals h ((I, oI) :: nw) → (∀ p ∈ nw, p.1 ≠ I) →
   wpAny (model prog w) A (assign (.Tuple elts x1 pt) env v) (fun _ s₂ => wpAny (model prog w) A (execs body env) (FEnd h₀ env.locals I oI (J (i + 1)) s Q) (fun _ _ => False) s₂) (fun _ _ => False) { s with heap := h, toks := tk, gens := gs })
  (fin : ∀ m₁ nw gs, J vs.length m₁ nw gs → ∀ h tk, Fr h₀ env.locals h m₁ → News h₀ env.locals h nw → Q .next { s with heap := h, toks := tk, gens := gs }) :
  wpAny (model prog w) A (pyIter (.ref l)) (fun it s₂ => codeAny (model prog w) A (.forLoop (.Tuple elts x1 pt) it body [] env) (fun r s' => match r with | .ok f => Q f s' | .error _ => False) s₂) E s := by
 refine wpAny_pyIter_list hl ?_
 have hne : l ≠ s.heap.objs.size := by obtain ⟨o, e, _⟩ := hl; exact Nat.ne_of_lt (Heap.lt_size e)
 have hLI : env.locals ≠ s.heap.objs.size := Nat.ne_of_lt F.ns.lt
 have hI₀ := next_is_new F
 have hpI : ∀ p ∈ news, p.1 ≠ s.heap.objs.size := fun p hp => Nat.ne_of_lt (Heap.lt_size (N p hp).1)
 have W : Walks prog w A s.heap.objs.size _ [s.heap.objs.size] vs.toArray.size _ _ := Walks.list (prog := prog) (w := w) hh s.heap.objs.size l hne vs.toArray
 have up : ∀ (o' : Obj) b o, s.heap.get? b = some o → (s.heap.push o').get? b = some o := fun o' b o e => Heap.get?_push_of_some _ e
 have h1 : (s.heap.push { cls := .type "list_iterator", data := .fields #[.ref l, .int 0 0] }).IsListIter s.heap.objs.size l 0 := ⟨_, Heap.get?_push_size _ rfl, rfl, rfl⟩
 have F1 := F.push { cls := .type "list_iterator", data := .fields #[.ref l, .int 0 0] }
 have N1 : News h₀ env.locals (s.heap.push { cls := .type "list_iterator", data := .fields #[.ref l, .int 0 0] }) news := N.grown (up _)
 generalize s.heap.push { cls := .type "list_iterator", data := .fields #[.ref l, .int 0 0] } = hs at h1 F1 N1
 (revert hs; refine hold_pi ?_; set_option tactic.hygienic false in intros)
 generalize s.heap.objs.size = I at hne hLI hI₀ hpI W h1
 (revert I; refine hold_pi ?_; set_option tactic.hygienic false in intros)
 refine codeAny_forLoop_any
  (fun k s' => ∃ h' tk gs m' nw i, s' = { s with heap := h', toks := tk, gens := gs } ∧ h'.IsListIter I l i ∧ Fr h₀ env.locals h' m' ∧ News h₀ env.locals h' nw ∧ (∀ p ∈ nw, p.1 ≠ I) ∧ J i m' nw gs ∧ i ≤ vs.length ∧ k = vs.length + 1 - i) ?_ (vs.length + 1)
  (xi6 hs s.toks s.gens m news 0 ⟨rfl, h1, F1, N1, hpI, h0, Nat.zero_le _, rfl⟩)
 intro n s' hGJ
 walk_at "cg"
 obtain ⟨G, tk, gs, m', nw, i, rfl, hit', F', N', off', hJ, hi, rfl⟩ := hGJ
 walk_at "bg"
 have frI : ∀ {h₁ : Heap}, (∀ b o, b ≠ I → G.get? b = some o → h₁.get? b = some o) → Fr h₀ env.locals h₁ m' ∧ News h₀ env.locals h₁ nw := fun hk₁ =>
  ⟨⟨F'.ns.at' fun o e => hk₁ _ o hLI e, fun b o e => hk₁ b o (fun z => by rw [z, hI₀] at e; cases e) (F'.keep b o e), F'.above⟩, fun p hp => ⟨hk₁ _ _ (off' p hp) (N' p hp).1, (N' p hp).2⟩⟩
 have hlG := hsrc _ _ _ _ _ hJ F' N'
 cases hv : vs[i]? with
 | none =>
  have hsz : i = vs.length := Nat.le_antisymm hi (by simpa using hv)
  subst hsz
  refine W.done { s with heap := G, toks := tk, gens := gs } _ _ ⟨by simpa using hit', hlG⟩ fun h₁ tk₁ he₁ => wpAny_execs_nil ?_
  walk_at "cg"
  obtain ⟨F₁, N₁⟩ := frI fun b o hb e => he₁ b o (by simpa using hb) e
  walk_at "bg"
  exact fin _ _ _ hJ h₁ tk₁ F₁ N₁
 | some v =>
  have hlt : i < vs.length := (List.getElem?_eq_some_iff.mp hv).1
  refine W.item i { s with heap := G, toks := tk, gens := gs } _ _ (by simpa using hlt) ⟨hit', hlG⟩ fun v' h₁ tk₁ hv' hst₁ hk₁ => ?_
  have ev : v' = v := by
   have : vs[i]? = some v' := by simpa using hv'
   rw [hv] at this; cases this; rfl
  subst ev
  walk_at "cg"
  obtain ⟨a, rfl⟩ := hrefs v' (List.mem_of_getElem? hv)
  walk_at "bg"
  refine wpAny_letOwnedTupleGo_listiter hst₁.1 ?_
  walk_at "cg"
  obtain ⟨F₂, N₂⟩ := frI (h₁ := h₁) fun b o hb e => hk₁ b o (by simpa using hb) e
  walk_at "bg"
  walk_at "cg"
  obtain ⟨oI, hoI, hcI, hdI⟩ := hst₁.1
  walk_at "bg"
  have N₃ : News h₀ env.locals h₁ ((I, oI) :: nw) := fun p hp => by
   rcases List.mem_cons.mp hp with rfl | hp
   ·exact ⟨hoI, Ne.symm hLI, hI₀⟩
   ·exact N₂ p hp
  refine wpAny_mono (turn i _ m' nw gs h₁ tk₁ I oI hv hJ F₂ N₃ off') (fun _ s₂ h₂ => wpAny_mono h₂ (fun f s₃ h₃ => ?_) fun _ _ z => z.elim) fun _ _ z => z.elim
  have go : (∃ h' tk gs m' nw', s₃ = { s with heap := h', toks := tk, gens := gs } ∧ Fr h₀ env.locals h' m' ∧ News h₀ env.locals h' ((I, oI) :: nw') ∧ (∀ p ∈ nw', p.1 ≠ I) ∧ J (i + 1) m' nw' gs) →
    ∃ k, k < vs.length + 1 - i ∧ ∃ h' tk gs m' nw j, s₃ = { s with heap := h', toks := tk, gens := gs } ∧ h'.IsListIter I l j ∧ Fr h₀ env.locals h' m' ∧ News h₀ env.locals h' nw ∧ (∀ p ∈ nw, p.1 ≠ I) ∧ J j m' nw gs ∧ j ≤ vs.length ∧ k = vs.length + 1 - j := by
   intro hGJ
   walk_at "cg"
   obtain ⟨g₃, tk₃, gs₃, m₃, nw₃, rfl, F₃, N₃, off₃, J₃⟩ := hGJ
   walk_at "bg"
   exact ⟨vs.length + 1 - (i + 1), by exact oz49 hlt, xi6 g₃ tk₃ gs₃ m₃ nw₃ (i + 1) ⟨rfl, ⟨oI, (N₃ _ (.head _)).1, hcI, hdI⟩, F₃, fun p hp => N₃ p (.tail _ hp), off₃, J₃, hlt, rfl⟩⟩
  cases f with
  | ret v => exact h₃
  | brk => exact h₃
  | cont => exact go h₃
  | next => exact go h₃
end
end
section
noncomputable abbrev sk (w : World) := PySem.strKind PG w
theorem sk_key {w : World} {k : Str} {v : Value} (h : (sk w).is k v = true) : ∃ t, v = .str k t := by
 cases v <;> first | (cases h; done) | skip
 rename_i y t
 exact ⟨t, by rw [show y = k from beq_iff_eq.mp h]⟩
noncomputable def IntPairs (kvs : List (Str × Value)) (cs : List (Str × Int)) : Prop := All2 (fun (p : Str × Int) (q : Str × Value) => q.1 = p.1 ∧ ∃ t, q.2 = Value.int p.2 t) cs kvs
noncomputable def CallsAt (w : World) (led : List (Addr × Obj)) (v : Value) (cs : List (Str × Int)) : Prop :=
 ∃ d od kvs, v = .ref d ∧ (d, od) ∈ led ∧ (d == sysModules) = false ∧ od.IsDictOf (sk w) kvs ∧ IntPairs kvs cs
theorem CallsAt.mono {w : World} {led led' : List (Addr × Obj)} {v : Value} {cs : List (Str × Int)} (h : CallsAt w led v cs) (s : ∀ p ∈ led, p ∈ led') : CallsAt w led' v cs :=
 let ⟨d, od, kvs, e, m, r⟩ := h; ⟨d, od, kvs, e, s _ m, r⟩
theorem allLt_mem {d : Addr} : ∀ {l : List (Addr × Obj)}, AllLt d l → ∀ p ∈ l, @LT.lt Nat _ p.1 d := by
 intro l
 induction l with
 | nil => intro _ p hp; cases hp
 | cons q r ih =>
  intro h p hp
  rcases List.mem_cons.mp hp with rfl | hp
  ·exact h.1
  ·exact ih h.2 p hp
theorem stored_take {K : Type} [DecidableEq K] : ∀ {kvs : List (K × Value)} {i : Nat} {k : K} {x : Value}, (kvs.map (·.1)).Nodup → kvs[i]? = some (k, x) → stored (kvs.take i) k x = kvs.take (i + 1) := by
 intro kvs i k x hn hi
 walk_at "cg"
 obtain ⟨hlt, he⟩ := List.getElem?_eq_some_iff.mp hi
 walk_at "bg"
 have : ((kvs.take i).any fun kv => decide (kv.1 = k)) = false := by
  rw [List.any_eq_false]
  intro p hp
  simp only [decide_eq_true_eq]
  intro hk
  walk_at "cg"
  obtain ⟨j, hj, hpj⟩ := List.mem_iff_getElem.mp hp
  walk_at "bg"
  rw [List.length_take] at hj
  rw [List.getElem_take] at hpj
  have h1 : (kvs.map (·.1))[j]'(by rw [List.length_map]; omega) = (kvs.map (·.1))[i]'(by rw [List.length_map]; omega) := by
   rw [List.getElem_map, List.getElem_map, hpj, he]; exact hk
  exact List.pairwise_iff_getElem.mp hn j i _ _ (by omega) h1
 unfold stored
 rw [this]
 simp only [Bool.false_eq_true, if_false]
 rw [List.take_add_one, hi]; rfl
theorem off_set {a I : Addr} {o o' : Obj} {r : List (Addr × Obj)} (h : ∀ p ∈ (a, o) :: r, p.1 ≠ I) : ∀ p ∈ (a, o') :: r, p.1 ≠ I := fun p hp => by
 rcases List.mem_cons.mp hp with rfl | hp
 ·exact h (a, o) (.head _)
 ·exact h p (.tail _ hp)
noncomputable def putC (cs : List (Str × Int)) (k : Str) (n : Int) : List (Str × Int) := if cs.any (fun p => p.1 = k) then cs.map (fun p => if p.1 = k then (p.1, p.2 + n) else p) else cs ++ [(k, n)]
noncomputable def addC (cs ds : List (Str × Int)) : List (Str × Int) := ds.foldl (fun acc p => putC acc p.1 p.2) cs
theorem putC_len (cs : List (Str × Int)) (k : Str) (n : Int) : (putC cs k n).length ≤ cs.length + 1 := by
 unfold putC; split <;> simp
theorem putC_bound {cs : List (Str × Int)} {k : Str} {n B : Int} (h : ∀ p ∈ cs, 0 ≤ p.2 ∧ p.2 ≤ B) (h0 : 0 ≤ n) (h1 : n ≤ 1000) (hB : 0 ≤ B) : ∀ p ∈ putC cs k n, 0 ≤ p.2 ∧ p.2 ≤ B + 1000 := by
 intro p hp
 unfold putC at hp
 split at hp
 ·walk_at "cg"
  obtain ⟨q, hq, rfl⟩ := List.mem_map.mp hp
  walk_at "bg"
  have := h q hq
  split <;> (try dsimp only) <;> (first | exact oz9 this.1 h0 this.2 h1 | exact oz8 this.1 this.2)
 ·rcases List.mem_append.mp hp with q | q
  ·have := h p q; exact oz8 this.1 this.2
  ·rw [List.mem_singleton.mp q]; dsimp only; exact oz7 h0 hB h1
theorem ip_any {kvs : List (Str × Value)} {cs : List (Str × Int)} (h : IntPairs kvs cs) (k : Str) : (valueAt kvs k).isSome = cs.any (fun p => decide (p.1 = k)) := by
 unfold valueAt
 induction h with
 | nil => rfl
 | @cons p q cs kvs hpq _ ih =>
  rw [List.find?_cons, List.any_cons, hpq.1]
  by_cases e : p.1 = k
  ·simp [e]
  ·simp only [e, decide_false, Bool.false_or]; exact ih
theorem ip_keys {kvs : List (Str × Value)} {cs : List (Str × Int)} (h : IntPairs kvs cs) : kvs.map (·.1) = cs.map (·.1) := by
 induction h with
 | nil => rfl
 | cons hpq _ ih => simp [hpq.1, ih]
theorem ip_map {kvs : List (Str × Value)} {cs : List (Str × Int)} {k : Str} {v : Value} {m : Int} (h : IntPairs kvs cs) (hn : ∀ p ∈ cs, p.1 ≠ k) : IntPairs (kvs.map fun kv => if kv.1 = k then (kv.1, v) else kv) (cs.map fun p => if p.1 = k then (p.1, p.2 + m) else p) := by
 induction h with
 | nil => exact .nil
 | @cons p q cs kvs hpq r ih =>
  have e := hn p (.head _)
  rw [List.map_cons, List.map_cons, if_neg e, if_neg (by rw [hpq.1]; exact e)]
  exact .cons hpq (ih fun x hx => hn x (.tail _ hx))
theorem ip_has {kvs : List (Str × Value)} {cs : List (Str × Int)} (h : IntPairs kvs cs) {k : Str} (hn : (kvs.map (·.1)).Nodup) (ha : cs.any (fun p => decide (p.1 = k)) = true) :
  ∃ n t, valueAt kvs k = some (.int n t) ∧ (k, n) ∈ cs ∧ ∀ m t', IntPairs (stored kvs k (.int (n + m) t')) (putC cs k m) := by
 have h' := h
 have key : ∃ n t, valueAt kvs k = some (.int n t) ∧ (k, n) ∈ cs ∧ ∀ m t', IntPairs (kvs.map fun kv => if kv.1 = k then (kv.1, Value.int (n + m) t') else kv) (cs.map fun p => if p.1 = k then (p.1, p.2 + m) else p) := by
  unfold valueAt
  clear h'
  induction h with
  | nil => cases ha
  | @cons p q cs kvs hpq r ih =>
   walk_at "cg"
   obtain ⟨q1, q2⟩ := q
   walk_at "bg"
   walk_at "cg"
   obtain ⟨e1, t, e2⟩ := hpq
   walk_at "bg"
   dsimp only at e1 e2
   subst e1 e2
   rw [List.map_cons, List.nodup_cons] at hn
   by_cases e : p.1 = k
   ·subst e
    refine (xi2 p.2 t ⟨by walk_at "ms", .head _, fun m t' => ?_⟩)
    rw [List.map_cons, List.map_cons, if_pos rfl, if_pos rfl]
    refine .cons ⟨rfl, _, rfl⟩ (ip_map r fun x hx z => hn.1 ?_)
    dsimp only
    rw [ip_keys r, ← z]; exact List.mem_map_of_mem hx
   ·simp only [List.any_cons, e, decide_false, Bool.false_or] at ha
    walk_at "cg"
    obtain ⟨n, t2, a1, a2, a3⟩ := ih hn.2 ha
    walk_at "bg"
    refine (xi2 n t2 ⟨?_, .tail _ a2, fun m t' => ?_⟩)
    ·rw [List.find?_cons]; simp only [e, decide_false]; exact a1
    ·rw [List.map_cons, List.map_cons, if_neg e, if_neg e]
     exact .cons ⟨rfl, _, rfl⟩ (a3 m t')
 walk_at "cg"
 obtain ⟨n, t, a1, a2, a3⟩ := key
 walk_at "bg"
 refine (xi2 n t ⟨a1, a2, fun m t' => ?_⟩)
 unfold stored putC
 have hk : (kvs.any fun kv => decide (kv.1 = k)) = true := by
  have := ip_any h' k
  rw [ha, a1] at this
  rw [List.any_eq_true]
  unfold valueAt at a1
  walk_at "cg"
  obtain ⟨x, hx, _⟩ := Option.map_eq_some_iff.mp a1
  walk_at "bg"
  exact ⟨x, List.mem_of_find?_eq_some hx, by simpa using List.find?_some hx⟩
 rw [hk, ha]
 exact a3 m t'
theorem ip_no {kvs : List (Str × Value)} {cs : List (Str × Int)} (h : IntPairs kvs cs) {k : Str} (ha : cs.any (fun p => decide (p.1 = k)) = false) (m : Int) (t : Tok) : IntPairs (stored kvs k (.int m t)) (putC cs k m) := by
 unfold stored putC
 have hm : ∀ {α : Type} (l : List (Str × α)), l.any (fun p => decide (p.1 = k)) = (l.map (·.1)).any (fun x => decide (x = k)) := fun l => by rw [List.any_map]; rfl
 have hk : (kvs.any fun kv => decide (kv.1 = k)) = false := by rw [hm, ip_keys h, ← hm, ha]
 rw [hk, ha]
 simp only [Bool.false_eq_true, if_false]
 exact All2.append h (.cons ⟨rfl, _, rfl⟩ .nil)
theorem hok_hide {h g : Heap} {hh : Option Value} {led : List (Addr × Obj)} (H : HOk h hh) (keep : ∀ b o, h.get? b = some o → b ∉ led.map (·.1) → g.get? b = some o) (hhe : ∀ e, hh = some (.ref e) → ∀ p ∈ led, p.1 ≠ e) : HOk g hh := by
 cases hh with
 | none => trivial
 | some v =>
  walk_at "cg"
  obtain ⟨e, ob, vs, C, rfl, h1, h2⟩ := H
  walk_at "bg"
  exact ⟨e, ob, vs, C, rfl, keep _ _ h1 (fun q => by obtain ⟨p, hp, z⟩ := List.mem_map.mp q; exact hhe e rfl p hp z), h2⟩
local macro_rules | `(tactic| walk_at "exec For Tuple Call cons nil") => `(tactic| (k_here; refine hold_it ?_))
set_option maxRecDepth 100000 in
set_option maxHeartbeats 8000000 in
theorem addc_spec : ∀ (w : World) (mean : ExcName → Option Value) (mg mb : Str → Option Value) (hh : Option Value) (v1 v2 : Value) (led : List (Addr × Obj)) (hhe : ∀ e, hh = some (.ref e) → ∀ p ∈ led, p.1 ≠ e) (c1 c2 : List (Str × Int)) (h1 : CallsAt w led v1 c1) (h2 : CallsAt w led v2 c2) (l1 : c1.length ≤ 50) (l2 : c2.length ≤ 50) (b1 : ∀ p ∈ c1, 0 ≤ p.2 ∧ p.2 ≤ 1000) (b2 : ∀ p ∈ c2, 0 ≤ p.2 ∧ p.2 ≤ 1000), SpecL w mean mg mb hh 1 30 70 [v1, v2] led [] (fun h h' r => ∃ mk, Made h h' mk ∧ CallsAt w mk r (addC c1 c2)) := by
 intro w mean mg mb hh v1 v2 led hhe c1 c2 h1 h2 l1 l2 b1 b2
 intro dp un gd cn cs a ccd cl outer A₀ base h₀ L m s Q E
 revert v1 v2 hhe h1 h2 l1 l2 b1 b2
 show ∀ (v1 : Value) (v2 : Value) (hhe : ∀ e, hh = some (.ref e) → ∀ p ∈ led, p.1 ≠ e) (h1 : CallsAt w led v1 c1) (h2 : CallsAt w led v2 c2) (l1 : c1.length ≤ 50) (l2 : c2.length ≤ 50) (b1 : ∀ p ∈ c1, 0 ≤ p.2 ∧ p.2 ≤ 1000) (b2 : ∀ p ∈ c2, 0 ≤ p.2 ∧ p.2 ≤ 1000), SpecL.at w mean mg mb hh 1 30 70 [v1, v2] led [] (fun h h' r => ∃ mk, Made h h' mk ∧ CallsAt w mk r (addC c1 c2)) dp un gd cn cs a ccd cl outer A₀ base h₀ L m s Q E
 revert w mean mg mb hh led c1 c2 dp un gd cn cs a ccd cl outer A₀ base h₀ L m s Q E
 exists hc, kS zeW <| kS (yF yT) <| kS (yF yT) <| kS (yF yT) <| kS yT <| kS yL <| kS yL <| kS yL <| kS yN <| kS yN <| kS yT <| kS zeR <| kS (inferInstanceAs (Nonempty Scope)) <| kS yN <| kS zeV <| kS yL <| kS yL <| kS zeA <| kS yH <| kS yH <| kS yN <| kS (yF yT) <| kS zeS <| kS (yF <| yF yP) <| kO (yF <| yF yP), 99, w, mean, mg, mb, hh, led, c1, c2, dp, un, gd, cn, cs, a, ccd, cl, outer, A₀, base, h₀, L, m, s, Q, E
 intro v1 v2 hhe h1 h2 l1 l2 b1 b2
 refine exC (kS yN <| kS zeO <| kO yL) h1 ?_; clear h1; intro d1 o1 kvs1 hZ; revert h2 hZ; revert v1 v2 d1 o1 kvs1; exists hc, kS zeV <| kS zeV <| kS yN <| kS zeO <| kO yL, 1, v1, v2, d1, o1, kvs1; intro h2 hZ; obtain ⟨rfl, m1, lo1, i1, p1⟩ := hZ
 refine exC (kS yN <| kS zeO <| kO yL) h2 ?_; clear h2; intro d2 o2 kvs2 hZ; revert hZ; revert d2 o2 kvs2; exists hc, kS yN <| kS zeO <| kO yL, 2, d2, o2, kvs2; intro hZ; obtain ⟨rfl, m2, lo2, i2, p2⟩ := hZ
 unfold SpecL.at; intro B F X T hk hdp hun hHO hled hret
 (refine wpAny_call ?_; k_dflt (refine' enterM (binds := [(Str.ofString "target", .ref d1), (Str.ofString "source", .ref d2)]) ?k1z19 ?k2z19 ?kNz19 ?k3z19 ?k5z19 ?kAz19 ?kFz19 ?kKz19 ?k6z19 ?k7z19 ?k8z19 ?k9z19 ?kBz19 ?_ ?c5z19 ?c2z19 ?c3z19 ?c4z19; (case kAz19 => exact rfl); (case kFz19 => exact rfl); (case kKz19 => assumption); (case k1z19 => k_asm); (case k2z19 => k_asm); (case kNz19 => exact hled); (case k3z19 => k_asm); (case k5z19 => k_asm); (case k6z19 => k_is); (case k7z19 => k_is); (case k8z19 => ktr_room); (case k9z19 => exact BindsTo.of_eq rfl); (case c5z19 => decide); (case kBz19 => exact locs rfl); (case c2z19 => exact rfl); (case c3z19 => exact rfl); (case c4z19 => exact rfl); k_whole; intro g h' L' eL' keep F' N' B' X' T'; (try dsimp only); (try (refine fold2 ?_; intro qk ek hqk hek))))
 have N2 : News g L' h' ((d1, o1) :: (d2, o2) :: led) := List.forall_mem_cons.mpr ⟨N' _ m1, List.forall_mem_cons.mpr ⟨N' _ m2, N'⟩⟩
 clear N'
 revert eL' keep F' B' X' T' hqk hek N2; revert g h' L' qk ek; exists hc, kS yH <| kS yH <| kS yN <| kS (yF (yF yP)) <| kO (yF (yF yP)), 3, g, h', L', qk, ek; intro eL' keep F' B' X' T' hqk hek N2
 walk_at "ws"
 show wpAny _ _ _ _ _ _
 have H' : HOk g hh := hok_hide hHO keep hhe
 have p1l : kvs1.length ≤ 50 := by rw [← All2.length p1]; exact l1
 have p2l : kvs2.length ≤ 50 := by rw [← All2.length p2]; exact l2
 have nd1 : (kvs1.map (·.1)).Nodup := let ⟨_, _, _, _, _, _, q⟩ := i1; q
 rename_i zv1 _ zv2 zv4 zv5 _ zv6 _ zv7 zv3 zv8 zv9; revert zv4 zv5 zv6 zv7 zv8 zv9; revert zv1 zv2 zv3 tk; exists hc, kS yN <| kS zeO <| kS yH <| kO yN, 4, zv1, zv2, zv3, tk; intro _ _ _ _ _ _
 refine wpAny_mono (Q := fun f s₂ => f = .next ∧ ∃ (nd : Addr) (oN : Obj) (h : Heap) (tk : Nat) (mF : Str → Option Value), s₂ = { s with heap := h, toks := tk } ∧ oN.IsDictOf (sk w) kvs1 ∧ (nd == sysModules) = false ∧ (∀ p ∈ (d1, o1) :: (d2, o2) :: led, p.1 ≠ nd) ∧
   Fr g L' h (ovr mF [(Str.ofString "new_callers", some (.ref nd)), (Str.ofString "target", some (.ref d1)), (Str.ofString "source", some (.ref d2))]) ∧ News g L' h ((nd, oN) :: (d1, o1) :: (d2, o2) :: led))
  (wpAny_for_of ?_ (by intro _; rfl)) ?_ (fun _ _ z => z)
 ·walk_at "ws"
  rename Obj.IsDictOf (PySem.strKind PG w) _ [] => hs0
  rename News _ _ _ _ => N9
  rename Fr _ _ _ _ => F9
  rename (_ < _ ∧ _ < _ ∧ AllLt _ _) => hlt
  have hm : ∃ (m₀ : Str → Option Value) (nd : Addr), Fr g L' _ m₀ ∧ m₀ (Str.ofString "new_callers") = some (.ref nd) ∧ m₀ (Str.ofString "target") = some (.ref d1) ∧ m₀ (Str.ofString "source") = some (.ref d2) ∧ News g L' _ ((nd, _) :: (d1, o1) :: (d2, o2) :: led) ∧
    (nd == sysModules) = false ∧ ∀ p ∈ (d1, o1) :: (d2, o2) :: led, p.1 ≠ nd := (xi2 _ _ ⟨F9, rfl, rfl, rfl, fun p hp => N9 p (.tail _ hp), by assumption, fun p hp => by
   rcases List.mem_cons.mp hp with rfl | hp
   ·exact Nat.ne_of_lt hlt.1
   ·rcases List.mem_cons.mp hp with rfl | hp
    ·exact Nat.ne_of_lt hlt.2.1
    ·exact Nat.ne_of_lt (allLt_mem hlt.2.2 p hp)⟩)
  refine exC (kS (yF yT) <| kO yN) hm ?_; clear hm; intro m₀ nd hZ; rename_i zv5 zv7 zv10; revert F9 N9 zv10 hZ; revert zv5 zv7 m₀ nd; exists hc, kS yN <| kS yH <| kS (yF yT) <| kO yN, 5, zv5, zv7, m₀, nd; intro F9 N9 _ hZ; obtain ⟨F1, e1, e2, e3, N1, lo, apart⟩ := hZ
  refine for_items (knd := sk w) (kvs := kvs1) (od := o1) H' ⟨_, (N9 _ (.head _)).1, rfl, rfl⟩ i1 rfl rfl rfl F1 N1
   (fun i m' nw gs => gs = s.gens ∧ ∃ (oN : Obj) (vf vc : Option Value), m' = ovr m₀ [(Str.ofString "func", vf), (Str.ofString "caller", vc), (Str.ofString "new_callers", some (.ref nd)), (Str.ofString "target", some (.ref d1)), (Str.ofString "source", some (.ref d2))] ∧
    oN.IsDictOf (sk w) (kvs1.take i) ∧ nw = (nd, oN) :: (d1, o1) :: (d2, o2) :: led) ?_ ?_ ?_ ?_
  ·intro i m' nw gs hGJ
   obtain ⟨_, hZ⟩ := hGJ; refine exC (kS zeO <| kS yT <| kO yT) hZ ?_; clear hZ; intro oN vf vc hZ; rename_i zv11; revert zv11 hZ; revert i m' nw gs oN vf vc; exists hc, kS yN <| kS (yF yT) <| kS yL <| kS zeY <| kS zeO <| kS yT <| kO yT, 6, i, m', nw, gs, oN, vf, vc; intro _ hZ; obtain ⟨_, _, rfl⟩ := hZ
   exact .tail _ (.head _)
  ·exact ⟨rfl, xi3 _ (m₀ (Str.ofString "func")) (m₀ (Str.ofString "caller")) ⟨ovr_self (List.forall_mem_cons.mpr ⟨rfl, List.forall_mem_cons.mpr ⟨rfl, List.forall_mem_cons.mpr ⟨e1, List.forall_mem_cons.mpr ⟨e2, List.forall_mem_cons.mpr ⟨e3, List.forall_mem_nil _⟩⟩⟩⟩⟩), hs0, rfl⟩⟩
  ·intro i k x key m₁ nw gs h tk I oI hkv hkey hGJ
   generalize hJO : FEnd _ _ _ _ _ _ _ = QO
   revert QO
   refine hold_pi ?_
   intro QO hJO
   obtain ⟨rfl, hZ⟩ := hGJ; refine exC (kS zeO <| kS yT <| kO yT) hZ ?_; clear hZ; intro oN vf vc hZ; revert hkv hkey hJO hZ; revert i k x key m₁ nw h tk I oI QO oN vf vc; exists hc, kS yN <| kS zeR <| kS zeV <| kS zeV <| kS (yF yT) <| kS yL <| kS yH <| kS yN <| kS yN <| kS zeO <| kS (yF (yF yP)) <| kS zeO <| kS yT <| kO yT, 7, i, k, x, key, m₁, nw, h, tk, I, oI, QO, oN, vf, vc; intro hkv hkey hJO hZ; obtain ⟨rfl, hN, rfl⟩ := hZ
   intro F2 N2 off
   clear F9 N9 F1 N1
   walk_at "cg"
   obtain ⟨tk1, rfl⟩ := sk_key hkey
   walk_at "bg"
   have hZ := All2.getR p1 hkv; refine exC (kO (zeP2 zeR zeI)) hZ ?_; clear hZ; intro p hZ; revert hkey F2 hZ; revert tk1 p; exists hc, kS yN <| kO (zeP2 zeR zeI), 8, tk1, p; intro hkey F2 hZ; obtain ⟨_, hp1, hZ⟩ := hZ; refine exC (kO yN) hZ ?_; clear hZ; intro tx hp2; revert hp2; revert tx; refine hzC (kO yN) 9 ?_; generalize zz _ _ _ = tx; intro hp2
   try dsimp only at hp1 hp2
   subst hp1 hp2
   have apart2 : ∀ p ∈ (d1, o1) :: (d2, o2) :: led, p.1 ≠ nd := apart
   have neI : @Ne Nat I nd := (off _ (.head _)).symm
   walk_at "ws"
   show wpAny _ _ _ _ _ _
   rename News _ _ _ _ => N3
   rename Fr _ _ _ _ => F3
   refine kda_set F3 N3 (UpdF.tail neI (UpdF.head apart2)) hN hkey (Nat.le_trans (List.length_take_le' ..) (Nat.le_trans p1l (by decide))) (fun h' o' F4 N4 hN' => ?_)
   rw [stored_take nd1 hkv] at hN'
   revert F4 N4 hN'; revert h' o'; exists hc, kS yH <| kO zeO, 10, h', o'; intro F4 N4 hN'
   walk_at "ws"
   rename News _ _ _ _ => N5
   rename Fr _ _ _ _ => F5
   subst hJO
   exact FEnd.next F5 N5 (fun _ h => h) (off_set off) ⟨rfl, xi3 o' _ _ ⟨ovr_eq (by walk_at "oi") (by walk_at "oo"), hN', rfl⟩⟩
  ·intro m₁ nw gs hGJ
   obtain ⟨rfl, hZ⟩ := hGJ; refine exC (kS zeO <| kS yT <| kO yT) hZ ?_; clear hZ; intro oN vf vc hZ; revert hZ; revert m₁ nw oN vf vc; exists hc, kS (yF yT) <| kS yL <| kS zeO <| kS yT <| kO yT, 11, m₁, nw, oN, vf, vc; intro hZ; obtain ⟨rfl, hN, rfl⟩ := hZ
   intro h tk F2 N2
   rw [List.take_length] at hN
   refine ⟨rfl, xi5 nd oN h tk (ovr m₀ [(Str.ofString "func", vf), (Str.ofString "caller", vc), (Str.ofString "new_callers", some (.ref nd)), (Str.ofString "target", some (.ref d1)), (Str.ofString "source", some (.ref d2))]) ⟨rfl, hN, lo, apart, ?_, N2⟩⟩
   rw [← ovr_self (List.forall_mem_cons.mpr ⟨rfl, List.forall_mem_cons.mpr ⟨rfl, List.forall_mem_cons.mpr ⟨rfl, List.forall_mem_nil _⟩⟩⟩)]
   exact F2
 ·intro f s₂ hGJ
  obtain ⟨rfl, hZ⟩ := hGJ; refine exC (kS yN <| kS zeO <| kS yH <| kS yN <| kO (yF yT)) hZ ?_; clear hZ; intro nd oN h tk mF hZ; revert hZ; revert s₂ nd oN h tk mF; exists hc, kS zeS <| kS yN <| kS zeO <| kS yH <| kS yN <| kO (yF yT), 12, s₂, nd, oN, h, tk, mF; intro hZ; obtain ⟨rfl, hN, lo, apart, F1, N1⟩ := hZ
  walk_at "ws"
  show wpAny _ _ _ _ _ _
  refine wpAny_mono (Q := fun f s₂ => f = .next ∧ ∃ (oN : Obj) (kvsN : List (Str × Value)) (h : Heap) (tk : Nat) (mF : Str → Option Value), s₂ = { s with heap := h, toks := tk } ∧ oN.IsDictOf (sk w) kvsN ∧ IntPairs kvsN (addC c1 c2) ∧
   Fr g L' h (ovr mF [(Str.ofString "new_callers", some (.ref nd))]) ∧ News g L' h ((nd, oN) :: (d1, o1) :: (d2, o2) :: led))
   (wpAny_for_of ?_ (by intro _; rfl)) ?_ (fun _ _ z => z)
  ·walk_at "ws"
   rename News _ _ _ _ => N9
   rename Fr _ _ _ _ => F9
   have hm : ∃ (m₀ : Str → Option Value), Fr g L' _ m₀ ∧ m₀ (Str.ofString "new_callers") = some (.ref nd) := ⟨_, F9, rfl⟩
   refine exC (kO (yF yT)) hm ?_; clear hm; intro m₀ hZ; rename_i zv10 zv11 zv12; revert F9 N9 zv12 hZ; revert zv10 zv11 m₀; exists hc, kS yN <| kS yH <| kO (yF yT), 13, zv10, zv11, m₀; intro F9 N9 _ hZ; obtain ⟨F2, e1⟩ := hZ
   have N2 : News g L' _ ((nd, oN) :: (d1, o1) :: (d2, o2) :: led) := fun p hp => N9 p (.tail _ hp)
   refine for_items (knd := sk w) (kvs := kvs2) (od := o2) H' ⟨_, (N9 _ (.head _)).1, rfl, rfl⟩ i2 rfl rfl rfl F2 N2
    (fun i m' nw gs => gs = s.gens ∧ ∃ (oN : Obj) (kvsN : List (Str × Value)) (vf vc : Option Value), m' = ovr m₀ [(Str.ofString "func", vf), (Str.ofString "caller", vc), (Str.ofString "new_callers", some (.ref nd))] ∧
     oN.IsDictOf (sk w) kvsN ∧ IntPairs kvsN (addC c1 (c2.take i)) ∧ (addC c1 (c2.take i)).length ≤ 50 + i ∧ (∀ p ∈ addC c1 (c2.take i), 0 ≤ p.2 ∧ p.2 ≤ 1000 + 1000 * (i : Int)) ∧ nw = (nd, oN) :: (d1, o1) :: (d2, o2) :: led) ?_ ?_ ?_ ?_
   ·intro i m' nw gs hGJ
    obtain ⟨_, hZ⟩ := hGJ; refine exC (kS zeO <| kS yL <| kS yT <| kO yT) hZ ?_; clear hZ; intro oN kvsN vf vc hZ; rename_i zv13; revert zv13 hZ; revert i m' nw gs oN kvsN vf vc; exists hc, kS yN <| kS (yF yT) <| kS yL <| kS zeY <| kS zeO <| kS yL <| kS yT <| kO yT, 14, i, m', nw, gs, oN, kvsN, vf, vc; intro _ hZ; obtain ⟨_, _, _, _, _, rfl⟩ := hZ
    exact .tail _ (.tail _ (.head _))
   ·exact ⟨rfl, xi4 oN kvs1 (m₀ (Str.ofString "func")) (m₀ (Str.ofString "caller")) ⟨ovr_self (List.forall_mem_cons.mpr ⟨rfl, List.forall_mem_cons.mpr ⟨rfl, List.forall_mem_cons.mpr ⟨e1, List.forall_mem_nil _⟩⟩⟩), hN, p1, l1, fun p hp => ⟨(b1 p hp).1, by have := (b1 p hp).2; omega⟩, rfl⟩⟩
   ·intro i k x key m₁ nw gs h tk I oI hkv hkey hGJ
    generalize hJO : FEnd _ _ _ _ _ _ _ = QO
    revert QO
    refine hold_pi ?_
    intro QO hJO
    obtain ⟨rfl, hZ⟩ := hGJ; refine exC (kS zeO <| kS yL <| kS yT <| kO yT) hZ ?_; clear hZ; intro oN kvsN vf vc hZ; revert hkv hkey hJO hZ; revert i k x key m₁ nw h tk I oI QO oN kvsN vf vc; exists hc, kS yN <| kS zeR <| kS zeV <| kS zeV <| kS (yF yT) <| kS yL <| kS yH <| kS yN <| kS yN <| kS zeO <| kS (yF (yF yP)) <| kS zeO <| kS yL <| kS yT <| kO yT, 15, i, k, x, key, m₁, nw, h, tk, I, oI, QO, oN, kvsN, vf, vc; intro hkv hkey hJO hZ; obtain ⟨rfl, hN, hI, hlen, hbd, rfl⟩ := hZ
    intro F3 N3 off
    clear F9 N9 F1 N1 F2 N2
    walk_at "cg"
    obtain ⟨tk1, rfl⟩ := sk_key hkey
    walk_at "bg"
    have hZ := All2.getR p2 hkv; refine exC (kO (zeP2 zeR zeI)) hZ ?_; clear hZ; intro p hZ; revert hkey F3 hZ; revert tk1 p; exists hc, kS yN <| kO (zeP2 zeR zeI), 16, tk1, p; intro hkey F3 hZ; obtain ⟨hpc, hp1, hZ⟩ := hZ; refine exC (kO yN) hZ ?_; clear hZ; intro tx hp2; revert hp2; revert tx; refine hzC (kO yN) 17 ?_; generalize zz _ _ _ = tx; intro hp2
    try dsimp only at hp1 hp2
    subst hp1 hp2
    have hp3 := b2 p (List.mem_of_getElem? hpc)
    have hi : i < 50 := Nat.lt_of_lt_of_le (List.getElem?_eq_some_iff.mp hkv).1 p2l
    have apart2 : ∀ p ∈ (d1, o1) :: (d2, o2) :: led, p.1 ≠ nd := apart
    have neI : @Ne Nat I nd := (off _ (.head _)).symm
    have hadd : addC c1 (c2.take (i + 1)) = putC (addC c1 (c2.take i)) p.1 p.2 := by
     unfold addC; rw [List.take_add_one, hpc, List.foldl_append]; rfl
    have hlk : kvsN.length ≤ 100 := by rw [← All2.length hI]; exact oz6 hlen hi
    cases hany : (addC c1 (c2.take i)).any (fun q => decide (q.1 = p.1)) with
    | true =>
     obtain ⟨n, tn, hv, hmem, hst⟩ := ip_has hI (let ⟨_, _, _, _, _, _, q⟩ := hN; q) hany
     have hnb := hbd _ hmem
     try dsimp only at hnb
     revert hv hmem hst hnb; revert n tn; exists hc, kS zeI <| kO yN, 18, n, tn; intro hv hmem hst hnb
     walk_at "ws"
     show wpAny _ _ _ _ _ _
     rename News _ _ _ _ => N4
     refine kda_in N4 (.tail _ (.head _)) hN lo hkey true (by rw [ip_any hI]; exact hany) ?_
     walk_at "ws"
     rw [if_pos rfl]
     walk_at "ws"
     rw [if_neg Bool.false_ne_true]
     revert tk; refine hzC (kO yN) 19 ?_; generalize zz _ _ _ = tk; dsimp only [Cu.un, kO]
     walk_at "ws"
     show wpAny _ _ _ _ _ _
     rename News _ _ _ _ => N5
     refine wpAny_getItem_of hkey (kda_dict N5 (.tail _ (.head _)) hN).mapOf hv ?_
     revert tk; refine hzC (kO yN) 20 ?_; generalize zz _ _ _ = tk; dsimp only [Cu.un, kO]
     walk_at "ws"
     show wpAny _ _ _ _ _ _
     rename News _ _ _ _ => N6
     rename Fr _ _ _ _ => F6
     refine kda_set F6 N6 (UpdF.tail neI (UpdF.head apart2)) hN hkey (Nat.le_trans hlk (by decide)) (fun h' o' F7 N7 hN' => ?_)
     revert F7 N7 hN'; revert h' o'; exists hc, kS yH <| kO zeO, 21, h', o'; intro F7 N7 hN'
     walk_at "ws"
     rename News _ _ _ _ => N8
     rename Fr _ _ _ _ => F8
     subst hJO
     refine FEnd.next F8 N8 (fun _ h => h) (off_set off) ⟨rfl, xi4 o' _ _ _ ⟨ovr_eq (by walk_at "oi") (by walk_at "oo"), hN', ?_, ?_, ?_, rfl⟩⟩
     ·rw [hadd]; exact hst _ _
     ·rw [hadd]; have := putC_len (addC c1 (c2.take i)) p.1 p.2; exact oz5 this hlen
     ·rw [hadd]; intro q hq; have := putC_bound hbd hp3.1 hp3.2 (by exact oz4) q hq; exact oz3 this.1 this.2
    | false =>
     walk_at "ws"
     show wpAny _ _ _ _ _ _
     rename News _ _ _ _ => N4
     refine kda_in N4 (.tail _ (.head _)) hN lo hkey false (by rw [ip_any hI]; exact hany) ?_
     walk_at "ws"
     rw [if_neg Bool.false_ne_true]
     walk_at "ws"
     show wpAny _ _ _ _ _ _
     rename News _ _ _ _ => N5
     rename Fr _ _ _ _ => F5
     refine kda_set F5 N5 (UpdF.tail neI (UpdF.head apart2)) hN hkey (Nat.le_trans hlk (by decide)) (fun h' o' F6 N6 hN' => ?_)
     revert F6 N6 hN'; revert tk h' o'; exists hc, kS yN <| kS yH <| kO zeO, 22, tk, h', o'; intro F6 N6 hN'
     walk_at "ws"
     rename News _ _ _ _ => N7
     rename Fr _ _ _ _ => F7
     subst hJO
     refine FEnd.next F7 N7 (fun _ h => h) (off_set off) ⟨rfl, xi4 o' _ _ _ ⟨ovr_eq (by walk_at "oi") (by walk_at "oo"), hN', ?_, ?_, ?_, rfl⟩⟩
     ·rw [hadd]; exact ip_no hI hany _ _
     ·rw [hadd]; have := putC_len (addC c1 (c2.take i)) p.1 p.2; exact oz5 this hlen
     ·rw [hadd]; intro q hq; have := putC_bound hbd hp3.1 hp3.2 (by exact oz4) q hq; exact oz3 this.1 this.2
   ·intro m₁ nw gs hGJ
    obtain ⟨rfl, hZ⟩ := hGJ; refine exC (kS zeO <| kS yL <| kS yT <| kO yT) hZ ?_; clear hZ; intro oN kvsN vf vc hZ; revert hZ; revert m₁ nw oN kvsN vf vc; exists hc, kS (yF yT) <| kS yL <| kS zeO <| kS yL <| kS yT <| kO yT, 23, m₁, nw, oN, kvsN, vf, vc; intro hZ; obtain ⟨rfl, hN, hI, hlen, hbd, rfl⟩ := hZ
    intro h tk F3 N3
    rw [All2.length p2 |>.symm, List.take_length] at hI
    refine ⟨rfl, xi5 oN kvsN h tk (ovr m₀ [(Str.ofString "func", vf), (Str.ofString "caller", vc), (Str.ofString "new_callers", some (.ref nd))]) ⟨rfl, hN, hI, ?_, N3⟩⟩
    rw [← ovr_self (List.forall_mem_cons.mpr ⟨rfl, List.forall_mem_nil _⟩)]
    exact F3
  ·intro f s₂ hGJ
   obtain ⟨rfl, hZ⟩ := hGJ; refine exC (kS zeO <| kS yL <| kS yH <| kS yN <| kO (yF yT)) hZ ?_; clear hZ; intro oN kvsN h tk mF hZ; revert hZ; revert s₂ oN kvsN h tk mF; exists hc, kS zeS <| kS zeO <| kS yL <| kS yH <| kS yN <| kO (yF yT), 24, s₂, oN, kvsN, h, tk, mF; intro hZ; obtain ⟨rfl, hN, hI, F3, N3⟩ := hZ
   walk_at "ws"
   all_goals (try dsimp only)
   show Q _ _
   refine hret _ _ _ (ext_of_led keep hled F3 N3 fun p hp _ => .tail _ (.tail _ (.tail _ hp))) ⟨[(nd, oN)], made_led (h₀ := h₀) (L := L) keep N3 (fun p hp => by rw [List.mem_singleton.mp hp]; exact .head _) (fun p hp q => ?_), nd, oN, kvsN, rfl, .head _, lo, hN, hI⟩
   rw [List.mem_singleton.mp hp] at q
   have hZ := List.mem_map.mp q; refine exC (kO (zeP2 yN zeO)) hZ ?_; clear hZ; intro r hZ; revert hp hZ; revert p r; exists hc, kS (zeP2 yN zeO) <| kO (zeP2 yN zeO), 25, p, r; intro hp hZ; obtain ⟨hr, e⟩ := hZ
   exact apart r (.tail _ (.tail _ hr)) e
end
section
structure Ent where
 c : Int
 n : Int
 t : Int
 u : Int
 cs : List (Str × Int)
deriving DecidableEq
theorem zeEnt : Nonempty Ent := ⟨⟨0, 0, 0, 0, []⟩⟩
noncomputable abbrev entO (e : Ent) (t1 t2 t3 t4 : Tok) (vc : Value) : Obj := { cls := .type "tuple", data := .seq #[.int e.c t1, .int e.n t2, .int e.t t3, .int e.u t4, vc] }
noncomputable def EntAt (w : World) (led : List (Addr × Obj)) (v : Value) (e : Ent) : Prop :=
 ∃ a t1 t2 t3 t4 vc, v = .ref a ∧ (a, entO e t1 t2 t3 t4 vc) ∈ led ∧ CallsAt w led vc e.cs
theorem EntAt.mono {w : World} {led led' : List (Addr × Obj)} {v : Value} {e : Ent} (h : EntAt w led v e) (s : ∀ p ∈ led, p ∈ led') : EntAt w led' v e :=
 let ⟨a, t1, t2, t3, t4, vc, e1, m, r⟩ := h; ⟨a, t1, t2, t3, t4, vc, e1, s _ m, r.mono s⟩
noncomputable def addE (x y : Ent) : Ent := ⟨y.c + x.c, y.n + x.n, y.t + x.t, y.u + x.u, addC x.cs y.cs⟩
noncomputable def EntOk (e : Ent) : Prop := (0 ≤ e.c ∧ e.c ≤ 1000) ∧ (0 ≤ e.n ∧ e.n ≤ 1000) ∧ (0 ≤ e.t ∧ e.t ≤ 1000) ∧ (0 ≤ e.u ∧ e.u ≤ 1000) ∧ e.cs.length ≤ 50 ∧ ∀ p ∈ e.cs, 0 ≤ p.2 ∧ p.2 ≤ 1000
theorem ent_made {w : World} {h₀ h g h' : Heap} {L L' : Addr} {led mk X : List (Addr × Obj)} {D : Addr} {u1 u2 u3 u4 : Tok} {r : Value} {e : Ent} (keep : ∀ b o, h.get? b = some o → b ∉ led.map (·.1) → g.get? b = some o)
  (N : News g L' h' ((D, entO e u1 u2 u3 u4 r) :: (mk ++ X))) (hlt : ∀ p ∈ mk ++ X, p.1 < D) (sub : ∀ p ∈ led, p ∈ X) (off : ∀ p ∈ mk, p.1 ∉ led.map (·.1)) (hcl : CallsAt w mk r e.cs) : ∃ mk', Made h h' mk' ∧ EntAt w (mk' ++ led) (.ref D) e := by
 refine ⟨(D, entO e u1 u2 u3 u4 r) :: mk, made_led (h₀ := h₀) (L := L) keep N (fun p hp => ?_) (List.forall_mem_cons.mpr ⟨fun q => ?_, off⟩), D, u1, u2, u3, u4, r, rfl, .head _, hcl.mono fun p hp => .tail _ (List.mem_append.mpr (.inl hp))⟩
 ·rcases List.mem_cons.mp hp with rfl | hp
  ·exact .head _
  ·exact .tail _ (List.mem_append.mpr (.inl hp))
 ·walk_at "cg"
  obtain ⟨r, hr, z⟩ := List.mem_map.mp q
  walk_at "bg"
  have := hlt r (List.mem_append.mpr (.inr (sub _ hr)))
  dsimp only at z
  rw [z] at this
  exact Nat.lt_irrefl _ this
set_option maxRecDepth 100000 in
set_option maxHeartbeats 8000000 in
theorem afs_spec : ∀ (w : World) (mean : ExcName → Option Value) (mg mb : Str → Option Value) (hh : Option Value) (v1 v2 : Value) (led : List (Addr × Obj)) (hhe : ∀ e, hh = some (.ref e) → ∀ p ∈ led, p.1 ≠ e) (e1 e2 : Ent) (h1 : EntAt w led v1 e1) (h2 : EntAt w led v2 e2) (k1 : EntOk e1) (k2 : EntOk e2), SpecL w mean mg mb hh 2 40 63 [v1, v2] led [] (fun h h' r => ∃ mk, Made h h' mk ∧ EntAt w (mk ++ led) r (addE e1 e2)) := by
 intro w mean mg mb hh v1 v2 led hhe e1 e2 h1 h2 k1 k2
 intro dp un gd cn cs a ccd cl outer A₀ base h₀ L m s Q E
 revert v1 v2 hhe h1 h2 k1 k2
 show ∀ (v1 : Value) (v2 : Value) (hhe : ∀ e, hh = some (.ref e) → ∀ p ∈ led, p.1 ≠ e) (h1 : EntAt w led v1 e1) (h2 : EntAt w led v2 e2) (k1 : EntOk e1) (k2 : EntOk e2), SpecL.at w mean mg mb hh 2 40 63 [v1, v2] led [] (fun h h' r => ∃ mk, Made h h' mk ∧ EntAt w (mk ++ led) r (addE e1 e2)) dp un gd cn cs a ccd cl outer A₀ base h₀ L m s Q E
 revert w mean mg mb hh led e1 e2 dp un gd cn cs a ccd cl outer A₀ base h₀ L m s Q E
 exists hc, kS zeW <| kS (yF yT) <| kS (yF yT) <| kS (yF yT) <| kS yT <| kS yL <| kS zeEnt <| kS zeEnt <| kS yN <| kS yN <| kS yT <| kS zeR <| kS (inferInstanceAs (Nonempty Scope)) <| kS yN <| kS zeV <| kS yL <| kS yL <| kS zeA <| kS yH <| kS yH <| kS yN <| kS (yF yT) <| kS zeS <| kS (yF <| yF yP) <| kO (yF <| yF yP), 99, w, mean, mg, mb, hh, led, e1, e2, dp, un, gd, cn, cs, a, ccd, cl, outer, A₀, base, h₀, L, m, s, Q, E
 intro v1 v2 hhe h1 h2 k1 k2
 refine exC (kS yN <| kS yN <| kS yN <| kS yN <| kS yN <| kO zeV) h1 ?_; clear h1; intro a1 t1 t2 t3 t4 w1 hZ; revert h2 hZ; revert v1 v2 a1 t1 t2 t3 t4 w1; exists hc, kS zeV <| kS zeV <| kS yN <| kS yN <| kS yN <| kS yN <| kS yN <| kO zeV, 1, v1, v2, a1, t1, t2, t3, t4, w1; intro h2 hZ; obtain ⟨rfl, m1, q1⟩ := hZ
 refine exC (kS yN <| kS yN <| kS yN <| kS yN <| kS yN <| kO zeV) h2 ?_; clear h2; intro a2 t5 t6 t7 t8 w2 hZ; revert hZ; revert a2 t5 t6 t7 t8 w2; exists hc, kS yN <| kS yN <| kS yN <| kS yN <| kS yN <| kO zeV, 2, a2, t5, t6, t7, t8, w2; intro hZ; obtain ⟨rfl, m2, q2⟩ := hZ
 obtain ⟨k11, k12, k13, k14, k15, k16⟩ := k1
 obtain ⟨k21, k22, k23, k24, k25, k26⟩ := k2
 unfold SpecL.at; intro B F X T hk hdp hun hHO hled hret
 (refine wpAny_call ?_; k_dflt (refine' enterM (binds := [(Str.ofString "target", .ref a1), (Str.ofString "source", .ref a2)]) ?k1z20 ?k2z20 ?kNz20 ?k3z20 ?k5z20 ?kAz20 ?kFz20 ?kKz20 ?k6z20 ?k7z20 ?k8z20 ?k9z20 ?kBz20 ?_ ?c5z20 ?c2z20 ?c3z20 ?c4z20; (case kAz20 => exact rfl); (case kFz20 => exact rfl); (case kKz20 => assumption); (case k1z20 => k_asm); (case k2z20 => k_asm); (case kNz20 => exact hled); (case k3z20 => k_asm); (case k5z20 => k_asm); (case k6z20 => k_is); (case k7z20 => k_is); (case k8z20 => ktr_room); (case k9z20 => exact BindsTo.of_eq rfl); (case c5z20 => decide); (case kBz20 => exact locs rfl); (case c2z20 => exact rfl); (case c3z20 => exact rfl); (case c4z20 => exact rfl); k_whole; intro g h' L' eL' keep F' N' B' X' T'; (try dsimp only); (try (refine fold2 ?_; intro qk ek hqk hek))))
 have H' : HOk g hh := hok_hide hHO keep hhe
 have N2 : News g L' h' ((a1, entO e1 t1 t2 t3 t4 w1) :: (a2, entO e2 t5 t6 t7 t8 w2) :: led) := List.forall_mem_cons.mpr ⟨N' _ m1, List.forall_mem_cons.mpr ⟨N' _ m2, N'⟩⟩
 clear N'
 revert eL' keep F' B' X' T' hqk hek H' N2; revert g h' L' qk ek; exists hc, kS yH <| kS yH <| kS yN <| kS (yF (yF yP)) <| kO (yF (yF yP)), 3, g, h', L', qk, ek; intro eL' keep F' B' X' T' hqk hek H' N2
 walk_at "ws"
 refine unpackN' (by k_asm) (by k_asm) H' (News.isTup (by k_asm) (.tail _ (.head _))) (by rfl) (by rfl) ?_
 intro h3 F3 N3
 revert F3 N3; revert tk h3; exists hc, kS yN <| kO yH, 4, tk, h3; intro F3 N3
 walk_at "ws"
 refine unpackN' (by k_asm) (by k_asm) H' (News.isTup (by k_asm) (.head _)) (by rfl) (by rfl) ?_
 intro h4 F4 N4
 rename_i zv1 zv2 zv3; revert zv2 zv3 F4 N4; revert zv1 tk h4; exists hc, kS yH <| kS yN <| kO yH, 5, zv1, tk, h4; intro _ _ F4 N4
 walk_at "ws"
 rename News _ _ _ _ => Nc
 rename Fr _ _ _ _ => Fc
 have Hc := H'.fr Fc
 ((try (refine ⟨?kinz21, ?_⟩; (case kinz21 => k_in))); k_dflt (refine' SpecL.use0 (addc_spec w mean mg mb hh w1 w2 led hhe e1.cs e2.cs q1 q2 k15 k25 k16 k26) ?k1z21 ?k2z21 ?k3z21 ?k4z21 ?k5z21 ?kKz21 ?kdz21 ?kuz21 ?kpz21 ?ksz21 ?_; (case k1z21 => k_asm); (case k2z21 => k_asm); (case k3z21 => k_asm); (case k4z21 => k_asm); (case k5z21 => k_asm); (case kKz21 => first | exact rfl | assumption); (case kdz21 => ktr_room); (case kuz21 => ktr_units); (case kpz21 => first | exact trivial | assumption); (case ksz21 => exact (fun p hp => .tail _ (.tail _ hp)))))
 intro r h9 tk9 e9 F9 N9 hr
 refine exC (kO yL) hr ?_; clear hr; intro mk hZ; rename_i zv2; revert Fc Nc Hc e9 F9 N9 hZ; revert zv2 tk r h9 tk9 mk; exists hc, kS yH <| kS yN <| kS zeV <| kS yH <| kS yN <| kO yL, 6, zv2, tk, r, h9, tk9, mk; intro Fc Nc Hc e9 F9 N9 hZ; obtain ⟨hmk, hcl⟩ := hZ
 replace N9 := hmk.news Fc N9
 have off : ∀ p ∈ mk, p.1 ∉ led.map (·.1) := fun p hp q => by
  have hZ := List.mem_map.mp q; refine exC (kO (zeP2 yN zeO)) hZ ?_; clear hZ; intro r hZ; revert hp q hZ; revert p r; exists hc, kS (zeP2 yN zeO) <| kO (zeP2 yN zeO), 7, p, r; intro hp q hZ; obtain ⟨hr, z⟩ := hZ
  have h1 := (hmk p hp).1
  have h2 := (Nc r (.tail _ (.tail _ hr))).1
  rw [z] at h2; rw [h2] at h1; cases h1
 clear Nc
 walk_at "ws"
 all_goals (try dsimp only)
 show Q _ _
 rename News _ _ _ _ => N8
 rename Fr _ _ _ _ => F8
 rename (∀ p ∈ mk ++ _, p.1 < _) => hlt
 exact hret _ _ _ (ext_of_led keep hled F8 N8 fun p hp _ => .tail _ (List.mem_append.mpr (.inr (.tail _ (.tail _ hp))))) (ent_made (h₀ := h₀) (L := L) keep N8 hlt (fun p hp => .tail _ (.tail _ hp)) off hcl)
end
section
local macro_rules | `(tactic| walk_at "own 0") => `(tactic| skip)
noncomputable def TabAt (w : World) (led : List (Addr × Obj)) (kvs : List (Str × Value)) (tb : List (Str × Ent)) : Prop := All2 (fun (p : Str × Ent) (q : Str × Value) => q.1 = p.1 ∧ EntAt w led q.2 p.2) tb kvs
noncomputable def zeroE : Ent := ⟨0, 0, 0, 0, []⟩
noncomputable def putT (tb : List (Str × Ent)) (nm : Str) (e : Ent) : List (Str × Ent) := if tb.any (fun p => decide (p.1 = nm)) then tb.map (fun p => if p.1 = nm then (p.1, addE p.2 e) else p) else tb ++ [(nm, addE zeroE e)]
theorem zero_ok : EntOk zeroE := by refine ⟨?_, ?_, ?_, ?_, ?_, ?_⟩ <;> first | decide | (intro p hp; cases hp)
theorem TabAt.mono {w : World} {led led' : List (Addr × Obj)} {kvs : List (Str × Value)} {tb : List (Str × Ent)} (h : TabAt w led kvs tb) (s : ∀ p ∈ led, p ∈ led') : TabAt w led' kvs tb := All2.mono (fun _ _ q => ⟨q.1, q.2.mono s⟩) h
theorem tb_keys {w : World} {led : List (Addr × Obj)} {kvs : List (Str × Value)} {tb : List (Str × Ent)} (h : TabAt w led kvs tb) : kvs.map (·.1) = tb.map (·.1) := by
 induction h with
 | nil => rfl
 | cons hpq _ ih => simp [hpq.1, ih]
theorem any_keys {α : Type} {k : Str} (l : List (Str × α)) : l.any (fun p => decide (p.1 = k)) = (l.map (·.1)).any (fun x => decide (x = k)) := by rw [List.any_map]; rfl
theorem tb_any {w : World} {led : List (Addr × Obj)} {kvs : List (Str × Value)} {tb : List (Str × Ent)} (h : TabAt w led kvs tb) (k : Str) : kvs.any (fun p => decide (p.1 = k)) = tb.any (fun p => decide (p.1 = k)) := by
 rw [any_keys, any_keys, tb_keys h]
theorem va_any {kvs : List (Str × Value)} {k : Str} : (valueAt kvs k).isSome = kvs.any (fun p => decide (p.1 = k)) := by
 unfold valueAt
 induction kvs with
 | nil => rfl
 | cons q r ih =>
  rw [List.find?_cons, List.any_cons]
  by_cases e : q.1 = k
  ·simp [e]
  ·simp only [e, decide_false, Bool.false_or]; exact ih
theorem tb_map {w : World} {led : List (Addr × Obj)} {kvs : List (Str × Value)} {tb : List (Str × Ent)} {k : Str} {v : Value} {f : Ent → Ent} (h : TabAt w led kvs tb) (hn : ∀ p ∈ tb, p.1 ≠ k) :
  TabAt w led (kvs.map fun kv => if kv.1 = k then (kv.1, v) else kv) (tb.map fun p => if p.1 = k then (p.1, f p.2) else p) := by
 induction h with
 | nil => exact .nil
 | @cons p q cs kvs hpq r ih =>
  have e := hn p (.head _)
  rw [List.map_cons, List.map_cons, if_neg e, if_neg (by rw [hpq.1]; exact e)]
  exact .cons hpq (ih fun x hx => hn x (.tail _ hx))
theorem tb_has {w : World} {led : List (Addr × Obj)} {kvs : List (Str × Value)} {tb : List (Str × Ent)} (h : TabAt w led kvs tb) {k : Str} {e : Ent} (hn : (kvs.map (·.1)).Nodup) (ha : tb.any (fun p => decide (p.1 = k)) = true) :
  ∃ old v, valueAt kvs k = some v ∧ (k, old) ∈ tb ∧ EntAt w led v old ∧ ∀ led' v', (∀ p ∈ led, p ∈ led') → EntAt w led' v' (addE old e) → TabAt w led' (stored kvs k v') (putT tb k e) := by
 have h' := h
 have key : ∃ old v, valueAt kvs k = some v ∧ (k, old) ∈ tb ∧ EntAt w led v old ∧ ∀ led' v', (∀ p ∈ led, p ∈ led') → EntAt w led' v' (addE old e) → TabAt w led' (kvs.map fun kv => if kv.1 = k then (kv.1, v') else kv) (tb.map fun p => if p.1 = k then (p.1, addE p.2 e) else p) := by
  unfold valueAt
  clear h'
  induction h with
  | nil => cases ha
  | @cons p q cs kvs hpq r ih =>
   obtain ⟨q1, q2⟩ := q
   obtain ⟨e1, e2⟩ := hpq
   dsimp only at e1 e2
   subst e1
   rw [List.map_cons, List.nodup_cons] at hn
   by_cases e : p.1 = k
   ·subst e
    refine (xi2 p.2 q2 ⟨by walk_at "ms", .head _, e2, fun led' v' sub hv => ?_⟩)
    rw [List.map_cons, List.map_cons, if_pos rfl, if_pos rfl]
    refine .cons ⟨rfl, hv⟩ (tb_map (f := fun o => addE o e) (TabAt.mono r sub) fun x hx z => hn.1 ?_)
    dsimp only
    rw [tb_keys r, ← z]; exact List.mem_map_of_mem hx
   ·simp only [List.any_cons, e, decide_false, Bool.false_or] at ha
    walk_at "cg"
    obtain ⟨old, v, a1, a2, a3, a4⟩ := ih hn.2 ha
    walk_at "bg"
    refine (xi2 old v ⟨?_, .tail _ a2, a3, fun led' v' sub hv => ?_⟩)
    ·rw [List.find?_cons]; simp only [e, decide_false]; exact a1
    ·rw [List.map_cons, List.map_cons, if_neg e, if_neg e]
     exact .cons ⟨rfl, e2.mono sub⟩ (a4 led' v' sub hv)
 walk_at "cg"
 obtain ⟨old, v, a1, a2, a3, a4⟩ := key
 walk_at "bg"
 refine (xi2 old v ⟨a1, a2, a3, fun led' v' sub hv => ?_⟩)
 unfold stored putT
 rw [tb_any h' k, ha]
 exact a4 led' v' sub hv
theorem tb_no {w : World} {led led' : List (Addr × Obj)} {kvs : List (Str × Value)} {tb : List (Str × Ent)} (h : TabAt w led kvs tb) (sub : ∀ p ∈ led, p ∈ led') {k : Str} {e : Ent} (ha : tb.any (fun p => decide (p.1 = k)) = false) :
  valueAt kvs k = none ∧ ∀ v', EntAt w led' v' (addE zeroE e) → TabAt w led' (stored kvs k v') (putT tb k e) := by
 refine ⟨?_, fun v' hv => ?_⟩
 ·have : (valueAt kvs k).isSome = false := by rw [va_any, tb_any h, ha]
  exact Option.not_isSome_iff_eq_none.mp (by simp [this])
 ·unfold stored putT
  rw [tb_any h k, ha]
  exact All2.append (TabAt.mono h sub) (.cons ⟨rfl, hv⟩ .nil)
theorem tb_get {w : World} {g h : Heap} {L D d : Addr} {u1 u2 u3 u4 : Tok} {od oT : Obj} {Ta : Addr} {tl : List (Addr × Obj)} {kvs : List (Str × Value)} {tb : List (Str × Ent)} {nm : Str} {e : Ent} (N : News g L h ((D, entO zeroE u1 u2 u3 u4 (.ref d)) :: (d, od) :: (Ta, oT) :: tl))
  (hT : TabAt w tl kvs tb) (hoT : oT.IsDictOf (sk w) kvs) (k1 : ∀ p ∈ tb, EntOk p.2) (hs0 : od.IsDictOf (sk w) []) (lo : (d == sysModules) = false) :
  ∃ x e1, valueAt kvs nm = x ∧ EntOk e1 ∧ EntAt w ((D, entO zeroE u1 u2 u3 u4 (.ref d)) :: (d, od) :: tl) (x.getD (.ref D)) e1 ∧ ∀ led' v', (∀ p ∈ tl, p ∈ led') → EntAt w led' v' (addE e1 e) → TabAt w led' (stored kvs nm v') (putT tb nm e) := by
 cases hany : tb.any (fun p => decide (p.1 = nm)) with
 | false => exact (xi2 none zeroE ⟨(tb_no (led' := tl) (e := e) hT (fun _ h => h) hany).1, zero_ok, ⟨_, _, _, _, _, _, rfl, .head _, _, _, [], rfl, .tail _ (.head _), lo, hs0, .nil⟩, fun led' v' sub hv => (tb_no hT sub hany).2 v' hv⟩)
 | true =>
  obtain ⟨old, v, a1, a2, a3, a4⟩ := tb_has (e := e) hT (let ⟨_, _, _, _, _, _, q⟩ := hoT; q) hany
  exact (xi2 (some v) old ⟨a1, k1 _ a2, a3.mono fun p hp => .tail _ (.tail _ hp), a4⟩)
theorem hhe_of {g h : Heap} {L : Addr} {hh : Option Value} {news : List (Addr × Obj)} (H : HOk g hh) (N : News g L h news) : ∀ x, hh = some (.ref x) → ∀ p ∈ news, p.1 ≠ x := by
 intro x hx p hp z
 subst hx
 walk_at "cg"
 obtain ⟨e, ob, vs, C, e1, h1, _⟩ := H
 walk_at "bg"
 cases e1
 have := (N p hp).2.2
 rw [z, h1] at this; cases this
theorem put_end {w : World} {h₀ h g h' : Heap} {L L' Ta : Addr} {oT o' : Obj} {tl mk : List (Addr × Obj)} {X Y : Addr × Obj} {kvs' : List (Str × Value)} {tb' : List (Str × Ent)} (keep : ∀ b o, h.get? b = some o → b ∉ ((Ta, oT) :: tl).map (·.1) → g.get? b = some o)
  (N : News g L' h' ((Ta, o') :: (mk ++ X :: Y :: tl))) (oX : ∀ q ∈ (Ta, oT) :: tl, X.1 ≠ q.1) (oY : ∀ q ∈ (Ta, oT) :: tl, Y.1 ≠ q.1) (ox : ∀ p ∈ mk, ∀ q ∈ (Ta, oT) :: tl, p.1 ≠ q.1)
  (ht : ∀ led', (∀ p ∈ tl, p ∈ led') → (∀ p ∈ mk ++ X :: Y :: tl, p ∈ led') → TabAt w led' kvs' tb') : ∃ mk', Made h h' mk' ∧ TabAt w (mk' ++ tl) kvs' tb' := by
 refine ⟨mk ++ [X, Y], made_led (h₀ := h₀) (L := L) keep N (fun p hp => ?_) (fun p hp q => ?_), ht _ (fun p hp => List.mem_append.mpr (.inr hp)) (fun p hp => ?_)⟩
 ·simp only [List.mem_append, List.mem_cons, List.not_mem_nil, or_false] at hp ⊢
  rcases hp with q | q | q
  ·exact .inr (.inl q)
  ·exact .inr (.inr (.inl q))
  ·exact .inr (.inr (.inr (.inl q)))
 ·obtain ⟨r, hr, z⟩ := List.mem_map.mp q
  simp only [List.mem_append, List.mem_cons, List.not_mem_nil, or_false] at hp
  rcases hp with q | rfl | rfl
  ·exact ox p q r hr z.symm
  ·exact oX r hr z.symm
  ·exact oY r hr z.symm
 ·simp only [List.mem_cons, List.mem_append, List.not_mem_nil, or_false] at hp ⊢
  rcases hp with q | q | q | q
  ·exact .inl (.inl q)
  ·exact .inl (.inr (.inl q))
  ·exact .inl (.inr (.inr q))
  ·exact .inr q
set_option maxRecDepth 100000 in
set_option maxHeartbeats 8000000 in
theorem put_spec : ∀ (w : World) (mean : ExcName → Option Value) (mg mb : Str → Option Value) (hh : Option Value) (Ta : Addr) (oT : Obj) (kvs : List (Str × Value)) (tb : List (Str × Ent)) (tl : List (Addr × Obj)) (nm : Str) (t : Tok) (ve : Value) (e : Ent) (hhe : ∀ x, hh = some (.ref x) → ∀ p ∈ (Ta, oT) :: tl, p.1 ≠ x) (lo : (Ta == sysModules) = false) (hoT : oT.IsDictOf (sk w) kvs) (hT : TabAt w tl kvs tb) (he : EntAt w tl ve e) (off : ∀ p ∈ tl, p.1 ≠ Ta) (hl : tb.length ≤ 100) (k1 : ∀ p ∈ tb, EntOk p.2) (k2 : EntOk e), SpecL w mean mg mb hh 3 50 219 [.ref Ta, .str nm t, ve] ((Ta, oT) :: tl) [Ta] (fun h h' r => r = .none ∧ ∃ oT' kvs' mk, h'.get? Ta = some oT' ∧ oT'.IsDictOf (sk w) kvs' ∧ Made h h' mk ∧ TabAt w (mk ++ tl) kvs' (putT tb nm e)) := by
 intro w mean mg mb hh Ta oT kvs tb tl nm t ve e hhe lo hoT hT he off hl k1 k2
 intro dp un gd cn cs a ccd cl outer A₀ base h₀ L m s Q E
 revert hhe lo hoT hT he off hl k1 k2
 show ∀ (hhe : ∀ x, hh = some (.ref x) → ∀ p ∈ (Ta, oT) :: tl, p.1 ≠ x) (lo : (Ta == sysModules) = false) (hoT : oT.IsDictOf (sk w) kvs) (hT : TabAt w tl kvs tb) (he : EntAt w tl ve e) (off : ∀ p ∈ tl, p.1 ≠ Ta) (hl : tb.length ≤ 100) (k1 : ∀ p ∈ tb, EntOk p.2) (k2 : EntOk e), SpecL.at w mean mg mb hh 3 50 219 [.ref Ta, .str nm t, ve] ((Ta, oT) :: tl) [Ta] (fun h h' r => r = .none ∧ ∃ oT' kvs' mk, h'.get? Ta = some oT' ∧ oT'.IsDictOf (sk w) kvs' ∧ Made h h' mk ∧ TabAt w (mk ++ tl) kvs' (putT tb nm e)) dp un gd cn cs a ccd cl outer A₀ base h₀ L m s Q E
 revert w mean mg mb hh Ta oT kvs tb tl nm t ve e dp un gd cn cs a ccd cl outer A₀ base h₀ L m s Q E
 exists hc, kS zeW <| kS (yF yT) <| kS (yF yT) <| kS (yF yT) <| kS yT <| kS yN <| kS zeO <| kS yL <| kS yL <| kS yL <| kS zeR <| kS yN <| kS zeV <| kS zeEnt <| kS yN <| kS yN <| kS yT <| kS zeR <| kS (inferInstanceAs (Nonempty Scope)) <| kS yN <| kS zeV <| kS yL <| kS yL <| kS zeA <| kS yH <| kS yH <| kS yN <| kS (yF yT) <| kS zeS <| kS (yF <| yF yP) <| kO (yF <| yF yP), 99, w, mean, mg, mb, hh, Ta, oT, kvs, tb, tl, nm, t, ve, e, dp, un, gd, cn, cs, a, ccd, cl, outer, A₀, base, h₀, L, m, s, Q, E
 intro hhe lo hoT hT he off hl k1 k2
 unfold SpecL.at; intro B F X T hk hdp hun hHO hled hret
 (refine wpAny_call ?_; k_dflt (refine' enterM (binds := [(Str.ofString "table", .ref Ta), (Str.ofString "name", .str nm t), (Str.ofString "entry", ve)]) ?k1z22 ?k2z22 ?kNz22 ?k3z22 ?k5z22 ?kAz22 ?kFz22 ?kKz22 ?k6z22 ?k7z22 ?k8z22 ?k9z22 ?kBz22 ?_ ?c5z22 ?c2z22 ?c3z22 ?c4z22; (case kAz22 => exact rfl); (case kFz22 => exact rfl); (case kKz22 => assumption); (case k1z22 => k_asm); (case k2z22 => k_asm); (case kNz22 => exact hled); (case k3z22 => k_asm); (case k5z22 => k_asm); (case k6z22 => k_is); (case k7z22 => k_is); (case k8z22 => ktr_room); (case k9z22 => exact BindsTo.of_eq rfl); (case c5z22 => decide); (case kBz22 => exact locs rfl); (case c2z22 => exact rfl); (case c3z22 => exact rfl); (case c4z22 => exact rfl); k_whole; intro g h' L' eL' keep F' N' B' X' T'; (try dsimp only); (try (refine fold2 ?_; intro qk ek hqk hek))))
 have H' : HOk g hh := hok_hide hHO keep hhe
 revert eL' keep F' N' B' X' T' hqk hek H'; revert g h' L' qk ek; exists hc, kS yH <| kS yH <| kS yN <| kS (yF (yF yP)) <| kO (yF (yF yP)), 1, g, h', L', qk, ek; intro eL' keep F' N' B' X' T' hqk hek H'
 walk_at "ws"
 show wpAny _ _ _ _ _ _
 rename News _ _ _ _ => N1
 rename Fr _ _ _ _ => F1
 rename Obj.IsDictOf (PySem.strKind PG w) _ [] => hs0
 have hZ := tb_get (nm := nm) (e := e) N1 hT hoT k1 hs0 (by assumption); refine exC (kS yT <| kO zeEnt) hZ ?_; clear hZ; intro x e1 hZ; rename_i zv1 _ zv2 zv5 _ zv6 _ zv7 zv3 zv4 zv8; revert zv5 hs0 zv6 zv7 F1 N1 zv8 hZ; revert tk zv1 zv2 zv3 zv4 x e1; exists hc, kS yN <| kS yN <| kS zeO <| kS yN <| kS yH <| kS yT <| kO zeEnt, 2, tk, zv1, zv2, zv3, zv4, x, e1; intro _ hs0 _ _ F1 N1 _ hZ; obtain ⟨hx, hok1, hent, hst⟩ := hZ
 refine kdg_get2 N1 (.tail _ (.tail _ (.head _))) hoT lo (strKind_is _ _ _ _) x hx ?_
 generalize x.getD _ = v1 at hent ⊢
 (revert v1; refine hold_pi ?_; set_option tactic.hygienic false in intros)
 revert hent; revert v1; exists ho, kO zeV, 3, v1; intro hent
 walk_at "ws"
 rename News _ _ _ _ => N2
 rename Fr _ _ _ _ => F2
 have Hc := H'.fr F2
 have sub2 : ∀ {a b c : Addr × Obj}, ∀ p ∈ a :: b :: tl, p ∈ a :: b :: c :: tl := fun p hp => by
  simp only [List.mem_cons] at hp ⊢
  rcases hp with q | q | q
  ·exact .inl q
  ·exact .inr (.inl q)
  ·exact .inr (.inr (.inr q))
 ((try (refine ⟨?kinz23, ?_⟩; (case kinz23 => k_in))); k_dflt (refine' SpecL.use0 (afs_spec w mean mg mb hh v1 ve _ (fun x hx p hp => hhe_of H' N2 x hx p (sub2 p hp)) e1 e hent (he.mono fun p hp => .tail _ (.tail _ hp)) hok1 k2) ?k1z23 ?k2z23 ?k3z23 ?k4z23 ?k5z23 ?kKz23 ?kdz23 ?kuz23 ?kpz23 ?ksz23 ?_; (case k1z23 => k_asm); (case k2z23 => k_asm); (case k3z23 => k_asm); (case k4z23 => k_asm); (case k5z23 => k_asm); (case kKz23 => first | exact rfl | assumption); (case kdz23 => ktr_room); (case kuz23 => ktr_units); (case kpz23 => first | exact trivial | assumption); (case ksz23 => exact sub2)))
 intro r h9 tk9 e9 F9 N9 hr
 obtain ⟨mk, hmk, hent2⟩ := hr
 have ox : ∀ p ∈ mk, ∀ q ∈ (_ :: _ :: (Ta, oT) :: tl), p.1 ≠ q.1 := fun p hp q hq z => by
  have h1 := (hmk p hp).1
  have h2 := (N2 q hq).1
  rw [← z] at h2; rw [h2] at h1; cases h1
 replace N9 := hmk.news F2 N9
 revert e9 F9 hmk hent2 ox N9; revert r h9 tk9 mk; exists hc, kS zeV <| kS yH <| kS yN <| kO yL, 4, r, h9, tk9, mk; intro e9 F9 hmk hent2 ox N9
 walk_at "ws"
 show wpAny _ _ _ _ _ _
 rename News _ _ _ _ => N8
 rename Fr _ _ _ _ => F8
 have N7 : News g L' _ ((Ta, oT) :: (mk ++ _ :: _ :: tl)) := fun p hp => N8 p (by
  simp only [List.mem_cons, List.mem_append] at hp ⊢
  rcases hp with q | q | q | q | q
  ·exact .inr (.inr (.inr (.inl q)))
  ·exact .inl q
  ·exact .inr (.inl q)
  ·exact .inr (.inr (.inl q))
  ·exact .inr (.inr (.inr (.inr q))))
 refine kda_set F8 N7 (UpdF.head (fun p hp => ?_)) hoT (strKind_is _ _ _ _) (Nat.le_trans (show kvs.length ≤ 100 by rw [← All2.length hT]; exact hl) (by decide)) (fun h' o' F5 N5 hd' => ?_)
 ·simp only [List.mem_cons, List.mem_append] at hp
  rcases hp with q | rfl | rfl | q
  ·exact ox p q (Ta, oT) (.tail _ (.tail _ (.head _)))
  ·k_ne
  ·k_ne
  ·exact off p q
 revert F5 N5 hd'; revert h' o'; exists hc, kS yH <| kO zeO, 5, h', o'; intro F5 N5 hd'
 walk_at "ws"
 all_goals (try dsimp only)
 show Q _ _
 rename News _ _ _ _ => N6
 rename Fr _ _ _ _ => F6
 rename (_ < _ ∧ _ < _ ∧ AllLt _ _) => lD
 rename (_ < _ ∧ AllLt _ _) => ld
 refine (fun q : ∃ mk', Made s.heap h' mk' ∧ TabAt w (mk' ++ tl) (stored kvs nm r) (putT tb nm e) => ?_) (put_end (h₀ := h₀) (L := L) keep N6 (fun q hq z => ?_) (fun q hq z => ?_) (fun p hp q hq => ox p hp q (.tail _ (.tail _ hq))) (fun led' s1 s2 => hst led' r s1 (hent2.mono s2)))
 ·obtain ⟨mk', hm', ht'⟩ := q
  refine hret _ _ _ (ext_of_led keep hled F6 N6 fun p hp hn => ?_) ⟨rfl, xi3 o' _ mk' ⟨N6.get (.head _), hd', hm', ht'⟩⟩
  rcases List.mem_cons.mp hp with rfl | hp
  ·exact absurd (List.mem_singleton.mpr rfl) hn
  ·exact .tail _ (List.mem_append.mpr (.inr (.tail _ (.tail _ hp))))
 ·rcases List.mem_cons.mp hq with rfl | hq
  ·try dsimp only at z; change @Eq Nat _ _ at z; exact oz10 lD.2.1 z
  ·have h1 := allLt_mem lD.2.2 q hq
   try dsimp only at z; change @Eq Nat _ _ at z; exact oz10 h1 z
 ·rcases List.mem_cons.mp hq with rfl | hq
  ·try dsimp only at z; change @Eq Nat _ _ at z; exact oz10 ld.1 z
  ·have h1 := allLt_mem ld.2 q hq
   try dsimp only at z; change @Eq Nat _ _ at z; exact oz10 h1 z
end
section
noncomputable def NagIn (h : Heap) (e : Addr) (n : Int) (msg y : Str) : Prop := ∃ dx ta tb od, h.get? e = some (nagO dx ta tb) ∧ h.get? dx = some od ∧ NagD n msg y od
theorem NagIn.inst {h : Heap} {e : Addr} {n : Int} {msg y : Str} (H : NagIn h e n msg y) : ∃ ox od, InstAt h e ox 115 (some od) ∧ NagD n msg y od := by
 walk_at "cg"
 obtain ⟨dx, ta, tb, od, h1, h2, h3⟩ := H
 walk_at "bg"
 exact (xi2 _ od ⟨⟨h1, rfl, rfl, h2⟩, h3⟩)
section
variable {w : World} {A : Around} {E : Value → Shared → Prop} {s : Shared} {e : Addr} {n : Int} {msg y : Str}
theorem nag_get {expr : Bool} {name : Str} {Q : Value → Shared → Prop} {P : Value → Prop} (X : (hd.heap_39 w.params).In s.heap) (H : NagIn s.heap e n msg y) (hP : ∀ t t2 t3 v, nagM n t msg t2 y t3 name = some v → P v ∧ handedIn v = true) (hn : ∀ t t2 t3, (nagM n t msg t2 y t3 name).isSome = true)
  (hf : findIn (hd.heap_39 w.params) (.ref 115) name = some none) (h : ∀ v tk, P v → Q v { s with toks := tk }) : wpAny (model PG w) A (getAttr (.ref e) name expr) Q E s := by
 walk_at "cg"
 obtain ⟨ox, od, I, es, ep, t, t2, t3, h1, h2, h3⟩ := H.inst
 walk_at "bg"
 obtain ⟨v, hv⟩ := Option.isSome_iff_exists.mp (hn t t2 t3)
 obtain ⟨p1, p2⟩ := hP t t2 t3 v hv
 refine exc_value X I (by k_is) (by k_is) (by k_is) (findObj_own (by k_is) hf (by k_is) (lookIn_of h1 h2 (by rw [h3]; exact hv))) p2 fun tk => h v tk p1
theorem nag_meth {name : Str} {f : Addr} {pl : Sem Bool} {Q : Value × List Value → Shared → Prop} (X : (hd.heap_39 w.params).In s.heap) (H : NagIn s.heap e n msg y) (hn : ∀ t t2 t3, nagM n t msg t2 y t3 name = none)
  (hf : findIn (hd.heap_39 w.params) (.ref 115) name = some (some (.ref f))) (ht : typeIn (hd.heap_39 w.params) (.ref f) = some (.type "function")) (h : Q (.ref f, [.ref e]) s) : wpAny (model PG w) A (getMethod (.ref e) name pl) Q E s := by
 walk_at "cg"
 obtain ⟨ox, od, I, es, ep, t, t2, t3, h1, h2, h3⟩ := H.inst
 walk_at "bg"
 refine exc_method X I (by k_is) (by k_is) hf ht ?_ h
 unfold shadowIn
 dsimp only
 rw [lookIn_of h1 h2 ((h3 name).trans (hn t t2 t3))]; rfl
end
theorem nagM_off {z : Str} (h1 : z ≠ Str.ofString "line") (h2 : z ≠ Str.ofString "msg") (h3 : z ≠ Str.ofString "lineno") {n : Int} {msg y : Str} : ∀ t t2 t3, nagM n t msg t2 y t3 z = none := fun t t2 t3 => by
 unfold nagM; rw [if_neg h1, if_neg h2, if_neg h3]
theorem off_gl {n : Int} {msg y : Str} : ∀ t t2 t3, nagM n t msg t2 y t3 (Str.ofString "get_line") = none := nagM_off (by decide +kernel) (by decide +kernel) (by decide +kernel)
theorem off_gn {n : Int} {msg y : Str} : ∀ t t2 t3, nagM n t msg t2 y t3 (Str.ofString "get_lineno") = none := nagM_off (by decide +kernel) (by decide +kernel) (by decide +kernel)
theorem off_gm {n : Int} {msg y : Str} : ∀ t t2 t3, nagM n t msg t2 y t3 (Str.ofString "get_msg") = none := nagM_off (by decide +kernel) (by decide +kernel) (by decide +kernel)
theorem on_gl {n : Int} {msg y : Str} : ∀ t t2 t3, nagM n t msg t2 y t3 (Str.ofString "line") = some (.str y t3) := fun _ _ _ => by unfold nagM; rw [if_pos rfl]
theorem on_gm {n : Int} {msg y : Str} : ∀ t t2 t3, nagM n t msg t2 y t3 (Str.ofString "msg") = some (.str msg t2) := fun _ _ _ => by
 unfold nagM; rw [if_neg (show Str.ofString "msg" ≠ Str.ofString "line" by decide +kernel), if_pos rfl]
theorem on_gn {n : Int} {msg y : Str} : ∀ t t2 t3, nagM n t msg t2 y t3 (Str.ofString "lineno") = some (.int n t) := fun _ _ _ => by
 unfold nagM; rw [if_neg (show Str.ofString "lineno" ≠ Str.ofString "line" by decide +kernel), if_neg (show Str.ofString "lineno" ≠ Str.ofString "msg" by decide +kernel), if_pos rfl]
variable (w : World) (mean : ExcName → Option Value) (mg mb : Str → Option Value)
theorem NagIn.ext {h h' : Heap} {e : Addr} {n : Int} {msg y : Str} (H : NagIn h e n msg y) (E : Ext h h') : NagIn h' e n msg y := by
 walk_at "cg"
 obtain ⟨dx, ta, tb, od, h1, h2, h3⟩ := H
 walk_at "bg"
 exact ⟨dx, ta, tb, od, E _ _ h1, E _ _ h2, h3⟩
set_option maxRecDepth 100000 in
set_option maxHeartbeats 1000000 in
theorem getline_spec (hh : Option Value) (e : Addr) (n : Int) (msg y : Str) : SpecN w mean mg mb hh 1 10 112 [.ref e] (fun h => NagIn h e n msg y) (fun _ _ r => ∃ t, r = .str y t) := by
 walk_at "ih"
 (refine wpAny_call ?_; k_dflt (refine' enterH (binds := [(Str.ofString "self", .ref e)]) ?k1z24 ?k2z24 ?k3z24 ?k5z24 ?kAz24 ?kFz24 ?kKz24 ?k6z24 ?k7z24 ?k8z24 ?k9z24 ?kBz24 ?_ ?c5z24 ?c2z24 ?c3z24 ?c4z24; (case kAz24 => exact rfl); (case kFz24 => exact rfl); (case kKz24 => assumption); (case k1z24 => k_asm); (case k2z24 => k_asm); (case k3z24 => k_asm); (case k5z24 => k_asm); (case k6z24 => k_is); (case k7z24 => k_is); (case k8z24 => ktr_room); (case k9z24 => exact BindsTo.of_eq rfl); (case c5z24 => decide); (case kBz24 => exact locs rfl); (case c2z24 => exact rfl); (case c3z24 => exact rfl); (case c4z24 => exact rfl); k_whole; intro h' L' eL' F' N' B' X' T'; (try dsimp only); (try (refine fold2 ?_; intro qk ek hqk hek))))
 have hpre' : NagIn h' e n msg y := hpre.ext F'.keep
 walk_at "ws"
 show wpAny _ _ _ _ _ _
 refine nag_get (n := n) (msg := msg) (y := y) (P := fun v => ∃ t, v = .str y t) (X'.keeps F'.keep) hpre' (fun t t2 t3 v hv => ?_) (fun t t2 t3 => by rw [on_gl]; rfl) (by k_is) (fun v tk hv => ?_)
 ·rw [on_gl] at hv; cases hv; exact ⟨⟨_, rfl⟩, rfl⟩
 ·obtain ⟨t, rfl⟩ := hv
  walk_at "ws"
  all_goals (try dsimp only)
  exact hret _ _ _ F'.keep ⟨t, rfl⟩
set_option maxRecDepth 100000 in
set_option maxHeartbeats 1000000 in
theorem getmsg_spec (hh : Option Value) (e : Addr) (n : Int) (msg y : Str) : SpecN w mean mg mb hh 1 10 105 [.ref e] (fun h => NagIn h e n msg y) (fun _ _ r => ∃ t, r = .str msg t) := by
 walk_at "ih"
 (refine wpAny_call ?_; k_dflt (refine' enterH (binds := [(Str.ofString "self", .ref e)]) ?k1z25 ?k2z25 ?k3z25 ?k5z25 ?kAz25 ?kFz25 ?kKz25 ?k6z25 ?k7z25 ?k8z25 ?k9z25 ?kBz25 ?_ ?c5z25 ?c2z25 ?c3z25 ?c4z25; (case kAz25 => exact rfl); (case kFz25 => exact rfl); (case kKz25 => assumption); (case k1z25 => k_asm); (case k2z25 => k_asm); (case k3z25 => k_asm); (case k5z25 => k_asm); (case k6z25 => k_is); (case k7z25 => k_is); (case k8z25 => ktr_room); (case k9z25 => exact BindsTo.of_eq rfl); (case c5z25 => decide); (case kBz25 => exact locs rfl); (case c2z25 => exact rfl); (case c3z25 => exact rfl); (case c4z25 => exact rfl); k_whole; intro h' L' eL' F' N' B' X' T'; (try dsimp only); (try (refine fold2 ?_; intro qk ek hqk hek))))
 have hpre' : NagIn h' e n msg y := hpre.ext F'.keep
 walk_at "ws"
 show wpAny _ _ _ _ _ _
 refine nag_get (n := n) (msg := msg) (y := y) (P := fun v => ∃ t, v = .str msg t) (X'.keeps F'.keep) hpre' (fun t t2 t3 v hv => ?_) (fun t t2 t3 => by rw [on_gm]; rfl) (by k_is) (fun v tk hv => ?_)
 ·rw [on_gm] at hv; cases hv; exact ⟨⟨_, rfl⟩, rfl⟩
 ·obtain ⟨t, rfl⟩ := hv
  walk_at "ws"
  all_goals (try dsimp only)
  exact hret _ _ _ F'.keep ⟨t, rfl⟩
set_option maxRecDepth 100000 in
set_option maxHeartbeats 1000000 in
theorem getno_spec (hh : Option Value) (e : Addr) (n : Int) (msg y : Str) : SpecN w mean mg mb hh 1 10 98 [.ref e] (fun h => NagIn h e n msg y) (fun _ _ r => ∃ t, r = .int n t) := by
 walk_at "ih"
 (refine wpAny_call ?_; k_dflt (refine' enterH (binds := [(Str.ofString "self", .ref e)]) ?k1z26 ?k2z26 ?k3z26 ?k5z26 ?kAz26 ?kFz26 ?kKz26 ?k6z26 ?k7z26 ?k8z26 ?k9z26 ?kBz26 ?_ ?c5z26 ?c2z26 ?c3z26 ?c4z26; (case kAz26 => exact rfl); (case kFz26 => exact rfl); (case kKz26 => assumption); (case k1z26 => k_asm); (case k2z26 => k_asm); (case k3z26 => k_asm); (case k5z26 => k_asm); (case k6z26 => k_is); (case k7z26 => k_is); (case k8z26 => ktr_room); (case k9z26 => exact BindsTo.of_eq rfl); (case c5z26 => decide); (case kBz26 => exact locs rfl); (case c2z26 => exact rfl); (case c3z26 => exact rfl); (case c4z26 => exact rfl); k_whole; intro h' L' eL' F' N' B' X' T'; (try dsimp only); (try (refine fold2 ?_; intro qk ek hqk hek))))
 have hpre' : NagIn h' e n msg y := hpre.ext F'.keep
 walk_at "ws"
 show wpAny _ _ _ _ _ _
 refine nag_get (n := n) (msg := msg) (y := y) (P := fun v => ∃ t, v = .int n t) (X'.keeps F'.keep) hpre' (fun t t2 t3 v hv => ?_) (fun t t2 t3 => by rw [on_gn]; rfl) (by k_is) (fun v tk hv => ?_)
 ·rw [on_gn] at hv; cases hv; exact ⟨⟨_, rfl⟩, rfl⟩
 ·obtain ⟨t, rfl⟩ := hv
  walk_at "ws"
  all_goals (try dsimp only)
  exact hret _ _ _ F'.keep ⟨t, rfl⟩
end
section
set_option maxRecDepth 100000
theorem zePg : Nonempty Program := ⟨PG⟩
set_option maxHeartbeats 4000000 in
theorem mod_brace {w : World} {A : Around} {E : Value → Shared → Prop} {s : Shared} {h₀ : Heap} {L : Addr} {m : Str → Option Value} {news : List (Addr × Obj)} {y : Str} {t u : Tok} {Q : Value → Shared → Prop}
  (X : (hd.heap_39 w.params).In h₀) (F : Fr h₀ L s.heap m) (N : News h₀ L s.heap news) (hy : y.length ≤ 1000) (h : ∀ t' k, Q (.str (Str.ofString "{" ++ y ++ Str.ofString "}") t') { s with toks := k }) :
  wpAny (model PG w) A (binaryOp .Mod (.str (Str.ofString "{%s}") t) (.str y u)) Q E s := by
 refine' KPc.mod_str (T := fun z => Str.ofString "{" ++ z ++ Str.ofString "}") ?kpcF ?kpcl ?kpcm ?_
 case kpcF => kpc_eq
 case kpcl => exact Nat.le_trans hy (by decide)
 case kpcm =>
  clear X F N hy h
  intro y hy
  apply KPc.meets_of
  intro prog w A s Q E kx
  revert hy kx; revert t u y prog w A s Q E; exists hc, kS yN <| kS yN <| kS zeR <| kS zePg <| kS zeW <| kS zeA <| kS zeS <| kS (yF (yF yP)) <| kO (yF (yF yP)), 1, t, u, y, prog, w, A, s, Q, E; intro hy kx
  rw [KPc.entry_is_s]
  unfold Builtin.Str.percentFormat
  refine wpAny_bind (wpAny_isInstance (typeIs_str _ _ _) F.sub_str_tuple ?_)
  refine wpAny_bind (wpAny_of_eq (a := some _) rfl ?_)
  refine wpAny_bind (KPc.wp_fills_str ?_)
  intro _
  kpc_loop
 exact h
set_option maxHeartbeats 4000000 in
theorem mod_line0 {w : World} {A : Around} {E : Value → Shared → Prop} {s : Shared} {h₁ h₀ : Heap} {L : Addr} {news : List (Addr × Obj)} {x y : Str} {n : Int} {t t1 t2 t3 : Tok} {b : Addr} {k : Nat} {Q : Value → Shared → Prop}
  (X : (hd.heap_39 w.params).In h₁) (N : News h₀ L s.heap ((b, { cls := .type "tuple", data := .seq #[.str x t1, .int n t2, .str y t3] k }) :: news)) (hx : x.length ≤ 1000) (hy : y.length ≤ 1000) (hn0 : 0 ≤ n) (hn1 : n ≤ 10)
  (h : ∀ t' k, Q (.str (x ++ Str.ofString ":" ++ Str.ofString (toString n) ++ Str.ofString "(" ++ y ++ Str.ofString ")") t') { s with toks := k }) :
  wpAny (model PG w) A (binaryOp .Mod (.str (Str.ofString "%s:%d(%s)") t) (.ref b)) Q E s := by
 refine' KPt.mod_tuple N (.head _) ?kptF ?kptm h
 case kptF => kpt_eq
 case kptm =>
  clear X N h
  apply KPt.meets_tup
  intro prog w A s Q E kptH kx
  revert hx hy hn0 hn1 kptH kx; revert x y n t t1 t2 t3 b prog w A s Q E; exists hc, kS zeR <| kS zeR <| kS zeI <| kS yN <| kS yN <| kS yN <| kS yN <| kS yN <| kS zePg <| kS zeW <| kS zeA <| kS zeS <| kS (yF (yF yP)) <| kO (yF (yF yP)), 2, x, y, n, t, t1, t2, t3, b, prog, w, A, s, Q, E; intro hx hy hn0 hn1 kptH kx
  obtain ⟨kptO, kptG, kptC, kptN, kptD⟩ := kptH
  rw [KPt.entry_is_r]
  unfold Builtin.Str.percentFormat
  refine wpAny_bind (wpAny_isInstance (T := "tuple") ⟨kptO, kptG, kptC⟩ KPt.sub_tt ?_)
  refine wpAny_bind (KPt.asStr_ref kptG kptD ?_)
  refine wpAny_bind (KPt.fills_ref ⟨kptO, kptG, kptC⟩ ?_)
  intro _
  kpc_if
  refine wpAny_bind (wpAny_seqItems kptG kptD ?_)
  refine wpAny_bind (wpAny_pure ?_)
  refine wpAny_bind ?_
  rw [KPc.range_list]
  refine KPc.start ?_
  intro _ _
  kpt_turns
theorem mod_line {w : World} {A : Around} {E : Value → Shared → Prop} {s : Shared} {h₁ : Heap} {x y : Str} {n : Int} {t t1 t2 t3 : Tok} {b : Addr} {k : Nat} {Q : Value → Shared → Prop}
  (X : (hd.heap_39 w.params).In h₁) (hb : s.heap.get? b = some { cls := .type "tuple", data := .seq #[.str x t1, .int n t2, .str y t3] k }) (hx : x.length ≤ 1000) (hy : y.length ≤ 1000) (hn0 : 0 ≤ n) (hn1 : n ≤ 10)
  (h : ∀ t' k, Q (.str (x ++ Str.ofString ":" ++ Str.ofString (toString n) ++ Str.ofString "(" ++ y ++ Str.ofString ")") t') { s with toks := k }) :
  wpAny (model PG w) A (binaryOp .Mod (.str (Str.ofString "%s:%d(%s)") t) (.ref b)) Q E s :=
 mod_line0 (h₀ := {}) (L := b + 1) (news := []) X (fun p hp => by
  rcases List.mem_cons.mp hp with rfl | hp
  ·exact ⟨hb, Nat.ne_of_lt (Nat.lt_succ_self _), rfl⟩
  ·cases hp) hx hy hn0 hn1 h
end
section
noncomputable def stdS (x : Str) (n : Int) (y : Str) : Str :=
 if (x == Str.ofString "~" && n == 0) = true then (if Txt.startswith y (Str.ofString "<") = true then (if Txt.endswith y (Str.ofString ">") = true then Str.ofString "{" ++ Txt.slice y (some 1) (some (-1)) ++ Str.ofString "}" else y) else y)
 else x ++ Str.ofString ":" ++ Str.ofString (toString n) ++ Str.ofString "(" ++ y ++ Str.ofString ")"
section
variable {x y : Str} {n : Int}
theorem st1 (h1 : (x == Str.ofString "~" && n == 0) = true) (h2 : Txt.startswith y (Str.ofString "<") = true) (h3 : Txt.endswith y (Str.ofString ">") = true) : Str.ofString "{" ++ Txt.slice y (some 1) (some (-1)) ++ Str.ofString "}" = stdS x n y := by
 unfold stdS; rw [if_pos h1, if_pos h2, if_pos h3]
theorem st2 (h1 : (x == Str.ofString "~" && n == 0) = true) (h2 : Txt.startswith y (Str.ofString "<") = true) (h3 : ¬ Txt.endswith y (Str.ofString ">") = true) : y = stdS x n y := by
 unfold stdS; rw [if_pos h1, if_pos h2, if_neg h3]
theorem st3 (h1 : (x == Str.ofString "~" && n == 0) = true) (h2 : ¬ Txt.startswith y (Str.ofString "<") = true) : y = stdS x n y := by
 unfold stdS; rw [if_pos h1, if_neg h2]
theorem st4 (h1 : ¬ (x == Str.ofString "~" && n == 0) = true) : x ++ Str.ofString ":" ++ Str.ofString (toString n) ++ Str.ofString "(" ++ y ++ Str.ofString ")" = stdS x n y := by
 unfold stdS; rw [if_neg h1]
end
local macro_rules | `(tactic| walk_at "compareOp Eq ref ref") => `(tactic| (refine eq_pair (News.isTup (by k_asm) (.tail _ (.head _))) (News.isTup (by k_asm) (.head _)) (by ktr_units) ?_))
local macro_rules | `(tactic| walk_at "binaryOp Mod str str") => `(tactic| (refine mod_brace (by k_asm) (by k_asm) (by k_asm) ?_ ?_ ; rotate_left; intro t' k'))
set_option maxRecDepth 100000 in
set_option maxHeartbeats 8000000 in
theorem std_spec : ∀ (w : World) (mean : ExcName → Option Value) (mg mb : Str → Option Value) (hh : Option Value) (x y : Str) (t t2 t3 : Tok) (n : Int) (az : Addr) (kz : Nat) (hx : x.length ≤ 20) (hy : y.length ≤ 200) (hn0 : 0 ≤ n) (hn1 : n ≤ 10) (hsl : (Txt.slice y (some 1) (some (-1))).length ≤ 1000), SpecN w mean mg mb hh 2 20 56 [.ref az] (fun h => h.get? az = some { cls := .type "tuple", data := .seq #[.str x t, .int n t2, .str y t3] kz }) (fun _ _ r => ∃ t, r = .str (stdS x n y) t) := by
 intro w mean mg mb hh x y t t2 t3 n az kz hx hy hn0 hn1 hsl
 intro dp un gd cn cs a ccd cl outer A₀ base h₀ L m s Q E
 revert hx hy hn0 hn1 hsl
 show ∀ (hx : x.length ≤ 20) (hy : y.length ≤ 200) (hn0 : 0 ≤ n) (hn1 : n ≤ 10) (hsl : (Txt.slice y (some 1) (some (-1))).length ≤ 1000), SpecN.at w mean mg mb hh 2 20 56 [.ref az] (fun h => h.get? az = some { cls := .type "tuple", data := .seq #[.str x t, .int n t2, .str y t3] kz }) (fun _ _ r => ∃ t, r = .str (stdS x n y) t) dp un gd cn cs a ccd cl outer A₀ base h₀ L m s Q E
 revert w mean mg mb hh x y t t2 t3 n az kz dp un gd cn cs a ccd cl outer A₀ base h₀ L m s Q E
 exists hc, kS zeW <| kS (yF yT) <| kS (yF yT) <| kS (yF yT) <| kS yT <| kS zeR <| kS zeR <| kS yN <| kS yN <| kS yN <| kS zeI <| kS yN <| kS yN <| kS yN <| kS yN <| kS yT <| kS zeR <| kS (inferInstanceAs (Nonempty Scope)) <| kS yN <| kS zeV <| kS yL <| kS yL <| kS zeA <| kS yH <| kS yH <| kS yN <| kS (yF yT) <| kS zeS <| kS (yF <| yF yP) <| kO (yF <| yF yP), 99, w, mean, mg, mb, hh, x, y, t, t2, t3, n, az, kz, dp, un, gd, cn, cs, a, ccd, cl, outer, A₀, base, h₀, L, m, s, Q, E
 intro hx hy hn0 hn1 hsl
 unfold SpecN.at; intro B F X T hk hdp hun hpre hret
 (refine wpAny_call ?_; k_dflt (refine' enterH (binds := [(Str.ofString "func_name", .ref az)]) ?k1z27 ?k2z27 ?k3z27 ?k5z27 ?kAz27 ?kFz27 ?kKz27 ?k6z27 ?k7z27 ?k8z27 ?k9z27 ?kBz27 ?_ ?c5z27 ?c2z27 ?c3z27 ?c4z27; (case kAz27 => exact rfl); (case kFz27 => exact rfl); (case kKz27 => assumption); (case k1z27 => k_asm); (case k2z27 => k_asm); (case k3z27 => k_asm); (case k5z27 => k_asm); (case k6z27 => k_is); (case k7z27 => k_is); (case k8z27 => ktr_room); (case k9z27 => exact BindsTo.of_eq rfl); (case c5z27 => decide); (case kBz27 => exact locs rfl); (case c2z27 => exact rfl); (case c3z27 => exact rfl); (case c4z27 => exact rfl); k_whole; intro h' L' eL' F' N' B' X' T'; (try dsimp only); (try (refine fold2 ?_; intro qk ek hqk hek))))
 revert eL' F' N' hqk hek; revert h' L' qk ek; exists hc, kS yH <| kS yN <| kS (yF (yF yP)) <| kO (yF (yF yP)), 1, h', L', qk, ek; intro eL' F' N' hqk hek
 walk_at "ws"
 rename News _ _ _ _ => N2
 rename Fr _ _ _ _ => F2
 have hpt : IsTup s.heap az #[.str x t, .int n t2, .str y t3] := ⟨_, hpre, rfl, _, rfl⟩
 refine slice_tuple_upto (b := 2) F2 N2 (hpt.keeps F2.keep) (show 2 < 3 by decide) ?_
 intro h' F' N'
 replace N' : News _ _ _ ((_, { cls := Value.type "tuple", data := .seq #[.str x t, .int n t2] }) :: _) := N'
 clear N2 F2
 revert F' N'; revert tk h'; exists hc, kS yN <| kO yH, 2, tk, h'; intro F' N'
 walk_at "ws"
 split
 ·rename_i zv1 zv2 zv3 zv4 zv5 _; revert zv3 zv4 zv5; revert zv1 zv2; exists hc, kS yN <| kO yH, 3, zv1, zv2; intro _ _ _
  walk_at "wp"
  all_goals (try exact hsl)
  all_goals (try dsimp only)
  all_goals (refine hret _ _ _ (Fr.keep (by assumption)) ⟨_, congrArg (Value.str · _) ?_⟩)
  all_goals first
   | with_reducible exact st1 (by assumption) (by assumption) (by assumption)
   | with_reducible exact st2 (by assumption) (by assumption) (by assumption)
   | with_reducible exact st3 (by assumption) (by assumption)
   | exact absurd (show false = true by assumption) (by decide)
   | exact absurd rfl (show ¬ true = true by assumption)
 ·rename_i zv1 zv2 zv3 zv4 zv5 _; revert zv3 zv4 zv5; revert zv1 zv2; exists hc, kS yN <| kO yH, 4, zv1, zv2; intro _ _ _
  walk_at "ws"
  refine mod_line (by k_asm) (Fr.keep (by k_asm) _ _ hpre) (by omega) (by omega) (by omega) (by omega) ?_
  intro t' k'
  revert tk t' k'; exists hc, kS yN <| kS yN <| kO yN, 5, tk, t', k'
  walk_at "ws"
  all_goals (try dsimp only)
  all_goals (refine hret _ _ _ (Fr.keep (by assumption)) ⟨_, congrArg (Value.str · _) ?_⟩)
  with_reducible exact st4 (by assumption)
end
section
theorem caught_led {g hb h7 h8 h9 : Heap} {L L' e dx ta Tt T8 : Addr} {oL od : Obj} {sl : Array (Option Value)} {ps ps2 : Array Value} {A B : List (Addr × Obj)} {n : Int} {msg y : Str}
  (N : News g L' hb (A ++ (L, { oL with slots := sl }) :: (186, tabO ps) :: B)) (x7 : ExtF [186] [L', L] hb h7) (fly : Fly h7 e dx ta Tt .none) (hdx : h7.get? dx = some od) (hnag : NagD n msg y od) (h186 : h7.get? 186 = some (tabO ps2))
  (n1 : hb.get? e = none) (n2 : hb.get? dx = none) (n3 : hb.get? Tt = none) (x8 : ExtF [e, Tt] [L', L] h7 h8) (fly8 : Fly h8 e dx ta T8 .none) (sb : Heap.SameBut L' h8 h9) (hL' : ∃ o, hb.get? L' = some o)
  (d6 : ∀ p ∈ A ++ B, p.1 ≠ 186) (dL : ∀ p ∈ A ++ B, p.1 ≠ L) (nL6 : @Ne Nat L 186) (hg : ∀ b, hb.get? b = none → g.get? b = none) :
  ∃ sl', News g L' h9 ((e, nagO dx ta (.ref T8)) :: (dx, od) :: (A ++ (L, { oL with slots := sl' }) :: (186, tabO ps2) :: B)) := by
 have mA : ∀ p ∈ A ++ B, p ∈ A ++ (L, ({ oL with slots := sl } : Obj)) :: (186, tabO ps) :: B := fun p hp => by
  rcases List.mem_append.mp hp with q | q
  ·exact List.mem_append.mpr (.inl q)
  ·exact List.mem_append.mpr (.inr (.tail _ (.tail _ q)))
 have NL := N (L, { oL with slots := sl }) (List.mem_append.mpr (.inr (.head _)))
 have N6 := N (186, tabO ps) (List.mem_append.mpr (.inr (.tail _ (.head _))))
 dsimp only at NL N6
 have neN : ∀ b o, hb.get? b = some o → b ≠ e ∧ b ≠ dx ∧ b ≠ Tt := fun b o q => ⟨fun z => (by rw [z, n1] at q; cases q), fun z => (by rw [z, n2] at q; cases q), fun z => (by rw [z, n3] at q; cases q)⟩
 have neL' : e ≠ L' ∧ dx ≠ L' ∧ Tt ≠ L' := by
  obtain ⟨o, q⟩ := hL'
  have := neN _ _ q
  exact ⟨this.1.symm, this.2.1.symm, this.2.2.symm⟩
 have neL := neN _ _ NL.1
 have dne : dx ≠ e := fun z => by
  have h1 := fly.at_
  rw [← z, hdx] at h1
  obtain ⟨es, ep, _, _, _, q, _⟩ := hnag
  cases h1; cases q
 have dnT : dx ≠ Tt := fun z => by
  obtain ⟨oT, ts, h1, h2, _⟩ := fly.t
  rw [← z, hdx] at h1
  obtain ⟨es, ep, _, _, _, q, _⟩ := hnag
  cases h1; rw [q] at h2; cases h2
 have up8 : ∀ b o, b ≠ e → b ≠ Tt → b ≠ L' → b ≠ L → h7.get? b = some o → h9.get? b = some o := fun b o h1 h2 h3 h4 q =>
  (sb.2 b h3).trans ((x8 b o (by simp [h1, h2]) q).1 (by simp [h3, h4]))
 obtain ⟨_, sl7, e7⟩ := x7 L _ (by simpa using nL6) NL.1
 obtain ⟨_, sl8, e8⟩ := x8 L _ (fun q => by
  simp only [List.mem_cons, List.not_mem_nil, or_false] at q
  exact q.elim neL.1 neL.2.2) e7
 refine ⟨sl8, fun p hp => ?_⟩
 simp only [List.mem_cons, List.mem_append] at hp
 have rest : ∀ p ∈ A ++ B, h9.get? p.1 = some p.2 ∧ p.1 ≠ L' ∧ g.get? p.1 = none := fun p hp => by
  have q := N p (mA p hp)
  have ne := neN _ _ q.1
  exact ⟨up8 _ _ ne.1 ne.2.2 q.2.1 (dL p hp) ((x7 _ _ (by simpa using d6 p hp) q.1).1 (by simp [q.2.1, dL p hp])), q.2⟩
 rcases hp with rfl | rfl | q | rfl | rfl | q
 ·exact ⟨(sb.2 e neL'.1).trans fly8.at_, neL'.1, hg _ n1⟩
 ·exact ⟨up8 dx od dne dnT neL'.2.1 neL.2.1.symm hdx, neL'.2.1, hg _ n2⟩
 ·exact rest p (List.mem_append.mpr (.inl q))
 ·exact ⟨(sb.2 L NL.2.1).trans e8, NL.2⟩
 ·exact ⟨up8 186 _ (neN _ _ N6.1).1 (neN _ _ N6.1).2.2 N6.2.1 (fun z => nL6 z.symm) h186, N6.2⟩
 ·exact rest p (List.mem_append.mpr (.inr q))
end
section
noncomputable def EntB (k : Nat) (e : Ent) : Prop := (0 ≤ e.c ∧ e.c ≤ k) ∧ (0 ≤ e.n ∧ e.n ≤ 2 * (k : Int)) ∧ (0 ≤ e.t ∧ e.t ≤ 20 * (k : Int)) ∧ (0 ≤ e.u ∧ e.u ≤ 20 * (k : Int)) ∧ e.cs.length ≤ k ∧ (∀ p ∈ e.cs, 0 ≤ p.2) ∧ (e.cs.map (·.2)).sum ≤ k ∧ (e.cs.map (·.1)).Nodup
theorem sum_ge {cs : List (Str × Int)} (h : ∀ p ∈ cs, 0 ≤ p.2) : 0 ≤ (cs.map (·.2)).sum ∧ ∀ p ∈ cs, p.2 ≤ (cs.map (·.2)).sum := by
 induction cs with
 | nil => exact ⟨Int.le_refl _, fun p hp => nomatch hp⟩
 | cons q r ih =>
  obtain ⟨h1, h2⟩ := ih fun p hp => h p (.tail _ hp)
  have h0 := h q (.head _)
  simp only [List.map_cons, List.sum_cons]
  refine ⟨by lia, fun p hp => ?_⟩
  rcases List.mem_cons.mp hp with rfl | hp
  ·lia
  ·have := h2 p hp; lia
theorem EntB.ok {k : Nat} {e : Ent} (h : EntB k e) (hk : k ≤ 44) : EntOk e := by
 obtain ⟨h1, h2, h3, h4, h5, h6, h7, _⟩ := h
 refine ⟨by lia, by lia, by lia, by lia, by lia, fun p hp => ⟨h6 p hp, ?_⟩⟩
 have := (sum_ge h6).2 p hp
 lia
theorem putC_keys (cs : List (Str × Int)) (k : Str) (n : Int) : (putC cs k n).map (·.1) = if cs.any (fun p => decide (p.1 = k)) = true then cs.map (·.1) else cs.map (·.1) ++ [k] := by
 unfold putC
 split
 ·rw [List.map_map]
  refine List.map_congr_left fun p _ => ?_
  simp only [Function.comp]; split <;> rfl
 ·simp
theorem putC_nodup {cs : List (Str × Int)} {k : Str} {n : Int} (h : (cs.map (·.1)).Nodup) : ((putC cs k n).map (·.1)).Nodup := by
 rw [putC_keys]
 split
 ·exact h
 ·rename_i hn
  refine List.nodup_append.mpr ⟨h, by walk_at "ms", fun a ha b hb z => hn ?_⟩
  rw [List.mem_singleton.mp hb] at z
  obtain ⟨p, hp, e⟩ := List.mem_map.mp ha
  exact List.any_eq_true.mpr ⟨p, hp, by simp [e, z]⟩
theorem map_sum_off {cs : List (Str × Int)} {k : Str} {n : Int} (h : ∀ p ∈ cs, p.1 ≠ k) : cs.map (fun p => if p.1 = k then (p.1, p.2 + n) else p) = cs := by
 have : ∀ p ∈ cs, (fun p : Str × Int => if p.1 = k then (p.1, p.2 + n) else p) p = p := fun p hp => if_neg (h p hp)
 rw [List.map_congr_left this, List.map_id']
theorem putC_sum {cs : List (Str × Int)} {k : Str} {n : Int} (h : (cs.map (·.1)).Nodup) : ((putC cs k n).map (·.2)).sum = (cs.map (·.2)).sum + n := by
 unfold putC
 split
 ·rename_i ha
  induction cs with
  | nil => cases ha
  | cons q r ih =>
   rw [List.map_cons, List.nodup_cons] at h
   by_cases e : q.1 = k
   ·have off : ∀ p ∈ r, p.1 ≠ k := fun p hp z => h.1 (by rw [e, ← z]; exact List.mem_map_of_mem hp)
    simp only [List.map_cons, List.sum_cons, if_pos e, map_sum_off off]
    lia
   ·simp only [List.any_cons, e, decide_false, Bool.false_or] at ha
    simp only [List.map_cons, List.sum_cons, if_neg e, ih h.2 ha]
    lia
 ·simp
theorem putC_nonneg {cs : List (Str × Int)} {k : Str} {n : Int} (h : ∀ p ∈ cs, 0 ≤ p.2) (hn : 0 ≤ n) : ∀ p ∈ putC cs k n, 0 ≤ p.2 := by
 intro p hp
 unfold putC at hp
 split at hp
 ·obtain ⟨q, hq, rfl⟩ := List.mem_map.mp hp
  have := h q hq
  split <;> (try dsimp only) <;> lia
 ·rcases List.mem_append.mp hp with q | q
  ·exact h p q
  ·rw [List.mem_singleton.mp q]; exact hn
theorem addC_all {ds : List (Str × Int)} : ∀ {cs : List (Str × Int)}, (cs.map (·.1)).Nodup → (∀ p ∈ cs, 0 ≤ p.2) → (∀ p ∈ ds, 0 ≤ p.2) →
  ((addC cs ds).map (·.1)).Nodup ∧ (∀ p ∈ addC cs ds, 0 ≤ p.2) ∧ ((addC cs ds).map (·.2)).sum = (cs.map (·.2)).sum + (ds.map (·.2)).sum ∧ (addC cs ds).length ≤ cs.length + ds.length := by
 induction ds with
 | nil => intro cs h1 h2 _; exact ⟨h1, h2, by simp [addC], Nat.le_refl _⟩
 | cons q r ih =>
  intro cs h1 h2 h3
  obtain ⟨a1, a2, a3, a4⟩ := ih (cs := putC cs q.1 q.2) (putC_nodup h1) (putC_nonneg h2 (h3 q (.head _))) fun p hp => h3 p (.tail _ hp)
  have e : addC cs (q :: r) = addC (putC cs q.1 q.2) r := rfl
  rw [e]
  refine ⟨a1, a2, ?_, ?_⟩
  ·rw [a3, putC_sum h1, List.map_cons, List.sum_cons]; lia
  ·have := putC_len cs q.1 q.2; rw [List.length_cons]; lia
theorem addE_b {a b : Nat} {x y : Ent} (hx : EntB a x) (hy : EntB b y) : EntB (a + b) (addE x y) := by
 obtain ⟨x1, x2, x3, x4, x5, x6, x7, x8⟩ := hx
 obtain ⟨y1, y2, y3, y4, y5, y6, y7, _⟩ := hy
 obtain ⟨a1, a2, a3, a4⟩ := addC_all x8 x6 y6
 unfold addE
 exact ⟨by dsimp only; lia, by dsimp only; lia, by dsimp only; lia, by dsimp only; lia, by dsimp only; lia, a2, by dsimp only; lia, a1⟩
theorem EntB.mono {a b : Nat} {e : Ent} (h : EntB a e) (k : a ≤ b) : EntB b e := by
 obtain ⟨h1, h2, h3, h4, h5, h6, h7, h8⟩ := h
 exact ⟨by lia, by lia, by lia, by lia, by lia, h6, by lia, h8⟩
theorem zero_b : EntB 0 zeroE := by
 refine ⟨by decide, by decide, by decide, by decide, Nat.le_refl _, fun p (hp : p ∈ []) => (nomatch hp), by decide, List.Pairwise.nil⟩
noncomputable def TbB (k : Nat) (tb : List (Str × Ent)) : Prop := tb.length ≤ k ∧ ∀ p ∈ tb, EntB k p.2
theorem TbB.mono {a b : Nat} {tb : List (Str × Ent)} (h : TbB a tb) (k : a ≤ b) : TbB b tb := ⟨Nat.le_trans h.1 k, fun p hp => (h.2 p hp).mono k⟩
theorem putT_b {a b : Nat} {tb : List (Str × Ent)} {nm : Str} {e : Ent} (h : TbB a tb) (he : EntB b e) (hb : 1 ≤ b) : TbB (a + b) (putT tb nm e) := by
 unfold putT
 split
 ·refine ⟨by rw [List.length_map]; exact Nat.le_trans h.1 (Nat.le_add_right _ _), fun p hp => ?_⟩
  obtain ⟨q, hq, rfl⟩ := List.mem_map.mp hp
  split
  ·exact addE_b (h.2 q hq) he
  ·exact (h.2 q hq).mono (Nat.le_add_right _ _)
 ·refine ⟨by rw [List.length_append, List.length_singleton]; have := h.1; lia, fun p hp => ?_⟩
  rcases List.mem_append.mp hp with q | q
  ·exact (h.2 p q).mono (Nat.le_add_right _ _)
  ·rw [List.mem_singleton.mp q]
   exact (addE_b zero_b he).mono (by lia)
end
section
noncomputable abbrev Lin := Str × Int × Bool
noncomputable def markS (x : Str) : Str := x ++ Str.ofString "~"
noncomputable def fileMsg (x y : Str) (d : Bool) : Str := dressS d (wordsS (lookW x y))
noncomputable def fileName (x : Str) (l : Lin) : Str := stdS (markS l.1) l.2.1 (fileMsg x (markS l.1) l.2.2)
noncomputable def fileEnt (l : Lin) (c : Str) : Ent := ⟨1, l.2.1, wsNt (markS l.1), wsN (markS l.1), [(c, 1)]⟩
noncomputable def fileOne (x c : Str) (tb : List (Str × Ent)) (l : Lin) : List (Str × Ent) := if eqS x (markS l.1) = true then tb else putT tb (fileName x l) (fileEnt l c)
noncomputable def fileRow (x c : Str) (ls : List Lin) (tb : List (Str × Ent)) : List (Str × Ent) := ls.foldl (fileOne x c) tb
noncomputable def callerS (j : Int) : Str := stdS (Str.ofString "~") j (Str.ofString "<nanny>")
noncomputable def fileT (x0 x1 : Str) (ls : List Lin) : List (Str × Ent) := fileRow x1 (callerS 1) ls (fileRow x0 (callerS 0) ls [])
noncomputable def tblJ (x0 x1 : Str) (ls : List Lin) : Nat → List (Str × Ent)
 | 0 => []
 | i + 1 => fileRow (if i = 0 then x0 else x1) (callerS (0 + (i : Int))) ls (tblJ x0 x1 ls i)
noncomputable abbrev linO (l : Lin) (t1 t2 : Tok) : Obj := { cls := .type "tuple", data := .seq #[.str l.1 t1, .int l.2.1 t2, .bool l.2.2] }
noncomputable def LinesAt (led : List (Addr × Obj)) (ls : List Lin) (vs : List Value) : Prop := All2 (fun (l : Lin) v => ∃ a t1 t2, v = Value.ref a ∧ (a, linO l t1 t2) ∈ led) ls vs
structure LineOk (x : Str) (l : Lin) : Prop where
 x1 : x.length ≤ 10
 x2 : x.cps.all (· < 128) = true
 x3 : ∀ c ∈ wsC x, 0 ≤ c ∧ c ≤ 50
 y1 : l.1.length ≤ 10
 y2 : (markS l.1).cps.all (· < 128) = true
 y3 : ∀ c ∈ wsC (markS l.1), 0 ≤ c ∧ c ≤ 50
 y4 : ∃ (i c : Nat), (markS l.1).cps[i]? = some c ∧ c ≠ 32 ∧ c ≠ 9
 n0 : 0 ≤ l.2.1
 n1 : l.2.1 ≤ 2
 w1 : (witS x (markS l.1) (wlenS x (markS l.1)).toNat).length ≤ 20
 w2 : ∀ z ∈ lookW x (markS l.1), 0 ≤ z ∧ z ≤ 20
inductive FiledJ (w : World) (hs : Heap) (L : Addr) (oL : Obj) (Ta : Addr) (R0 : List (Addr × Obj)) (k : Nat) (tb : List (Str × Ent)) (nw : List (Addr × Obj)) : Prop
 | mk (oT : Obj) (kvs : List (Str × Value)) (mk : List (Addr × Obj)) (sl : Array (Option Value)) (ps' : Array Value) (c0 : TabOk ps') (c1 : oT.IsDictOf (sk w) kvs) (c2 : TabAt w mk kvs tb) (c3 : TbB k tb) (c4 : (∀ p ∈ mk, p.1 ≠ Ta)) (c5 : (∀ p ∈ (Ta, oT) :: mk, hs.get? p.1 = none)) (c6 : nw = (Ta, oT) :: (L, { oL with slots := sl }) :: (186, tabO ps') :: (R0 ++ mk)) : FiledJ w hs L oL Ta R0 k tb nw
noncomputable abbrev locF (m₀ : Str → Option Value) (v1 v2 v3 v4 v5 v6 v7 v8 : Option Value) (Ta an al : Addr) : Str → Option Value :=
 ovr m₀ [(Str.ofString "j", v1), (Str.ofString "caller", v2), (Str.ofString "lead", v3), (Str.ofString "number", v4), (Str.ofString "dressed", v5), (Str.ofString "nag", v6), (Str.ofString "blank", v7), (Str.ofString "name", v8), (Str.ofString "table", some (.ref Ta)), (Str.ofString "nannies", some (.ref an)), (Str.ofString "lines", some (.ref al))]
theorem fr_ovr {g h : Heap} {L : Addr} {m' m₀ : Str → Option Value} {ps : List (Str × Option Value)} (F : Fr g L h m') (h1 : ∀ p ∈ ps, m' p.1 = p.2) (h2 : ∀ y, (∀ p ∈ ps, y ≠ p.1) → m' y = m₀ y) : Fr g L h (ovr m₀ ps) := by rw [← ovr_eq h1 h2]; exact F
theorem news_ins {g h : Heap} {L : Addr} {A B : List (Addr × Obj)} {q : Addr × Obj} (N : News g L h (A ++ B)) (hq : h.get? q.1 = some q.2 ∧ q.1 ≠ L ∧ g.get? q.1 = none) : News g L h (A ++ q :: B) := fun p hp => by
 rcases List.mem_append.mp hp with r | r
 ·exact N p (List.mem_append.mpr (.inl r))
 ·rcases List.mem_cons.mp r with rfl | r
  ·exact hq
  ·exact N p (List.mem_append.mpr (.inr r))
theorem file_take {x c : Str} {ls : List Lin} {tb : List (Str × Ent)} {k : Nat} {l : Lin} (h : ls[k]? = some l) : fileRow x c (ls.take (k + 1)) tb = fileOne x c (fileRow x c (ls.take k) tb) l := by
 unfold fileRow; rw [List.take_add_one, h, List.foldl_append]; rfl
theorem off_186 {I : Addr} {a b c q q' : Addr × Obj} {R : List (Addr × Obj)} (h : ∀ p ∈ a :: b :: c :: q :: R, p.1 ≠ I) (e : q'.1 = q.1 := by rfl) : ∀ p ∈ a :: b :: c :: q' :: R, p.1 ≠ I := fun p hp => by
 simp only [List.mem_cons] at hp
 rcases hp with r | r | r | rfl | r
 ·exact h p (by first | walk_at "mz" | simp [r])
 ·exact h p (by first | walk_at "mz" | simp [r])
 ·exact h p (by first | walk_at "mz" | simp [r])
 ·rw [e]; exact h q (by walk_at "ms")
 ·exact h p (by first | walk_at "mz" | simp [r])
theorem off_186' {I : Addr} {a b q q' : Addr × Obj} {R : List (Addr × Obj)} (h : ∀ p ∈ a :: b :: q :: R, p.1 ≠ I) (e : q'.1 = q.1 := by rfl) : ∀ p ∈ a :: b :: q' :: R, p.1 ≠ I := fun p hp => by
 simp only [List.mem_cons] at hp
 rcases hp with r | r | rfl | r
 ·exact h p (by first | walk_at "mz" | simp [r])
 ·exact h p (by first | walk_at "mz" | simp [r])
 ·rw [e]; exact h q (by walk_at "ms")
 ·exact h p (by first | walk_at "mz" | simp [r])
theorem fr_at {g h : Heap} {L : Addr} {m : Str → Option Value} (F : Fr g L h m) : ∃ o, h.get? L = some o := let ⟨oL, _, _, hL, _⟩ := F.ns; ⟨oL, hL⟩
theorem fr_none {g h : Heap} {L b : Addr} {m : Str → Option Value} (F : Fr g L h m) (n : h.get? b = none) : g.get? b = none := by
 cases e : g.get? b with
 | none => rfl
 | some o => rw [F.keep _ _ e] at n; cases n
theorem fr_ne {g h : Heap} {L b : Addr} {m : Str → Option Value} (F : Fr g L h m) (n : h.get? b = none) : @Ne Nat b L := fun z => by
 obtain ⟨o, e⟩ := fr_at F
 rw [show b = L from z, e] at n; cases n
structure Hid (p : Prop) : Prop where
 h : p
noncomputable def SpecF (w : World) (mean : ExcName → Option Value) (mg mb : Str → Option Value) (nd nu : Nat) (f : Addr) (args : List Value) (led : List (Addr × Obj)) (Ret : Heap → Heap → Value → Prop) : Prop :=
 ∀ (dp un : Nat) (gd : Option (List Code)) (cn : Str) (cs : Scope) (a : Addr) (ccd : Value) (cl : List (Str × Addr)) (A₀ : Around) (base h₀ : Heap) (L : Addr) (m : Str → Option Value) (s : Shared) (Q E : Value → Shared → Prop),
  Below A₀ base [] h₀ → Fr h₀ L s.heap m → (hd.heap_39 w.params).In h₀ → Top EP LS0 mean mg mb h₀ → cs.kind = .function →
  dp + nd < recursionLimit → un + nu < cLine → News h₀ L s.heap led → AllBare s.gens →
  (∀ r h' tk' gs', ExtF [186] [L] s.heap h' → AllBare gs' → Ret s.heap h' r → Q r { s with heap := h', toks := tk', gens := gs' }) →
   wpAny (model PG w) (ad none dp un gd cn cs L a ccd cl []) (call (.ref f) args) Q E s
theorem filed_next {w : World} {g hs h' : Heap} {L L' Ta : Addr} {oL oT oT' : Obj} {sl : Array (Option Value)} {ps : Array Value} {R0 mk mkP Y : List (Addr × Obj)} {E1 E2 J1 J2 : Addr × Obj} {kvs' : List (Str × Value)} {tb' : List (Str × Ent)} {k' : Nat}
  (hps : TabOk ps) (fresh : ∀ b, g.get? b = none → (∀ p ∈ (L, ({ oL with slots := sl } : Obj)) :: (186, tabO ps) :: R0, p.1 ≠ b) → hs.get? b = none)
  (hd : oT'.IsDictOf (sk w) kvs') (hT : TabAt w (mkP ++ E1 :: E2 :: mk) kvs' tb') (hB : TbB k' tb') (offT : ∀ p ∈ mk, p.1 ≠ Ta) (newT : ∀ p ∈ (Ta, oT) :: mk, hs.get? p.1 = none)
  (o1 : ∀ p ∈ J1 :: J2 :: (Ta, oT) :: (L, ({ oL with slots := sl } : Obj)) :: (186, tabO ps) :: (R0 ++ mk), p.1 ≠ E1.1 ∧ p.1 ≠ E2.1 ∧ ∀ q ∈ mkP, p.1 ≠ q.1)
  (off1 : ∀ p ∈ J2 :: (Ta, oT) :: (L, ({ oL with slots := sl } : Obj)) :: (186, tabO ps) :: (R0 ++ mk), p.1 ≠ J1.1) (off2 : ∀ p ∈ (Ta, oT) :: (L, ({ oL with slots := sl } : Obj)) :: (186, tabO ps) :: (R0 ++ mk), p.1 ≠ J2.1)
  (N : News g L' h' ((Ta, oT') :: (mkP ++ E1 :: E2 :: Y))) :
  FiledJ w hs L oL Ta R0 k' tb' ((Ta, oT') :: (L, { oL with slots := sl }) :: (186, tabO ps) :: (R0 ++ (mkP ++ E1 :: E2 :: mk))) ∧
   (∀ p ∈ (Ta, oT') :: (L, ({ oL with slots := sl } : Obj)) :: (186, tabO ps) :: (R0 ++ (mkP ++ E1 :: E2 :: mk)), p.1 ≠ J2.1) ∧
   (∀ p ∈ J2 :: (Ta, oT') :: (L, ({ oL with slots := sl } : Obj)) :: (186, tabO ps) :: (R0 ++ (mkP ++ E1 :: E2 :: mk)), p.1 ≠ J1.1) := by
 have sub : ∀ p ∈ (L, ({ oL with slots := sl } : Obj)) :: (186, tabO ps) :: R0, p ∈ J1 :: J2 :: (Ta, oT) :: (L, ({ oL with slots := sl } : Obj)) :: (186, tabO ps) :: (R0 ++ mk) := fun p hp => by
  simp only [List.mem_cons, List.mem_append] at hp ⊢
  rcases hp with q | q | q
  ·exact .inr (.inr (.inr (.inl q)))
  ·exact .inr (.inr (.inr (.inr (.inl q))))
  ·exact .inr (.inr (.inr (.inr (.inr (.inl q)))))
 have key : ∀ (P : Addr → Prop), (∀ p ∈ mkP, P p.1) → P E1.1 → P E2.1 → (∀ p ∈ mk, P p.1) → ∀ p ∈ mkP ++ E1 :: E2 :: mk, P p.1 := fun P h1 h2 h3 h4 p hp => by
  simp only [List.mem_append, List.mem_cons] at hp
  rcases hp with q | rfl | rfl | q
  ·exact h1 p q
  ·exact h2
  ·exact h3
  ·exact h4 p q
 have fr : ∀ p ∈ mkP ++ E1 :: E2 :: mk, hs.get? p.1 = none := key (fun b => hs.get? b = none)
  (fun p hp => fresh _ (N p (.tail _ (List.mem_append.mpr (.inl hp)))).2.2 fun q hq => (o1 q (sub q hq)).2.2 p hp)
  (fresh _ (N E1 (.tail _ (List.mem_append.mpr (.inr (.head _))))).2.2 fun q hq => (o1 q (sub q hq)).1)
  (fresh _ (N E2 (.tail _ (List.mem_append.mpr (.inr (.tail _ (.head _)))))).2.2 fun q hq => (o1 q (sub q hq)).2.1)
  (fun p hp => newT p (.tail _ hp))
 have off : ∀ X ∈ J1 :: J2 :: (Ta, oT) :: (L, ({ oL with slots := sl } : Obj)) :: (186, tabO ps) :: (R0 ++ mk), (∀ p ∈ mk, p.1 ≠ X.1) → ∀ p ∈ mkP ++ E1 :: E2 :: mk, p.1 ≠ X.1 := fun X hX h4 =>
  key (fun b => b ≠ X.1) (fun p hp z => (o1 X hX).2.2 p hp z.symm) (fun z => (o1 X hX).1 z.symm) (fun z => (o1 X hX).2.1 z.symm) h4
 refine ⟨⟨oT', kvs', mkP ++ E1 :: E2 :: mk, sl, ps, hps, hd, hT, hB, off (Ta, oT) (.tail _ (.tail _ (.head _))) offT, ?_, rfl⟩, fun p hp => ?_, fun p hp => ?_⟩
 ·intro p hp
  rcases List.mem_cons.mp hp with rfl | hp
  ·exact newT (Ta, oT) (.head _)
  ·exact fr p hp
 ·have h4 := off J2 (.tail _ (.head _)) fun p hp => off2 p (by simp only [List.mem_cons, List.mem_append]; exact .inr (.inr (.inr (.inr hp))))
  rcases List.mem_cons.mp hp with rfl | hp
  ·exact off2 (Ta, oT) (.head _)
  ·simp only [List.mem_cons] at hp
   rcases hp with rfl | rfl | hp
   ·exact off2 _ (.tail _ (.head _))
   ·exact off2 _ (.tail _ (.tail _ (.head _)))
   ·rcases List.mem_append.mp hp with q | q
    ·exact off2 p (.tail _ (.tail _ (.tail _ (List.mem_append.mpr (.inl q)))))
    ·exact h4 p q
 ·have h4 := off J1 (.head _) fun p hp => off1 p (by simp only [List.mem_cons, List.mem_append]; exact .inr (.inr (.inr (.inr (.inr hp)))))
  simp only [List.mem_cons] at hp
  rcases hp with rfl | rfl | rfl | rfl | hp
  ·exact off1 _ (.head _)
  ·exact off1 (Ta, oT) (.tail _ (.head _))
  ·exact off1 _ (.tail _ (.tail _ (.head _)))
  ·exact off1 _ (.tail _ (.tail _ (.tail _ (.head _))))
  ·rcases List.mem_append.mp hp with q | q
   ·exact off1 p (.tail _ (.tail _ (.tail _ (.tail _ (List.mem_append.mpr (.inl q))))))
   ·exact h4 p q
theorem words_len' {ns : List Int} (hl : ns.length ≤ 20) (hb : ∀ z ∈ ns, 0 ≤ z ∧ z ≤ 20) : (wordsS ns).length ≤ 113 := by
 have h1 := joinS_len hl hb
 unfold wordsS
 have h2 : (Str.ofString "at tab sizes ").length = 13 := by decide +kernel
 have h3 : (Str.ofString "at tab size ").length = 12 := by decide +kernel
 rw [Str.length_append]
 split <;> omega
theorem dress_len {d : Bool} {u : Str} (h : u.length ≤ 113) : (dressS d u).length ≤ 200 := by
 unfold dressS
 have h2 : (Str.ofString "<").length = 1 := by decide +kernel
 have h3 : (Str.ofString ">").length = 1 := by decide +kernel
 split
 ·rw [Str.length_append, Str.length_append]; omega
 ·omega
theorem LineOk.msg {x : Str} {l : Lin} {d : Bool} (h : LineOk x l) : (dressS d (wordsS (lookW x (markS l.1)))).length ≤ 200 :=
 dress_len (words_len' (by unfold lookW; rw [List.length_map]; exact h.w1) h.w2)
theorem fileEnt_b {x : Str} {l : Lin} {c : Str} {cnt : List Int} {b n nt : Int} (h : LineOk x l) (hr : wsRun [] 0 0 0 (markS l.1).cps.toList = (cnt, b, n, nt)) (h1 : 0 ≤ n) (h2 : n ≤ 20) (h3 : 0 ≤ nt) (h4 : nt ≤ 20) :
  fileEnt l c = ⟨1, l.2.1, nt, n, [(c, 1)]⟩ ∧ EntB 1 (fileEnt l c) := by
 have e : fileEnt l c = ⟨1, l.2.1, nt, n, [(c, 1)]⟩ := by unfold fileEnt wsN wsNt; rw [hr]
 refine ⟨e, ?_⟩
 rw [e]
 have := h.n0
 have := h.n1
 refine ⟨by dsimp only; omega, by dsimp only; omega, by dsimp only; omega, by dsimp only; omega, Nat.le_refl _, fun p hp => ?_, by walk_at "ms", by walk_at "ms"⟩
 rw [List.mem_singleton.mp hp]; exact Int.one_nonneg
theorem put_use {w : World} {mean : ExcName → Option Value} {mg mb : Str → Option Value} {A₀ : Around} {base G g : Heap} {outer : List Env} {L L' : Addr} {oL : Obj} (H : HidB w mean mg mb A₀ base G g outer L oL)
  {dp un : Nat} {gd : Option (List Code)} {cn : Str} {cs : Scope} {a : Addr} {ccd : Value} {cl : List (Str × Addr)} {m : Str → Option Value} {s : Shared} {Q E : Value → Shared → Prop} {sl : Array (Option Value)} {hh : Option Value}
  {E1 E2 : Addr × Obj} {A B mk : List (Addr × Obj)} {Ta : Addr} {oT : Obj} {kvs : List (Str × Value)} {tb : List (Str × Ent)} {nm : Str} {t : Tok} {ve : Value} {ent : Ent}
  (F : Fr g L' s.heap m) (N : News g L' s.heap (E1 :: E2 :: (A ++ (Ta, oT) :: B))) (hm : (L, { oL with slots := sl }) ∈ B) (hmk : ∀ p ∈ mk, p ∈ B)
  (nL : ∀ p ∈ (Ta, oT) :: E1 :: E2 :: mk, @Ne Nat p.1 L) (nT : ∀ p ∈ E1 :: E2 :: (A ++ B), p.1 ≠ Ta) (hk : cs.kind = .function) (h1 : dp + 3 < recursionLimit) (h2 : un + 50 < cLine) (hp : HOk s.heap hh)
  (hhe : ∀ x, hh = some (.ref x) → ∀ p ∈ (Ta, oT) :: E1 :: E2 :: mk, p.1 ≠ x) (lo : (Ta == sysModules) = false) (hoT : oT.IsDictOf (sk w) kvs) (hT : TabAt w mk kvs tb) (he : EntAt w [E1, E2] ve ent) (hl : tb.length ≤ 100) (k1 : ∀ p ∈ tb, EntOk p.2) (k2 : EntOk ent)
  (k : ∀ h' tk' oT' kvs' mkP, Fr g L' h' m → News g L' h' (mkP ++ E1 :: E2 :: (A ++ (Ta, oT') :: B)) → oT'.IsDictOf (sk w) kvs' → TabAt w (mkP ++ E1 :: E2 :: mk) kvs' (putT tb nm ent) →
   (∀ p ∈ mkP, ∀ q ∈ E1 :: E2 :: (A ++ (Ta, oT) :: B), q.1 ≠ p.1) → Q .none { s with heap := h', toks := tk' }) :
  wpAny (model PG w) (ad hh dp un gd cn cs L' a ccd cl outer) (call (.ref 219) [.ref Ta, .str nm t, ve]) Q E s := by
 have hTm : (Ta, oT) ∈ E1 :: E2 :: (A ++ (Ta, oT) :: B) := .tail _ (.tail _ (List.mem_append.mpr (.inr (.head _))))
 have hBm : ∀ p ∈ B, p ∈ E1 :: E2 :: (A ++ (Ta, oT) :: B) := fun p hp => .tail _ (.tail _ (List.mem_append.mpr (.inr (.tail _ hp))))
 refine SpecL.useH (put_spec w mean mg mb hh Ta oT kvs tb (E1 :: E2 :: mk) nm t ve ent hhe lo hoT (hT.mono fun p hp => .tail _ (.tail _ hp)) (he.mono fun p hp => ?_) (fun p hp => ?_) hl k1 k2) H F N (hBm _ hm) hk h1 h2 hp (fun p hp => ⟨?_, nL p hp⟩) (fun a ha => by rw [List.mem_singleton.mp ha]; exact .head _) (fun r h' tk' e F' N' hr => ?_)
 ·simp only [List.mem_cons, List.not_mem_nil, or_false] at hp ⊢
  rcases hp with q | q
  ·exact .inl q
  ·exact .inr (.inl q)
 ·refine nT p ?_
  simp only [List.mem_cons, List.mem_append] at hp ⊢
  rcases hp with q | q | q
  ·exact .inl q
  ·exact .inr (.inl q)
  ·exact .inr (.inr (.inr (hmk p q)))
 ·simp only [List.mem_cons] at hp
  rcases hp with rfl | rfl | rfl | q
  ·exact hTm
  ·exact .head _
  ·exact .tail _ (.head _)
  ·exact hBm p (hmk p q)
 ·obtain ⟨rfl, oT', kvs', mkP, hTa, hd, hM, hT'⟩ := hr
  have N2 : News g L' h' (E1 :: E2 :: (A ++ (Ta, oT') :: B)) := fun p hp => by
   simp only [List.mem_cons, List.mem_append] at hp
   have up : p ∈ E1 :: E2 :: (A ++ B) → p ∈ E1 :: E2 :: (A ++ (Ta, oT) :: B) := fun q => by
    simp only [List.mem_cons, List.mem_append] at q ⊢
    rcases q with q | q | q | q
    ·exact .inl q
    ·exact .inr (.inl q)
    ·exact .inr (.inr (.inl q))
    ·exact .inr (.inr (.inr (.inr q)))
   have go : p ∈ E1 :: E2 :: (A ++ B) → h'.get? p.1 = some p.2 ∧ p.1 ≠ L' ∧ g.get? p.1 = none := fun q => N' p (up q) (fun z => nT p q (List.mem_singleton.mp z))
   rcases hp with q | q | q | rfl | q
   ·exact go (by first | walk_at "mz" | simp [q])
   ·exact go (by first | walk_at "mz" | simp [q])
   ·exact go (by first | walk_at "mz" | simp [q])
   ·exact ⟨hTa, (N _ hTm).2⟩
   ·exact go (by first | walk_at "mz" | simp [q])
  exact k h' tk' oT' kvs' mkP F' (hM.news F N2) hd hT' (fun p hp q hq z => by have := (hM p hp).1; rw [← z, (N q hq).1] at this; cases this)
end
section
theorem off_keys {X : Addr} {R B : List (Addr × Obj)} (h : ∀ p ∈ R, p.1 ≠ X) (e : B.map (·.1) = R.map (·.1)) : ∀ p ∈ B, p.1 ≠ X := fun p hp z => by
 have := List.mem_map_of_mem (f := (·.1)) hp
 rw [e] at this
 walk_at "cg"
 obtain ⟨q, hq, e2⟩ := List.mem_map.mp this
 walk_at "bg"
 exact h q hq (e2.trans z)
variable (w : World) (mean : ExcName → Option Value) (mg mb : Str → Option Value)
local macro_rules | `(tactic| walk_at "exec For Name Call cons nil") => `(tactic| (k_here; refine hold_it ?_))
local macro_rules | `(tactic| walk_at "exec For Tuple Name cons nil") => `(tactic| (k_here; refine hold_it ?_))
local macro_rules | `(tactic| walk_at "subscriptTail Name Name ref int") => `(tactic| (k_here; refine hold_it ?_))
local macro_rules | `(tactic| walk_at "getMethod ref") => `(tactic| (refine hold_it ?_))
set_option maxRecDepth 100000 in
set_option maxHeartbeats 16000000 in
theorem filed_spec (x0 x1 : Str) (t0 t1 : Tok) (ls : List Lin) (vs : List Value) (an al : Addr) (kn kl : Nat) (tls : List (Addr × Obj)) (ps : Array Value) (hps : TabOk ps) (hls : LinesAt tls ls vs) (htl6 : ∀ p ∈ tls, p.1 ≠ 186) (hl : ls.length ≤ 11) (hok0 : ∀ l ∈ ls, LineOk x0 l) (hok1 : ∀ l ∈ ls, LineOk x1 l) :
  SpecF w mean mg mb 9 120 226 [.ref an, .ref al] ((186, tabO ps) :: (an, W.listOf #[.str x0 t0, .str x1 t1] kn) :: (al, W.listOf vs.toArray kl) :: tls)
   (fun h h' r => ∃ T oT kvs mk ps', r = .ref T ∧ TabOk ps' ∧ h'.get? 186 = some (tabO ps') ∧ Made h h' ((T, oT) :: mk) ∧ oT.IsDictOf (sk w) kvs ∧ TabAt w mk kvs (fileT x0 x1 ls) ∧ (T == sysModules) = false ∧ ∀ p ∈ mk, p.1 ≠ T) := by
 unfold SpecF; intro dp un gd cn cs a ccd cl A₀ base h₀ L m s Q E B F X T hk hdp hun hled hAB hret
 (refine wpAny_call ?_; k_dflt (refine' enterM (binds := [(Str.ofString "nannies", .ref an), (Str.ofString "lines", .ref al)]) ?k1z28 ?k2z28 ?kNz28 ?k3z28 ?k5z28 ?kAz28 ?kFz28 ?kKz28 ?k6z28 ?k7z28 ?k8z28 ?k9z28 ?kBz28 ?_ ?c5z28 ?c2z28 ?c3z28 ?c4z28; (case kAz28 => exact rfl); (case kFz28 => exact rfl); (case kKz28 => assumption); (case k1z28 => k_asm); (case k2z28 => k_asm); (case kNz28 => exact hled); (case k3z28 => k_asm); (case k5z28 => k_asm); (case k6z28 => k_is); (case k7z28 => k_is); (case k8z28 => ktr_room); (case k9z28 => exact BindsTo.of_eq rfl); (case c5z28 => decide); (case kBz28 => exact locs rfl); (case c2z28 => exact rfl); (case c3z28 => exact rfl); (case c4z28 => exact rfl); k_whole; intro g h' L' eL' keep F' N' B' X' T'; (try dsimp only); (try (refine fold2 ?_; intro qk ek hqk hek))))
 have hbL : base.get? L = none := by
  cases q : base.get? L with
  | none => rfl
  | some o => exact absurd (Nat.lt_of_lt_of_le (Heap.lt_size (B.stays L o q)) F.above) (Nat.lt_irrefl _)
 have h0L : h₀.get? L = none := by
  cases q : h₀.get? L with
  | none => rfl
  | some o => exact absurd (Nat.lt_of_lt_of_le (Heap.lt_size q) F.above) (Nat.lt_irrefl _)
 walk_at "cg"
 obtain ⟨oL, esL, epL, hoL, _⟩ := id F.ns
 walk_at "bg"
 have hLled := fun p hp => (hled p hp).2.1
 obtain ⟨g2, HB, F1, N1, keep2⟩ := hide_ground (oL := oL) B' (keep L oL hoL (fun q => by obtain ⟨p, hp, z⟩ := List.mem_map.mp q; exact hLled p hp z)) hbL h0L
  (fun b o e => keep b o (F.keep _ _ e) (fun q => by obtain ⟨p, hp, z⟩ := List.mem_map.mp q; rw [← z, (hled p hp).2.2] at e; cases e)) X T F' N' (by rw [eL']; exact Nat.ne_of_lt F.ns.lt)
 clear B' F' N' X' T'
 replace keep := Hid.mk keep
 replace keep2 := Hid.mk keep2
 have X2 := HB.X
 have T2 := HB.T
 rename_i zv1; revert hps hls htl6 hl hok0 hok1 B F X T hk hdp hun hled hAB hret eL' hqk hek hbL h0L hoL zv1 hLled HB F1 N1 keep keep2 X2 T2; revert w mean mg mb x0 x1 t0 t1 ls vs an al kn kl tls ps dp un gd cn cs a ccd cl A₀ base h₀ L m s Q E g h' L' qk ek oL esL epL g2; exists hc, kS zeW <| kS (yF yT) <| kS (yF yT) <| kS (yF yT) <| kS zeR <| kS zeR <| kS yN <| kS yN <| kS yL <| kS yL <| kS yN <| kS yN <| kS yN <| kS yN <| kS yL <| kS zeY <| kS yN <| kS yN <| kS yT <| kS zeR <| kS (inferInstanceAs (Nonempty (Scope))) <| kS yN <| kS zeV <| kS yL <| kS zeA <| kS yH <| kS yH <| kS yN <| kS (yF yT) <| kS zeS <| kS (yF (yF yP)) <| kS (yF (yF yP)) <| kS yH <| kS yH <| kS yN <| kS (yF (yF yP)) <| kS (yF (yF yP)) <| kS zeO <| kS zeY <| kS yN <| kO yH, 1, w, mean, mg, mb, x0, x1, t0, t1, ls, vs, an, al, kn, kl, tls, ps, dp, un, gd, cn, cs, a, ccd, cl, A₀, base, h₀, L, m, s, Q, E, g, h', L', qk, ek, oL, esL, epL, g2; intro hps hls htl6 hl hok0 hok1 B F X T hk hdp hun hled hAB hret eL' hqk hek hbL h0L hoL _ hLled HB F1 N1 keep keep2 X2 T2
 walk_at "ws"
 show wpAny _ _ _ _ _ _
 have nL6 : @Ne Nat L 186 := fun z => (hled _ (.head _)).2.1 z.symm
 have nan6 : @Ne Nat an 186 := fun z => by have h1 := (hled _ (.tail _ (.head _))).1; have h2 := (hled _ (.head _)).1; dsimp only at h1 h2; rw [z, h2] at h1; cases h1
 have nal6 : @Ne Nat al 186 := fun z => by have h1 := (hled _ (.tail _ (.tail _ (.head _)))).1; have h2 := (hled _ (.head _)).1; dsimp only at h1 h2; rw [z, h2] at h1; cases h1
 rename_i zv2 _ zv3 zv5 zv6 _ zv7 _ zv8 zv4 zv9 zv10; revert zv5 zv6 zv7 zv8 zv9 zv10; revert zv2 zv3 zv4 tk; exists hc, kS yN <| kS zeO <| kS yH <| kO yN, 2, zv2, zv3, zv4, tk; intro _ _ _ _ _ _
 refine wpAny_mono (Q := fun f s₂ => f = .next ∧ ∃ (Ta : Addr) (oT : Obj) (kvs : List (Str × Value)) (mk : List (Addr × Obj)) (sl : Array (Option Value)) (ps' : Array Value) (h : Heap) (tk : Nat) (gs : Array GenState) (mF : Str → Option Value), s₂ = { s with heap := h, toks := tk, gens := gs } ∧ AllBare gs ∧ TabOk ps' ∧
   oT.IsDictOf (sk w) kvs ∧ TabAt w mk kvs (tblJ x0 x1 ls 2) ∧ (Ta == sysModules) = false ∧ (∀ p ∈ mk, p.1 ≠ Ta) ∧ (∀ p ∈ (Ta, oT) :: mk, s.heap.get? p.1 = none) ∧
   Fr g2 L' h (ovr mF [(Str.ofString "table", some (.ref Ta))]) ∧
   News g2 L' h ((Ta, oT) :: (L, { oL with slots := sl }) :: (186, tabO ps') :: (an, W.listOf #[.str x0 t0, .str x1 t1] kn) :: (al, W.listOf vs.toArray kl) :: (tls ++ mk)))
  (wpAny_for_of ?_ (by intro _; rfl)) ?_ (fun _ _ z => z)
 ·walk_at "ws"
  rename News _ _ _ _ => N9
  rename Fr _ _ _ _ => F9
  rename IsRange _ _ _ _ _ _ _ _ => hr
  rename Obj.IsDictOf (PySem.strKind PG w) _ [] => hs0
  rename (_ < _ ∧ _ < _ ∧ _ < _ ∧ _ < _ ∧ AllLt _ _) => hlt
  have newS : ∀ b, g2.get? b = none → (@Ne Nat b L) → b ∉ ((186, tabO ps) :: (an, W.listOf #[Value.str x0 t0, Value.str x1 t1] kn) :: (al, W.listOf vs.toArray kl) :: tls).map (·.1) → s.heap.get? b = none := fun b h1 h2 h3 => by
   cases q : s.heap.get? b with
   | none => rfl
   | some o => rw [keep2.h _ _ h2 (keep.h _ _ q h3)] at h1; cases h1
  have hT0 := newS _ (N9 _ (.head _)).2.2 (by k_ne) (fun q => by
   simp only [List.map_cons, List.mem_cons, List.mem_map] at q
   rcases q with q | q | q | ⟨p, hp, q⟩
   ·have := hlt.2.1; rw [← q] at this; exact Nat.lt_irrefl _ this
   ·have := hlt.2.2.1; rw [← q] at this; exact Nat.lt_irrefl _ this
   ·have := hlt.2.2.2.1; rw [← q] at this; exact Nat.lt_irrefl _ this
   ·have := allLt_mem hlt.2.2.2.2 p hp; rw [q] at this; exact Nat.lt_irrefl _ this)
  rw [← List.append_nil tls] at N9
  have hm : ∃ (m₀ : Str → Option Value) (Ta : Addr) (o0 : Obj), Fr g2 L' _ m₀ ∧ m₀ (Str.ofString "table") = some (.ref Ta) ∧ m₀ (Str.ofString "nannies") = some (.ref an) ∧ m₀ (Str.ofString "lines") = some (.ref al) ∧ (Ta == sysModules) = false ∧ s.heap.get? Ta = none ∧ o0.IsDictOf (sk w) [] ∧
    News g2 L' _ ((Ta, o0) :: (L, oL) :: (186, tabO ps) :: (an, W.listOf #[.str x0 t0, .str x1 t1] kn) :: (al, W.listOf vs.toArray kl) :: (tls ++ [])) := (xi3 _ _ _ ⟨F9, rfl, rfl, rfl, by assumption, hT0, hs0, N9⟩)
  walk_at "cg"
  obtain ⟨m₀, Ta, o0, F2, e1, e2, e3, lo, hTn, hs1, N2⟩ := hm
  walk_at "bg"
  rename_i zv6 zv8 zv9 zv10 zv11 zv12; revert hr F9 N9 zv12 F2 e1 e2 e3 lo hTn hs1 N2; revert zv6 zv8 zv9 zv10 zv11 m₀ Ta o0; exists hc, kS yH <| kS yN <| kS yN <| kS yN <| kS yN <| kS (yF yT) <| kS yN <| kO zeO, 3, zv6, zv8, zv9, zv10, zv11, m₀, Ta, o0; intro hr F9 N9 _ F2 e1 e2 e3 lo hTn hs1 N2
  refine for_range (n := 2) hr (by decide) (by decide) rfl rfl rfl F2 N2
   (fun i m' nw gs => AllBare gs ∧ (∃ v1 v2 v3 v4 v5 v6 v7 v8, m' = locF m₀ v1 v2 v3 v4 v5 v6 v7 v8 Ta an al) ∧ FiledJ w s.heap L oL Ta ((an, W.listOf #[.str x0 t0, .str x1 t1] kn) :: (al, W.listOf vs.toArray kl) :: tls) (i * ls.length) (tblJ x0 x1 ls i) nw) ?_ ?_ ?_
  ·refine ⟨hAB, (xi8 (m₀ (Str.ofString "j")) (m₀ (Str.ofString "caller")) (m₀ (Str.ofString "lead")) (m₀ (Str.ofString "number")) (m₀ (Str.ofString "dressed")) (m₀ (Str.ofString "nag")) (m₀ (Str.ofString "blank")) (m₀ (Str.ofString "name")) (ovr_self ?_)), o0, [], [], oL.slots, ps, hps, hs1, .nil, ⟨Nat.zero_le _, fun p hp => nomatch hp⟩, (fun p hp => nomatch hp), ?_, rfl⟩
   ·intro p hp
    simp only [List.mem_cons, List.not_mem_nil, or_false] at hp
    rcases hp with rfl | rfl | rfl | rfl | rfl | rfl | rfl | rfl | rfl | rfl | rfl <;> first | rfl | exact e1 | exact e2 | exact e3
   ·intro p hp
    rw [List.mem_singleton.mp hp]; exact hTn
  ·intro i ti m₁ nw gs h tk I oI hi hGJ
   walk_at "cg"
   obtain ⟨ab, ⟨v1, v2, v3, v4, v5, v6, v7, v8, rfl⟩, oT, kvs, mk, sl, ps1, hps1, hoT, hTab, hTb, offT, newT, rfl⟩ := hGJ
   walk_at "bg"
   intro F3 N3 offI
   clear F9 N9 F2 N2
   generalize hJO : FEnd _ _ _ _ _ _ _ = QO
   (revert QO; refine hold_pi ?_; set_option tactic.hygienic false in intros)
   dsimp only [List.cons_append] at N3 offI
   revert hi ab hps1 hoT hTab hTb offT newT F3 N3 offI hJO; revert i ti gs h tk I oI v1 v2 v3 v4 v5 v6 v7 v8 oT kvs mk sl ps1 QO; exists hc, kS yN <| kS yN <| kS zeY <| kS yH <| kS yN <| kS yN <| kS zeO <| kS yT <| kS yT <| kS yT <| kS yT <| kS yT <| kS yT <| kS yT <| kS yT <| kS zeO <| kS yL <| kS yL <| kS zeY <| kS zeY <| kO (yF (yF yP)), 4, i, ti, gs, h, tk, I, oI, v1, v2, v3, v4, v5, v6, v7, v8, oT, kvs, mk, sl, ps1, QO; intro hi ab hps1 hoT hTab hTb offT newT F3 N3 offI hJO
   walk_at "ws"
   rename News _ _ _ _ => N4
   rename Fr _ _ _ _ => F4
   refine ⟨X2.keeps F4.keep, ?_⟩
   refine SpecN.useH (std_spec w mean mg mb none (Str.ofString "~") (Str.ofString "<nanny>") _ _ _ (0 + (i : Int)) _ _ (by decide +kernel) (by decide +kernel) (by omega) (by omega) (by decide +kernel)) HB F4 N4 (by k_mem) rfl (by ktr_room) (by ktr_units) (N4 _ (.head _)).1 ?_
   intro r h5 tk5 e5 F5 N5 hr
   walk_at "cg"
   obtain ⟨tc, rfl⟩ := hr
   walk_at "bg"
   clear e5
   rename_i zv13 zv14 _; revert F4 N4 zv14 F5 N5; revert zv13 h5 tk5 tc; exists hc, kS yH <| kS yH <| kS yN <| kO yN, 5, zv13, h5, tk5, tc; intro F4 N4 _ F5 N5
   walk_at "ws"
   show wpAny _ _ _ _ _ _
   have hlist : ∀ v ∈ vs, ∃ a, v = Value.ref a := fun v hv => by
    walk_at "cg"
    obtain ⟨j, hj⟩ := List.mem_iff_getElem?.mp hv
    walk_at "bg"
    walk_at "cg"
    obtain ⟨l, _, a, _, _, e, _⟩ := All2.getR hls hj
    walk_at "bg"
    exact ⟨a, e⟩
   rename_i zv15 zv16 zv17; revert zv16 zv17; revert zv15 tk; exists hc, kS yH <| kO yN, 6, zv15, tk; intro _ _
   refine wpAny_mono (Q := fun f s₂ => f = .next ∧ ∃ (h : Heap) (tk : Nat) (gs : Array GenState) (v3 v4 v5 v6 v7 v8 : Option Value) (inner : List (Addr × Obj)), s₂ = { s with heap := h, toks := tk, gens := gs } ∧ AllBare gs ∧
     Fr g2 L' h (locF m₀ (some (.int (0 + (i : Int)) ti)) (some (.str (callerS (0 + (i : Int))) tc)) v3 v4 v5 v6 v7 v8 Ta an al) ∧ News g2 L' h ((I, oI) :: inner) ∧ (∀ p ∈ inner, p.1 ≠ I) ∧
     FiledJ w s.heap L oL Ta ((an, W.listOf #[.str x0 t0, .str x1 t1] kn) :: (al, W.listOf vs.toArray kl) :: tls) (i * ls.length + ls.length) (tblJ x0 x1 ls (i + 1)) inner)
    (wpAny_for_of ?_ (by intro _; rfl)) ?_ (fun _ _ z => z)
   ·walk_at "ws"
    rename News _ _ _ _ => N6
    rename Fr _ _ _ _ => F6
    have N7 := news_sub N6 (fun p (hp : p ∈ _) => List.Mem.tail _ hp)
    have F7 := fr_ovr (m₀ := m₀) (ps := [(Str.ofString "j", some (.int (0 + (i : Int)) ti)), (Str.ofString "caller", some (.str (callerS (0 + (i : Int))) tc)), (Str.ofString "lead", v3), (Str.ofString "number", v4), (Str.ofString "dressed", v5), (Str.ofString "nag", v6), (Str.ofString "blank", v7), (Str.ofString "name", v8), (Str.ofString "table", some (.ref Ta)), (Str.ofString "nannies", some (.ref an)), (Str.ofString "lines", some (.ref al))]) F6 (by walk_at "oi") (by walk_at "oo")
    refine for_listT rfl (N7.isList (.tail _ (.tail _ (.tail _ (.tail _ (.tail _ (.head _))))))) hlist F7 N7
     (fun k m' nw gs => AllBare gs ∧ (∃ v3 v4 v5 v6 v7 v8, m' = locF m₀ (some (.int (0 + (i : Int)) ti)) (some (.str (callerS (0 + (i : Int))) tc)) v3 v4 v5 v6 v7 v8 Ta an al) ∧ ∃ inner, nw = (I, oI) :: inner ∧ (∀ p ∈ inner, p.1 ≠ I) ∧
      FiledJ w s.heap L oL Ta ((an, W.listOf #[.str x0 t0, .str x1 t1] kn) :: (al, W.listOf vs.toArray kl) :: tls) (i * ls.length + k) (fileRow (if i = 0 then x0 else x1) (callerS (0 + (i : Int))) (ls.take k) (tblJ x0 x1 ls i)) inner) ?_ ?_ ?_ ?_
    ·refine ⟨ab, (xi6 v3 v4 v5 v6 v7 v8 rfl), _, rfl, offI, oT, kvs, mk, sl, ps1, hps1, hoT, hTab, hTb, offT, newT, rfl⟩
    ·intro k m' nw gs' h9 hGJ
     walk_at "cg"
     obtain ⟨_, _, inner, rfl, _, oT', kvs', mk', sl', ps', _, _, _, _, _, _, rfl⟩ := hGJ
     walk_at "bg"
     intro _ N8
     exact N8.isList (.tail _ (.tail _ (.tail _ (.tail _ (.tail _ (.head _))))))
    ·intro k v m₁ nw gs h tk I2 oI2 hv hGJ
     walk_at "cg"
     obtain ⟨ab, ⟨v3, v4, v5, v6, v7, v8, rfl⟩, inner, rfl, offI, oT, kvs, mk, sl, ps1, hps1, hoT, hTab, hTb, offT, newT, rfl⟩ := hGJ
     walk_at "bg"
     intro F3 N3 offI2
     clear F6 F7 N6 N7 F4 N4
     generalize hJ : FEnd _ _ _ _ _ _ _ = QQ
     (revert QQ; refine hold_pi ?_; set_option tactic.hygienic false in intros)
     walk_at "cg"
     obtain ⟨l, hli, la, u1, u2, rfl, hmem⟩ := All2.getR hls hv
     walk_at "bg"
     dsimp only [List.cons_append] at N3 offI offI2
     have hat := N3 (la, linO l u1 u2) (List.mem_cons_of_mem _ (List.mem_cons_of_mem _ (List.mem_cons_of_mem _ (List.mem_cons_of_mem _ (List.mem_cons_of_mem _ (List.mem_cons_of_mem _ (List.mem_cons_of_mem _ (List.mem_append.mpr (.inl hmem)))))))))
     replace F3 : Fr g2 L' h _ := F3
     replace N3 : News g2 L' h _ := N3
     refine unpackN' F3 N3 trivial ⟨_, hat.1, rfl, _, rfl⟩ rfl rfl ?_
     intro h' F4 N4
     clear F3 N3
     replace F4 : Fr g2 L' h' _ := F4
     replace N4 : News g2 L' h' _ := N4
     revert ab hps1 hoT hTab hTb offT newT offI offI2 hJ hli hmem hv hat F4 N4; revert k gs h tk I2 oI2 v3 v4 v5 v6 v7 v8 oT kvs mk sl ps1 QQ l la u1 u2 h'; exists hc, kS yN <| kS zeY <| kS yH <| kS yN <| kS yN <| kS zeO <| kS yT <| kS yT <| kS yT <| kS yT <| kS yT <| kS yT <| kS zeO <| kS yL <| kS yL <| kS zeY <| kS zeY <| kS (yF (yF yP)) <| kS (zeP2 zeR (zeP2 zeI zeB)) <| kS yN <| kS yN <| kS yN <| kO yH, 7, k, gs, h, tk, I2, oI2, v3, v4, v5, v6, v7, v8, oT, kvs, mk, sl, ps1, QQ, l, la, u1, u2, h'; intro ab hps1 hoT hTab hTb offT newT offI offI2 hJ hli hmem hv hat F4 N4
     walk_at "ws"
     show wpAny _ _ _ _ _ _
     rename News _ _ _ _ => N5
     rename Fr _ _ _ _ => F5
     have hxi : ∃ tx, (#[Value.str x0 t0, .str x1 t1] : Array Value)[(0 + (i : Int)).toNat]? = some (.str (if i = 0 then x0 else x1) tx) := by
      rcases (by omega : i = 0 ∨ i = 1) with rfl | rfl
      ·exact ⟨t0, rfl⟩
      ·exact ⟨t1, rfl⟩
     walk_at "cg"
     obtain ⟨tx, hxi⟩ := hxi
     walk_at "bg"
     refine item_list (N5.isList (.tail _ (.tail _ (.tail _ (.tail _ (.tail _ (.head _))))))) (by omega) (by omega) hxi ?_
     have hok : LineOk (if i = 0 then x0 else x1) l := by
      have hm := List.mem_of_getElem? hli
      split
      ·exact hok0 l hm
      ·exact hok1 l hm
     generalize hxe : (if i = 0 then x0 else x1) = x at hok ⊢
     (revert x; refine hold_pi ?_; set_option tactic.hygienic false in intros)
     have hl1 := hok.y1
     have hlm : (markS l.1).length ≤ 20 := by
      have h1 : (Str.ofString "~").length = 1 := by decide +kernel
      unfold markS; rw [Str.length_append]; omega
     rename_i zv16; revert F5 N5 hxi hxe hok; revert zv16 tk tx x; exists hc, kS yH <| kS yN <| kS yN <| kO zeR, 8, zv16, tk, tx, x; intro F5 N5 hxi hxe hok
     walk_at "ws"
     rename News _ _ _ _ => N6
     rename Fr _ _ _ _ => F6
     refine ⟨X2.keeps F6.keep, ?_⟩
     have h6s : s.heap.get? 186 = some (tabO ps) := (hled _ (.head _)).1
     have d6 : ∀ p ∈ (I2, oI2) :: (I, oI) :: (Ta, oT) :: (L, ({ oL with slots := sl } : Obj)) :: (an, W.listOf #[.str x0 t0, .str x1 t1] kn) :: (al, W.listOf vs.toArray kl) :: (tls ++ mk), p.1 ≠ 186 := by
      intro p hp z
      simp only [List.mem_append, List.mem_cons] at hp
      rcases hp with rfl | rfl | rfl | rfl | rfl | rfl | q | q
      ·exact offI2 (186, tabO ps1) (by k_mem) z.symm
      ·exact offI (186, tabO ps1) (by k_mem) z.symm
      ·have := newT (Ta, oT) (.head _); dsimp only at this z; rw [z, h6s] at this; cases this
      ·exact nL6 z
      ·exact nan6 z
      ·exact nal6 z
      ·exact htl6 p q z
      ·have := newT p (.tail _ q); rw [z, h6s] at this; cases this
     have dL : ∀ p ∈ (I2, oI2) :: (I, oI) :: (Ta, oT) :: (an, W.listOf #[.str x0 t0, .str x1 t1] kn) :: (al, W.listOf vs.toArray kl) :: (tls ++ mk), p.1 ≠ L := by
      intro p hp z
      simp only [List.mem_append, List.mem_cons] at hp
      rcases hp with rfl | rfl | rfl | rfl | rfl | q | q
      ·exact offI2 (L, { oL with slots := sl }) (by k_mem) z.symm
      ·exact offI (L, { oL with slots := sl }) (by k_mem) z.symm
      ·have := newT (Ta, oT) (.head _); dsimp only at this z; rw [z, hoL] at this; cases this
      ·exact hLled _ (by k_mem) z
      ·exact hLled _ (by k_mem) z
      ·exact hLled p (.tail _ (.tail _ (.tail _ q))) z
      ·have := newT p (.tail _ q); rw [z, hoL] at this; cases this
     refine SpecR.useH (look_spec w mean mg mb x (markS l.1) tx _ u2 l.2.1 l.2.2 ps1 hps1 (by have := hok.x1; omega) hlm hok.x2 hok.y2 hok.x3 hok.y3 hok.w1 hok.w2) HB F6 N6 (by k_mem) rfl (by ktr_room) (by ktr_units) ab (fun p hp => ?_) (fun a ha => by first | exact ha | walk_at "mz" | simpa using ha) (fun a ha o ho => ?_) ?_ ?_
     ·rw [List.mem_singleton.mp hp]; exact ⟨by k_mem, nL6.symm⟩
     ·rw [List.mem_singleton.mp ha, N6.get (a := 186) (o := tabO ps1) (by k_mem)] at ho
      cases ho; exact ⟨_, rfl⟩
     ·intro r h7 tk7 gs7 e7 ab7 F7 N7 hr
      walk_at "cg"
      obtain ⟨rfl, heq, ps2, hps2, h186⟩ := hr
      walk_at "bg"
      clear e7
      have N8 : News g2 L' h7 ([(I2, oI2), (I, oI), (Ta, oT), (L, { oL with slots := sl })] ++ (186, tabO ps2) :: ((an, W.listOf #[.str x0 t0, .str x1 t1] kn) :: (al, W.listOf vs.toArray kl) :: (tls ++ mk))) :=
       news_ins (fun p hp => N7 p (subm (by walk_at "sz") hp) (by rw [List.mem_singleton]; exact d6 p (by first | exact hp | walk_at "mz" | simpa using hp))) ⟨h186, (N6 (186, tabO ps1) (by k_mem)).2⟩
      dsimp only [List.cons_append, List.nil_append] at N8
      clear N6 F6 N7
      rename_i zv17 _; revert ab7 F7 hps2 h186 N8; revert zv17 h7 tk7 gs7 ps2; exists hc, kS yN <| kS yH <| kS yN <| kS zeY <| kO zeY, 9, zv17, h7, tk7, gs7, ps2; intro ab7 F7 hps2 h186 N8
      walk_at "ws"
      rename News _ _ _ _ => N9
      rename Fr _ _ _ _ => F9
      have hst : fileRow x (callerS (0 + (i : Int))) (ls.take (k + 1)) (tblJ x0 x1 ls i) = fileRow x (callerS (0 + (i : Int))) (ls.take k) (tblJ x0 x1 ls i) := by
       rw [file_take hli]; unfold fileOne; rw [if_pos heq]
      rw [← hxe] at hst
      rw [← hJ]
      refine FEnd.next F9 N9 (fun _ h => h) (off_186 offI2) ⟨ab7, (xi6 _ _ _ _ _ _ (ovr_eq (by walk_at "oi") (by walk_at "oo"))), _, rfl, off_186' offI, oT, kvs, mk, sl, ps2, hps2, hoT, by rw [hst]; exact hTab, by rw [hst]; exact hTb.mono (by omega), offT, newT, rfl⟩
     ·intro v h7 tk7 gs7 x7 ab7 hx hfr7
      walk_at "cg"
      obtain ⟨hne, ⟨ps2, hps2, h186⟩, e, dx, ta, Tt, od, rfl, fly, hdx, hnag, n1, n2, n3⟩ := hx
      walk_at "bg"
      have F7 := Fr.extF F6 x7 (fun b hb => by
       rw [List.mem_singleton.mp hb]; exact (N6 (186, tabO ps1) (by k_mem)).2.symm) (fun b hb => by
       rcases List.mem_cons.mp hb with q | q
       ·exact .inl q
       ·rw [List.mem_singleton.mp q]; exact .inr HB.non)
      refine catch_nag (outer := [envX cn cs L a ccd cl]) (Around.frames_deeper HB.bel.stack) hfr7 fly F7 X2 T2 (fr_none F6 n1) (fr_ne F6 n1) (fr_none F6 n3) (fr_ne F6 n3) (fun b hb => by rw [List.mem_singleton.mp hb]; exact HB.non) ?_
      intro h8 T8 tk8 x8 fly8 nT8 F8 h9 sb9 F9
      obtain ⟨sl9, N9⟩ := caught_led (A := [(I2, oI2), (I, oI), (Ta, oT)]) N6 x7 fly hdx hnag h186 n1 n2 n3 x8 fly8 sb9 (fr_at F6) (fun p hp => d6 p (subm (by walk_at "sz") hp)) (fun p hp => dL p (by first | exact hp | walk_at "mz" | simpa using hp)) nL6 (fun b q => fr_none F6 q)
      dsimp only [List.cons_append, List.nil_append] at N9
      have offe : ∀ p ∈ (I2, oI2) :: (I, oI) :: (Ta, oT) :: (L, ({ oL with slots := sl } : Obj)) :: (186, tabO ps1) :: (an, W.listOf #[.str x0 t0, .str x1 t1] kn) :: (al, W.listOf vs.toArray kl) :: (tls ++ mk), p.1 ≠ e ∧ p.1 ≠ dx := fun p hp =>
       ⟨fun z => (by have := (N6 p hp).1; rw [z, n1] at this; cases this), fun z => (by have := (N6 p hp).1; rw [z, n2] at this; cases this)⟩
      clear N6 x7 x8
      have fresh : ∀ b, g2.get? b = none → (∀ p ∈ (L, ({ oL with slots := sl9 } : Obj)) :: (186, tabO ps2) :: ((an, W.listOf #[.str x0 t0, .str x1 t1] kn) :: (al, W.listOf vs.toArray kl) :: tls), p.1 ≠ b) → s.heap.get? b = none := fun b h1 h2 => by
       cases q : s.heap.get? b with
       | none => rfl
       | some o =>
        have hb : b ∉ ((186, tabO ps) :: (an, W.listOf #[.str x0 t0, .str x1 t1] kn) :: (al, W.listOf vs.toArray kl) :: tls).map (·.1) := fun z => by
         simp only [List.map_cons, List.mem_cons, List.mem_map] at z
         rcases z with z | z | z | ⟨p, hp, z⟩
         ·exact h2 (186, tabO ps2) (.tail _ (.head _)) z.symm
         ·exact h2 _ (.tail _ (.tail _ (.head _))) z.symm
         ·exact h2 _ (.tail _ (.tail _ (.tail _ (.head _)))) z.symm
         ·exact h2 p (.tail _ (.tail _ (.tail _ (.tail _ hp)))) z
        rw [keep2.h _ _ (fun z => h2 _ (.head _) z.symm) (keep.h _ _ q hb)] at h1; cases h1
      have nTa : ∀ p ∈ (e, nagO dx ta (.ref T8)) :: (dx, od) :: (I2, oI2) :: (I, oI) :: (L, ({ oL with slots := sl9 } : Obj)) :: (186, tabO ps2) :: (an, W.listOf #[.str x0 t0, .str x1 t1] kn) :: (al, W.listOf vs.toArray kl) :: (tls ++ mk), p.1 ≠ Ta := by
       intro p hp z
       have hT0 := newT (Ta, oT) (.head _)
       simp only [List.mem_append, List.mem_cons] at hp
       rcases hp with rfl | rfl | rfl | rfl | rfl | rfl | rfl | rfl | q | q
       ·exact (offe (Ta, oT) (by k_mem)).1 z.symm
       ·exact (offe (Ta, oT) (by k_mem)).2 z.symm
       ·exact offI2 (Ta, oT) (by k_mem) z.symm
       ·exact offI (Ta, oT) (by k_mem) z.symm
       ·exact dL (Ta, oT) (by k_mem) z.symm
       ·exact d6 (Ta, oT) (by k_mem) z.symm
       ·dsimp only at z hT0; rw [← z, (hled _ (.tail _ (.head _))).1] at hT0; cases hT0
       ·dsimp only at z hT0; rw [← z, (hled _ (.tail _ (.tail _ (.head _)))).1] at hT0; cases hT0
       ·dsimp only at hT0; rw [← z, (hled p (.tail _ (.tail _ (.tail _ q)))).1] at hT0; cases hT0
       ·exact offT p q z
      have nLE : ∀ p ∈ (Ta, oT) :: mk, p.1 ≠ L := fun p hp => dL p (subm (by walk_at "sz") hp)
      replace fresh := Hid.mk fresh
      clear hret hls hok0 hok1 hlist hled d6 dL hat fly fly8 n1 n2 n3 nT8 sb9 h186 hfr7 hxi hv hdx h6s
      replace hJ := Hid.mk hJ
      generalize hMe : dressS l.2.2 (wordsS (lookW x (markS l.1))) = M at hnag
      (revert M; refine hold_pi ?_; set_option tactic.hygienic false in intros)
      have hml : M.length ≤ 200 := by rw [← hMe]; exact hok.msg
      have hin : ∀ {h : Heap} {R : List (Addr × Obj)}, News g2 L' h R → (e, nagO dx ta (.ref T8)) ∈ R → (dx, od) ∈ R → NagIn h e l.2.1 M (markS l.1) := fun N m1 m2 => ⟨dx, ta, _, od, (N _ m1).1, (N _ m2).1, hnag⟩
      have hho : ∀ {h : Heap} {R : List (Addr × Obj)}, News g2 L' h R → (e, nagO dx ta (.ref T8)) ∈ R → HOk h (some (.ref e)) := fun N m1 => ⟨e, _, _, 115, rfl, (N _ m1).1, rfl, rfl, rfl⟩
      rename_i zv17 _; revert ab7 hps2 F7 F8 F9 N9 offe nTa fresh hMe hnag hml hin hho; revert zv17 h7 tk7 gs7 ps2 e dx ta od h8 T8 tk8 h9 sl9 M; exists hc, kS yN <| kS yH <| kS yN <| kS zeY <| kS zeY <| kS yN <| kS yN <| kS yN <| kS zeO <| kS yH <| kS yN <| kS yN <| kS yH <| kS zeY <| kO zeR, 10, zv17, h7, tk7, gs7, ps2, e, dx, ta, od, h8, T8, tk8, h9, sl9, M; intro ab7 hps2 F7 F8 F9 N9 offe nTa fresh hMe hnag hml hin hho
      walk_at "ws"
      show wpAny _ _ _ _ _ _
      rename News _ _ _ _ => Na
      rename Fr _ _ _ _ => Fa
      have Xc := X2.keeps Fa.keep
      refine nag_meth Xc (hin Na (by k_mem) (by k_mem)) off_gl (by k_is) (by k_is) ?_
      walk_at "ws"
      show wpAny _ _ (call (.ref 112) [.ref e]) _ _ _
      refine SpecN.useH (getline_spec w mean mg mb (some (.ref e)) e _ _ _) HB Fa Na (by k_mem) rfl (by ktr_room) (by ktr_units) (hin Na (by k_mem) (by k_mem)) ?_
      clear Fa Na Xc
      intro r h10a tk10a e10a Fa Na hr
      walk_at "cg"
      obtain ⟨tya, rfl⟩ := hr
      walk_at "bg"
      clear e10a
      revert Fa Na; revert h10a tk10a tya; exists hc, kS yH <| kS yN <| kO yN, 11, h10a, tk10a, tya; intro Fa Na
      walk_at "ws"
      rename News _ _ _ _ => Na
      rename Fr _ _ _ _ => Fa
      refine ⟨X2.keeps Fa.keep, ?_⟩
      refine SpecN.useH (ws_spec w mean mg mb (some (.ref e)) (markS l.1) tya hlm hok.y2 (.inr hok.y4)) HB Fa Na (by k_mem) rfl (by ktr_room) (by ktr_units) (hho Na (by k_mem)) ?_
      intro r h11 tk11 e11 F11 N11 hr
      walk_at "cg"
      obtain ⟨mk2, hm2, rb, d2, D2', D2, tt2, count2, b2, n2', nt2, vs2, tb2, tn2, tnt2, sm2, q1, q2, q3, q4, q5, rfl, hrun2, hvs2, hb02, hb12, hn02, hn12, hnt02, hnt12, hcl2, hmk2⟩ := hr
      walk_at "bg"
      have offw : ∀ p ∈ mk2, p.1 ≠ Ta := fun p hp z => by
       have h1 := (hm2 p hp).1
       rw [z] at h1; exact absurd ((Na (Ta, oT) (by k_mem)).1.symm.trans h1) (by walk_at "ms")
      rw [hmk2] at offw
      replace N11 := hm2.news Fa N11
      rw [hmk2] at N11
      dsimp only [List.cons_append, List.nil_append] at N11
      clear Na Fa e11
      revert F11 hm2 hrun2 hvs2 hb02 hb12 hn02 hn12 hnt02 hnt12 hcl2 hmk2 offw N11; revert h11 tk11 mk2 rb d2 D2' D2 tt2 count2 b2 n2' nt2 vs2 tb2 tn2 tnt2 sm2 q1 q2 q3 q4 q5; exists hc, kS yH <| kS yN <| kS yL <| kS yN <| kS yN <| kS yN <| kS yN <| kS yN <| kS yL <| kS zeI <| kS zeI <| kS zeI <| kS yL <| kS yN <| kS yN <| kS yN <| kS zeB <| kS yN <| kS yN <| kS yN <| kS yN <| kO yN, 12, h11, tk11, mk2, rb, d2, D2', D2, tt2, count2, b2, n2', nt2, vs2, tb2, tn2, tnt2, sm2, q1, q2, q3, q4, q5; intro F11 hm2 hrun2 hvs2 hb02 hb12 hn02 hn12 hnt02 hnt12 hcl2 hmk2 offw N11
      walk_at "ws"
      show wpAny _ _ _ _ _ _
      rename News _ _ _ _ => Na
      rename Fr _ _ _ _ => Fa
      have Xc := X2.keeps Fa.keep
      refine nag_meth Xc (hin Na (by k_mem) (by k_mem)) off_gl (by k_is) (by k_is) ?_
      rename_i zv18; revert Fa Na Xc; revert zv18 tk; exists hc, kS yH <| kO yN, 13, zv18, tk; intro Fa Na Xc
      walk_at "ws"
      show wpAny _ _ (call (.ref 112) [.ref e]) _ _ _
      refine SpecN.useH (getline_spec w mean mg mb (some (.ref e)) e _ _ _) HB Fa Na (by k_mem) rfl (by ktr_room) (by ktr_units) (hin Na (by k_mem) (by k_mem)) ?_
      clear Fa Na Xc
      intro r h10b tk10b e10b Fa Na hr
      walk_at "cg"
      obtain ⟨tyb, rfl⟩ := hr
      walk_at "bg"
      clear e10b
      revert Fa Na; revert h10b tk10b tyb; exists hc, kS yH <| kS yN <| kO yN, 14, h10b, tk10b, tyb; intro Fa Na
      walk_at "ws"
      show wpAny _ _ _ _ _ _
      rename News _ _ _ _ => Na
      rename Fr _ _ _ _ => Fa
      have Xc := X2.keeps Fa.keep
      refine nag_meth Xc (hin Na (by k_mem) (by k_mem)) off_gn (by k_is) (by k_is) ?_
      walk_at "ws"
      show wpAny _ _ (call (.ref 98) [.ref e]) _ _ _
      refine SpecN.useH (getno_spec w mean mg mb (some (.ref e)) e _ _ _) HB Fa Na (by k_mem) rfl (by ktr_room) (by ktr_units) (hin Na (by k_mem) (by k_mem)) ?_
      clear Fa Na Xc
      intro r h10c tk10c e10c Fa Na hr
      walk_at "cg"
      obtain ⟨tyc, rfl⟩ := hr
      walk_at "bg"
      clear e10c
      revert Fa Na; revert h10c tk10c tyc; exists hc, kS yH <| kS yN <| kO yN, 15, h10c, tk10c, tyc; intro Fa Na
      walk_at "ws"
      show wpAny _ _ _ _ _ _
      rename News _ _ _ _ => Na
      rename Fr _ _ _ _ => Fa
      have Xc := X2.keeps Fa.keep
      refine nag_meth Xc (hin Na (by k_mem) (by k_mem)) off_gm (by k_is) (by k_is) ?_
      walk_at "ws"
      show wpAny _ _ (call (.ref 105) [.ref e]) _ _ _
      refine SpecN.useH (getmsg_spec w mean mg mb (some (.ref e)) e _ _ _) HB Fa Na (by k_mem) rfl (by ktr_room) (by ktr_units) (hin Na (by k_mem) (by k_mem)) ?_
      clear Fa Na Xc
      intro r h10d tk10d e10d Fa Na hr
      walk_at "cg"
      obtain ⟨tyd, rfl⟩ := hr
      walk_at "bg"
      clear e10d
      revert Fa Na; revert h10d tk10d tyd; exists hc, kS yH <| kS yN <| kO yN, 16, h10d, tk10d, tyd; intro Fa Na
      walk_at "ws"
      rename News _ _ _ _ => Na
      rename Fr _ _ _ _ => Fa
      refine ⟨X2.keeps Fa.keep, ?_⟩
      refine SpecN.useH (std_spec w mean mg mb (some (.ref e)) (markS l.1) M _ _ _ l.2.1 _ _ hlm hml hok.n0 (by have := hok.n1; omega) (Nat.le_trans (Txt.slice_le _ _ _) (by omega))) HB Fa Na (by k_mem) rfl (by ktr_room) (by ktr_units) (Na _ (.head _)).1 ?_
      clear Fa Na
      intro r h12 tk12 e12 Fa Na hr
      walk_at "cg"
      obtain ⟨tn, rfl⟩ := hr
      walk_at "bg"
      clear e12
      rename_i zv19 zv20 zv21; revert zv21 Fa Na; revert zv19 zv20 h12 tk12 tn; exists hc, kS yN <| kS yH <| kS yH <| kS yN <| kO yN, 17, zv19, zv20, h12, tk12, tn; intro _ Fa Na
      walk_at "ws"
      show wpAny _ _ _ _ _ _
      rename News _ _ _ _ => Na
      rename Fr _ _ _ _ => Fa
      have Xc := X2.keeps Fa.keep
      refine nag_meth Xc (hin Na (by k_mem) (by k_mem)) off_gn (by k_is) (by k_is) ?_
      rename_i zv22; revert Fa Na Xc; revert zv22 tk; exists hc, kS yH <| kO yN, 18, zv22, tk; intro Fa Na Xc
      walk_at "ws"
      show wpAny _ _ (call (.ref 98) [.ref e]) _ _ _
      refine SpecN.useH (getno_spec w mean mg mb (some (.ref e)) e _ _ _) HB Fa Na (by k_mem) rfl (by ktr_room) (by ktr_units) (hin Na (by k_mem) (by k_mem)) ?_
      clear Fa Na Xc
      intro r h10f tk10f e10f Fa Na hr
      walk_at "cg"
      obtain ⟨tyf, rfl⟩ := hr
      walk_at "bg"
      clear e10f
      revert Fa Na; revert h10f tk10f tyf; exists hc, kS yH <| kS yN <| kO yN, 19, h10f, tk10f, tyf; intro Fa Na
      walk_at "ws"
      rename News _ _ _ _ => Nc
      rename Fr _ _ _ _ => Fc
      refine kdn_eval (knd := sk w) Fc Nc (Top.nolimit T2) rfl rfl (List.cons_ne_nil _ _) (by decide) ?_
      intro dc h13 oc Fd Nd ltc loc hdc
      have ltc0 := ltc
      k_lt ltc
      clear Fc Nc
      revert Fd Nd loc hdc ltc0 ltc; revert dc h13 oc; exists hc, kS yN <| kS yH <| kO zeO, 20, dc, h13, oc; intro Fd Nd loc hdc ltc0 ltc
      walk_at "ws"
      rename News _ _ _ _ => Nc
      rename Fr _ _ _ _ => Fc
      refine' kdn_made_str Fc Nc ?U hdc rfl ?n ?_
      case U => k_updF
      case n => exact List.nodup_cons.mpr ⟨List.not_mem_nil, List.nodup_nil⟩
      intro h14 oc2 Fd2 Nd2 hdc2
      clear Fc Nc
      try dsimp only at Nd2
      dsimp only
      revert Fd2 Nd2 hdc2; revert h14 oc2; exists hc, kS yH <| kO zeO, 21, h14, oc2; intro Fd2 Nd2 hdc2
      walk_at "ws"
      rename News _ _ _ _ => Ne
      rename Fr _ _ _ _ => Fe
      refine ⟨X2.keeps Fe.keep, ?_⟩
      rw [hxe] at hTab hTb
      have hki : k < ls.length := (List.getElem?_eq_some_iff.mp hli).1
      have hkb : i * ls.length + k + 1 ≤ 44 := by
       rcases (by omega : i = 0 ∨ i = 1) with rfl | rfl <;> omega
      walk_at "cg"
      obtain ⟨hfe, hfb⟩ := fileEnt_b (c := callerS (0 + (i : Int))) hok hrun2 hn02 hn12 hnt02 hnt12
      walk_at "bg"
      refine put_use (A := [_, _, _, _, _, _, _, (I2, oI2), (I, oI)]) (mk := mk) (ent := fileEnt l (callerS (0 + (i : Int)))) HB Fe Ne (by k_mem) (fun p hp => by first | walk_at "mz" | simp [hp]) ?_ ?_ rfl (by ktr_room) (by ktr_units) (hho Ne (by k_mem)) ?_ lo hoT hTab ?_ (by have := hTb.1; omega) (fun p hp => (hTb.2 p hp).ok (by omega)) (hfb.ok (by decide)) ?_
      ·intro p hp
       simp only [List.mem_cons] at hp
       rcases hp with rfl | rfl | rfl | q
       ·exact nLE _ (.head _)
       ·k_ne
       ·k_ne
       ·exact nLE _ (.tail _ q)
      ·intro p hp
       simp only [List.cons_append, List.nil_append, List.mem_cons] at hp
       rcases hp with rfl | rfl | rfl | q
       ·k_ne
       ·k_ne
       ·k_ne
       ·rcases q with q | q | q | q | q
        ·exact offw p (by first | walk_at "mz" | simp [q])
        ·exact offw p (by first | walk_at "mz" | simp [q])
        ·exact offw p (by first | walk_at "mz" | simp [q])
        ·exact offw p (by first | walk_at "mz" | simp [q])
        ·exact nTa p (by first | exact q | walk_at "mz" | simpa using q)
      ·intro x hx p hp
       cases hx
       simp only [List.mem_cons] at hp
       rcases hp with rfl | rfl | rfl | q
       ·exact (offe _ (by k_mem)).1
       ·k_ne
       ·k_ne
       ·exact (offe p (by first | walk_at "mz" | simp [q])).1
      ·rw [hfe]
       exact ⟨_, _, _, _, _, _, rfl, .head _, _, _, _, rfl, .tail _ (.head _), loc, hdc2, .cons ⟨rfl, _, rfl⟩ .nil⟩
      intro h15 tk15 oT' kvs' mkP Ff Nf hdT hTf oP
      clear Fe
      rename_i zv23 zv24 zv25; revert Ne zv25 Ff Nf hdT hTf oP; revert zv23 zv24 h15 tk15 oT' kvs' mkP; exists hc, kS yN <| kS yH <| kS yH <| kS yN <| kS zeO <| kS yL <| kO yL, 22, zv23, zv24, h15, tk15, oT', kvs', mkP; intro Ne _ Ff Nf hdT hTf oP
      walk_at "ws"
      rename Fr _ _ _ _ => Fz
      rename News _ _ _ _ => Nf
      have hst : fileRow (if i = 0 then x0 else x1) (callerS (0 + (i : Int))) (ls.take (k + 1)) (tblJ x0 x1 ls i) = putT (fileRow x (callerS (0 + (i : Int))) (ls.take k) (tblJ x0 x1 ls i)) (stdS (markS l.1) l.2.1 M) (fileEnt l (callerS (0 + (i : Int)))) := by
       rw [hxe, file_take hli]; unfold fileOne fileName fileMsg; rw [if_neg (by rw [hne]; decide), hMe]
      have hb' := putT_b (nm := stdS (markS l.1) l.2.1 M) hTb hfb (Nat.le_refl _)
      rw [Nat.add_assoc] at hb'
      rename (dc < _ ∧ _) => lE
      refine (fun q => ?_) (filed_next (k' := i * ls.length + (k + 1)) (J1 := (I2, oI2)) (J2 := (I, oI)) (R0 := (an, W.listOf #[.str x0 t0, .str x1 t1] kn) :: (al, W.listOf vs.toArray kl) :: tls) (mk := mk) (Y := []) hps2 fresh.h hdT hTf hb' offT newT ?_ (off_keys offI2 (by rfl)) (off_keys offI (by rfl)) (fun p hp => Nf p ?_))
      ·walk_at "cg"
       obtain ⟨hJ1, hJ2, hJ3⟩ := q
       walk_at "bg"
       rw [← hJ.h]
       refine FEnd.next Fz Nf ?_ hJ3 ⟨ab7, (xi6 _ _ _ _ _ _ (ovr_eq (by walk_at "oi") (by walk_at "oo"))), _, rfl, hJ2, by rw [hst]; exact hJ1⟩
       intro p hp
       exact subm (by walk_at "sz") hp
      ·intro p hp
       have hp1 : p.1 < dc := ltc0 p (subm (by walk_at "sz") hp)
       exact ⟨Nat.ne_of_lt (Nat.lt_trans hp1 lE.1), Nat.ne_of_lt hp1, fun q hq => oP q hq p (subm (by walk_at "sz") hp)⟩
      ·exact subm (by walk_at "sz") hp
    ·intro m₁ nw gs9 hGJ
     walk_at "cg"
     obtain ⟨ab9, ⟨w3, w4, w5, w6, w7, w8, rfl⟩, inner, rfl, offI9, hF9⟩ := hGJ
     walk_at "bg"
     intro h tk F3 N3
     refine ⟨rfl, xi10 h tk gs9 w3 w4 w5 w6 w7 w8 inner ⟨rfl, ab9, F3, N3, offI9, ?_⟩⟩
     have hlen : vs.length = ls.length := (All2.length hls).symm
     rw [hlen, List.take_length] at hF9
     exact hF9
   ·intro f s₂ hGJ
    walk_at "cg"
    obtain ⟨rfl, h, tk, gs9, w3, w4, w5, w6, w7, w8, inner, rfl, ab9, F9, N9, offI9, hF9⟩ := hGJ
    walk_at "bg"
    (try walk_at "ws")
    (try dsimp only)
    rw [← hJO]
    refine FEnd.next F9 N9 (fun _ h => h) offI9 ⟨ab9, (xi8 _ _ _ _ _ _ _ _ rfl), ?_⟩
    rw [Nat.succ_mul]
    exact hF9
  ·intro m₁ nw gs hGJ
   walk_at "cg"
   obtain ⟨ab, ⟨v1, v2, v3, v4, v5, v6, v7, v8, rfl⟩, oT, kvs, mk, sl, ps1, hps1, hoT, hTab, hTb, offT, newT, rfl⟩ := hGJ
   walk_at "bg"
   intro h tk F3 N3
   dsimp only [List.cons_append] at N3
   refine ⟨rfl, xi10 Ta oT kvs mk sl ps1 h tk gs (locF m₀ v1 v2 v3 v4 v5 v6 v7 v8 Ta an al) ⟨rfl, ab, hps1, hoT, hTab, lo, offT, newT, ?_, N3⟩⟩
   rw [← ovr_self (List.forall_mem_cons.mpr ⟨rfl, List.forall_mem_nil _⟩)]
   exact F3
 ·intro f s₂ hGJ
  walk_at "cg"
  obtain ⟨rfl, Ta, oT, kvs, mk, sl, ps9, h, tk, gs, mF, rfl, ab, hps9, hoT, hTab, lo, offT, newT, F9, N9⟩ := hGJ
  walk_at "bg"
  revert ab hps9 hoT hTab lo offT newT F9 N9; revert Ta oT kvs mk sl ps9 h tk gs mF; exists hc, kS yN <| kS zeO <| kS yL <| kS yL <| kS zeY <| kS zeY <| kS yH <| kS yN <| kS zeY <| kO (yF yT), 23, Ta, oT, kvs, mk, sl, ps9, h, tk, gs, mF; intro ab hps9 hoT hTab lo offT newT F9 N9
  walk_at "ws"
  all_goals (try dsimp only)
  show Q _ _
  rename News _ _ _ _ => N8
  rename Fr _ _ _ _ => F8
  refine hret _ _ _ _ (fun b o hb e => ?_) ab (xi5 Ta oT kvs mk ps9 ⟨rfl, hps9, (N8 (186, tabO ps9) (by k_mem)).1, fun p hp => ⟨newT p hp, (N8 p (subm (by walk_at "sz") hp)).1⟩, hoT, hTab, lo, offT⟩)
  by_cases hbl : b = L
  ·rw [hbl, hoL] at e
   cases e
   exact ⟨fun q => absurd (List.mem_singleton.mpr hbl) q, sl, by rw [hbl]; exact (N8 (L, { oL with slots := sl }) (by k_mem)).1⟩
  ·have e2 : h.get? b = some o := by
    by_cases q : b ∈ ((186, tabO ps) :: (an, W.listOf #[.str x0 t0, .str x1 t1] kn) :: (al, W.listOf vs.toArray kl) :: tls).map (·.1)
    ·walk_at "cg"
     obtain ⟨p, hp, rfl⟩ := List.mem_map.mp q
     walk_at "bg"
     have e1 := (hled p hp).1
     rw [e] at e1; cases e1
     refine (N8 p ?_).1
     rcases List.mem_cons.mp hp with rfl | hp
     ·exact absurd (List.mem_singleton.mpr rfl) hb
     ·exact subm (by walk_at "sz") hp
    ·exact F8.keep _ _ (keep2.h _ _ hbl (keep.h _ _ e q))
   exact ⟨fun _ => e2, o.slots, e2⟩
end
section
set_option maxRecDepth 100000
section
variable {prog : Program} {w : World} {K : Type} [DecidableEq K] {knd : KeyKind prog w K} {A : Around} {E : Value → Shared → Prop} {s : Shared} {env : Env} {h₀ : Heap}
theorem dict_at_of {h : Heap} {d : Addr} {od : Obj} {kvs : List (K × Value)} (e : h.get? d = some od) {es : Array DictEntry} {ep : Nat} (hc : od.ExactDict) (hd : od.data = .dict es ep) (hk : KeysOf knd es) (hp : Pairs knd es.toList kvs) (hn : (kvs.map (·.1)).Nodup) : h.DictAt knd d kvs ep := ⟨od, es, e, hc, hd, hk, hp, hn⟩
theorem for_keys {Q : Flow → Shared → Prop} {x : Str} {px : Pos} {body : List Stmt} {d : Addr} {od : Obj} {kvs : List (K × Value)} {m : Str → Option Value} {news : List (Addr × Obj)}
  (hh : A.handled = none) (lo : (d == sysModules) = false) (hod : od.IsDictOf knd kvs)
  (hx : env.kindOf x = some .local) (hp : (env.scope.kind == .class || (env.scope.kind == .module && env.locals != env.globals)) = false)
  (F : Fr h₀ env.locals s.heap m) (N : News h₀ env.locals s.heap news)
  (J : Nat → (Str → Option Value) → List (Addr × Obj) → Array GenState → Prop) (hsrc : ∀ i m' nw gs, J i m' nw gs → (d, od) ∈ nw) (h0 : J 0 m news s.gens)
  (turn : ∀ i k v key m₁ nw gs h tk I oI, kvs[i]? = some (k, v) → knd.is k key = true → J i m₁ nw gs → Fr h₀ env.locals h (fun y => if y = x then some key else m₁ y) → News h₀ env.locals h ((I, oI) :: nw) → (∀ p ∈ nw, p.1 ≠ I) →
   wpAny (model prog w) A (execs body env) (FEnd h₀ env.locals I oI (J (i + 1)) s Q) (fun _ _ => False) { s with heap := h, toks := tk, gens := gs })
  (fin : ∀ m₁ nw gs, J kvs.length m₁ nw gs → ∀ h tk, Fr h₀ env.locals h m₁ → News h₀ env.locals h nw → Q .next { s with heap := h, toks := tk, gens := gs }) :
  wpAny (model prog w) A (pyIter (.ref d)) (fun it s₂ => codeAny (model prog w) A (.forLoop (.Name x px) it body [] env) (fun r s' => match r with | .ok f => Q f s' | .error _ => False) s₂) E s := by
 walk_at "cg"
 obtain ⟨es, ep, hc, hd, hk, hpp, hn⟩ := id hod
 walk_at "bg"
 have hmem := hsrc _ _ _ _ h0
 have at0 : ∀ {h : Heap}, h.get? d = some od → h.DictAt knd d kvs ep := fun e => dict_at_of e hc hd hk hpp hn
 refine wpAny_pyIter_dict lo (at0 (N _ hmem).1) ?_
 have up : ∀ (o' : Obj) b o, s.heap.get? b = some o → (s.heap.push o').get? b = some o := fun o' b o e => Heap.get?_push_of_some _ e
 have hne : d ≠ s.heap.objs.size := Nat.ne_of_lt (Heap.lt_size (N _ hmem).1)
 refine codeAny_for_name (Q := Q) (s := { s with heap := s.heap.push _ }) (fun h => h.get? d = some od) (WalkI.of (Walks.dictKeys (knd := knd) hh s.heap.objs.size d hne kvs ep)) (fun i h st => by obtain ⟨o, e, _⟩ := st.1; exact ⟨o, e⟩) (fun i h h' o st e e' q => ?_) hx hp (Nat.ne_of_lt F.ns.lt) (next_is_new F)
  ⟨⟨_, Heap.get?_push_size _ rfl, rfl, rfl⟩, at0 (up _ _ _ (N _ hmem).1)⟩ (F.push _) (N.grown (up _)) (fun p hp => Nat.ne_of_lt (Heap.lt_size (N p hp).1)) J (fun i m' nw gs h j _ N' => (N' _ (hsrc _ _ _ _ j)).1) h0 (fun i v m₁ nw gs h tk oI hi hP hJ F₁ N₁ off₁ => ?_) fun m₁ nw gs j => ⟨trivial, fin m₁ nw gs j⟩
 ·obtain ⟨o', q', r⟩ := st.1; rw [e] at q'; cases q'; exact ⟨⟨o, e', r⟩, at0 q⟩
 ·walk_at "cg"
  obtain ⟨k, y, hky, hkey⟩ := hP
  walk_at "bg"
  exact turn i k y v m₁ nw gs h tk _ oI hky hkey hJ F₁ N₁ off₁
theorem for_values {Q : Flow → Shared → Prop} {x : Str} {px : Pos} {body : List Stmt} {v d : Addr} {od : Obj} {kvs : List (K × Value)} {m : Str → Option Value} {news : List (Addr × Obj)}
  (hh : A.handled = none) (hv : s.heap.IsValuesView v d) (hod : od.IsDictOf knd kvs)
  (hx : env.kindOf x = some .local) (hp : (env.scope.kind == .class || (env.scope.kind == .module && env.locals != env.globals)) = false)
  (F : Fr h₀ env.locals s.heap m) (N : News h₀ env.locals s.heap news)
  (J : Nat → (Str → Option Value) → List (Addr × Obj) → Array GenState → Prop) (hsrc : ∀ i m' nw gs, J i m' nw gs → (d, od) ∈ nw) (h0 : J 0 m news s.gens)
  (turn : ∀ i k v m₁ nw gs h tk I oI, kvs[i]? = some (k, v) → J i m₁ nw gs → Fr h₀ env.locals h (fun y => if y = x then some v else m₁ y) → News h₀ env.locals h ((I, oI) :: nw) → (∀ p ∈ nw, p.1 ≠ I) →
   wpAny (model prog w) A (execs body env) (FEnd h₀ env.locals I oI (J (i + 1)) s Q) (fun _ _ => False) { s with heap := h, toks := tk, gens := gs })
  (fin : ∀ m₁ nw gs, J kvs.length m₁ nw gs → ∀ h tk, Fr h₀ env.locals h m₁ → News h₀ env.locals h nw → Q .next { s with heap := h, toks := tk, gens := gs }) :
  wpAny (model prog w) A (pyIter (.ref v)) (fun it s₂ => codeAny (model prog w) A (.forLoop (.Name x px) it body [] env) (fun r s' => match r with | .ok f => Q f s' | .error _ => False) s₂) E s := by
 walk_at "cg"
 obtain ⟨es, ep, hc, hd, hk, hpp, hn⟩ := id hod
 walk_at "bg"
 have hmem := hsrc _ _ _ _ h0
 have at0 : ∀ {h : Heap}, h.get? d = some od → h.DictAt knd d kvs ep := fun e => dict_at_of e hc hd hk hpp hn
 have up : ∀ {h : Heap} (o' : Obj) b o, h.get? b = some o → (h.push o').get? b = some o := fun o' b o e => Heap.get?_push_of_some _ e
 refine wpAny_pyIter_values hv (at0 (N _ hmem).1) ?_
 have hne : d ≠ s.heap.objs.size := Nat.ne_of_lt (Heap.lt_size (N _ hmem).1)
 refine codeAny_for_name (Q := Q) (s := { s with heap := s.heap.push _ }) (fun h => h.get? d = some od) (WalkI.of (Walks.dictValues (knd := knd) hh s.heap.objs.size d hne kvs ep)) (fun i h st => by obtain ⟨o, e, _⟩ := st.1; exact ⟨o, e⟩) (fun i h h' o st e e' q => ?_) hx hp (Nat.ne_of_lt F.ns.lt) (next_is_new F)
  ⟨⟨_, Heap.get?_push_size _ rfl, rfl, rfl⟩, at0 (up _ _ _ (N _ hmem).1)⟩ (F.push _) (N.grown (up _)) (fun p hp => Nat.ne_of_lt (Heap.lt_size (N p hp).1)) J (fun i m' nw gs h j _ N' => (N' _ (hsrc _ _ _ _ j)).1) h0 (fun i v m₁ nw gs h tk oI hi hP hJ F₁ N₁ off₁ => ?_) fun m₁ nw gs j => ⟨trivial, fin m₁ nw gs j⟩
 ·obtain ⟨o', q', r⟩ := st.1; rw [e] at q'; cases q'; exact ⟨⟨o, e', r⟩, at0 q⟩
 ·walk_at "cg"
  obtain ⟨k, hky⟩ := hP
  walk_at "bg"
  exact turn i k v m₁ nw gs h tk _ oI hky hJ F₁ N₁ off₁
end
end
section
theorem sum_le {cs : List (Str × Int)} {B : Int} (hb : ∀ p ∈ cs, 0 ≤ p.2 ∧ p.2 ≤ B) : 0 ≤ (cs.map (·.2)).sum ∧ (cs.map (·.2)).sum ≤ B * cs.length := by
 induction cs with
 | nil => simp
 | cons q r ih =>
  obtain ⟨h1, h2⟩ := ih fun p hp => hb p (.tail _ hp)
  have h0 := hb q (.head _)
  simp only [List.map_cons, List.sum_cons, List.length_cons]
  rw [Int.natCast_succ, Int.mul_add, Int.mul_one]
  exact oz11 h0.1 h1 h0.2 h2
local macro_rules | `(tactic| walk_at "exec For Name Call cons nil") => `(tactic| (k_here; refine hold_it ?_))
set_option maxRecDepth 100000 in
set_option maxHeartbeats 8000000 in
theorem count_spec : ∀ (w : World) (mean : ExcName → Option Value) (mg mb : Str → Option Value) (d : Addr) (od : Obj) (kvs : List (Str × Value)) (cz : List (Str × Int)) (lo : (d == sysModules) = false) (hod : od.IsDictOf (sk w) kvs) (hip : IntPairs kvs cz) (hl : cz.length ≤ 50) (hb : ∀ p ∈ cz, 0 ≤ p.2 ∧ p.2 ≤ 1000), SpecL w mean mg mb none 2 20 77 [.ref d] [(d, od)] [] (fun _ _ r => ∃ t, r = .int (cz.map (·.2)).sum t) := by
 intro w mean mg mb d od kvs cz lo hod hip hl hb
 intro dp un gd cn cs a ccd cl outer A₀ base h₀ L m s Q E
 revert lo hod hip hl hb
 show ∀ (lo : (d == sysModules) = false) (hod : od.IsDictOf (sk w) kvs) (hip : IntPairs kvs cz) (hl : cz.length ≤ 50) (hb : ∀ p ∈ cz, 0 ≤ p.2 ∧ p.2 ≤ 1000), SpecL.at w mean mg mb none 2 20 77 [.ref d] [(d, od)] [] (fun _ _ r => ∃ t, r = .int (cz.map (·.2)).sum t) dp un gd cn cs a ccd cl outer A₀ base h₀ L m s Q E
 revert w mean mg mb d od kvs cz dp un gd cn cs a ccd cl outer A₀ base h₀ L m s Q E
 exists hc, kS zeW <| kS (yF yT) <| kS (yF yT) <| kS (yF yT) <| kS yN <| kS zeO <| kS yL <| kS yL <| kS yN <| kS yN <| kS yT <| kS zeR <| kS (inferInstanceAs (Nonempty Scope)) <| kS yN <| kS zeV <| kS yL <| kS yL <| kS zeA <| kS yH <| kS yH <| kS yN <| kS (yF yT) <| kS zeS <| kS (yF <| yF yP) <| kO (yF <| yF yP), 99, w, mean, mg, mb, d, od, kvs, cz, dp, un, gd, cn, cs, a, ccd, cl, outer, A₀, base, h₀, L, m, s, Q, E
 intro lo hod hip hl hb
 unfold SpecL.at; intro B F X T hk hdp hun hHO hled hret
 (refine wpAny_call ?_; k_dflt (refine' enterM (binds := [(Str.ofString "callers", .ref d)]) ?k1z29 ?k2z29 ?kNz29 ?k3z29 ?k5z29 ?kAz29 ?kFz29 ?kKz29 ?k6z29 ?k7z29 ?k8z29 ?k9z29 ?kBz29 ?_ ?c5z29 ?c2z29 ?c3z29 ?c4z29; (case kAz29 => exact rfl); (case kFz29 => exact rfl); (case kKz29 => assumption); (case k1z29 => k_asm); (case k2z29 => k_asm); (case kNz29 => exact hled); (case k3z29 => k_asm); (case k5z29 => k_asm); (case k6z29 => k_is); (case k7z29 => k_is); (case k8z29 => ktr_room); (case k9z29 => exact BindsTo.of_eq rfl); (case c5z29 => decide); (case kBz29 => exact locs rfl); (case c2z29 => exact rfl); (case c3z29 => exact rfl); (case c4z29 => exact rfl); k_whole; intro g h' L' eL' keep F' N' B' X' T'; (try dsimp only); (try (refine fold2 ?_; intro qk ek hqk hek))))
 revert eL' keep F' N' B' X' T' hqk hek; revert g h' L' qk ek; exists hc, kS yH <| kS yH <| kS yN <| kS (yF (yF yP)) <| kO (yF (yF yP)), 1, g, h', L', qk, ek; intro eL' keep F' N' B' X' T' hqk hek
 walk_at "ws"
 show wpAny _ _ _ _ _ _
 have pl : kvs.length ≤ 50 := by rw [← All2.length hip]; exact hl
 rename_i zv1 zv2 zv3 zv4; revert zv3 zv4; revert zv1 zv2 tk; exists hc, kS yN <| kS yH <| kO yN, 2, zv1, zv2, tk; intro _ _
 refine wpAny_mono (Q := fun f s₂ => f = .next ∧ ∃ (h : Heap) (tk : Nat) (tc : Tok) (mF : Str → Option Value), s₂ = { s with heap := h, toks := tk } ∧ Fr g L' h (ovr mF [(Str.ofString "nc", some (.int (cz.map (·.2)).sum tc))]) ∧ News g L' h [(d, od)])
  (wpAny_for_of ?_ (by intro _; rfl)) ?_ (fun _ _ z => z)
 ·walk_at "ws"
  rename News _ _ _ _ => N9
  rename Fr _ _ _ _ => F9
  have hm : ∃ (m₀ : Str → Option Value) (t0 : Tok), Fr g L' _ m₀ ∧ m₀ (Str.ofString "nc") = some (.int 0 t0) := (xi2 _ _ ⟨F9, rfl⟩)
  obtain ⟨m₀, t0, F1, e1⟩ := hm
  have N1 : News g L' _ [(d, od)] := fun p hp => N9 p (.tail _ hp)
  rename_i zv5 zv6 zv7; revert F9 N9 zv7 F1 e1 N1; revert zv5 zv6 m₀ t0; exists hc, kS yN <| kS yH <| kS (yF yT) <| kO yN, 3, zv5, zv6, m₀, t0; intro F9 N9 _ F1 e1 N1
  refine for_values (knd := sk w) (kvs := kvs) (od := od) rfl ⟨_, (N9 _ (.head _)).1, rfl, rfl⟩ hod rfl rfl F1 N1
   (fun i m' nw gs => gs = s.gens ∧ ∃ (tc : Tok) (vf : Option Value), m' = ovr m₀ [(Str.ofString "calls", vf), (Str.ofString "nc", some (.int ((cz.take i).map (·.2)).sum tc))] ∧ nw = [(d, od)]) ?_ ?_ ?_ ?_
  ·rintro i m' nw gs ⟨_, tc, vf, _, rfl⟩
   exact .head _
  ·exact ⟨rfl, xi2 t0 (m₀ (Str.ofString "calls")) ⟨ovr_self (List.forall_mem_cons.mpr ⟨rfl, List.forall_mem_cons.mpr ⟨e1, List.forall_mem_nil _⟩⟩), rfl⟩⟩
  ·intro i k v m₁ nw gs h tk I oI hkv hGJ
   generalize hJO : FEnd _ _ _ _ _ _ _ = QO
   revert QO
   refine hold_pi ?_
   intro QO hJO
   obtain ⟨rfl, tc, vf, rfl, rfl⟩ := hGJ
   intro F2 N2 off
   clear F9 N9 F1 N1
   obtain ⟨p, hpc, hp1, tx, hp2⟩ := All2.getR hip hkv
   try dsimp only at hp1 hp2
   subst hp1 hp2
   have hb1 := sum_le (cs := cz.take i) (B := 1000) fun q hq => hb q (List.mem_of_mem_take hq)
   have hb2 := hb p (List.mem_of_getElem? hpc)
   have hln := List.length_take_le' i cz
   have hs : ((cz.take (i + 1)).map (·.2)).sum = ((cz.take i).map (·.2)).sum + p.2 := by
    rw [List.take_add_one, hpc, List.map_append, List.sum_append]; simp
   generalize ((cz.take i).map (·.2)).sum = S at hb1 hs F2 ⊢
   (revert S; refine hold_pi ?_; set_option tactic.hygienic false in intros)
   revert hJO N2 off hpc hkv hb2 hln hb1 hs F2; revert i h tk I oI QO tc vf p tx S; exists hc, kS yN <| kS yH <| kS yN <| kS yN <| kS zeO <| kS (yF (yF yP)) <| kS yN <| kS yT <| kS (zeP2 zeR zeI) <| kS yN <| kO zeI, 4, i, h, tk, I, oI, QO, tc, vf, p, tx, S; intro hJO N2 off hpc hkv hb2 hln hb1 hs F2
   walk_at "ws"
   rename News _ _ _ _ => N5
   rename Fr _ _ _ _ => F5
   subst hJO
   refine FEnd.next F5 N5 (fun _ h => h) off ⟨rfl, ?_⟩
   rw [hs]
   exact (xi2 _ _ ⟨ovr_eq (by walk_at "oi") (by walk_at "oo"), rfl⟩)
  ·rintro m₁ nw gs ⟨rfl, tc, vf, rfl, rfl⟩ h tk F2 N2
   rw [show kvs.length = cz.length from (All2.length hip).symm, List.take_length] at F2
   refine ⟨rfl, xi4 h tk tc (ovr m₀ [(Str.ofString "calls", vf), (Str.ofString "nc", some (.int (cz.map (·.2)).sum tc))]) ⟨rfl, ?_, N2⟩⟩
   rw [← ovr_self (List.forall_mem_cons.mpr ⟨rfl, List.forall_mem_nil _⟩)]
   exact F2
 ·rintro f s₂ ⟨rfl, h, tk, tc, mF, rfl, F1, N1⟩
  revert F1 N1; revert h tk tc mF; exists hc, kS yH <| kS yN <| kS yN <| kO (yF yT), 5, h, tk, tc, mF; intro F1 N1
  walk_at "ws"
  all_goals (try dsimp only)
  show Q _ _
  exact hret _ _ _ (ext_of_led keep hled F1 N1 fun p hp _ => hp) ⟨_, rfl⟩
end
section
noncomputable def putAll (acc l : List (Str × Ent)) : List (Str × Ent) := l.foldl (fun acc p => putT acc p.1 p.2) acc
noncomputable def mergeT (ta tb : List (Str × Ent)) : List (Str × Ent) := putAll (putAll [] ta) tb
theorem putAll_take {acc l : List (Str × Ent)} {i : Nat} {p : Str × Ent} (h : l[i]? = some p) : putAll acc (l.take (i + 1)) = putT (putAll acc (l.take i)) p.1 p.2 := by
 unfold putAll; rw [List.take_add_one, h, List.foldl_append]; rfl
theorem putT_len (tb : List (Str × Ent)) (nm : Str) (e : Ent) : (putT tb nm e).length ≤ tb.length + 1 := by
 unfold putT; split <;> simp
theorem putAll_b {a b : Nat} {l : List (Str × Ent)} : ∀ {acc : List (Str × Ent)}, (l.map (·.1)).Nodup → (∀ p ∈ l, EntB b p.2) → (∀ p ∈ acc, EntB (a + b) p.2 ∧ (p.1 ∈ l.map (·.1) → EntB a p.2)) →
  (∀ p ∈ putAll acc l, EntB (a + b) p.2) ∧ (putAll acc l).length ≤ acc.length + l.length := by
 induction l with
 | nil => intro acc _ _ h; exact ⟨fun p hp => (h p hp).1, Nat.le_refl _⟩
 | cons q r ih =>
  intro acc hn hl h
  rw [List.map_cons, List.nodup_cons] at hn
  have e : putAll acc (q :: r) = putAll (putT acc q.1 q.2) r := rfl
  rw [e]
  have hq := hl q (.head _)
  obtain ⟨r1, r2⟩ := ih (acc := putT acc q.1 q.2) hn.2 (fun p hp => hl p (.tail _ hp)) (fun p hp => by
   unfold putT at hp
   split at hp
   ·obtain ⟨x, hx, rfl⟩ := List.mem_map.mp hp
    obtain ⟨x1, x2⟩ := h x hx
    by_cases z : x.1 = q.1
    ·rw [if_pos z]
     exact ⟨addE_b (x2 (by rw [z]; exact .head _)) hq, fun q' => absurd (by rw [← z]; exact q') hn.1⟩
    ·rw [if_neg z]
     exact ⟨x1, fun q' => x2 (.tail _ q')⟩
   ·rcases List.mem_append.mp hp with q' | q'
    ·exact ⟨(h p q').1, fun z => (h p q').2 (.tail _ z)⟩
    ·rw [List.mem_singleton.mp q']
     exact ⟨(addE_b zero_b hq).mono (by lia), fun z => absurd z hn.1⟩)
  refine ⟨r1, ?_⟩
  have := putT_len acc q.1 q.2
  rw [List.length_cons]; lia
theorem take_nodup {l : List (Str × Ent)} (h : (l.map (·.1)).Nodup) (i : Nat) : ((l.take i).map (·.1)).Nodup := by
 rw [List.map_take]; exact List.Nodup.sublist (List.take_sublist _ _) h
theorem merge_b1 {ta : List (Str × Ent)} (h : TbB 22 ta) (hn : (ta.map (·.1)).Nodup) (i : Nat) : TbB 22 (putAll [] (ta.take i)) := by
 obtain ⟨h1, h2⟩ := putAll_b (a := 0) (b := 22) (l := ta.take i) (acc := []) (take_nodup hn i) (fun p hp => h.2 p (List.mem_of_mem_take hp)) (fun p hp => nomatch hp)
 refine ⟨?_, fun p hp => (h1 p hp).mono (by lia)⟩
 have := List.length_take_le' i ta
 have := h.1
 rw [List.length_nil] at h2
 lia
theorem merge_b2 {acc tb : List (Str × Ent)} (ha : TbB 22 acc) (h : TbB 22 tb) (hn : (tb.map (·.1)).Nodup) (i : Nat) : TbB 44 (putAll acc (tb.take i)) := by
 obtain ⟨h1, h2⟩ := putAll_b (a := 22) (b := 22) (l := tb.take i) (acc := acc) (take_nodup hn i) (fun p hp => h.2 p (List.mem_of_mem_take hp)) (fun p hp => ⟨(ha.2 p hp).mono (by lia), fun _ => ha.2 p hp⟩)
 refine ⟨?_, fun p hp => h1 p hp⟩
 have := List.length_take_le' i tb
 have := h.1
 have := ha.1
 lia
theorem va_get {K : Type} [DecidableEq K] {kvs : List (K × Value)} {i : Nat} {k : K} {v : Value} (hn : (kvs.map (·.1)).Nodup) (h : kvs[i]? = some (k, v)) : valueAt kvs k = some v := by
 unfold valueAt
 induction kvs generalizing i with
 | nil => simp at h
 | cons q r ih =>
  rw [List.map_cons, List.nodup_cons] at hn
  cases i with
  | zero => simp at h; subst h; simp
  | succ i =>
   rw [List.getElem?_cons_succ] at h
   have hm : k ∈ r.map (·.1) := List.mem_map.mpr ⟨(k, v), List.mem_of_getElem? h, rfl⟩
   have : q.1 ≠ k := fun z => hn.1 (z ▸ hm)
   rw [List.find?_cons]
   simp only [this, decide_false]
   exact ih hn.2 h
end
section
local macro_rules | `(tactic| walk_at "own 0") => `(tactic| skip)
theorem put_here {w : World} {mean : ExcName → Option Value} {mg mb : Str → Option Value} {A₀ : Around} {base h₀ : Heap} {outer : List Env} {L : Addr}
  {dp un : Nat} {gd : Option (List Code)} {cn : Str} {cs : Scope} {a : Addr} {ccd : Value} {cl : List (Str × Addr)} {m : Str → Option Value} {s : Shared} {Q E : Value → Shared → Prop}
  {A B tl : List (Addr × Obj)} {Ta : Addr} {oT : Obj} {kvs : List (Str × Value)} {tb : List (Str × Ent)} {nm : Str} {t : Tok} {ve : Value} {ent : Ent}
  (BB : Below A₀ base outer h₀) (F : Fr h₀ L s.heap m) (X : (hd.heap_39 w.params).In h₀) (N : News h₀ L s.heap (A ++ (Ta, oT) :: B)) (TT : Top EP LS0 mean mg mb h₀) (hk : cs.kind = .function) (h1 : dp + 3 < recursionLimit) (h2 : un + 50 < cLine)
  (hsub : ∀ p ∈ tl, p ∈ A ++ B) (nT : ∀ p ∈ A ++ B, p.1 ≠ Ta) (lo : (Ta == sysModules) = false) (hoT : oT.IsDictOf (sk w) kvs) (hT : TabAt w tl kvs tb) (he : EntAt w tl ve ent) (hl : tb.length ≤ 100) (k1 : ∀ p ∈ tb, EntOk p.2) (k2 : EntOk ent)
  (k : ∀ h' tk' oT' kvs' mkP, Fr h₀ L h' m → News h₀ L h' (mkP ++ (A ++ (Ta, oT') :: B)) → oT'.IsDictOf (sk w) kvs' → TabAt w (mkP ++ tl) kvs' (putT tb nm ent) →
   (∀ p ∈ mkP, ∀ q ∈ A ++ (Ta, oT) :: B, q.1 ≠ p.1) → Q .none { s with heap := h', toks := tk' }) :
  wpAny (model PG w) (ad none dp un gd cn cs L a ccd cl outer) (call (.ref 219) [.ref Ta, .str nm t, ve]) Q E s := by
 have hTm : (Ta, oT) ∈ A ++ (Ta, oT) :: B := List.mem_append.mpr (.inr (.head _))
 have up : ∀ p ∈ A ++ B, p ∈ A ++ (Ta, oT) :: B := fun p hp => by
  rcases List.mem_append.mp hp with q | q
  ·exact List.mem_append.mpr (.inl q)
  ·exact List.mem_append.mpr (.inr (.tail _ q))
 refine SpecL.use (put_spec w mean mg mb none Ta oT kvs tb tl nm t ve ent (fun x hx => nomatch hx) lo hoT hT he (fun p hp => nT p (hsub p hp)) hl k1 k2) BB F X N TT hk h1 h2 trivial (List.forall_mem_cons.mpr ⟨hTm, fun p hp => up p (hsub p hp)⟩) (fun a ha => by rw [List.mem_singleton.mp ha]; exact .head _) (fun r h' tk' e F' N' hr => ?_)
 walk_at "cg"
 obtain ⟨rfl, oT', kvs', mkP, hTa, hd, hM, hT'⟩ := hr
 walk_at "bg"
 have N2 : News h₀ L h' (A ++ (Ta, oT') :: B) := fun p hp => by
  have go : p ∈ A ++ B → h'.get? p.1 = some p.2 ∧ p.1 ≠ L ∧ h₀.get? p.1 = none := fun q => N' p (up p q) fun z => nT p q (List.mem_singleton.mp z)
  rcases List.mem_append.mp hp with q | q
  ·exact go (List.mem_append.mpr (.inl q))
  ·rcases List.mem_cons.mp q with rfl | q
   ·exact ⟨hTa, (N _ hTm).2⟩
   ·exact go (List.mem_append.mpr (.inr q))
 exact k h' tk' oT' kvs' mkP F' (hM.news F N2) hd hT' fun p hp q hq z => by have := (hM p hp).1; rw [← z, (N q hq).1] at this; cases this
local macro_rules | `(tactic| walk_at "exec For Name Name cons nil") => `(tactic| (k_here; refine hold_it ?_))
set_option maxRecDepth 100000 in
set_option maxHeartbeats 8000000 in
theorem merged_spec : ∀ (w : World) (mean : ExcName → Option Value) (mg mb : Str → Option Value) (Da Db : Addr) (oa ob : Obj) (ka kb : List (Str × Value)) (ta tb : List (Str × Ent)) (tl : List (Addr × Obj)) (la : (Da == sysModules) = false) (lb : (Db == sysModules) = false) (ia : oa.IsDictOf (sk w) ka) (ib : ob.IsDictOf (sk w) kb) (hA : TabAt w tl ka ta) (hB : TabAt w tl kb tb) (bA : TbB 22 ta) (bB : TbB 22 tb), SpecL w mean mg mb none 5 60 233 [.ref Da, .ref Db] ((Da, oa) :: (Db, ob) :: tl) [] (fun h h' r => ∃ T oT kvs mk, r = .ref T ∧ Made h h' ((T, oT) :: mk) ∧ oT.IsDictOf (sk w) kvs ∧ TabAt w (mk ++ tl) kvs (mergeT ta tb) ∧ (T == sysModules) = false ∧ ∀ p ∈ mk ++ tl, p.1 ≠ T) := by
 intro w mean mg mb Da Db oa ob ka kb ta tb tl la lb ia ib hA hB bA bB
 intro dp un gd cn cs a ccd cl outer A₀ base h₀ L m s Q E
 revert la lb ia ib hA hB bA bB
 show ∀ (la : (Da == sysModules) = false) (lb : (Db == sysModules) = false) (ia : oa.IsDictOf (sk w) ka) (ib : ob.IsDictOf (sk w) kb) (hA : TabAt w tl ka ta) (hB : TabAt w tl kb tb) (bA : TbB 22 ta) (bB : TbB 22 tb), SpecL.at w mean mg mb none 5 60 233 [.ref Da, .ref Db] ((Da, oa) :: (Db, ob) :: tl) [] (fun h h' r => ∃ T oT kvs mk, r = .ref T ∧ Made h h' ((T, oT) :: mk) ∧ oT.IsDictOf (sk w) kvs ∧ TabAt w (mk ++ tl) kvs (mergeT ta tb) ∧ (T == sysModules) = false ∧ ∀ p ∈ mk ++ tl, p.1 ≠ T) dp un gd cn cs a ccd cl outer A₀ base h₀ L m s Q E
 revert w mean mg mb Da Db oa ob ka kb ta tb tl dp un gd cn cs a ccd cl outer A₀ base h₀ L m s Q E
 exists hc, kS zeW <| kS (yF yT) <| kS (yF yT) <| kS (yF yT) <| kS yN <| kS yN <| kS zeO <| kS zeO <| kS yL <| kS yL <| kS yL <| kS yL <| kS yL <| kS yN <| kS yN <| kS yT <| kS zeR <| kS (inferInstanceAs (Nonempty Scope)) <| kS yN <| kS zeV <| kS yL <| kS yL <| kS zeA <| kS yH <| kS yH <| kS yN <| kS (yF yT) <| kS zeS <| kS (yF <| yF yP) <| kO (yF <| yF yP), 99, w, mean, mg, mb, Da, Db, oa, ob, ka, kb, ta, tb, tl, dp, un, gd, cn, cs, a, ccd, cl, outer, A₀, base, h₀, L, m, s, Q, E
 intro la lb ia ib hA hB bA bB
 unfold SpecL.at; intro B F X T hk hdp hun hHO hled hret
 (refine wpAny_call ?_; k_dflt (refine' enterM (binds := [(Str.ofString "one", .ref Da), (Str.ofString "other", .ref Db)]) ?k1z30 ?k2z30 ?kNz30 ?k3z30 ?k5z30 ?kAz30 ?kFz30 ?kKz30 ?k6z30 ?k7z30 ?k8z30 ?k9z30 ?kBz30 ?_ ?c5z30 ?c2z30 ?c3z30 ?c4z30; (case kAz30 => exact rfl); (case kFz30 => exact rfl); (case kKz30 => assumption); (case k1z30 => k_asm); (case k2z30 => k_asm); (case kNz30 => exact hled); (case k3z30 => k_asm); (case k5z30 => k_asm); (case k6z30 => k_is); (case k7z30 => k_is); (case k8z30 => ktr_room); (case k9z30 => exact BindsTo.of_eq rfl); (case c5z30 => decide); (case kBz30 => exact locs rfl); (case c2z30 => exact rfl); (case c3z30 => exact rfl); (case c4z30 => exact rfl); k_whole; intro g h' L' eL' keep F' N' B' X' T'; (try dsimp only); (try (refine fold2 ?_; intro qk ek hqk hek))))
 revert eL' keep F' N' B' X' T' hqk hek; revert g h' L' qk ek; exists hc, kS yH <| kS yH <| kS yN <| kS (yF (yF yP)) <| kO (yF (yF yP)), 1, g, h', L', qk, ek; intro eL' keep F' N' B' X' T' hqk hek
 walk_at "ws"
 show wpAny _ _ _ _ _ _
 have nda : (ta.map (·.1)).Nodup := by rw [← tb_keys hA]; exact (let ⟨_, _, _, _, _, _, q⟩ := ia; q)
 have ndb : (tb.map (·.1)).Nodup := by rw [← tb_keys hB]; exact (let ⟨_, _, _, _, _, _, q⟩ := ib; q)
 have nka : (ka.map (·.1)).Nodup := let ⟨_, _, _, _, _, _, q⟩ := ia; q
 have nkb : (kb.map (·.1)).Nodup := let ⟨_, _, _, _, _, _, q⟩ := ib; q
 have hla : ka.length = ta.length := (All2.length hA).symm
 have hlb : kb.length = tb.length := (All2.length hB).symm
 have newS : ∀ b, g.get? b = none → b ∉ ((Da, oa) :: (Db, ob) :: tl).map (·.1) → s.heap.get? b = none := fun b h1 h2 => by
  cases q : s.heap.get? b with
  | none => rfl
  | some o => rw [keep _ _ q h2] at h1; cases h1
 rename_i zv1 _ zv2 zv4 zv5 _ zv6 _ zv7 zv3 zv8 zv9; revert zv4 zv5 zv6 zv7 zv8 zv9; revert zv1 zv2 zv3 tk; exists hc, kS yN <| kS zeO <| kS yH <| kO yN, 2, zv1, zv2, zv3, tk; intro _ _ _ _ _ _
 refine wpAny_mono (Q := fun f s₂ => f = .next ∧ ∃ (Ta : Addr) (oT : Obj) (kvs : List (Str × Value)) (mk : List (Addr × Obj)) (h : Heap) (tk : Nat) (mF : Str → Option Value), s₂ = { s with heap := h, toks := tk } ∧ (Ta == sysModules) = false ∧ s.heap.get? Ta = none ∧
   oT.IsDictOf (sk w) kvs ∧ TabAt w (mk ++ tl) kvs (putAll [] ta) ∧ (∀ p ∈ (Da, oa) :: (Db, ob) :: (mk ++ tl), p.1 ≠ Ta) ∧ (∀ p ∈ mk, s.heap.get? p.1 = none) ∧
   Fr g L' h (ovr mF [(Str.ofString "table", some (.ref Ta)), (Str.ofString "one", some (.ref Da)), (Str.ofString "other", some (.ref Db))]) ∧ News g L' h ((Ta, oT) :: (Da, oa) :: (Db, ob) :: (mk ++ tl)))
  (wpAny_for_of ?_ (by intro _; rfl)) ?_ (fun _ _ z => z)
 ·walk_at "ws"
  rename Obj.IsDictOf (PySem.strKind PG w) _ [] => hs0
  rename News _ _ _ _ => N9
  rename Fr _ _ _ _ => F9
  rename (_ < _ ∧ _ < _ ∧ AllLt _ _) => hlt
  have hm : ∃ (m₀ : Str → Option Value) (Ta : Addr) (o0 : Obj), Fr g L' _ m₀ ∧ m₀ (Str.ofString "table") = some (.ref Ta) ∧ m₀ (Str.ofString "one") = some (.ref Da) ∧ m₀ (Str.ofString "other") = some (.ref Db) ∧ o0.IsDictOf (sk w) [] ∧ News g L' _ ((Ta, o0) :: (Da, oa) :: (Db, ob) :: ([] ++ tl)) ∧
    (Ta == sysModules) = false ∧ ∀ p ∈ (Da, oa) :: (Db, ob) :: ([] ++ tl), p.1 ≠ Ta := (xi3 _ _ _ ⟨F9, rfl, rfl, rfl, hs0, N9, by assumption, fun p hp => by
   rcases List.mem_cons.mp hp with rfl | hp
   ·exact Nat.ne_of_lt hlt.1
   ·rcases List.mem_cons.mp hp with rfl | hp
    ·exact Nat.ne_of_lt hlt.2.1
    ·exact Nat.ne_of_lt (allLt_mem hlt.2.2 p hp)⟩)
  refine exC (kS (yF yT) <| kS yN <| kO zeO) hm ?_; clear hm; intro m₀ Ta o0 hZ; revert hZ; revert m₀ Ta o0; exists hc, kS (yF yT) <| kS yN <| kO zeO, 3, m₀, Ta, o0; intro hZ; obtain ⟨F1, e1, e2, e3, hs1, N1, lo, apart⟩ := hZ
  clear F9 N9
  have nTs : s.heap.get? Ta = none := newS _ (N1 _ (.head _)).2.2 fun q => by
   have hZ := List.mem_map.mp q; refine exC (kO (zeP2 yN zeO)) hZ ?_; clear hZ; intro p hZ; revert hZ; revert p; refine hzC (kO (zeP2 yN zeO)) 4 ?_; generalize zz _ _ _ = p; intro hZ; obtain ⟨hp, z⟩ := hZ
   exact apart p hp z
  refine for_keys (knd := sk w) (kvs := ka) (od := oa) rfl la ia rfl rfl F1 N1
   (fun i m' nw gs => gs = s.gens ∧ ∃ (oT : Obj) (kvs : List (Str × Value)) (mk : List (Addr × Obj)) (vf : Option Value), m' = ovr m₀ [(Str.ofString "name", vf), (Str.ofString "table", some (.ref Ta)), (Str.ofString "one", some (.ref Da)), (Str.ofString "other", some (.ref Db))] ∧
    oT.IsDictOf (sk w) kvs ∧ TabAt w (mk ++ tl) kvs (putAll [] (ta.take i)) ∧ (∀ p ∈ (Da, oa) :: (Db, ob) :: (mk ++ tl), p.1 ≠ Ta) ∧ (∀ p ∈ mk, s.heap.get? p.1 = none) ∧ nw = (Ta, oT) :: (Da, oa) :: (Db, ob) :: (mk ++ tl)) ?_ ?_ ?_ ?_
  ·intro i m' nw gs hGJ
   obtain ⟨_, hZ⟩ := hGJ; refine exC (kS zeO <| kS yL <| kS yL <| kO yT) hZ ?_; clear hZ; intro oT kvs mk vf hZ; rename_i zv5; revert zv5 hZ; revert i m' nw gs oT kvs mk vf; exists hc, kS yN <| kS (yF yT) <| kS yL <| kS zeY <| kS zeO <| kS yL <| kS yL <| kO yT, 5, i, m', nw, gs, oT, kvs, mk, vf; intro _ hZ; obtain ⟨_, _, _, _, _, rfl⟩ := hZ
   exact .tail _ (.head _)
  ·exact ⟨rfl, xi4 o0 [] [] (m₀ (Str.ofString "name")) ⟨ovr_self (List.forall_mem_cons.mpr ⟨rfl, List.forall_mem_cons.mpr ⟨e1, List.forall_mem_cons.mpr ⟨e2, List.forall_mem_cons.mpr ⟨e3, List.forall_mem_nil _⟩⟩⟩⟩), hs1, .nil, apart, (fun p hp => nomatch hp), rfl⟩⟩
  ·intro i k x key m₁ nw gs h tk I oI hkv hkey hGJ
   generalize hJO : FEnd _ _ _ _ _ _ _ = QO
   revert QO
   refine hold_pi ?_
   intro QO hJO
   obtain ⟨rfl, hZ⟩ := hGJ; refine exC (kS zeO <| kS yL <| kS yL <| kO yT) hZ ?_; clear hZ; intro oT kvs mk vf hZ; revert hkv hkey hJO hZ; revert i k x key m₁ nw h tk I oI QO oT kvs mk vf; exists hc, kS yN <| kS zeR <| kS zeV <| kS zeV <| kS (yF yT) <| kS yL <| kS yH <| kS yN <| kS yN <| kS zeO <| kS (yF (yF yP)) <| kS zeO <| kS yL <| kS yL <| kO yT, 6, i, k, x, key, m₁, nw, h, tk, I, oI, QO, oT, kvs, mk, vf; intro hkv hkey hJO hZ; obtain ⟨rfl, hoT, hT, nT, nw, rfl⟩ := hZ
   intro F2 N2 off
   clear N1 F1
   walk_at "cg"
   obtain ⟨tk1, rfl⟩ := sk_key hkey
   walk_at "bg"
   have hZ := All2.getR hA hkv; refine exC (kO (zeP2 zeR zeEnt)) hZ ?_; clear hZ; intro p hZ; revert hkey F2 hZ; revert tk1 p; exists hc, kS yN <| kO (zeP2 zeR zeEnt), 7, tk1, p; intro hkey F2 hZ; obtain ⟨hpc, hp1, hp2⟩ := hZ
   try dsimp only at hp1 hp2
   subst hp1
   have hb := merge_b1 bA nda i
   have hbp := bA.2 p (List.mem_of_getElem? hpc)
   walk_at "ws"
   show wpAny _ _ _ _ _ _
   rename News _ _ _ _ => N3
   refine kdt_tail N3 (.tail _ (.tail _ (.head _))) ia (kdt_getItem N3 (.tail _ (.tail _ (.head _))) ia hkey (va_get nka hkv) ?_)
   walk_at "ws"
   rename News _ _ _ _ => N4
   rename Fr _ _ _ _ => F4
   refine ⟨X'.keeps (Fr.keep F4), ?_⟩
   refine put_here (A := [(I, oI)]) (B := (Da, oa) :: (Db, ob) :: (mk ++ tl)) (tl := mk ++ tl) (ent := p.2) B' F4 X' N4 T' rfl (by ktr_room) (by ktr_units) (fun q hq => .tail _ (.tail _ (.tail _ hq))) ?_ lo hoT hT (hp2.mono fun q hq => List.mem_append.mpr (.inr hq)) (Nat.le_trans hb.1 (by decide)) (fun q hq => (hb.2 q hq).ok (by decide)) (hbp.ok (by decide)) ?_
   ·intro q hq
    rcases List.mem_cons.mp hq with rfl | hq
    ·exact (off _ (.head _)).symm
    ·exact nT q hq
   intro h5 tk5 oT' kvs' mkP F5 N5 hoT' hT' oP
   revert F5 N5 hoT' hT' oP; revert h5 tk5 oT' kvs' mkP; exists hc, kS yH <| kS yN <| kS zeO <| kS yL <| kO yL, 8, h5, tk5, oT', kvs', mkP; intro F5 N5 hoT' hT' oP
   walk_at "ws"
   have offT : ∀ q ∈ (Da, oa) :: (Db, ob) :: ((mkP ++ mk) ++ tl), q.1 ≠ Ta := fun q hq => by
    simp only [List.mem_cons, List.mem_append] at hq
    rcases hq with rfl | rfl | (q' | q') | q'
    ·exact nT _ (.head _)
    ·exact nT _ (.tail _ (.head _))
    ·exact fun z => oP q q' (Ta, oT) (.tail _ (.head _)) z.symm
    ·exact nT q (.tail _ (.tail _ (List.mem_append.mpr (.inl q'))))
    ·exact nT q (.tail _ (.tail _ (List.mem_append.mpr (.inr q'))))
   subst hJO
   refine FEnd.next F5 N5 (fun q hq => ?_) (fun q hq => ?_) ⟨rfl, xi4 oT' kvs' (mkP ++ mk) _ ⟨ovr_eq (by walk_at "oi") (by walk_at "oo"), hoT', by rw [putAll_take hpc, List.append_assoc]; exact hT', offT, (fun q hq => ?_), rfl⟩⟩
   ·exact subm (by walk_at "sz") hq
   ·simp only [List.mem_cons, List.mem_append] at hq
    rcases hq with rfl | rfl | rfl | (q' | q') | q'
    ·exact off (Ta, oT) (.head _)
    ·exact off _ (.tail _ (.head _))
    ·exact off _ (.tail _ (.tail _ (.head _)))
    ·exact fun z => oP q q' (I, oI) (.head _) z.symm
    ·exact off q (.tail _ (.tail _ (.tail _ (List.mem_append.mpr (.inl q')))))
    ·exact off q (.tail _ (.tail _ (.tail _ (List.mem_append.mpr (.inr q')))))
   ·rcases List.mem_append.mp hq with q' | q'
    ·refine newS _ (N5 q (List.mem_append.mpr (.inl q'))).2.2 fun z => ?_
     have hZ := List.mem_map.mp z; refine exC (kO (zeP2 yN zeO)) hZ ?_; clear hZ; intro x hZ; revert hq q' z hZ; revert q x; exists hc, kS (zeP2 yN zeO) <| kO (zeP2 yN zeO), 9, q, x; intro hq q' z hZ; obtain ⟨hx, z⟩ := hZ
     refine oP q q' x ?_ z
     exact subm (by walk_at "sz") hx
    ·exact nw q q'
  ·intro m₁ nw gs hGJ
   obtain ⟨rfl, hZ⟩ := hGJ; refine exC (kS zeO <| kS yL <| kS yL <| kO yT) hZ ?_; clear hZ; intro oT kvs mk vf hZ; revert hZ; revert m₁ nw oT kvs mk vf; exists hc, kS (yF yT) <| kS yL <| kS zeO <| kS yL <| kS yL <| kO yT, 10, m₁, nw, oT, kvs, mk, vf; intro hZ; obtain ⟨rfl, hoT, hT, nT, nw, rfl⟩ := hZ
   intro h tk F2 N2
   rw [hla, List.take_length] at hT
   refine ⟨rfl, xi7 Ta oT kvs mk h tk (ovr m₀ [(Str.ofString "name", vf), (Str.ofString "table", some (.ref Ta)), (Str.ofString "one", some (.ref Da)), (Str.ofString "other", some (.ref Db))]) ⟨rfl, lo, nTs, hoT, hT, nT, nw, ?_, N2⟩⟩
   rw [← ovr_self (List.forall_mem_cons.mpr ⟨rfl, List.forall_mem_cons.mpr ⟨rfl, List.forall_mem_cons.mpr ⟨rfl, List.forall_mem_nil _⟩⟩⟩)]
   exact F2
 ·intro f s₂ hGJ
  obtain ⟨rfl, hZ⟩ := hGJ; refine exC (kS yN <| kS zeO <| kS yL <| kS yL <| kS yH <| kS yN <| kO (yF yT)) hZ ?_; clear hZ; intro Ta oT kvs mk h tk mF hZ; revert hZ; revert s₂ Ta oT kvs mk h tk mF; exists hc, kS zeS <| kS yN <| kS zeO <| kS yL <| kS yL <| kS yH <| kS yN <| kO (yF yT), 11, s₂, Ta, oT, kvs, mk, h, tk, mF; intro hZ; obtain ⟨rfl, lo, nTs, hoT, hT, nT, nw, F1, N1⟩ := hZ
  walk_at "ws"
  show wpAny _ _ _ _ _ _
  refine wpAny_mono (Q := fun f s₂ => f = .next ∧ ∃ (oT : Obj) (kvs : List (Str × Value)) (mk : List (Addr × Obj)) (h : Heap) (tk : Nat) (mF : Str → Option Value), s₂ = { s with heap := h, toks := tk } ∧
    oT.IsDictOf (sk w) kvs ∧ TabAt w (mk ++ tl) kvs (mergeT ta tb) ∧ (∀ p ∈ (Da, oa) :: (Db, ob) :: (mk ++ tl), p.1 ≠ Ta) ∧ (∀ p ∈ mk, s.heap.get? p.1 = none) ∧
    Fr g L' h (ovr mF [(Str.ofString "table", some (.ref Ta))]) ∧ News g L' h ((Ta, oT) :: (Da, oa) :: (Db, ob) :: (mk ++ tl)))
   (wpAny_for_of ?_ (by intro _; rfl)) ?_ (fun _ _ z => z)
  ·walk_at "ws"
   show wpAny _ _ _ _ _ _
   have hm : ∃ (m₀ : Str → Option Value), Fr g L' h m₀ ∧ m₀ (Str.ofString "table") = some (.ref Ta) ∧ m₀ (Str.ofString "one") = some (.ref Da) ∧ m₀ (Str.ofString "other") = some (.ref Db) := ⟨_, F1, rfl, rfl, rfl⟩
   refine exC (kO (yF yT)) hm ?_; clear hm; intro m₀ hZ; revert hZ; revert m₀; refine hzC (kO (yF yT)) 12 ?_; generalize zz _ _ _ = m₀; intro hZ; obtain ⟨F2, e1, e2, e3⟩ := hZ
   clear F1
   have F1 := F2
   clear F2
   have bM : TbB 22 (putAll [] ta) := by have := merge_b1 bA nda ta.length; rw [List.take_length] at this; exact this
   refine for_keys (knd := sk w) (kvs := kb) (od := ob) rfl lb ib rfl rfl F1 N1
    (fun i m' nw gs => gs = s.gens ∧ ∃ (oT : Obj) (kvs : List (Str × Value)) (mk : List (Addr × Obj)) (vf : Option Value), m' = ovr m₀ [(Str.ofString "name", vf), (Str.ofString "table", some (.ref Ta)), (Str.ofString "one", some (.ref Da)), (Str.ofString "other", some (.ref Db))] ∧
     oT.IsDictOf (sk w) kvs ∧ TabAt w (mk ++ tl) kvs (putAll (putAll [] ta) (tb.take i)) ∧ (∀ p ∈ (Da, oa) :: (Db, ob) :: (mk ++ tl), p.1 ≠ Ta) ∧ (∀ p ∈ mk, s.heap.get? p.1 = none) ∧ nw = (Ta, oT) :: (Da, oa) :: (Db, ob) :: (mk ++ tl)) ?_ ?_ ?_ ?_
   ·intro i m' nw gs hGJ
    obtain ⟨_, hZ⟩ := hGJ; refine exC (kS zeO <| kS yL <| kS yL <| kO yT) hZ ?_; clear hZ; intro oT kvs mk vf hZ; rename_i zv10; revert zv10 hZ; revert i m' nw gs oT kvs mk vf; exists hc, kS yN <| kS (yF yT) <| kS yL <| kS zeY <| kS zeO <| kS yL <| kS yL <| kO yT, 13, i, m', nw, gs, oT, kvs, mk, vf; intro _ hZ; obtain ⟨_, _, _, _, _, rfl⟩ := hZ
    exact .tail _ (.tail _ (.head _))
   ·exact ⟨rfl, xi4 oT kvs mk (m₀ (Str.ofString "name")) ⟨ovr_self (List.forall_mem_cons.mpr ⟨rfl, List.forall_mem_cons.mpr ⟨e1, List.forall_mem_cons.mpr ⟨e2, List.forall_mem_cons.mpr ⟨e3, List.forall_mem_nil _⟩⟩⟩⟩), hoT, hT, nT, nw, rfl⟩⟩
   ·intro i k x key m₁ nw gs h tk I oI hkv hkey hGJ
    generalize hJO : FEnd _ _ _ _ _ _ _ = QO
    revert QO
    refine hold_pi ?_
    intro QO hJO
    obtain ⟨rfl, hZ⟩ := hGJ; refine exC (kS zeO <| kS yL <| kS yL <| kO yT) hZ ?_; clear hZ; intro oT kvs mk vf hZ; revert hkv hkey hJO hZ; revert i k x key m₁ nw h tk I oI QO oT kvs mk vf; exists hc, kS yN <| kS zeR <| kS zeV <| kS zeV <| kS (yF yT) <| kS yL <| kS yH <| kS yN <| kS yN <| kS zeO <| kS (yF (yF yP)) <| kS zeO <| kS yL <| kS yL <| kO yT, 14, i, k, x, key, m₁, nw, h, tk, I, oI, QO, oT, kvs, mk, vf; intro hkv hkey hJO hZ; obtain ⟨rfl, hoT, hT, nT, nw, rfl⟩ := hZ
    intro F2 N2 off
    clear N1 F1
    walk_at "cg"
    obtain ⟨tk1, rfl⟩ := sk_key hkey
    walk_at "bg"
    have hZ := All2.getR hB hkv; refine exC (kO (zeP2 zeR zeEnt)) hZ ?_; clear hZ; intro p hZ; revert hkey F2 hZ; revert tk1 p; exists hc, kS yN <| kO (zeP2 zeR zeEnt), 15, tk1, p; intro hkey F2 hZ; obtain ⟨hpc, hp1, hp2⟩ := hZ
    try dsimp only at hp1 hp2
    subst hp1
    have hb := merge_b2 bM bB ndb i
    have hbp := bB.2 p (List.mem_of_getElem? hpc)
    walk_at "ws"
    show wpAny _ _ _ _ _ _
    rename News _ _ _ _ => N3
    refine kdt_tail N3 (.tail _ (.tail _ (.tail _ (.head _)))) ib (kdt_getItem N3 (.tail _ (.tail _ (.tail _ (.head _)))) ib hkey (va_get nkb hkv) ?_)
    walk_at "ws"
    rename News _ _ _ _ => N4
    rename Fr _ _ _ _ => F4
    refine ⟨X'.keeps (Fr.keep F4), ?_⟩
    refine put_here (A := [(I, oI)]) (B := (Da, oa) :: (Db, ob) :: (mk ++ tl)) (tl := mk ++ tl) (ent := p.2) B' F4 X' N4 T' rfl (by ktr_room) (by ktr_units) (fun q hq => .tail _ (.tail _ (.tail _ hq))) ?_ lo hoT hT (hp2.mono fun q hq => List.mem_append.mpr (.inr hq)) (Nat.le_trans hb.1 (by decide)) (fun q hq => (hb.2 q hq).ok (by decide)) (hbp.ok (by decide)) ?_
    ·intro q hq
     rcases List.mem_cons.mp hq with rfl | hq
     ·exact (off _ (.head _)).symm
     ·exact nT q hq
    intro h5 tk5 oT' kvs' mkP F5 N5 hoT' hT' oP
    revert F5 N5 hoT' hT' oP; revert h5 tk5 oT' kvs' mkP; exists hc, kS yH <| kS yN <| kS zeO <| kS yL <| kO yL, 16, h5, tk5, oT', kvs', mkP; intro F5 N5 hoT' hT' oP
    walk_at "ws"
    have offT : ∀ q ∈ (Da, oa) :: (Db, ob) :: ((mkP ++ mk) ++ tl), q.1 ≠ Ta := fun q hq => by
     simp only [List.mem_cons, List.mem_append] at hq
     rcases hq with rfl | rfl | (q' | q') | q'
     ·exact nT _ (.head _)
     ·exact nT _ (.tail _ (.head _))
     ·exact fun z => oP q q' (Ta, oT) (.tail _ (.head _)) z.symm
     ·exact nT q (.tail _ (.tail _ (List.mem_append.mpr (.inl q'))))
     ·exact nT q (.tail _ (.tail _ (List.mem_append.mpr (.inr q'))))
    subst hJO
    refine FEnd.next F5 N5 (fun q hq => ?_) (fun q hq => ?_) ⟨rfl, xi4 oT' kvs' (mkP ++ mk) _ ⟨ovr_eq (by walk_at "oi") (by walk_at "oo"), hoT', by rw [putAll_take hpc, List.append_assoc]; exact hT', offT, (fun q hq => ?_), rfl⟩⟩
    ·exact subm (by walk_at "sz") hq
    ·simp only [List.mem_cons, List.mem_append] at hq
     rcases hq with rfl | rfl | rfl | (q' | q') | q'
     ·exact off (Ta, oT) (.head _)
     ·exact off _ (.tail _ (.head _))
     ·exact off _ (.tail _ (.tail _ (.head _)))
     ·exact fun z => oP q q' (I, oI) (.head _) z.symm
     ·exact off q (.tail _ (.tail _ (.tail _ (List.mem_append.mpr (.inl q')))))
     ·exact off q (.tail _ (.tail _ (.tail _ (List.mem_append.mpr (.inr q')))))
    ·rcases List.mem_append.mp hq with q' | q'
     ·refine newS _ (N5 q (List.mem_append.mpr (.inl q'))).2.2 fun z => ?_
      have hZ := List.mem_map.mp z; refine exC (kO (zeP2 yN zeO)) hZ ?_; clear hZ; intro x hZ; revert hq q' z hZ; revert q x; exists hc, kS (zeP2 yN zeO) <| kO (zeP2 yN zeO), 17, q, x; intro hq q' z hZ; obtain ⟨hx, z⟩ := hZ
      refine oP q q' x ?_ z
      exact subm (by walk_at "sz") hx
     ·exact nw q q'
   ·intro m₁ nw gs hGJ
    obtain ⟨rfl, hZ⟩ := hGJ; refine exC (kS zeO <| kS yL <| kS yL <| kO yT) hZ ?_; clear hZ; intro oT kvs mk vf hZ; revert hZ; revert m₁ nw oT kvs mk vf; exists hc, kS (yF yT) <| kS yL <| kS zeO <| kS yL <| kS yL <| kO yT, 18, m₁, nw, oT, kvs, mk, vf; intro hZ; obtain ⟨rfl, hoT, hT, nT, nw, rfl⟩ := hZ
    intro h tk F2 N2
    rw [hlb, List.take_length] at hT
    refine ⟨rfl, xi6 oT kvs mk h tk (ovr m₀ [(Str.ofString "name", vf), (Str.ofString "table", some (.ref Ta)), (Str.ofString "one", some (.ref Da)), (Str.ofString "other", some (.ref Db))]) ⟨rfl, hoT, hT, nT, nw, ?_, N2⟩⟩
    rw [← ovr_self (List.forall_mem_cons.mpr ⟨rfl, List.forall_mem_nil _⟩)]
    exact F2
  ·intro f s₂ hGJ
   obtain ⟨rfl, hZ⟩ := hGJ; refine exC (kS zeO <| kS yL <| kS yL <| kS yH <| kS yN <| kO (yF yT)) hZ ?_; clear hZ; intro oT kvs mk h tk mF hZ; revert hZ; revert s₂ oT kvs mk h tk mF; exists hc, kS zeS <| kS zeO <| kS yL <| kS yL <| kS yH <| kS yN <| kO (yF yT), 19, s₂, oT, kvs, mk, h, tk, mF; intro hZ; obtain ⟨rfl, hoT, hT, nT, nw, F1, N1⟩ := hZ
   walk_at "ws"
   all_goals (try dsimp only)
   show Q _ _
   refine hret _ _ _ (ext_of_led keep hled F1 N1 fun p hp _ => ?_) (xi4 Ta oT kvs mk ⟨rfl, fun p hp => ⟨?_, (N1 p ?_).1⟩, hoT, hT, lo, fun p hp => nT p (.tail _ (.tail _ hp))⟩)
   ·exact subm (by walk_at "sz") hp
   ·rcases List.mem_cons.mp hp with rfl | hp
    ·exact nTs
    ·exact nw p hp
   ·exact subm (by walk_at "sz") hp
end
section
variable (w : World) (mean : ExcName → Option Value) (mg mb : Str → Option Value)
noncomputable def leadT : List Str := [Str.ofString "", Str.ofString "\t", Str.ofString " \t\t", Str.ofString "\t \t", Str.ofString "  ", Str.ofString "   \t"]
noncomputable def leadS (v : Int) : Str := leadT.getD (Int.fmod v 6).toNat (Str.ofString "")
set_option maxRecDepth 100000 in
set_option maxHeartbeats 4000000 in
theorem lead_spec (v : Int) (t : Tok) : SpecN w mean mg mb none 1 8 198 [.int v t] (fun _ => True) (fun _ _ r => ∃ t, r = .str (leadS v) t) := by
 walk_at "ih"
 (refine wpAny_call ?_; k_dflt (refine' enterH (binds := [(Str.ofString "v", .int v t)]) ?k1z31 ?k2z31 ?k3z31 ?k5z31 ?kAz31 ?kFz31 ?kKz31 ?k6z31 ?k7z31 ?k8z31 ?k9z31 ?kBz31 ?_ ?c5z31 ?c2z31 ?c3z31 ?c4z31; (case kAz31 => exact rfl); (case kFz31 => exact rfl); (case kKz31 => assumption); (case k1z31 => k_asm); (case k2z31 => k_asm); (case k3z31 => k_asm); (case k5z31 => k_asm); (case k6z31 => k_is); (case k7z31 => k_is); (case k8z31 => ktr_room); (case k9z31 => exact BindsTo.of_eq rfl); (case c5z31 => decide); (case kBz31 => exact locs rfl); (case c2z31 => exact rfl); (case c3z31 => exact rfl); (case c4z31 => exact rfl); k_whole; intro h' L' eL' F' N' B' X' T'; (try dsimp only); (try k_fold)))
 k_steps
 all_goals (refine hret _ _ _ (Fr.keep (by assumption)) ⟨_, congrArg (Value.str · _) ?_⟩; unfold leadS; rw [show Int.fmod v 6 = _ from by assumption]; rfl)
noncomputable def colS (x : Str) (size : Int) : Int := (List.foldl (fun σ k => if (k == Str.ofString "\t") = true then (σ.fst - σ.fst.fmod size + size, ()) else (σ.fst + 1, ())) ((0 : Int), ()) (signs x)).fst
set_option maxRecDepth 100000 in
set_option maxHeartbeats 4000000 in
theorem column_spec (x : Str) (t : Tok) (size : Int) (t2 : Tok) (hsz : x.length ≤ 100) (hp : 0 < size) (hp2 : size < 1000) :
  SpecN w mean mg mb none 1 8 240 [.str x t, .int size t2] (fun _ => True) (fun _ _ r => ∃ t, r = .int (colS x size) t) := by
 walk_at "ih"
 (refine wpAny_call ?_; k_dflt (refine' enterH (binds := [(Str.ofString "lead", .str x t), (Str.ofString "size", .int size t2)]) ?k1z32 ?k2z32 ?k3z32 ?k5z32 ?kAz32 ?kFz32 ?kKz32 ?k6z32 ?k7z32 ?k8z32 ?k9z32 ?kBz32 ?_ ?c5z32 ?c2z32 ?c3z32 ?c4z32; (case kAz32 => exact rfl); (case kFz32 => exact rfl); (case kKz32 => assumption); (case k1z32 => k_asm); (case k2z32 => k_asm); (case k3z32 => k_asm); (case k5z32 => k_asm); (case k6z32 => k_is); (case k7z32 => k_is); (case k8z32 => ktr_room); (case k9z32 => exact BindsTo.of_eq rfl); (case c5z32 => decide); (case kBz32 => exact locs rfl); (case c2z32 => exact rfl); (case c3z32 => exact rfl); (case c4z32 => exact rfl); k_whole; intro h' L' eL' F' N' B' X' T'; (try dsimp only); (try k_fold)))
 k_steps
 exact hret _ _ _ (Fr.keep (by assumption)) ⟨_, rfl⟩
noncomputable def lineV (v : Int) (t1 t2 : Tok) : List Value := [.str (leadS v) t1, .int (Int.fmod (Int.fdiv v 6) 3) t2, .bool (Int.fmod (Int.fdiv v 18) 2 == 1)]
set_option maxRecDepth 100000 in
set_option maxHeartbeats 4000000 in
theorem line_spec (v : Int) (t : Tok) (h0 : 0 ≤ v) (h1 : v < 36) : SpecN w mean mg mb none 2 16 205 [.int v t] (fun _ => True)
  (fun h h' r => ∃ a t1 t2, r = .ref a ∧ h.get? a = none ∧ h'.get? a = some { cls := .type "tuple", data := .seq (lineV v t1 t2).toArray }) := by
 walk_at "ih"
 (refine wpAny_call ?_; k_dflt (refine' enterH (binds := [(Str.ofString "v", .int v t)]) ?k1z33 ?k2z33 ?k3z33 ?k5z33 ?kAz33 ?kFz33 ?kKz33 ?k6z33 ?k7z33 ?k8z33 ?k9z33 ?kBz33 ?_ ?c5z33 ?c2z33 ?c3z33 ?c4z33; (case kAz33 => exact rfl); (case kFz33 => exact rfl); (case kKz33 => assumption); (case k1z33 => k_asm); (case k2z33 => k_asm); (case k3z33 => k_asm); (case k5z33 => k_asm); (case k6z33 => k_is); (case k7z33 => k_is); (case k8z33 => ktr_room); (case k9z33 => exact BindsTo.of_eq rfl); (case c5z33 => decide); (case kBz33 => exact locs rfl); (case c2z33 => exact rfl); (case c3z33 => exact rfl); (case c4z33 => exact rfl); k_whole; intro h' L' eL' F' N' B' X' T'; (try dsimp only); (try k_fold)))
 k_steps
 ((try (refine ⟨?kinz34, ?_⟩; (case kinz34 => k_in))); k_dflt (refine' SpecN.use (lead_spec w mean mg mb v t) ?k1z34 ?k2z34 ?k3z34 ?k4z34 ?k5z34 ?kKz34 ?kdz34 ?kuz34 ?kpz34 ?_; (case k1z34 => k_asm); (case k2z34 => k_asm); (case k3z34 => k_asm); (case k4z34 => k_asm); (case k5z34 => k_asm); (case kKz34 => first | exact rfl | assumption); (case kdz34 => ktr_room); (case kuz34 => ktr_units); (case kpz34 => first | exact trivial | skip)))
 intro r h9 tk9 e9 F9 N9 hr
 obtain ⟨t9, rfl⟩ := hr
 k_steps
 rename News _ _ _ _ => kN
 rename Fr _ _ _ _ => kF
 exact hret _ _ _ kF.keep ⟨_, _, _, rfl, kN.fresh (.head _), kN.get (.head _)⟩
end
section
noncomputable abbrev tabS : Str := Str.ofString "\t"
noncomputable def runsS (x y : Str) : List Int := (Txt.split x tabS ++ Txt.split y tabS).map (fun a : Str => (a.length : Int))
noncomputable def unlikeS (x y : Str) (M : Int) : List Int := ((List.range (M + 1).toNat).map fun i : Nat => (1 + (i : Int))).filter fun s => colS x s != colS y s
set_option maxRecDepth 100000 in
set_option maxHeartbeats 8000000 in
theorem unlike_spec : ∀ (w : World) (mean : ExcName → Option Value) (mg mb : Str → Option Value) (x y : Str) (t t2 : Tok) (hx : x.length ≤ 10) (hy : y.length ≤ 10) (hr1 : 0 < (runsS x y).length) (hr2 : (runsS x y).length ≤ 20), SpecN w mean mg mb none 2 20 245 [.str x t, .str y t2] (fun _ => True) (fun h h' r => ∃ a vs n M, r = .ref a ∧ h.get? a = none ∧ h'.get? a = some { cls := .type "list", data := .seq vs n } ∧ M ∈ runsS x y ∧ (∀ z ∈ runsS x y, z ≤ M) ∧ IntsAre vs.toList (unlikeS x y M)) := by
 intro w mean mg mb x y t t2 hx hy hr1 hr2
 intro dp un gd cn cs a ccd cl outer A₀ base h₀ L m s Q E
 revert hx hy hr1 hr2
 show ∀ (hx : x.length ≤ 10) (hy : y.length ≤ 10) (hr1 : 0 < (runsS x y).length) (hr2 : (runsS x y).length ≤ 20), SpecN.at w mean mg mb none 2 20 245 [.str x t, .str y t2] (fun _ => True) (fun h h' r => ∃ a vs n M, r = .ref a ∧ h.get? a = none ∧ h'.get? a = some { cls := .type "list", data := .seq vs n } ∧ M ∈ runsS x y ∧ (∀ z ∈ runsS x y, z ≤ M) ∧ IntsAre vs.toList (unlikeS x y M)) dp un gd cn cs a ccd cl outer A₀ base h₀ L m s Q E
 revert w mean mg mb x y t t2 dp un gd cn cs a ccd cl outer A₀ base h₀ L m s Q E
 exists hc, kS zeW <| kS (yF yT) <| kS (yF yT) <| kS (yF yT) <| kS zeR <| kS zeR <| kS yN <| kS yN <| kS yN <| kS yN <| kS yT <| kS zeR <| kS (inferInstanceAs (Nonempty Scope)) <| kS yN <| kS zeV <| kS yL <| kS yL <| kS zeA <| kS yH <| kS yH <| kS yN <| kS (yF yT) <| kS zeS <| kS (yF <| yF yP) <| kO (yF <| yF yP), 99, w, mean, mg, mb, x, y, t, t2, dp, un, gd, cn, cs, a, ccd, cl, outer, A₀, base, h₀, L, m, s, Q, E
 intro hx hy hr1 hr2
 unfold SpecN.at; intro B F X T hk hdp hun hpre hret
 (refine wpAny_call ?_; k_dflt (refine' enterHC (binds := [(Str.ofString "lead", .str x t), (Str.ofString "other", .str y t2)]) ?k1z35 ?k2z35 ?k3z35 ?k5z35 ?kAz35 ?kFz35 ?kKz35 ?k6z35 ?k7z35 ?k8z35 ?k9z35 ?kBz35 ?kDz35 ?_ ?c2z35 ?c3z35 ?c4z35; (case kAz35 => exact rfl); (case kFz35 => exact rfl); (case kKz35 => assumption); (case k1z35 => k_asm); (case k2z35 => k_asm); (case k3z35 => k_asm); (case k5z35 => k_asm); (case k6z35 => k_is); (case k7z35 => k_is); (case k8z35 => ktr_room); (case k9z35 => exact BindsTo.of_eq rfl); (case kBz35 => exact rfl); (case kDz35 => decide +kernel); (case c2z35 => exact rfl); (case c3z35 => exact rfl); (case c4z35 => exact rfl); k_whole; intro h' tk' L' cells' eL' F' N' Y' B' X' T'; k_cells Y'; (try dsimp only); (try (refine fold2 ?_; intro qk ek hqk hek)); (try simp only [List.cons_append, List.nil_append] at N')))
 rename_i zv1 zv2 zv3 zv4; revert eL' F' zv3 zv4 N' hqk hek; revert h' tk' L' zv1 zv2 qk ek; exists hc, kS yH <| kS yN <| kS yN <| kS zeO <| kS zeO <| kS (yF (yF yP)) <| kO (yF (yF yP)), 1, h', tk', L', zv1, zv2, qk, ek; intro eL' F' _ _ N' hqk hek
 walk_at "ws"
 rename (List.map _ _ = Txt.split x _) => e1
 rename (List.map _ _ = Txt.split y _) => e2
 rw [e1, e2] at *
 rename StrsAre _ (Txt.split x _) => s1
 rename StrsAre _ (Txt.split y _) => s2
 rename (∀ (a : Str), a ∈ Txt.split x _ → a.length ≤ x.length) => b1
 rename (∀ (a : Str), a ∈ Txt.split y _ → a.length ≤ y.length) => b2
 rename News _ _ _ _ => N2
 rename Fr _ _ _ _ => F2
 have s12 := StrsAre.app s1 s2
 have hrl : (runsS x y).length = (Txt.split x tabS ++ Txt.split y tabS).length := by simp [runsS]
 refine add_lists F2 N2 (N2.isList (.tail _ (.head _))) (N2.isList (.head _)) ?_ ?_
 ·intro h' F' N'
  rename_i zv5 zv6 zv7 zv11 zv12 zv13 zv8 zv9 zv10 zv14; revert s1 zv11 zv12 zv13 s2 zv14 F2 N2 s12 F' N'; revert zv5 zv6 zv7 zv8 zv9 zv10 h'; exists hc, kS yL <| kS yH <| kS yN <| kS yL <| kS yH <| kS yN <| kO yH, 2, zv5, zv6, zv7, zv8, zv9, zv10, h'; intro s1 _ _ _ s2 _ F2 N2 s12 F' N'
  walk_at "ws"
  refine LCg.CompSrc.ledger rfl F' N' (.head _) ?_ fun g => ?_
  ·rw [List.size_toArray, s12.length, ← hrl]; exact Nat.le_trans hr2 (by decide)
  ·revert g; exists ho, kO yH, 3, g; dsimp only [Cu.un, kO]
   refine compU_ind (fun i v _ => ∃ n t, (runsS x y)[i]? = some n ∧ v = Value.int n t) (fun _ _ _ _ _ h => h) (srcAt_sub (.head _)) ?_ ?_
   ·intro i v ys nw I oI C oC D m₂ h tk E' hi hv hC hx9 F N off ne
    obtain ⟨z, tz, rfl, hz⟩ := StrsAre.item s12 i v (by simpa using hv)
    have hzl : z.length ≤ 10 := by
     have hm := List.mem_of_getElem? hz
     rcases List.mem_append.mp hm with q | q
     ·exact Nat.le_trans (b1 z q) hx
     ·exact Nat.le_trans (b2 z q) hy
    revert hi hC F N off ne hz hv hx9 hzl; revert i ys nw I oI C oC D m₂ h tk E' z tz; exists hc, kS yN <| kS yL <| kS yL <| kS yN <| kS zeO <| kS yN <| kS zeO <| kS yN <| kS (yF yT) <| kS yH <| kS yN <| kS (yF (yF yP)) <| kS zeR <| kO yN, 4, i, ys, nw, I, oI, C, oC, D, m₂, h, tk, E', z, tz; intro hi hC F N off ne hz hv hx9 hzl
    walk_at "ws"
    refine CEnd.intro F N off (fun _ h => h) (xi2 _ _ ⟨?_, rfl⟩)
    unfold runsS; rw [List.getElem?_map, hz]; rfl
   ·intro ys nw a
    unfold LCg.FinE
    intro D h tk F' N' off
    have a' : IntsAre ys (runsS x y) := All2.ints (All2.range (by rw [List.size_toArray, s12.length, ← hrl]) (a.mono fun i v ⟨n, t, q, r⟩ => ⟨n, q, t, r⟩))
    dsimp only [List.cons_append, List.nil_append] at N'
    revert a F' N' off a'; revert ys nw D h tk; exists hc, kS yL <| kS yL <| kS yN <| kS yH <| kO yN, 5, ys, nw, D, h, tk; intro a F' N' off a'
    walk_at "ws"
    rename (_ ∈ runsS x y) => hM1
    rename (∀ a ∈ runsS x y, a ≤ _) => hM2
    rename Int => M
    have hM0 : 0 ≤ M := by
     obtain ⟨z, _, rfl⟩ := List.mem_map.mp hM1
     exact oz19
    have hM10 : M ≤ 10 := by
     obtain ⟨z, hz, rfl⟩ := List.mem_map.mp hM1
     rcases List.mem_append.mp hz with q | q
     ·have := b1 z q; exact oz18 this hx
     ·have := b2 z q; exact oz18 this hy
    rename IsRange _ _ _ _ _ _ _ _ => hr
    rename News _ _ _ _ => N9
    rename Fr _ _ _ _ => F9
    rename_i zv12 _ zv13 zv15 zv21 zv22 zv16 zv17 zv18 zv19 zv20 zv23; revert hM1 hM2 zv21 zv22 hr F9 N9 zv23 hM0 hM10; revert zv12 M zv13 zv15 tk zv16 zv17 zv18 zv19 zv20; exists hc, kS yH <| kS zeI <| kS yN <| kS yH <| kS yN <| kS yH <| kS yN <| kS yN <| kS yN <| kO yN, 6, zv12, M, zv13, zv15, tk, zv16, zv17, zv18, zv19, zv20; intro hM1 hM2 _ _ hr F9 N9 _ hM0 hM10
    refine LCt.CompSrcT.range (n := (M + 1).toNat) rfl F9 N9 hr ?_ ?_ ?_ fun g => ?_
    ·exact range_small (by decide) (by decide) (by exact oz17 hM0) (by exact oz16 hM10)
    ·exact range_size (by exact oz15 hM0)
    ·exact Nat.le_trans (show (M + 1).toNat ≤ 11 by exact oz14 hM10) (by decide)
    revert g; exists ho, kO yH, 7, g; dsimp only [Cu.un, kO]
    refine compT_ind (fun i => colS x (1 + (i : Int)) != colS y (1 + (i : Int))) (fun i v _ => ∃ t, v = Value.int (1 + (i : Int)) t) (fun _ _ _ _ _ h => h) (fun _ _ => trivial) ?_ ?_
    ·intro i v ys nw I oI C oC D m₂ h tk E' hi hv hC hx9 F N off ne
     obtain ⟨tv, rfl⟩ := hv
     dsimp only [List.cons_append, List.nil_append] at N
     revert hi hC F N off ne hx9; revert i ys nw I oI C oC D m₂ h tk E' tv; exists hc, kS yN <| kS yL <| kS yL <| kS yN <| kS zeO <| kS yN <| kS zeO <| kS yN <| kS (yF yT) <| kS yH <| kS yN <| kS (yF (yF yP)) <| kO yN, 8, i, ys, nw, I, oI, C, oC, D, m₂, h, tk, E', tv; intro hi hC F N off ne hx9
     walk_at "ws"
     refine ⟨X'.keeps (Fr.keep (by assumption)), ?_⟩
     ((try (refine ⟨?kinz36, ?_⟩; (case kinz36 => k_in))); k_dflt (refine' SpecN.use (column_spec w mean mg mb x t (1 + (i : Int)) tv (by omega) (by exact oz13) (by exact oz12 hi hM10)) ?k1z36 ?k2z36 ?k3z36 ?k4z36 ?k5z36 ?kKz36 ?kdz36 ?kuz36 ?kpz36 ?_; (case k1z36 => k_asm); (case k2z36 => k_asm); (case k3z36 => k_asm); (case k4z36 => k_asm); (case k5z36 => k_asm); (case kKz36 => first | exact rfl | assumption); (case kdz36 => ktr_room); (case kuz36 => ktr_units); (case kpz36 => first | exact trivial | skip)))
     intro r h9 tk9 e9 F9 N9 hr
     obtain ⟨t9, rfl⟩ := hr
     walk_at "ws"
     refine ⟨X'.keeps (Fr.keep (by assumption)), ?_⟩
     ((try (refine ⟨?kinz37, ?_⟩; (case kinz37 => k_in))); k_dflt (refine' SpecN.use (column_spec w mean mg mb y t2 (1 + (i : Int)) tv (by omega) (by exact oz13) (by exact oz12 hi hM10)) ?k1z37 ?k2z37 ?k3z37 ?k4z37 ?k5z37 ?kKz37 ?kdz37 ?kuz37 ?kpz37 ?_; (case k1z37 => k_asm); (case k2z37 => k_asm); (case k3z37 => k_asm); (case k4z37 => k_asm); (case k5z37 => k_asm); (case kKz37 => first | exact rfl | assumption); (case kdz37 => ktr_room); (case kuz37 => ktr_units); (case kpz37 => first | exact trivial | skip)))
     intro r h9 tk9 e9 F9 N9 hr
     obtain ⟨t9, rfl⟩ := hr
     walk_at "ws"
     refine ⟨rfl, ?_⟩
     split
     ·walk_at "ws"
      exact CEnd.intro F9 N9 off (fun _ h => h) ⟨_, rfl⟩
     ·exact CEnd.intro F9 N9 off (fun _ h => h) trivial
    ·intro ys nw a
     unfold LCg.FinE
     intro D h tk F' N' off
     have a' : IntsAre ys (unlikeS x y M) := ints_of_range_filter (fun _ => rfl) a
     revert a F' N' off a'; revert ys nw D h tk; exists hc, kS yL <| kS yL <| kS yN <| kS yH <| kO yN, 9, ys, nw, D, h, tk; intro a F' N' off a'
     walk_at "ws"
     exact hret _ _ _ F'.keep (xi4 D _ _ M ⟨rfl, N'.fresh (.head _), N'.get (.head _), hM1, hM2, a'⟩)
 ·have := s12.length
  rw [List.length_append] at this
  rw [this, ← hrl]; exact Nat.le_trans hr2 (by decide)
end
section
structure Ev where
 nm : Str
 c : Str
 n : Int
 t : Int
 u : Int
theorem zeEv : Nonempty Ev := ⟨⟨default, default, 0, 0, 0⟩⟩
noncomputable abbrev evO (e : Ev) (t1 t2 t3 t4 t5 : Tok) : Obj := { cls := .type "tuple", data := .seq #[.str e.nm t1, .str e.c t2, .int e.n t3, .int e.t t4, .int e.u t5] }
noncomputable def EvsAt (led : List (Addr × Obj)) (es : List Ev) (vs : List Value) : Prop := All2 (fun (e : Ev) v => ∃ a t1 t2 t3 t4 t5, v = Value.ref a ∧ (a, evO e t1 t2 t3 t4 t5) ∈ led) es vs
noncomputable def maxR (l : List Int) : Int := l.foldl max 0
noncomputable def uS (x y : Str) : List Int := unlikeS x y (maxR (runsS x y))
theorem maxR_foldl : ∀ (l : List Int) (a : Int), (∀ z ∈ l, z ≤ l.foldl max a) ∧ a ≤ l.foldl max a ∧ (l.foldl max a = a ∨ l.foldl max a ∈ l)
 | [], a => ⟨fun _ h => (nomatch h), Int.le_refl _, .inl rfl⟩
 | q :: r, a => by
  walk_at "cg"
  obtain ⟨h1, h2, h3⟩ := maxR_foldl r (max a q)
  walk_at "bg"
  rw [List.foldl_cons]
  refine ⟨fun z hz => ?_, by omega, ?_⟩
  ·rcases List.mem_cons.mp hz with rfl | hz
   ·omega
   ·exact h1 z hz
  ·rcases h3 with h | h
   ·rw [h]
    by_cases e : q ≤ a
    ·exact .inl (by omega)
    ·exact .inr (by rw [show max a q = q by omega]; exact .head _)
   ·exact .inr (.tail _ h)
theorem uS_of {x y : Str} {M : Int} (h1 : M ∈ runsS x y) (h2 : ∀ z ∈ runsS x y, z ≤ M) : unlikeS x y M = uS x y := by
 have h0 : 0 ≤ M := by obtain ⟨z, _, rfl⟩ := List.mem_map.mp h1; exact oz19
 walk_at "cg"
 obtain ⟨a1, a2, a3⟩ := maxR_foldl (runsS x y) 0
 walk_at "bg"
 have : M = maxR (runsS x y) := by
  have := a1 M h1
  unfold maxR
  rcases a3 with h | h
  ·exact oz74 h0 this h
  ·have := h2 _ h; omega
 rw [uS, ← this]
noncomputable def nannyC (i : Nat) : Str := if i = 0 then Str.ofString "{nanny}" else Str.ofString "~:1(<nanny>)"
noncomputable def evOf (c : Str) (l : Lin) (ns : List Int) : Ev := ⟨nameS l.1 l.2.1 l.2.2 ns, c, l.2.1, (Txt.count l.1 tabS : Int), (l.1.length : Int)⟩
noncomputable def evOne (x c : Str) (acc : List Ev) (l : Lin) : List Ev := if uS x l.1 = [] then acc else acc ++ [evOf c l (uS x l.1)]
noncomputable def evRow (x c : Str) (ls : List Lin) (acc : List Ev) : List Ev := ls.foldl (evOne x c) acc
noncomputable def evJ (x0 x1 : Str) (ls : List Lin) : Nat → List Ev
 | 0 => []
 | i + 1 => evRow (if i = 0 then x0 else x1) (nannyC i) ls (evJ x0 x1 ls i)
theorem ev_take {x c : Str} {ls : List Lin} {acc : List Ev} {k : Nat} {l : Lin} (h : ls[k]? = some l) : evRow x c (ls.take (k + 1)) acc = evOne x c (evRow x c (ls.take k) acc) l := by
 unfold evRow; rw [List.take_add_one, h, List.foldl_append]; rfl
structure LineEv (x : Str) (l : Lin) : Prop where
 x1 : x.length ≤ 10
 y1 : l.1.length ≤ 10
 r1 : 0 < (runsS x l.1).length
 r2 : (runsS x l.1).length ≤ 20
 n0 : 0 ≤ l.2.1
 n1 : l.2.1 ≤ 2
 u1 : (uS x l.1).length ≤ 20
 u2 : ∀ z ∈ uS x l.1, 0 ≤ z ∧ z ≤ 20
noncomputable abbrev locE (m₀ : Str → Option Value) (v1 v2 v3 v4 v5 v6 : Option Value) (Ea an al : Addr) : Str → Option Value :=
 ovr m₀ [(Str.ofString "j", v1), (Str.ofString "lead", v2), (Str.ofString "number", v3), (Str.ofString "dressed", v4), (Str.ofString "sizes", v5), (Str.ofString "name", v6), (Str.ofString "events", some (.ref Ea)), (Str.ofString "nannies", some (.ref an)), (Str.ofString "lines", some (.ref al))]
theorem append_ev {w : World} {A : Around} {E : Value → Shared → Prop} {s : Shared} {h₀ : Heap} {L D Ea : Addr} {m : Str → Option Value} {oD : Obj} {b1 b2 b3 i2 i1 : Addr × Obj} {R : List (Addr × Obj)} {es : List Value} {k : Nat} {x : Value} {Q : Value → Shared → Prop}
  (F : Fr h₀ L s.heap m) (N : News h₀ L s.heap ((D, oD) :: b1 :: b2 :: b3 :: i2 :: i1 :: (Ea, W.listOf es.toArray k) :: R)) (o1 : D ≠ Ea) (o2 : i2.1 ≠ Ea) (o3 : i1.1 ≠ Ea) (o4 : ∀ p ∈ R, p.1 ≠ Ea) (hsz : es.length ≤ sizeLine)
  (h : ∀ h', Fr h₀ L h' m → News h₀ L h' ((Ea, W.listOf (es ++ [x]).toArray (k + 1)) :: (D, oD) :: i2 :: i1 :: R) → Q .none { s with heap := h' }) : wpAny (model PG w) A (call (.builtin "list.append") [.ref Ea, x]) Q E s := by
 refine append_led (its := es.toArray) (k := k) ((D, oD) :: i2 :: i1 :: R) F N (by walk_at "ms") (fun p hp => ?_) (fun p hp => ?_) (by rw [List.size_toArray]; exact hsz) fun h' F' N' => h h' F' (by rw [show (es ++ [x]).toArray = es.toArray.push x by simp]; exact N')
 ·simp only [List.mem_cons] at hp ⊢
  rcases hp with q | q | q | q
  ·exact .inl q
  ·exact .inr (.inr (.inr (.inr (.inl q))))
  ·exact .inr (.inr (.inr (.inr (.inr (.inl q)))))
  ·exact .inr (.inr (.inr (.inr (.inr (.inr (.inr q))))))
 ·revert p; refine fc ?_ (fc ?_ (fc ?_ (fun p hp => ?_)))
  ·exact o1
  ·exact o2
  ·exact o3
  ·exact o4 p hp
inductive EvJ (hs : Heap) (Ea : Addr) (R0 : List (Addr × Obj)) (k : Nat) (es : List Ev) (nw : List (Addr × Obj)) : Prop
 | mk (vs : List Value) (n : Nat) (mk : List (Addr × Obj)) (c0 : EvsAt mk es vs) (c1 : es.length ≤ k) (c2 : (∀ p ∈ mk, p.1 ≠ Ea)) (c3 : (∀ p ∈ mk, hs.get? p.1 = none)) (c4 : nw = (Ea, W.listOf vs.toArray n) :: (R0 ++ mk)) : EvJ hs Ea R0 k es nw
theorem ev_next {hs g h : Heap} {L' Ea D : Addr} {R0 mk : List (Addr × Obj)} {J1 J2 : Addr × Obj} {evs : List Value} {n en k k' : Nat} {es : List Ev} {e : Ev} {q1 q2 q3 q4 q5 : Tok} (hE : EvsAt mk es evs) (hl : es.length ≤ k) (hk : k + 1 = k') (offE : ∀ p ∈ mk, p.1 ≠ Ea) (newE : ∀ p ∈ mk, hs.get? p.1 = none) (nD : hs.get? D = none) (o1 : D ≠ Ea) (o2 : J1.1 ≠ D) (o3 : J2.1 ≠ D)
  (off1 : ∀ p ∈ J2 :: (Ea, W.listOf evs.toArray n) :: (R0 ++ mk), p.1 ≠ J1.1) (off2 : ∀ p ∈ (Ea, W.listOf evs.toArray n) :: (R0 ++ mk), p.1 ≠ J2.1)
  (N : News g L' h ((Ea, W.listOf (evs ++ [Value.ref D]).toArray en) :: (D, evO e q1 q2 q3 q4 q5) :: J1 :: J2 :: (R0 ++ mk))) :
  ∃ inner, EvJ hs Ea R0 k' (es ++ [e]) inner ∧ (∀ p ∈ inner, p.1 ≠ J2.1) ∧ (∀ p ∈ J2 :: inner, p.1 ≠ J1.1) ∧ News g L' h (J1 :: J2 :: inner) := by
 refine ⟨(Ea, W.listOf (evs ++ [Value.ref D]).toArray en) :: (R0 ++ ((D, evO e q1 q2 q3 q4 q5) :: mk)), ⟨evs ++ [Value.ref D], en, (D, evO e q1 q2 q3 q4 q5) :: mk, ?_, ?_, List.forall_mem_cons.mpr ⟨o1, offE⟩, List.forall_mem_cons.mpr ⟨nD, newE⟩, rfl⟩, fun p hp => ?_, fun p hp => ?_, fun p hp => ?_⟩
 ·exact All2.append (All2.mono (fun _ _ ⟨a, t1, t2, t3, t4, t5, z, m⟩ => (xi6 a t1 t2 t3 t4 t5 ⟨z, .tail _ m⟩)) hE) (.cons (xi6 D q1 q2 q3 q4 q5 ⟨rfl, .head _⟩) .nil)
 ·rw [List.length_append, List.length_singleton]; exact oz73 hl hk
 ·simp only [List.mem_cons, List.mem_append] at hp
  rcases hp with rfl | q | rfl | q
  ·exact off2 (Ea, W.listOf evs.toArray n) (.head _)
  ·exact off2 p (by first | walk_at "mz" | simp [q])
  ·exact o3.symm
  ·exact off2 p (by first | walk_at "mz" | simp [q])
 ·simp only [List.mem_cons, List.mem_append] at hp
  rcases hp with rfl | rfl | q | rfl | q
  ·exact off1 _ (.head _)
  ·exact off1 (Ea, W.listOf evs.toArray n) (.tail _ (.head _))
  ·exact off1 p (by first | walk_at "mz" | simp [q])
  ·exact o2.symm
  ·exact off1 p (by first | walk_at "mz" | simp [q])
 ·refine N p ?_
  exact subm (by walk_at "sz") hp
local macro_rules | `(tactic| walk_at "exec For Name Call cons nil") => `(tactic| (k_here; refine hold_it ?_))
local macro_rules | `(tactic| walk_at "exec For Tuple Name cons nil") => `(tactic| (k_here; refine hold_it ?_))
local macro_rules | `(tactic| walk_at "subscriptTail Name Name ref int") => `(tactic| (k_here; refine hold_it ?_))
local macro_rules | `(tactic| walk_at "compareOp NotEq ref ref") => `(tactic| (k_here; refine hold_it ?_))
set_option maxRecDepth 100000 in
set_option maxHeartbeats 8000000 in
theorem events_spec : ∀ (w : World) (mean : ExcName → Option Value) (mg mb : Str → Option Value) (x0 x1 : Str) (t0 t1 : Tok) (ls : List Lin) (vs : List Value) (an al : Addr) (kn kl : Nat) (tls : List (Addr × Obj)) (hls : LinesAt tls ls vs) (hl : ls.length ≤ 11) (hok0 : ∀ l ∈ ls, LineEv x0 l) (hok1 : ∀ l ∈ ls, LineEv x1 l), SpecL w mean mg mb none 4 100 257 [.ref an, .ref al] ((an, W.listOf #[.str x0 t0, .str x1 t1] kn) :: (al, W.listOf vs.toArray kl) :: tls) [] (fun h h' r => ∃ Ea es n mk, r = .ref Ea ∧ Made h h' ((Ea, W.listOf es.toArray n) :: mk) ∧ EvsAt mk (evJ x0 x1 ls 2) es ∧ ∀ p ∈ mk, p.1 ≠ Ea) := by
 intro w mean mg mb x0 x1 t0 t1 ls vs an al kn kl tls hls hl hok0 hok1
 intro dp un gd cn cs a ccd cl outer A₀ base h₀ L m s Q E
 revert hls hl hok0 hok1
 show ∀ (hls : LinesAt tls ls vs) (hl : ls.length ≤ 11) (hok0 : ∀ l ∈ ls, LineEv x0 l) (hok1 : ∀ l ∈ ls, LineEv x1 l), SpecL.at w mean mg mb none 4 100 257 [.ref an, .ref al] ((an, W.listOf #[.str x0 t0, .str x1 t1] kn) :: (al, W.listOf vs.toArray kl) :: tls) [] (fun h h' r => ∃ Ea es n mk, r = .ref Ea ∧ Made h h' ((Ea, W.listOf es.toArray n) :: mk) ∧ EvsAt mk (evJ x0 x1 ls 2) es ∧ ∀ p ∈ mk, p.1 ≠ Ea) dp un gd cn cs a ccd cl outer A₀ base h₀ L m s Q E
 revert w mean mg mb x0 x1 t0 t1 ls vs an al kn kl tls dp un gd cn cs a ccd cl outer A₀ base h₀ L m s Q E
 exists hc, kS zeW <| kS (yF yT) <| kS (yF yT) <| kS (yF yT) <| kS zeR <| kS zeR <| kS yN <| kS yN <| kS yL <| kS yL <| kS yN <| kS yN <| kS yN <| kS yN <| kS yL <| kS yN <| kS yN <| kS yT <| kS zeR <| kS (inferInstanceAs (Nonempty Scope)) <| kS yN <| kS zeV <| kS yL <| kS yL <| kS zeA <| kS yH <| kS yH <| kS yN <| kS (yF yT) <| kS zeS <| kS (yF <| yF yP) <| kO (yF <| yF yP), 99, w, mean, mg, mb, x0, x1, t0, t1, ls, vs, an, al, kn, kl, tls, dp, un, gd, cn, cs, a, ccd, cl, outer, A₀, base, h₀, L, m, s, Q, E
 intro hls hl hok0 hok1
 unfold SpecL.at; intro B F X T hk hdp hun hHO hled hret
 (refine wpAny_call ?_; k_dflt (refine' enterM (binds := [(Str.ofString "nannies", .ref an), (Str.ofString "lines", .ref al)]) ?k1z38 ?k2z38 ?kNz38 ?k3z38 ?k5z38 ?kAz38 ?kFz38 ?kKz38 ?k6z38 ?k7z38 ?k8z38 ?k9z38 ?kBz38 ?_ ?c5z38 ?c2z38 ?c3z38 ?c4z38; (case kAz38 => exact rfl); (case kFz38 => exact rfl); (case kKz38 => assumption); (case k1z38 => k_asm); (case k2z38 => k_asm); (case kNz38 => exact hled); (case k3z38 => k_asm); (case k5z38 => k_asm); (case k6z38 => k_is); (case k7z38 => k_is); (case k8z38 => ktr_room); (case k9z38 => exact BindsTo.of_eq rfl); (case c5z38 => decide); (case kBz38 => exact locs rfl); (case c2z38 => exact rfl); (case c3z38 => exact rfl); (case c4z38 => exact rfl); k_whole; intro g h' L' eL' keep F' N' B' X' T'; (try dsimp only); (try (refine fold2 ?_; intro qk ek hqk hek))))
 replace keep := Hid.mk keep
 revert eL' F' N' B' X' T' hqk hek keep; revert g h' L' qk ek; exists hc, kS yH <| kS yH <| kS yN <| kS (yF (yF yP)) <| kO (yF (yF yP)), 1, g, h', L', qk, ek; intro eL' F' N' B' X' T' hqk hek keep
 walk_at "ws"
 show wpAny _ _ _ _ _ _
 have hlist : ∀ v ∈ vs, ∃ a, v = Value.ref a := fun v hv => by
  walk_at "cg"
  obtain ⟨j, hj⟩ := List.mem_iff_getElem?.mp hv
  walk_at "bg"
  have hZ := All2.getR hls hj; refine exC (kO (zeP2 zeR (zeP2 zeI zeB))) hZ ?_; clear hZ; intro l hZ; rename_i zv1 _ zv3 zv2 zv4 zv5; revert zv3 zv4 zv5 hv hj hZ; revert zv1 zv2 v j l; exists hc, kS yN <| kS yH <| kS zeV <| kS yN <| kO (zeP2 zeR (zeP2 zeI zeB)), 2, zv1, zv2, v, j, l; intro _ _ _ hv hj hZ; obtain ⟨_, hZ⟩ := hZ; refine exC (kS yN <| kS yN <| kO yN) hZ ?_; clear hZ; intro a zy1_6 zy2_6 hZ; revert hZ; revert a zy1_6 zy2_6; exists hc, kS yN <| kS yN <| kO yN, 3, a, zy1_6, zy2_6; intro hZ; obtain ⟨e, _⟩ := hZ
  exact ⟨a, e⟩
 rename_i zv1 _ zv3 zv2 zv4 zv5; revert zv3 zv4 zv5; revert zv1 zv2 tk; exists hc, kS yN <| kS yH <| kO yN, 4, zv1, zv2, tk; intro _ _ _
 refine wpAny_mono (Q := fun f s₂ => f = .next ∧ ∃ (Ea : Addr) (h : Heap) (tk : Nat) (mF : Str → Option Value) (nw : List (Addr × Obj)), s₂ = { s with heap := h, toks := tk } ∧ s.heap.get? Ea = none ∧
   EvJ s.heap Ea ((an, W.listOf #[.str x0 t0, .str x1 t1] kn) :: (al, W.listOf vs.toArray kl) :: tls) (2 * ls.length) (evJ x0 x1 ls 2) nw ∧ Fr g L' h (ovr mF [(Str.ofString "events", some (.ref Ea))]) ∧ News g L' h nw)
  (wpAny_for_of ?_ (by intro _; rfl)) ?_ (fun _ _ z => z)
 ·walk_at "ws"
  rename News _ _ _ _ => N9
  rename Fr _ _ _ _ => F9
  rename IsRange _ _ _ _ _ _ _ _ => hr
  rename (_ < _ ∧ _ < _ ∧ AllLt _ _) => hlt
  have newS : ∀ b, g.get? b = none → b ∉ ((an, W.listOf #[Value.str x0 t0, Value.str x1 t1] kn) :: (al, W.listOf vs.toArray kl) :: tls).map (·.1) → s.heap.get? b = none := fun b h1 h3 => by
   cases q : s.heap.get? b with
   | none => rfl
   | some o => rw [keep.h _ _ q h3] at h1; cases h1
  have hm : ∃ (m₀ : Str → Option Value) (Ea : Addr), Fr g L' _ m₀ ∧ m₀ (Str.ofString "events") = some (.ref Ea) ∧ m₀ (Str.ofString "nannies") = some (.ref an) ∧ m₀ (Str.ofString "lines") = some (.ref al) ∧ s.heap.get? Ea = none ∧
    News g L' _ ((Ea, W.listOf ([] : List Value).toArray 0) :: (((an, W.listOf #[.str x0 t0, .str x1 t1] kn) :: (al, W.listOf vs.toArray kl) :: tls) ++ [])) := (xi2 _ _ ⟨F9, rfl, rfl, rfl, newS _ (N9 _ (.head _)).2.2 (fun q => by
   simp only [List.map_cons, List.mem_cons, List.mem_map] at q
   rcases q with q | q | ⟨p, hp, q⟩
   ·have := hlt.1; rw [← q] at this; exact Nat.lt_irrefl _ this
   ·have := hlt.2.1; rw [← q] at this; exact Nat.lt_irrefl _ this
   ·have := allLt_mem hlt.2.2 p hp; rw [q] at this; exact Nat.lt_irrefl _ this), by rw [List.append_nil]; exact N9⟩)
  refine exC (kS (yF yT) <| kO yN) hm ?_; clear hm; intro m₀ Ea hZ; rename_i zv3 zv4 zv5 zv6 zv7 zv8; revert hr F9 N9 zv8 hZ; revert zv3 zv4 zv5 zv6 zv7 m₀ Ea; exists hc, kS yH <| kS yN <| kS yN <| kS yN <| kS yN <| kS (yF yT) <| kO yN, 5, zv3, zv4, zv5, zv6, zv7, m₀, Ea; intro hr F9 N9 _ hZ; obtain ⟨F2, e1, e2, e3, hEn, N2⟩ := hZ
  refine for_range (n := 2) hr (by decide) (by decide) rfl rfl rfl F2 N2
   (fun i m' nw gs => gs = s.gens ∧ (∃ v1 v2 v3 v4 v5 v6, m' = locE m₀ v1 v2 v3 v4 v5 v6 Ea an al) ∧ EvJ s.heap Ea ((an, W.listOf #[.str x0 t0, .str x1 t1] kn) :: (al, W.listOf vs.toArray kl) :: tls) (i * ls.length) (evJ x0 x1 ls i) nw) ?_ ?_ ?_
  ·refine ⟨rfl, (xi6 (m₀ (Str.ofString "j")) (m₀ (Str.ofString "lead")) (m₀ (Str.ofString "number")) (m₀ (Str.ofString "dressed")) (m₀ (Str.ofString "sizes")) (m₀ (Str.ofString "name")) (ovr_self ?_)), [], 0, [], .nil, Nat.zero_le _, (fun p hp => nomatch hp), (fun p hp => nomatch hp), rfl⟩
   intro p hp
   simp only [List.mem_cons, List.not_mem_nil, or_false] at hp
   rcases hp with rfl | rfl | rfl | rfl | rfl | rfl | rfl | rfl | rfl <;> first | rfl | exact e1 | exact e2 | exact e3
  ·intro i ti m₁ nw gs h tk I oI hi hGJ
   obtain ⟨rfl, ⟨v1, v2, v3, v4, v5, v6, rfl⟩, hZ⟩ := hGJ; obtain ⟨evs, en, mk, hE, hEl, offE, newE, rfl⟩ := hZ
   intro F3' N3' offI
   clear F9 N9 F2 N2
   generalize hJO : FEnd _ _ _ _ _ _ _ = QO
   (revert QO; refine hold_pi ?_; set_option tactic.hygienic false in intros)
   revert hi hE hEl offE newE F3' N3' offI hJO; revert i ti h tk I oI v1 v2 v3 v4 v5 v6 evs en mk QO; exists hc, kS yN <| kS yN <| kS yH <| kS yN <| kS yN <| kS zeO <| kS yT <| kS yT <| kS yT <| kS yT <| kS yT <| kS yT <| kS yL <| kS yN <| kS yL <| kO (yF (yF yP)), 6, i, ti, h, tk, I, oI, v1, v2, v3, v4, v5, v6, evs, en, mk, QO; intro hi hE hEl offE newE F3' N3' offI hJO
   walk_at "ws"
   show wpAny _ _ _ _ _ _
   refine wpAny_mono (Q := fun f s₂ => f = .next ∧ ∃ (h : Heap) (tk : Nat) (v2 v3 v4 v5 v6 : Option Value) (inner : List (Addr × Obj)), s₂ = { s with heap := h, toks := tk } ∧
     Fr g L' h (locE m₀ (some (.int (0 + (i : Int)) ti)) v2 v3 v4 v5 v6 Ea an al) ∧ News g L' h ((I, oI) :: inner) ∧ (∀ p ∈ inner, p.1 ≠ I) ∧
     EvJ s.heap Ea ((an, W.listOf #[.str x0 t0, .str x1 t1] kn) :: (al, W.listOf vs.toArray kl) :: tls) (i * ls.length + ls.length) (evJ x0 x1 ls (i + 1)) inner)
    (wpAny_for_of ?_ (by intro _; rfl)) ?_ (fun _ _ z => z)
   ·walk_at "ws"
    have F7 := fr_ovr (m₀ := m₀) (ps := [(Str.ofString "j", some (.int (0 + (i : Int)) ti)), (Str.ofString "lead", v2), (Str.ofString "number", v3), (Str.ofString "dressed", v4), (Str.ofString "sizes", v5), (Str.ofString "name", v6), (Str.ofString "events", some (.ref Ea)), (Str.ofString "nannies", some (.ref an)), (Str.ofString "lines", some (.ref al))]) F3' (by walk_at "oi") (by walk_at "oo")
    refine for_listT rfl (N3'.isList (.tail _ (.tail _ (.tail _ (.head _))))) hlist F7 N3'
     (fun k m' nw gs => gs = s.gens ∧ (∃ v2 v3 v4 v5 v6, m' = locE m₀ (some (.int (0 + (i : Int)) ti)) v2 v3 v4 v5 v6 Ea an al) ∧ ∃ inner, nw = (I, oI) :: inner ∧ (∀ p ∈ inner, p.1 ≠ I) ∧
      EvJ s.heap Ea ((an, W.listOf #[.str x0 t0, .str x1 t1] kn) :: (al, W.listOf vs.toArray kl) :: tls) (i * ls.length + k) (evRow (if i = 0 then x0 else x1) (nannyC i) (ls.take k) (evJ x0 x1 ls i)) inner) ?_ ?_ ?_ ?_
    ·exact ⟨rfl, (xi5 v2 v3 v4 v5 v6 rfl), _, rfl, offI, evs, en, mk, hE, hEl, offE, newE, rfl⟩
    ·intro k m' nw gs' h9 hGJ
     obtain ⟨_, _, hZ⟩ := hGJ; refine exC (kO yL) hZ ?_; clear hZ; intro inner hZ; rename_i zv9 zv10; revert zv9 zv10 hZ; revert k m' nw gs' h9 inner; exists hc, kS yN <| kS (yF yT) <| kS yL <| kS zeY <| kS yH <| kO yL, 7, k, m', nw, gs', h9, inner; intro _ _ hZ; obtain ⟨rfl, _, hZ⟩ := hZ; obtain ⟨evs', en', mk', _, _, _, _, rfl⟩ := hZ
     intro _ N8
     exact N8.isList (.tail _ (.tail _ (.tail _ (.head _))))
    ·intro k v m₁ nw gs h tk I2 oI2 hv hGJ
     obtain ⟨rfl, ⟨v2, v3, v4, v5, v6, rfl⟩, hZ⟩ := hGJ; refine exC (kO yL) hZ ?_; clear hZ; intro inner hZ; revert hv hZ; revert k v nw h tk I2 oI2 v2 v3 v4 v5 v6 inner; exists hc, kS yN <| kS zeV <| kS yL <| kS yH <| kS yN <| kS yN <| kS zeO <| kS yT <| kS yT <| kS yT <| kS yT <| kS yT <| kO yL, 8, k, v, nw, h, tk, I2, oI2, v2, v3, v4, v5, v6, inner; intro hv hZ; obtain ⟨rfl, offI, hZ⟩ := hZ; obtain ⟨evs, en, mk, hE, hEl, offE, newE, rfl⟩ := hZ
     intro F3 N3 offI2
     clear F7 F3' N3'
     generalize hJ : FEnd _ _ _ _ _ _ _ = QQ
     (revert QQ; refine hold_pi ?_; set_option tactic.hygienic false in intros)
     have hZ := All2.getR hls hv; refine exC (kO (zeP2 zeR (zeP2 zeI zeB))) hZ ?_; clear hZ; intro l hZ; revert hE offE newE offI N3 offI2 hJ hZ; revert evs en mk QQ l; exists hc, kS yL <| kS yN <| kS yL <| kS (yF (yF yP)) <| kO (zeP2 zeR (zeP2 zeI zeB)), 9, evs, en, mk, QQ, l; intro hE offE newE offI N3 offI2 hJ hZ; obtain ⟨hli, hZ⟩ := hZ; refine exC (kS yN <| kS yN <| kO yN) hZ ?_; clear hZ; intro la u1 u2 hZ; revert hZ; revert la u1 u2; exists hc, kS yN <| kS yN <| kO yN, 10, la, u1, u2; intro hZ; obtain ⟨rfl, hmem⟩ := hZ
     dsimp only [List.cons_append] at N3 offI offI2
     have hat := N3 (la, linO l u1 u2) (List.mem_cons_of_mem _ (List.mem_cons_of_mem _ (List.mem_cons_of_mem _ (List.mem_cons_of_mem _ (List.mem_cons_of_mem _ (List.mem_append.mpr (.inl hmem)))))))
     replace F3 : Fr g L' h _ := F3
     replace N3 : News g L' h _ := N3
     refine unpackN' F3 N3 trivial ⟨_, hat.1, rfl, _, rfl⟩ rfl rfl ?_
     intro h' F4 N4
     clear F3 N3
     replace F4 : Fr g L' h' _ := F4
     replace N4 : News g L' h' _ := N4
     revert F4 N4; revert h'; refine hzC (kO yH) 11 ?_; generalize zz _ _ _ = h'; intro F4 N4
     walk_at "ws"
     show wpAny _ _ _ _ _ _
     rename News _ _ _ _ => N5
     have hxi : ∃ tx, (#[Value.str x0 t0, .str x1 t1] : Array Value)[(0 + (i : Int)).toNat]? = some (.str (if i = 0 then x0 else x1) tx) := by
      rcases (by exact oz20 hi : i = 0 ∨ i = 1) with rfl | rfl
      ·exact ⟨t0, rfl⟩
      ·exact ⟨t1, rfl⟩
     walk_at "cg"
     obtain ⟨tx, hxi⟩ := hxi
     walk_at "bg"
     refine item_list (N5.isList (.tail _ (.tail _ (.tail _ (.head _))))) (by exact oz71) (by exact oz70 hi) hxi ?_
     have hok : LineEv (if i = 0 then x0 else x1) l := by
      have hm := List.mem_of_getElem? hli
      split
      ·exact hok0 l hm
      ·exact hok1 l hm
     generalize hxe : (if i = 0 then x0 else x1) = x at hok ⊢
     (revert x; refine hold_pi ?_; set_option tactic.hygienic false in intros)
     rename_i zv9 zv10; revert zv10 N5 hxi hxe hok; revert zv9 tk tx x; exists hc, kS yH <| kS yN <| kS yN <| kO zeR, 12, zv9, tk, tx, x; intro _ N5 hxi hxe hok
     walk_at "ws"
     rename News _ _ _ _ => N6
     rename Fr _ _ _ _ => F6
     refine ⟨X'.keeps F6.keep, ?_⟩
     ((try (refine ⟨?kinz39, ?_⟩; (case kinz39 => k_in))); k_dflt (refine' SpecN.use (unlike_spec w mean mg mb x l.1 tx _ hok.x1 hok.y1 hok.r1 hok.r2) ?k1z39 ?k2z39 ?k3z39 ?k4z39 ?k5z39 ?kKz39 ?kdz39 ?kuz39 ?kpz39 ?_; (case k1z39 => k_asm); (case k2z39 => k_asm); (case k3z39 => k_asm); (case k4z39 => k_asm); (case k5z39 => k_asm); (case kKz39 => first | exact rfl | assumption); (case kdz39 => ktr_room); (case kuz39 => ktr_units); (case kpz39 => first | exact trivial | skip)))
     intro r h7 tk7 e7 F7 N7 hr
     refine exC (kS yN <| kS zeY <| kS yN <| kO zeI) hr ?_; clear hr; intro az avs azn M hZ; revert e7 F7 N7 hZ; revert r h7 tk7 az avs azn M; exists hc, kS zeV <| kS yH <| kS yN <| kS yN <| kS zeY <| kS yN <| kO zeI, 13, r, h7, tk7, az, avs, azn, M; intro e7 F7 N7 hZ; obtain ⟨rfl, ha0, ha1, hM1, hM2, hints⟩ := hZ
     rw [uS_of hM1 hM2] at hints
     replace N7 := News.join N7 F6 ha0 ha1
     clear e7 N6 F6 hM1 hM2
     have hub := hok.u2
     have hul := hok.u1
     generalize hus : uS x l.1 = ns at hints hub hul
     (revert ns; refine hold_pi ?_; set_option tactic.hygienic false in intros)
     revert hus hints hub hul; revert ns; refine hzC (kO yL) 14 ?_; generalize zz _ _ _ = ns; intro hus hints hub hul
     walk_at "ws"
     show wpAny _ _ _ _ _ _
     rename News _ _ _ _ => Na
     rename Fr _ _ _ _ => Fa
     refine ke_ne_ints (xs := avs.toList) (ys := []) (Na.isList (.tail _ (.head _))) (Na.isList (.head _)) hints .nil (by ktr_units) ?_
     by_cases hns : ns = []
     ·rw [decide_eq_true hns]
      rename_i zv10 zv11 zv12 zv13; revert Fa Na zv13; revert zv10 tk zv11 zv12; exists hc, kS yH <| kS yN <| kS yN <| kO yH, 15, zv10, tk, zv11, zv12; intro Fa Na _
      walk_at "ws"
      rw [if_neg (by decide)]
      walk_at "ws"
      rw [← hJ]
      have hst : evRow (if i = 0 then x0 else x1) (nannyC i) (ls.take (k + 1)) (evJ x0 x1 ls i) = evRow (if i = 0 then x0 else x1) (nannyC i) (ls.take k) (evJ x0 x1 ls i) := by
       rw [ev_take hli]; unfold evOne; rw [hxe, hus, if_pos hns]
      refine FEnd.next Fa Na (fun p hp => .tail _ (.tail _ hp)) offI2 ⟨rfl, (xi5 _ _ _ _ _ (ovr_eq (by walk_at "oi") (by walk_at "oo"))), _, rfl, offI, evs, en, mk, by rw [hst]; exact hE, by rw [hst]; exact oz72 hEl, offE, newE, rfl⟩
     ·rw [decide_eq_false hns]
      rename_i zv10 zv11 zv12 zv13; revert Fa Na zv13; revert zv10 tk zv11 zv12; exists hc, kS yH <| kS yN <| kS yN <| kO yH, 16, zv10, tk, zv11, zv12; intro Fa Na _
      walk_at "ws"
      rw [if_pos (by decide)]
      walk_at "ws"
      have hn0 := hok.n0
      have hy1 := hok.y1
      have hn1 := hok.n1
      refine ⟨X'.keeps Fa.keep, ?_⟩
      refine SpecN.use (name_spec w mean mg mb l.1 u1 u2 l.2.1 l.2.2 az avs.toList ns hok.y1 hok.n0 (by omega) hints hul hub) B' Fa X' Na T' rfl (by ktr_room) (by ktr_units) (Na.isList (.tail _ (.head _))) ?_
      intro r h8 tk8 e8 F8 N8 hr
      walk_at "cg"
      obtain ⟨tn, rfl⟩ := hr
      walk_at "bg"
      clear e8 Na Fa
      revert F8 N8; revert h8 tk8 tn; exists hc, kS yH <| kS yN <| kO yN, 17, h8, tk8, tn; intro F8 N8
      walk_at "ws"
      show wpAny _ _ _ _ _ _
      rename News _ _ _ _ => Nb
      have hxc : ∀ u v : Tok, ∃ tc, (#[Value.str (Str.ofString "{nanny}") u, .str (Str.ofString "~:1(<nanny>)") v] : Array Value)[(0 + (i : Int)).toNat]? = some (.str (nannyC i) tc) := by
       rcases (by exact oz20 hi : i = 0 ∨ i = 1) with rfl | rfl
       ·exact fun u v => ⟨u, rfl⟩
       ·exact fun u v => ⟨v, rfl⟩
      walk_at "cg"
      obtain ⟨tc, hxc⟩ := hxc _ _
      walk_at "bg"
      refine item_list (Nb.isList (.head _)) (by exact oz71) (by exact oz70 hi) hxc ?_
      rename_i zv14 zv15 zv16 zv17 zv18 _; revert zv17 Nb zv18 hGG hxc; revert zv14 tk zv15 zv16 GG tc; exists hc, kS yH <| kS yN <| kS yN <| kS yH <| kS yP <| kO yN, 18, zv14, tk, zv15, zv16, GG, tc; intro _ Nb _ hGG hxc
      walk_at "ws"
      show wpAny _ _ _ _ _ _
      rename News _ _ _ _ => Nc
      rename Fr _ _ _ _ => Fc
      rename (_ < _ ∧ _ < _ ∧ _ < _ ∧ _ < _ ∧ _ < _ ∧ _ < _ ∧ _ < _ ∧ _ < _ ∧ AllLt _ _) => hD
      obtain ⟨D1, D2, D3, D4, D5, D6, D7, D8, D9⟩ := hD
      have offR : ∀ p ∈ (an, W.listOf #[.str x0 t0, .str x1 t1] kn) :: (al, W.listOf vs.toArray kl) :: (tls ++ mk), p.1 ≠ Ea := fun p hp => by
       revert p; refine fc ?_ (fc ?_ (fa (fun p q => ?_) (fun p q => ?_)))
       ·exact fun z => (by dsimp only at z; rw [← z, (hled _ (.head _)).1] at hEn; cases hEn)
       ·exact fun z => (by dsimp only at z; rw [← z, (hled _ (.tail _ (.head _))).1] at hEn; cases hEn)
       ·exact fun z => (by rw [← z, (hled p (.tail _ (.tail _ q))).1] at hEn; cases hEn)
       ·exact offE p q
      have hel : evs.length ≤ 33 := by
       have := All2.length hE
       have hki : k < ls.length := (List.getElem?_eq_some_iff.mp hli).1
       rcases (by exact oz20 hi : i = 0 ∨ i = 1) with rfl | rfl <;> (first | exact oz68 hki hl this hEl | exact oz69 hki hl this hEl)
      refine append_ev Fc Nc (Nat.ne_of_lt D6).symm (offI2 (Ea, W.listOf evs.toArray en) (by k_mem)).symm (offI (Ea, W.listOf evs.toArray en) (by k_mem)).symm offR (Nat.le_trans hel (by decide)) ?_
      intro h' Fd Nd
      have nD : s.heap.get? _ = none := newS _ (Nc _ (.head _)).2.2 (fun q => by
       simp only [List.map_cons, List.mem_cons, List.mem_map] at q
       rcases q with q | q | ⟨p, hp, q⟩
       ·rw [← q] at D7; exact Nat.lt_irrefl _ D7
       ·rw [← q] at D8; exact Nat.lt_irrefl _ D8
       ·have := allLt_mem D9 p (List.mem_append.mpr (.inl hp)); rw [q] at this; exact Nat.lt_irrefl _ this)
      clear Nc Fc
      rename_i zv17 zv19; revert D1 D2 D3 D4 D5 D6 D7 D8 D9 Fd Nd nD; revert zv17 zv19 h'; exists hc, kS yN <| kS yH <| kO yH, 19, zv17, zv19, h'; intro D1 D2 D3 D4 D5 D6 D7 D8 D9 Fd Nd nD
      walk_at "ws"
      rw [← hJ]
      have hst : evRow (if i = 0 then x0 else x1) (nannyC i) (ls.take (k + 1)) (evJ x0 x1 ls i) = evRow (if i = 0 then x0 else x1) (nannyC i) (ls.take k) (evJ x0 x1 ls i) ++ [evOf (nannyC i) l ns] := by
       rw [ev_take hli]; unfold evOne; rw [hxe, hus, if_neg hns]
      try dsimp only at nD
      have hZ := ev_next (R0 := (an, W.listOf #[.str x0 t0, .str x1 t1] kn) :: (al, W.listOf vs.toArray kl) :: tls) (e := evOf (nannyC i) l ns) (k' := i * ls.length + (k + 1)) hE hEl (by exact oz67) offE newE nD (Nat.ne_of_lt D6).symm (Nat.ne_of_lt D4) (Nat.ne_of_lt D5) offI2 offI Nd; refine exC (kO yL) hZ ?_; clear hZ; intro inner hZ; revert hZ; revert tk inner; exists hc, kS yN <| kO yL, 20, tk, inner; intro hZ; obtain ⟨hJ1, hJ2, hJ3, hJ4⟩ := hZ
      rw [← hst] at hJ1
      exact FEnd.next Fd hJ4 (fun _ h => h) hJ3 ⟨rfl, (xi5 _ _ _ _ _ (ovr_eq (by walk_at "oi") (by walk_at "oo"))), _, rfl, hJ2, hJ1⟩
    ·intro m₁ nw gs9 hGJ
     obtain ⟨rfl, ⟨w2, w3, w4, w5, w6, rfl⟩, hZ⟩ := hGJ; refine exC (kO yL) hZ ?_; clear hZ; intro inner hZ; revert hZ; revert nw w2 w3 w4 w5 w6 inner; exists hc, kS yL <| kS yT <| kS yT <| kS yT <| kS yT <| kS yT <| kO yL, 21, nw, w2, w3, w4, w5, w6, inner; intro hZ; obtain ⟨rfl, offI9, hF9⟩ := hZ
     intro h tk F3 N3
     refine ⟨rfl, xi8 h tk w2 w3 w4 w5 w6 inner ⟨rfl, F3, N3, offI9, ?_⟩⟩
     have hlen : vs.length = ls.length := (All2.length hls).symm
     rw [hlen, List.take_length] at hF9
     exact hF9
   ·intro f s₂ hGJ
    obtain ⟨rfl, hZ⟩ := hGJ; refine exC (kS yH <| kS yN <| kS yT <| kS yT <| kS yT <| kS yT <| kS yT <| kO yL) hZ ?_; clear hZ; intro h tk w2 w3 w4 w5 w6 inner hZ; revert hZ; revert s₂ h tk w2 w3 w4 w5 w6 inner; exists hc, kS zeS <| kS yH <| kS yN <| kS yT <| kS yT <| kS yT <| kS yT <| kS yT <| kO yL, 22, s₂, h, tk, w2, w3, w4, w5, w6, inner; intro hZ; obtain ⟨rfl, F9, N9, offI9, hF9⟩ := hZ
    walk_at "ws"
    rw [← hJO]
    refine FEnd.next F9 N9 (fun _ h => h) offI9 ⟨rfl, (xi6 _ _ _ _ _ _ rfl), ?_⟩
    rw [Nat.succ_mul]
    exact hF9
  ·intro m₁ nw gs hGJ
   obtain ⟨rfl, ⟨v1, v2, v3, v4, v5, v6, rfl⟩, hF9⟩ := hGJ
   intro h tk F3 N3
   refine ⟨rfl, xi5 Ea h tk (locE m₀ v1 v2 v3 v4 v5 v6 Ea an al) nw ⟨rfl, hEn, hF9, ?_, N3⟩⟩
   rw [← ovr_self (List.forall_mem_cons.mpr ⟨rfl, List.forall_mem_nil _⟩)]
   exact F3
 ·intro f s₂ hGJ
  obtain ⟨rfl, hZ⟩ := hGJ; refine exC (kS yN <| kS yH <| kS yN <| kS (yF yT) <| kO yL) hZ ?_; clear hZ; intro Ea h tk mF nw hZ; revert hZ; revert s₂ Ea h tk mF nw; exists hc, kS zeS <| kS yN <| kS yH <| kS yN <| kS (yF yT) <| kO yL, 23, s₂, Ea, h, tk, mF, nw; intro hZ; obtain ⟨rfl, hEn, ⟨evs, en, mk, hE, hEl, offE, newE, rfl⟩, F9, N9⟩ := hZ
  revert hE offE newE N9; revert evs en mk; exists hc, kS yL <| kS yN <| kO yL, 24, evs, en, mk; intro hE offE newE N9
  walk_at "ws"
  all_goals (try dsimp only)
  show Q _ _
  refine hret _ _ _ (ext_of_led keep.h hled F9 N9 fun p hp _ => ?_) (xi4 Ea evs en mk ⟨rfl, fun p hp => ⟨?_, (N9 p ?_).1⟩, hE, offE⟩)
  ·exact subm (by walk_at "sz") hp
  ·rcases List.mem_cons.mp hp with rfl | hp
   ·exact hEn
   ·exact newE p hp
  ·exact subm (by walk_at "sz") hp
end
section
set_option maxRecDepth 100000
section
variable {prog : Program} {w : World} {A₀ A : Around} {s : Shared} {base h₀ : Heap} {outer : List Env} {L : Addr} {m : Str → Option Value} {env : Env} {K : Frag}
 {R : Result → Shared → Prop} {name qual : Str} {params : Arguments} {body : List Stmt} {scope : Scope} {dV kV doc pm cdv ct oc : Value} {an od : Option Addr} {osl : Array (Option Value)} {f : Addr} {args : Args} {binds : List (Str × Value)}
 {p : Program} {loose : List Str} {mean : ExcName → Option Value} {mg mb : Str → Option Value}
theorem enterMC {news : List (Addr × Obj)} (B : Below A₀ base outer h₀) (F : Fr h₀ L s.heap m) (N : News h₀ L s.heap news) (X : K.In h₀) (T : Top p loose mean mg mb h₀)
  (hA : A.frames = some (env :: outer)) (hf : env.frame = some L) (hke : env.scope.kind = .function)
  (ho : K.lookup f = some ⟨oc, od, .func (fnOf name qual params body scope dV kV doc pm an cdv ct), osl⟩) (hcd : codeIn K cdv qual = true) (hroom : A.depth < recursionLimit)
  (hbind : BindsTo s (fnOf name qual params body scope dV kV doc pm an cdv ct) args binds)
  (hkind : (binds.all fun y => scope.names.lookup y.1 == some .local || scope.names.lookup y.1 == some .cell) = true)
  (hnd : ((cellsFrom 0 scope.names []).map (·.1)).Nodup)
  (h : ∀ g h₁ tk L' cells, L' = s.heap.objs.size → (∀ b o, s.heap.get? b = some o → b ∉ news.map (·.1) → g.get? b = some o) → Fr g L' h₁ (bindL (envOfC qual scope L' f cdv).kindOf binds fun _ => none) → News g L' h₁ (cells ++ news) →
   CellsAre (bindC (envOfC qual scope L' f cdv).kindOf binds fun _ => none) (cellsFrom (L' + 1) scope.names []) cells → Below A base (env :: outer) g → K.In g → Top p loose mean mg mb g →
   wpAny (model prog w) (A.deeper (envOfC qual scope L' f cdv)) (execs body (envOfC qual scope L' f cdv))
    (fun fl s' => R (.ok (.ret (match fl with | .ret v => v | _ => .none))) s')
    (fun e s' => wpAny (model prog w) (A.deeper (envOfC qual scope L' f cdv)) (leaving (envOfC qual scope L' f cdv) e) (fun _ s'' => R (.error e) s'') (fun e' s'' => R (.error e') s'') s')
    { s with heap := h₁, toks := tk })
  (hco : scope.isCoroutine = false) (hgen : scope.isGenerator = false) (hk : scope.kind = .function) : codeAny (model prog w) A (.call (.ref f) args) R s := by
 have Xs : K.In s.heap := X.keeps F.keep
 have Ts : Top p loose mean mg mb s.heap := T.keeps F.keep
 obtain ⟨FG, BG, st, _⟩ := groundX (R := R) B F N hA hf hke
 refine codeAny_call_function hroom (Xs _ _ ho) rfl hco hgen rfl (codeRec_of Xs hcd) (hbind _ _ _ _ ?_)
 refine wpAny_newFunctionEnv_cells hk (kindsX hkind _) fun env' he s' x => ?_
 subst he
 refine ⟨Ts.nolimit.keeps x.toInCall.keep, codeAny_func ?_⟩
 obtain ⟨h₁, tk, rfl, _⟩ := x.done
 have hk₁ := x.toInCall.keep
 obtain ⟨cells, NC, Y⟩ := Cl.news (h₀ := s.heap) (Nat.le_refl _) fun n c hm => ⟨x.cell n c (lookup_of_mem_nodup (cellsFrom_names scope.names 0 (s.heap.objs.size + 1) [] [] rfl ▸ hnd) hm), x.above n c hm⟩
 refine h _ h₁ tk s.heap.objs.size cells rfl (fun b o e n => hideAll_get _ e n) ⟨x.toInCall.ns, fun b o e => hk₁ b o (of_hideAll _ e), Nat.le_of_eq (hideAll_size _ _)⟩ (fun p hp => ?_) Y BG (X.keeps st) (T.keeps st)
 rcases List.mem_append.mp hp with q | q
 ·refine ⟨(NC p q).1, (NC p q).2.1, ?_⟩
  cases e : (hideAll s.heap (news.map (·.1))).get? p.1 with
  | none => rfl
  | some o => have := of_hideAll _ e; rw [(NC p q).2.2] at this; cases this
 ·exact ⟨hk₁ _ _ (N p q).1, Nat.ne_of_lt (Heap.lt_size (N p q).1), hideAll_none _ (List.mem_map_of_mem q)⟩
end
end
section
set_option maxRecDepth 100000
section
variable {prog : Program} {w : World} {A : Around} {s : Shared} {env : Env} {h₀ : Heap}
theorem for_listN {E : Value → Shared → Prop} {Q : Flow → Shared → Prop} {target : Expr} {body : List Stmt} {l : Addr} {vs : List Value} {m : Str → Option Value} {news : List (Addr × Obj)}
  (hl : s.heap.IsList l vs.toArray) (hh : A.handled = none)
  (F : Fr h₀ env.locals s.heap m) (N : News h₀ env.locals s.heap news)
  (J : Nat → (Str → Option Value) → List (Addr × Obj) → Array GenState → Prop) (h0 : J 0 m news s.gens)
  (hsrc : ∀ i m' nw gs h, J i m' nw gs → Fr h₀ env.locals h m' → News h₀ env.locals h nw → h.IsList l vs.toArray)
  (turn : ∀ i v m₁ nw gs h tk I oI, vs[i]? = some v → J i m₁ nw gs → Fr h₀ env.locals h m₁ → News h₀ env.locals h ((I, oI) :: nw) → (∀ p ∈ nw, p.1 ≠ I) →
   wpAny (model prog w) A (assign target env v) (fun _ s₂ => wpAny (model prog w) A (execs body env) (FEnd h₀ env.locals I oI (J (i + 1)) s Q) (fun _ _ => False) s₂) (fun _ _ => False) { s with heap := h, toks := tk, gens := gs })
  (fin : ∀ m₁ nw gs, J vs.length m₁ nw gs → ∀ h tk, Fr h₀ env.locals h m₁ → News h₀ env.locals h nw → Q .next { s with heap := h, toks := tk, gens := gs })
  (ht : ∀ I v, letOwnedTupleGo target (.ref I) v = pure () := by intro _ _; rfl) :
  wpAny (model prog w) A (pyIter (.ref l)) (fun it s₂ => codeAny (model prog w) A (.forLoop target it body [] env) (fun r s' => match r with | .ok f => Q f s' | .error _ => False) s₂) E s := by
 refine wpAny_pyIter_list hl ?_
 have up : ∀ (o' : Obj) b o, s.heap.get? b = some o → (s.heap.push o').get? b = some o := fun o' b o e => Heap.get?_push_of_some _ e
 have hne : l ≠ s.heap.objs.size := by obtain ⟨o, e, _⟩ := hl; exact Nat.ne_of_lt (Heap.lt_size e)
 have W : Walks prog w A s.heap.objs.size _ [s.heap.objs.size] vs.length _ _ := Walks.list (prog := prog) (w := w) hh s.heap.objs.size l hne vs.toArray
 refine codeAny_for_my (Q := Q) (s := { s with heap := s.heap.push _ }) (fun h => h.IsList l vs.toArray) (WalkI.of W) (fun i h st => by obtain ⟨o, e, _⟩ := st.1; exact ⟨o, e⟩) (fun i h h' o st e e' q => ?_) (Nat.ne_of_lt F.ns.lt) (next_is_new F) ⟨⟨_, Heap.get?_push_size _ rfl, rfl, rfl⟩, hl.push _⟩ (F.push _) (N.grown (up _))
  (fun p hp => Nat.ne_of_lt (Heap.lt_size (N p hp).1)) J hsrc h0 (fun i v m₁ nw gs h tk oI hi hP hJ F₁ N₁ off₁ => ?_) (fun m₁ nw gs j => ⟨trivial, fin m₁ nw gs j⟩) (ht _)
 ·obtain ⟨o', q', r⟩ := st.1; rw [e] at q'; cases q'; exact ⟨⟨o, e', r⟩, q⟩
 ·exact turn i v m₁ nw gs h tk _ oI (by simpa using hP) hJ F₁ N₁ off₁
end
end
section
set_option maxRecDepth 100000
open LCg
section
variable {prog : Program} {w : World} {A : Around} {E : Value → Shared → Prop} {s : Shared} {h₀ : Heap} {L : Addr} {m : Str → Option Value} {env : Env}
theorem newEnv_K {scope : Scope} {globals : Addr} {cl : List (Str × Addr)} {qual : Str} {outer : Env} {x : Str} {Q : Env → Shared → Prop} (hcf : ∀ lo, cellsFrom lo scope.names cl = (x, lo) :: cl) (hpc : ∀ h, pushCells h scope.names = h.push { cls := .type "cell", data := .cell none })
  (h : Q { scope, locals := s.heap.objs.size, globals, cells := (x, s.heap.objs.size + 1) :: cl, qual, func := none, code := outer.code, frame := outer.frame, builtins := outer.builtins }
   { s with heap := (s.heap.push { cls := .type "dict", data := .dict #[] }).push { cls := .type "cell", data := .cell none } }) {b : Addr} :
  wpAny (model prog w) A (newFunctionEnv scope globals cl [] qual none .none (some outer) b) Q E s := by
 simp only [newFunctionEnv, Option.isSome_some, if_true]
 refine wpAny_bind (wpAny_alloc ?_)
 refine wpAny_bind (wpAny_layCells _ (fun name kind cells => by cases kind == NameKind.cell <;> simp) _ _ _ _ ?_)
 rw [hcf, hpc]
 rw [show ({ s with heap := s.heap.push { cls := .type "dict", data := .dict #[] } } : Shared).heap.objs.size = s.heap.objs.size + 1 from Heap.size_push ..]
 rw [List.forIn_nil]
 exact wpAny_bind (wpAny_pure (wpAny_pure h))
noncomputable def KEnd (h₀ : Heap) (L : Addr) (m : Str → Option Value) (s₂ : Shared) (I : Addr) (oI : Obj) (C : Addr) (oC : Obj) (K : Addr) (oK : Obj) (D : Addr) (oD : Obj) (S : List (Addr × Obj) → Prop) (J : Value → List (Addr × Obj) → Prop) (y : Value) (s' : Shared) : Prop :=
 ∃ h' tk' nw', s' = { s₂ with heap := h', toks := tk' } ∧ Fr h₀ L h' m ∧ News h₀ L h' ((I, oI) :: (C, oC) :: (K, oK) :: (D, oD) :: nw') ∧ (∀ p ∈ nw', p.1 ≠ I ∧ p.1 ≠ C ∧ p.1 ≠ K ∧ p.1 ≠ D) ∧ S nw' ∧ J y nw'
theorem block_K {elt iter : Expr} {x : Str} {px : Pos} {scope : Scope} {cl : List (Str × Addr)} {pos : Pos} {s₂ : Shared} {I : Addr} {fp : List Addr} {n : Nat} {P : Nat → Value → Prop} {St : Nat → Heap → Prop} {S : List (Addr × Obj) → Prop} {news : List (Addr × Obj)}
  {J : Nat → List Value → List (Addr × Obj) → Prop} {RR : Value → Addr → Result → Shared → Prop}
  (W : Walks prog w A I fp [I] n P St) (hsz : n ≤ sizeLine) (hIo : ∀ i h, St i h → ∃ o, h.get? I = some o)
  (hSt : ∀ i h h' o nw, St i h → h.get? I = some o → h'.get? I = some o → (∀ b o, h₀.get? b = some o → h'.get? b = some o) → News h₀ L h' nw → S nw → St i h')
  (hcf : ∀ lo, cellsFrom lo scope.names cl = (x, lo) :: cl) (hpc : ∀ h, pushCells h scope.names = h.push { cls := .type "cell", data := .cell none }) (hkind : scope.kind = .function) (hx : (relabel scope env).names.lookup x = some .cell)
  (hst : St 0 s₂.heap) (hfp : ∀ b ∈ fp, b < s₂.heap.objs.size)
  (F : Fr h₀ L s₂.heap m) (N : News h₀ L s₂.heap news) (hIL : L ≠ I) (hI₀ : h₀.get? I = none) (off : ∀ p ∈ news, p.1 ≠ I) (hS : S news) (hJ : J 0 [] news)
  (turn : ∀ i v ys nw oI C oC K oK D h tk (E' : Value → Shared → Prop), i < n → P i v → J i ys nw → S nw → oK.data = .cell (some v) → Fr h₀ L h m → News h₀ L h ((I, oI) :: (C, oC) :: (K, oK) :: (D, lst ys) :: nw) → (∀ p ∈ nw, p.1 ≠ I ∧ p.1 ≠ C ∧ p.1 ≠ K ∧ p.1 ≠ D) →
   wpAny (model prog w) A (eval elt (compEnvC scope ((x, K) :: cl) C env)) (KEnd h₀ L m { s₂ with heap := h, toks := tk } I oI C oC K oK D (lst ys) S (fun y nw' => J (i + 1) (ys ++ [y]) nw')) E' { s₂ with heap := h, toks := tk })
  (hRR : ∀ D C h tk m' ys news', Fr h₀ L h m → News h₀ L h ((D, lst ys) :: news') → (∀ p ∈ news', p.1 ≠ D) → h.Ns C m' → h₀.get? C = none → h₀.get? D = none → C ≠ L → D ≠ L → C ≠ D → (∀ p ∈ news', p.1 ≠ C) → J n ys news' → RR (.ref D) C (.ok .next) { s₂ with heap := h, toks := tk }) {b : Addr} :
  wpAny (model prog w) A (newList []) (fun acc s₃ => wpAny (model prog w) A (newFunctionEnv scope env.globals cl [] env.qual none .none (some env) b) (fun cenv s₄ =>
   codeAny (model prog w) A (.compStart (.ListComp elt [⟨.Name x px, iter, [], 0⟩] scope pos) 0 (.ref I) acc { cenv with scope := relabel scope env }) (RR acc cenv.locals) s₄) E s₃) E s₂ := by
 refine wpAny_newObj_type (newEnv_K hcf hpc ?_)
 dsimp only
 have e1 : (s₂.heap.push (lst [])).objs.size = s₂.heap.objs.size + 1 := Heap.size_push ..
 have e2 : ((s₂.heap.push (lst [])).push { cls := .type "dict", data := .dict #[] }).objs.size = s₂.heap.objs.size + 2 := by rw [Heap.size_push, e1]
 have up : ∀ (h : Heap) (o' : Obj) b o, h.get? b = some o → (h.push o').get? b = some o := fun h o' b o e => Heap.get?_push_of_some _ e
 have hD1 : (((s₂.heap.push (lst [])).push { cls := .type "dict", data := .dict #[] }).push { cls := .type "cell", data := .cell none }).get? s₂.heap.objs.size = some (lst []) := up _ _ _ _ (up _ _ _ _ (Heap.get?_push_size _ rfl))
 have hC1 : (((s₂.heap.push (lst [])).push { cls := .type "dict", data := .dict #[] }).push { cls := .type "cell", data := .cell none }).Ns (s₂.heap.objs.size + 1) fun _ => none := by
  have := (Heap.Ns.new (s₂.heap.push (lst [])) (.type "dict")).keeps (fun b o e => up _ { cls := .type "cell", data := .cell none } b o e)
  rwa [e1] at this
 have hK1 : (((s₂.heap.push (lst [])).push { cls := .type "dict", data := .dict #[] }).push { cls := .type "cell", data := .cell none }).IsCell (s₂.heap.objs.size + 2) none := by
  rw [← e2]; exact ⟨_, Heap.get?_push_size _ rfl, rfl⟩
 have old : ∀ b o, s₂.heap.get? b = some o → (((s₂.heap.push (lst [])).push { cls := .type "dict", data := .dict #[] }).push { cls := .type "cell", data := .cell none }).get? b = some o := fun b o e => up _ _ _ _ (up _ _ _ _ (up _ _ _ _ e))
 show codeAny _ _ (.compStart _ 0 (.ref I) (.ref s₂.heap.objs.size) (compEnvC scope ((x, (s₂.heap.push (lst [])).objs.size + 1) :: cl) (s₂.heap.push (lst [])).objs.size env)) (RR (.ref s₂.heap.objs.size) (s₂.heap.push (lst [])).objs.size) { s₂ with heap := ((s₂.heap.push (lst [])).push { cls := .type "dict", data := .dict #[] }).push { cls := .type "cell", data := .cell none } }
 rw [e1]
 generalize ((s₂.heap.push (lst [])).push { cls := .type "dict", data := .dict #[] }).push { cls := .type "cell", data := .cell none } = h₁ at hD1 hC1 hK1 old
 have fresh : ∀ a, s₂.heap.objs.size ≤ a → h₀.get? a = none := fun a ha => by
  cases e : h₀.get? a with
  | none => rfl
  | some o' => exact absurd (Heap.lt_size (F.keep a o' e)) (Nat.not_lt.mpr ha)
 have hD₀ := fresh s₂.heap.objs.size (Nat.le_refl _)
 have hC₀ := fresh (s₂.heap.objs.size + 1) (Nat.le_succ _)
 have hK₀ := fresh (s₂.heap.objs.size + 2) (by exact oz54)
 have hLlt : L < s₂.heap.objs.size := F.ns.lt
 have hIf : I ∈ fp := W.sub I (List.mem_singleton.mpr rfl)
 have hIlt : I < s₂.heap.objs.size := hfp I hIf
 have hoff : ∀ p ∈ news, p.1 ≠ I ∧ p.1 ≠ s₂.heap.objs.size + 1 ∧ p.1 ≠ s₂.heap.objs.size + 2 ∧ p.1 ≠ s₂.heap.objs.size := fun p hp => by
  have := Heap.lt_size (N p hp).1
  exact ⟨off p hp, Nat.ne_of_lt (Nat.lt_succ_of_lt this), Nat.ne_of_lt (Nat.lt_succ_of_lt (Nat.lt_succ_of_lt this)), Nat.ne_of_lt this⟩
 have F1 := F.keeps old
 have N1 : News h₀ L h₁ news := fun p hp => ⟨old _ _ (N p hp).1, (N p hp).2⟩
 have hst₁ : St 0 h₁ := W.frame _ _ _ hst fun b _ o e => old b o e
 generalize hDe : s₂.heap.objs.size = D at *
 have hDL : D ≠ L := (Nat.ne_of_lt hLlt).symm
 have hCL : D + 1 ≠ L := (Nat.ne_of_lt (Nat.lt_succ_of_lt hLlt)).symm
 have hKL : D + 2 ≠ L := (Nat.ne_of_lt (Nat.lt_succ_of_lt (Nat.lt_succ_of_lt hLlt))).symm
 have hDf : D ∉ fp := fun hm => Nat.lt_irrefl _ (hfp _ hm)
 have hCf : D + 1 ∉ fp := fun hm => Nat.lt_irrefl _ (Nat.lt_of_succ_lt (hfp _ hm))
 have hKf : D + 2 ∉ fp := fun hm => by have : D + 2 < D := hfp _ hm; exact oz53 this
 have hDI : I ≠ D := Nat.ne_of_lt hIlt
 have hCI : I ≠ D + 1 := Nat.ne_of_lt (Nat.lt_succ_of_lt hIlt)
 have hKI : I ≠ D + 2 := Nat.ne_of_lt (Nat.lt_succ_of_lt (Nat.lt_succ_of_lt hIlt))
 have hDC : D ≠ D + 1 := Nat.ne_of_lt (Nat.lt_succ_self _)
 have hDK : D ≠ D + 2 := fun z => by have : (D : Nat) = D + 2 := z; exact oz52 this
 have hCK : D + 1 ≠ D + 2 := fun z => by have : (D : Nat) + 1 = D + 2 := z; exact oz51 this
 have loop : codeAny (model prog w) A (.compLoop (.ListComp elt [⟨.Name x px, iter, [], 0⟩] scope pos) 0 (.ref I) (.ref D) (compEnvC scope ((x, D + 2) :: cl) (D + 1) env)) (RR (.ref D) (D + 1)) { s₂ with heap := h₁ } := by
  refine codeAny_compLoop_tests
   (fun k s' => ∃ h' tk i ys m' v₀ news', s' = { s₂ with heap := h', toks := tk } ∧ i ≤ n ∧ k = n + 1 - i ∧ ys.length = i ∧ St i h' ∧ Fr h₀ L h' m ∧ h'.Ns (D + 1) m' ∧ h'.IsCell (D + 2) v₀ ∧ News h₀ L h' ((D, lst ys) :: news') ∧
    (∀ p ∈ news', p.1 ≠ I ∧ p.1 ≠ D + 1 ∧ p.1 ≠ D + 2 ∧ p.1 ≠ D) ∧ S news' ∧ J i ys news') ?_ (n + 1)
   (xi7 h₁ s₂.toks 0 [] _ _ news ⟨rfl, Nat.zero_le _, rfl, rfl, hst₁, F1, hC1, hK1, List.forall_mem_cons.mpr ⟨⟨hD1, hDL, hD₀⟩, N1⟩, hoff, hS, hJ⟩)
  intro k s' hGJ
  walk_at "cg"
  obtain ⟨h', tk, i, ys, m', v₀, news', rfl, hi, rfl, hyl, hst', F', hn', hk', N', off', hS', hJ'⟩ := hGJ
  walk_at "bg"
  have DN := N' (D, lst ys) (.head _)
  have RN : News h₀ L h' news' := fun p hp => N' p (.tail _ hp)
  by_cases hlt : i < n
  ·refine W.item i _ _ _ hlt hst' fun v h₂ tk₂ hPv hst₂ hk₂ => ?_
   have k2 : ∀ b o, b ≠ I → h'.get? b = some o → h₂.get? b = some o := fun b o hb e => hk₂ b o (by simpa using hb) e
   walk_at "cg"
   obtain ⟨oK₀, hK₁, hK₂⟩ := hk'
   walk_at "bg"
   refine wpAny_assign_Name (wpAny_storeName_cell (c := D + 2) (v₀ := v₀) (by simp [compEnvC, relabel, hkind]) hx (by simp [compEnvC]) ⟨oK₀, k2 _ _ (Ne.symm hKI) hK₁, hK₂⟩ (fun h₃ hv₃ hs₃ => ?_))
   refine wpAny_tests_nil ?_
   simp only [if_true]
   have k3 : ∀ b o, b ≠ D + 2 → h₂.get? b = some o → h₃.get? b = some o := fun b o hb e => (hs₃.2 b hb).trans e
   have hst₃ : St (i + 1) h₃ := W.frame _ _ _ hst₂ fun b hb o e => k3 b o (fun q => hKf (q ▸ hb)) e
   walk_at "cg"
   obtain ⟨oI, heI⟩ := hIo _ _ hst₃
   walk_at "bg"
   walk_at "cg"
   obtain ⟨oK, heK, hoK⟩ := hv₃
   walk_at "bg"
   walk_at "cg"
   obtain ⟨oC, heC, hoC⟩ := ns_obj (hn'.at' fun o e => k3 _ _ hCK (k2 _ _ (Ne.symm hCI) e))
   walk_at "bg"
   have F₃ : Fr h₀ L h₃ m := ⟨F'.ns.at' fun o e => k3 _ _ (Ne.symm hKL) (k2 _ _ hIL e), fun b o e => k3 _ _ (fun z => by rw [z, hK₀] at e; cases e) (k2 _ _ (fun z => by rw [z, hI₀] at e; cases e) (F'.keep b o e)), F'.above⟩
   have N₃ : News h₀ L h₃ ((I, oI) :: (D + 1, oC) :: (D + 2, oK) :: (D, lst ys) :: news') := List.forall_mem_cons.mpr ⟨⟨heI, Ne.symm hIL, hI₀⟩, List.forall_mem_cons.mpr ⟨⟨heC, hCL, hC₀⟩, List.forall_mem_cons.mpr ⟨⟨heK, hKL, hK₀⟩,
    List.forall_mem_cons.mpr ⟨⟨k3 _ _ hDK (k2 _ _ (Ne.symm hDI) DN.1), hDL, hD₀⟩, fun p hp => ⟨k3 _ _ (off' p hp).2.2.1 (k2 _ _ (off' p hp).1 (RN p hp).1), (RN p hp).2⟩⟩⟩⟩⟩
   refine wpAny_mono (turn i v ys news' oI (D + 1) oC (D + 2) oK D h₃ _ _ hlt hPv hJ' hS' hoK F₃ N₃ off') (fun y s₄ h₄ => ?_) fun _ _ e => e
   walk_at "cg"
   obtain ⟨h₄, tk₄, news₄, rfl, F₄, N₄, off₄, hS₄, hJ₄⟩ := h₄
   walk_at "bg"
   have zI := (N₄ (I, oI) (.head _)).1
   have zC := (N₄ (D + 1, oC) (.tail _ (.head _))).1
   have zK := (N₄ (D + 2, oK) (.tail _ (.tail _ (.head _)))).1
   have zD := (N₄ (D, lst ys) (.tail _ (.tail _ (.tail _ (.head _))))).1
   have N₄' : News h₀ L h₄ news₄ := fun p hp => N₄ p (.tail _ (.tail _ (.tail _ (.tail _ hp))))
   have hst₄ : St (i + 1) h₄ := hSt _ _ _ _ _ hst₃ heI zI F₄.keep N₄' hS₄
   refine append_at (hsz := by show ys.toArray.size ≤ sizeLine; rw [List.size_toArray, hyl]; exact Nat.le_trans hi hsz) zD fun h₅ hs₅ hD₅ => ?_
   have k5 : ∀ b o, b ≠ D → h₄.get? b = some o → h₅.get? b = some o := fun b o hb e => hs₅.extBut b o hb e
   refine ⟨n + 1 - (i + 1), by exact oz49 hlt, xi7 h₅ tk₄ (i + 1) (ys ++ [y]) _ (some v) news₄ ⟨rfl, hlt, rfl, by rw [List.length_append, List.length_singleton, hyl], W.frame _ _ _ hst₄ fun b hb o e => k5 b o (fun q => hDf (q ▸ hb)) e, F₄.change hs₅ hDL hD₀, (hoC.ns (k5 _ _ (Ne.symm hDC) zC)), ⟨oK, k5 _ _ (Ne.symm hDK) zK, hoK⟩, List.forall_mem_cons.mpr ⟨⟨hD₅.trans (congrArg some (lst_snoc ys y)), hDL, hD₀⟩, fun p hp => ⟨k5 _ _ (off₄ p hp).2.2.2 (N₄' p hp).1, (N₄' p hp).2⟩⟩, off₄, hS₄, hJ₄⟩⟩
  ·obtain rfl : i = n := Nat.le_antisymm hi (Nat.not_lt.mp hlt)
   refine W.done _ _ _ hst' fun h₂ tk₂ hk₂ => ?_
   have k2 : ∀ b o, b ≠ I → h'.get? b = some o → h₂.get? b = some o := fun b o hb e => hk₂ b o (by simpa using hb) e
   exact hRR D (D + 1) h₂ tk₂ _ ys news' ⟨F'.ns.at' fun o e => k2 _ _ hIL e, fun b o e => k2 _ _ (fun z => by rw [z, hI₀] at e; cases e) (F'.keep b o e), F'.above⟩ (List.forall_mem_cons.mpr ⟨⟨k2 _ _ (Ne.symm hDI) DN.1, DN.2⟩, fun p hp => ⟨k2 _ _ (off' p hp).1 (RN p hp).1, (RN p hp).2⟩⟩) (fun p hp => (off' p hp).2.2.2)
    (hn'.at' fun o e => k2 _ _ (Ne.symm hCI) e) hC₀ hD₀ hCL hDL (Ne.symm hDC) (fun p hp => (off' p hp).2.1) hJ'
 exact codeAny_compStart_list loop (W.self 0 _ _ _ hst₁ loop)
theorem Assign_ListComp_K {elt iter : Expr} {x y : Str} {px py : Pos} {scope : Scope} {cl : List (Str × Addr)} {pos spos : Pos} {Q : Flow → Shared → Prop} (hLe : env.locals = L)
  (hsw : swapsWith (.ListComp elt [⟨.Name x px, iter, [], 0⟩] scope pos) (some (.Name y py)) spos.line env = pure true)
  (hclos : closureFor scope env = pure cl) (hcf : ∀ lo, cellsFrom lo scope.names cl = (x, lo) :: cl) (hpc : ∀ h, pushCells h scope.names = h.push { cls := .type "cell", data := .cell none }) (hkind : scope.kind = .function) (hx : (relabel scope env).names.lookup x = some .cell)
  (hnames : ∀ z ∈ scope.names, z.2 = .local → scope.names.lookup z.1 = some .local)
  (hy : env.kindOf y = some .local) (hp : (env.scope.kind == .class || (env.scope.kind == .module && env.locals != env.globals)) = false)
  (h : wpAny (model prog w) A (eval iter env) (fun xv s₁ => ∃ (t : Addr) (o : Obj) (its : Array Value) (k : Nat) (news : List (Addr × Obj)) (J : Nat → List Value → List (Addr × Obj) → Prop), xv = .ref t ∧ A.handled = none ∧ Fr h₀ L s₁.heap m ∧ News h₀ L s₁.heap news ∧ (t, o) ∈ news ∧ o.cls = .type "tuple" ∧ o.data = .seq its k ∧ its.size ≤ sizeLine ∧ J 0 [] news ∧
   (∀ i v ys nw I oI C oC K oK D h tk (E' : Value → Shared → Prop), its[i]? = some v → J i ys nw → (t, o) ∈ nw → oK.data = .cell (some v) → Fr h₀ L h m → News h₀ L h ((I, oI) :: (C, oC) :: (K, oK) :: (D, lst ys) :: nw) → (∀ p ∈ nw, p.1 ≠ I ∧ p.1 ≠ C ∧ p.1 ≠ K ∧ p.1 ≠ D) →
    wpAny (model prog w) A (eval elt (compEnvC scope ((x, K) :: cl) C env)) (KEnd h₀ L m { s₁ with heap := h, toks := tk } I oI C oC K oK D (lst ys) (fun nw => (t, o) ∈ nw) (fun y nw' => J (i + 1) (ys ++ [y]) nw')) E' { s₁ with heap := h, toks := tk }) ∧
   (∀ ys nw D h tk, J its.size ys nw → Fr h₀ L h (fun z => if z = y then some (.ref D) else m z) → News h₀ L h ((D, lst ys) :: nw) → (∀ p ∈ nw, p.1 ≠ D) → Q .next { s₁ with heap := h, toks := tk })) E s)
  (hs : ∀ x, foldedSetIterable iter env x = pure x := by intro _; rfl) :
  wpAny (model prog w) A (exec (.Assign [.Name y py] (.ListComp elt [⟨.Name x px, iter, [], 0⟩] scope pos) spos) env) Q E s := by
 subst hLe
 rw [exec_Assign_Name_used _ _ _ _ hsw]
 refine wpAny_bind (wpAny_standAt (wpAny_bind ?_))
 show wpAny _ A (do let _ ← comprehension (.ListComp elt [⟨.Name x px, iter, [], 0⟩] scope pos) scope env _ (newList []) false (eval iter env) (some (assign (.Name y py) env))) _ _ s
 refine wpAny_bind (wpAny_mono (wpAny_comprehension_free (use := some (assign (.Name y py) env)) (Q := fun _ s' => Q .next s') rfl hs hclos hkind hnames
  (wpAny_mono h (fun xv s₁ h₁ => ?_) fun _ _ e => e)) (fun _ s' hq => wpAny_pure (wpAny_pure hq)) fun _ _ e => e)
 walk_at "cg"
 obtain ⟨t, o, its, k, news, J, rfl, hh, F, N, hm, hc, hd, hsz, hJ, turn, fin⟩ := h₁
 walk_at "bg"
 have ht : s₁.heap.IsTuple t its := by exact ⟨o, (N _ hm).1, hc, k, hd⟩
 have hlt : t < s₁.heap.objs.size := Heap.lt_size (N _ hm).1
 refine wpAny_pyIter_tuple ht ?_
 have up : ∀ (o' : Obj) b o, s₁.heap.get? b = some o → (s₁.heap.push o').get? b = some o := fun o' b o e => Heap.get?_push_of_some _ e
 refine block_K (s₂ := { s₁ with heap := s₁.heap.push { cls := .type "tuple_iterator", data := .fields #[.ref t, .int 0 0] } }) (S := fun nw => (t, o) ∈ nw) (J := J) (Walks.tuple hh s₁.heap.objs.size t (Nat.ne_of_lt hlt) its) hsz (fun i h st => by obtain ⟨o, e, _⟩ := st.1; exact ⟨o, e⟩)
  (fun i h h' oo nw st e e' kk N' S' => ⟨by obtain ⟨o', q, r⟩ := st.1; rw [e] at q; cases q; exact ⟨oo, e', r⟩, ⟨o, (N' _ S').1, hc, k, hd⟩⟩)
  hcf hpc hkind hx ⟨⟨_, Heap.get?_push_size _ rfl, rfl, rfl⟩, ⟨o, up _ _ _ (N _ hm).1, hc, k, hd⟩⟩ (fun b hb => ?_) (F.push _) (N.grown (up _)) (Nat.ne_of_lt F.ns.lt) (next_is_new F) (fun p hp => Nat.ne_of_lt (Heap.lt_size (N p hp).1)) hm hJ
  (fun i v ys nw oI C oC K oK D h tk E' hi hP hj hS hK F' N' off' => turn i v ys nw _ oI C oC K oK D h tk E' hP hj hS hK F' N' off') ?_
 ·show b < (s₁.heap.push _).objs.size
  rw [Heap.size_push]
  rcases List.mem_cons.mp hb with rfl | hb
  ·exact Nat.lt_succ_self _
  ·rw [List.mem_singleton.mp hb]; exact Nat.lt_succ_of_lt hlt
 ·intro D C h' tk m' ys news' F' N' o1 hn hC₀ hD₀ hCL hDL hCD offC hj
  show wpAny _ A (assign (.Name y py) env (.ref D)) _ _ _
  refine wpAny_assign_Name (wpAny_storeName_local hy F'.ns (fun h₂ hn₂ hs₂ => ?_) hp)
  have hL₀ : h₀.get? env.locals = none := Heap.get?_none_of_le F'.above
  have F₂ : Fr h₀ env.locals h₂ (fun z => if z = y then some (.ref D) else m z) := ⟨hn₂, fun b o e => hs₂.extBut b o (fun q => by rw [q, hL₀] at e; cases e) (F'.keep b o e), F'.above⟩
  refine ⟨m', hn.sameBut hs₂ hCL, fun h'' hs'' => fin ys news' D h'' _ hj (F₂.change hs'' hCL hC₀) (fun p hp => ?_) o1⟩
  have z : h₂.get? p.1 = some p.2 := hs₂.extBut _ _ (N' p hp).2.1 (N' p hp).1
  refine ⟨hs''.extBut _ _ ?_ z, (N' p hp).2⟩
  rcases List.mem_cons.mp hp with rfl | hp
  ·exact Ne.symm hCD
  ·exact offC p hp
end
end
section
noncomputable def mineE (es : List Ev) (nm : Str) : List Ev := es.filter fun e => e.nm == nm
noncomputable def cntE (me : List Ev) (c : Str) : Int := ((me.filter fun e => e.c == c).length : Int)
noncomputable def setC (cs : List (Str × Int)) (k : Str) (n : Int) : List (Str × Int) := if cs.any (fun p => decide (p.1 = k)) then cs.map (fun p => if p.1 = k then (p.1, n) else p) else cs ++ [(k, n)]
noncomputable def callersE (me ms : List Ev) : List (Str × Int) := ms.foldl (fun cs e => setC cs e.c (cntE me e.c)) []
noncomputable def fldE : Nat → Ev → Int
 | 0, e => e.n
 | 1, e => e.t
 | _, e => e.u
noncomputable def sumK (me : List Ev) (i : Nat) : Int := (me.map (fldE i)).sum
noncomputable def entE (me : List Ev) : Ent := ⟨(me.length : Int), sumK me 0, sumK me 1, sumK me 2, callersE me me⟩
noncomputable def dueStep (es : List Ev) (acc : List (Str × Ent)) (e : Ev) : List (Str × Ent) := if acc.any (fun p => decide (p.1 = e.nm)) then acc else acc ++ [(e.nm, entE (mineE es e.nm))]
noncomputable def dueE (es ms : List Ev) : List (Str × Ent) := ms.foldl (dueStep es) []
theorem due_take {es : List Ev} {i : Nat} {e : Ev} (h : es[i]? = some e) : dueE es (es.take (i + 1)) = dueStep es (dueE es (es.take i)) e := by
 unfold dueE; rw [List.take_add_one, h, List.foldl_append]; rfl
theorem due_len {es : List Ev} : ∀ (ms : List Ev) (acc : List (Str × Ent)), (ms.foldl (dueStep es) acc).length ≤ acc.length + ms.length
 | [], acc => Nat.le_refl _
 | e :: r, acc => by
  rw [List.foldl_cons]
  refine Nat.le_trans (due_len r _) ?_
  have : (dueStep es acc e).length ≤ acc.length + 1 := by unfold dueStep; split <;> simp
  rw [List.length_cons]; omega
inductive DueJ (w : World) (hs : Heap) (L : Addr) (Dd : Addr) (R0 : List (Addr × Obj)) (tb : List (Str × Ent)) (nw : List (Addr × Obj)) : Prop
 | mk (oD oM oO oE : Obj) (kvs : List (Str × Value)) (mk : List (Addr × Obj)) (v1 v2 v3 : Option Value) (c0 : oM.data = .cell v1) (c1 : oO.data = .cell v2) (c2 : oE.data = .cell v3) (c3 : oD.IsDictOf (sk w) kvs) (c4 : TabAt w mk kvs tb) (c5 : (∀ p ∈ mk, hs.get? p.1 = none)) (c6 : (∀ p ∈ R0 ++ mk, (@Ne Nat p.1 (L + 1)) ∧ (@Ne Nat p.1 (L + 1 + 1)) ∧ (@Ne Nat p.1 (L + 1 + 1 + 1)))) (c7 : (∀ p ∈ R0 ++ mk, p.1 ≠ Dd)) (c8 : nw = (Dd, oD) :: (L + 1 + 1 + 1, oM) :: (L + 1 + 1, oO) :: (L + 1, oE) :: (R0 ++ mk)) : DueJ w hs L Dd R0 tb nw
noncomputable abbrev locD (m₀ : Str → Option Value) (v1 v2 : Option Value) (Dd ev : Addr) : Str → Option Value :=
 ovr m₀ [(Str.ofString "callers", v1), (Str.ofString "sums", v2), (Str.ofString "due", some (.ref Dd)), (Str.ofString "events", some (.ref ev))]
theorem ev_item {w : World} {A : Around} {E : Value → Shared → Prop} {s : Shared} {value slice : PySem.Expr} {ea : Addr} {e : Ev} {t1 t2 t3 t4 t5 : Tok} {k : Int} {u : Tok} {j : Nat} {x : Value} {Q : Value → Shared → Prop} (hat : s.heap.get? ea = some (evO e t1 t2 t3 t4 t5))
  (hlo : -(2 ^ 63) ≤ k) (hhi : k < 2 ^ 63) (hj : seqIndex? k 5 = some j) (hx : [Value.str e.nm t1, .str e.c t2, .int e.n t3, .int e.t t4, .int e.u t5][j]? = some x) (h : Q x s)
  (hs : subscripted slice false (.ref ea) (.int k u) = operate [.ref ea, .int k u] (getItem (.ref ea) (.int k u)) := by with_unfolding_all rfl) :
  wpAny (model PG w) A (subscriptTail value slice (.ref ea) (.int k u)) Q E s :=
 item_tupleT (l := [Value.str e.nm t1, .str e.c t2, .int e.n t3, .int e.t t4, .int e.u t5]) ⟨_, hat, rfl, _, rfl⟩ hlo hhi hj hx h hs
theorem off_keys' {X : Addr} {R B : List (Addr × Obj)} (h : ∀ p ∈ R, p.1 ≠ X) (e : B.map (·.1) = R.map (·.1)) : ∀ p ∈ B, p.1 ≠ X := fun p hp z => by
 have := List.mem_map_of_mem (f := (·.1)) hp
 rw [e] at this
 walk_at "cg"
 obtain ⟨q, hq, e2⟩ := List.mem_map.mp this
 walk_at "bg"
 exact h q hq (e2.trans z)
theorem FEnd.cont {s : Shared} {h₀ : Heap} {L I : Addr} {oI : Obj} {J : (Str → Option Value) → List (Addr × Obj) → Array GenState → Prop} {Q : Flow → Shared → Prop} {h' : Heap} {tk : Nat} {gs : Array GenState} {m' : Str → Option Value} {nw all : List (Addr × Obj)}
  (F : Fr h₀ L h' m') (N : News h₀ L h' all) (sub : ∀ p ∈ (I, oI) :: nw, p ∈ all) (off : ∀ p ∈ nw, p.1 ≠ I) (j : J m' nw gs) : FEnd h₀ L I oI J s Q .cont { s with heap := h', toks := tk, gens := gs } :=
 ⟨h', tk, gs, m', nw, rfl, F, fun p hp => N p (sub p hp), off, j⟩
theorem off1_mem {D : Addr} : ∀ {l : List (Addr × Obj)}, LCg.Off1 D l → ∀ p ∈ l, @Ne Nat p.1 D
 | [], _, _, h => nomatch h
 | _ :: _, x, p, h => by
  rcases List.mem_cons.mp h with rfl | h
  ·exact x.1
  ·exact off1_mem x.2 p h
theorem ip_setC {kvs : List (Str × Value)} {cs : List (Str × Int)} (h : IntPairs kvs cs) (k : Str) (n : Int) (t : Tok) : IntPairs (stored kvs k (.int n t)) (setC cs k n) := by
 have e : kvs.any (fun p => decide (p.1 = k)) = cs.any (fun p => decide (p.1 = k)) := by rw [any_keys, any_keys, ip_keys h]
 unfold stored setC
 rw [e]
 split
 ·rename_i ha
  clear ha e
  induction h with
  | nil => exact .nil
  | @cons p q _ _ hpq _ ih =>
   rw [List.map_cons, List.map_cons]
   refine .cons ?_ ih
   rw [hpq.1]
   split
   ·exact ⟨rfl, t, rfl⟩
   ·exact ⟨hpq.1, hpq.2⟩
 ·exact All2.append h (.cons ⟨rfl, t, rfl⟩ .nil)
theorem setC_len (cs : List (Str × Int)) (k : Str) (n : Int) : (setC cs k n).length ≤ cs.length + 1 := by
 unfold setC; split <;> simp
theorem callers_len (me : List Ev) : ∀ (ms : List Ev) (acc : List (Str × Int)), (ms.foldl (fun cs e => setC cs e.c (cntE me e.c)) acc).length ≤ acc.length + ms.length
 | [], acc => Nat.le_refl _
 | e :: r, acc => by
  rw [List.foldl_cons]
  refine Nat.le_trans (callers_len me r _) ?_
  have := setC_len acc e.c (cntE me e.c)
  rw [List.length_cons]; omega
theorem callers_take {me ms : List Ev} {j : Nat} {x : Ev} (h : ms[j]? = some x) : callersE me (ms.take (j + 1)) = setC (callersE me (ms.take j)) x.c (cntE me x.c) := by
 unfold callersE; rw [List.take_add_one, h, List.foldl_append]; rfl
theorem three_of {me : List Ev} {zs : List Value} (h : All2 (fun (j : Nat) y => ∃ t, y = Value.int (sumK me j) t) (List.range 3) zs) : ∃ u0 u1 u2, zs = [.int (sumK me 0) u0, .int (sumK me 1) u1, .int (sumK me 2) u2] := by
 have e : List.range 3 = [0, 1, 2] := rfl
 rw [e] at h
 cases h with
 | cons h0 h =>
  cases h with
  | cons h1 h =>
   cases h with
   | cons h2 h =>
    cases h
    walk_at "cg"
    obtain ⟨u0, rfl⟩ := h0
    walk_at "bg"
    walk_at "cg"
    obtain ⟨u1, rfl⟩ := h1
    walk_at "bg"
    walk_at "cg"
    obtain ⟨u2, rfl⟩ := h2
    walk_at "bg"
    exact (xi3 u0 u1 u2 rfl)
theorem fld_at {x : Ev} {q1 q2 q3 q4 q5 : Tok} {i : Nat} (hi : i < 3) : ∃ t, [Value.str x.nm q1, .str x.c q2, .int x.n q3, .int x.t q4, .int x.u q5][2 + i]? = some (.int (fldE i x) t) ∧ seqIndex? (2 + (i : Int)) 5 = some (2 + i) := by
 rcases (by omega : i = 0 ∨ i = 1 ∨ i = 2) with rfl | rfl | rfl
 ·exact ⟨q3, rfl, rfl⟩
 ·exact ⟨q4, rfl, rfl⟩
 ·exact ⟨q5, rfl, rfl⟩
structure EvB (e : Ev) : Prop where
 n0 : 0 ≤ e.n
 n1 : e.n ≤ 2
 t0 : 0 ≤ e.t
 t1 : e.t ≤ 20
 u0 : 0 ≤ e.u
 u1 : e.u ≤ 20
local macro_rules | `(tactic| walk_at "exec For Name Name cons nil") => `(tactic| (k_here; refine hold_it ?_))
local macro_rules | `(tactic| walk_at "eval ListComp") => `(tactic| (k_here; refine hold_it ?_))
local macro_rules | `(tactic| walk_at "exec Assign cons ListComp") => `(tactic| (k_here; refine hold_it ?_))
local macro_rules | `(tactic| walk_at "subscriptTail Name Constant ref int") => `(tactic| (k_here; refine hold_it ?_))
local macro_rules | `(tactic| walk_at "compareOp In str ref") => `(tactic| (k_here; refine hold_it ?_))
local macro_rules | `(tactic| walk_at "call builtin:len") => `(tactic| (k_here; refine hold_it ?_))
namespace c_due_spec
noncomputable def P := unc fun (w : World) => unc fun (mean : ExcName → Option Value) => unc fun (mg : Str → Option Value) => unc fun (mb : Str → Option Value) => unc fun (ev : Addr) => unc fun (k : Nat) => unc fun (es : List Ev) => unc fun (vs : List Value) => unc fun (tl : List (Addr × Obj)) => unc fun (dp : Nat) => unc fun (un : Nat) => unc fun (gd : Option (List Code)) => unc fun (cn : Str) => unc fun (cs : Scope) => unc fun (a : Addr) => unc fun (ccd : Value) => unc fun (cl : List (Str × Addr)) => unc fun (outer : List Env) => unc fun (A₀ : Around) => unc fun (base : Heap) => unc fun (h₀ : Heap) => unc fun (L : Addr) => unc fun (m : Str → Option Value) => unc fun (s : Shared) => unc fun (Q : Value → Shared → Prop) => fun (E : Value → Shared → Prop) => (EvsAt tl es vs) → (es.length ≤ 44) → (∀ e ∈ es, EvB e) → SpecL.at w mean mg mb none 4 100 262 [.ref ev] ((ev, W.listOf vs.toArray k) :: tl) [] (fun h h' r => ∃ Dd oD kvs mk, r = .ref Dd ∧ Made h h' ((Dd, oD) :: mk) ∧ oD.IsDictOf (sk w) kvs ∧ TabAt w mk kvs (dueE es es) ∧ (Dd == sysModules) = false) dp un gd cn cs a ccd cl outer A₀ base h₀ L m s Q E
theorem ne : Nonempty (World × (ExcName → Option Value) × (Str → Option Value) × (Str → Option Value) × Addr × Nat × List Ev × List Value × (List (Addr × Obj)) × Nat × Nat × Option (List Code) × Str × Scope × Addr × Value × (List (Str × Addr)) × List Env × Around × Heap × Heap × Addr × (Str → Option Value) × Shared × (Value → Shared → Prop) × (Value → Shared → Prop)) := by repeat' (first | refine neP ?_ ?_ | exact neW | exact neA | exact neS | infer_instance | exact ⟨⟨0, 0, 0, 0, []⟩⟩)
@[irreducible] noncomputable def c := @cst _ ne P
@[irreducible] noncomputable def w : World := c.1
@[irreducible] noncomputable def mean : ExcName → Option Value := c.2.1
@[irreducible] noncomputable def mg : Str → Option Value := c.2.2.1
@[irreducible] noncomputable def mb : Str → Option Value := c.2.2.2.1
@[irreducible] noncomputable def ev : Addr := c.2.2.2.2.1
@[irreducible] noncomputable def k : Nat := c.2.2.2.2.2.1
@[irreducible] noncomputable def es : List Ev := c.2.2.2.2.2.2.1
@[irreducible] noncomputable def vs : List Value := c.2.2.2.2.2.2.2.1
@[irreducible] noncomputable def tl : List (Addr × Obj) := c.2.2.2.2.2.2.2.2.1
@[irreducible] noncomputable def dp : Nat := c.2.2.2.2.2.2.2.2.2.1
@[irreducible] noncomputable def un : Nat := c.2.2.2.2.2.2.2.2.2.2.1
@[irreducible] noncomputable def gd : Option (List Code) := c.2.2.2.2.2.2.2.2.2.2.2.1
@[irreducible] noncomputable def cn : Str := c.2.2.2.2.2.2.2.2.2.2.2.2.1
@[irreducible] noncomputable def cs : Scope := c.2.2.2.2.2.2.2.2.2.2.2.2.2.1
@[irreducible] noncomputable def a : Addr := c.2.2.2.2.2.2.2.2.2.2.2.2.2.2.1
@[irreducible] noncomputable def ccd : Value := c.2.2.2.2.2.2.2.2.2.2.2.2.2.2.2.1
@[irreducible] noncomputable def cl : List (Str × Addr) := c.2.2.2.2.2.2.2.2.2.2.2.2.2.2.2.2.1
@[irreducible] noncomputable def outer : List Env := c.2.2.2.2.2.2.2.2.2.2.2.2.2.2.2.2.2.1
@[irreducible] noncomputable def A₀ : Around := c.2.2.2.2.2.2.2.2.2.2.2.2.2.2.2.2.2.2.1
@[irreducible] noncomputable def base : Heap := c.2.2.2.2.2.2.2.2.2.2.2.2.2.2.2.2.2.2.2.1
@[irreducible] noncomputable def h₀ : Heap := c.2.2.2.2.2.2.2.2.2.2.2.2.2.2.2.2.2.2.2.2.1
@[irreducible] noncomputable def L : Addr := c.2.2.2.2.2.2.2.2.2.2.2.2.2.2.2.2.2.2.2.2.2.1
@[irreducible] noncomputable def m : Str → Option Value := c.2.2.2.2.2.2.2.2.2.2.2.2.2.2.2.2.2.2.2.2.2.2.1
@[irreducible] noncomputable def s : Shared := c.2.2.2.2.2.2.2.2.2.2.2.2.2.2.2.2.2.2.2.2.2.2.2.1
@[irreducible] noncomputable def Q : Value → Shared → Prop := c.2.2.2.2.2.2.2.2.2.2.2.2.2.2.2.2.2.2.2.2.2.2.2.2.1
@[irreducible] noncomputable def E : Value → Shared → Prop := c.2.2.2.2.2.2.2.2.2.2.2.2.2.2.2.2.2.2.2.2.2.2.2.2.2
set_option maxRecDepth 100000 in
set_option maxHeartbeats 8000000 in
theorem main : ∀ (hes : EvsAt tl es vs) (hl : es.length ≤ 44) (hb : ∀ e ∈ es, EvB e), SpecL.at w mean mg mb none 4 100 262 [.ref ev] ((ev, W.listOf vs.toArray k) :: tl) [] (fun h h' r => ∃ Dd oD kvs mk, r = .ref Dd ∧ Made h h' ((Dd, oD) :: mk) ∧ oD.IsDictOf (sk w) kvs ∧ TabAt w mk kvs (dueE es es) ∧ (Dd == sysModules) = false) dp un gd cn cs a ccd cl outer A₀ base h₀ L m s Q E := by
 intro hes hl hb
 unfold SpecL.at; intro B F X T hk hdp hun hHO hled hret
 (refine wpAny_call ?_; k_dflt (refine' enterMC (binds := [(Str.ofString "events", .ref ev)]) ?k1z40 ?k2z40 ?kNz40 ?k3z40 ?k5z40 ?kAz40 ?kFz40 ?kKz40 ?k6z40 ?k7z40 ?k8z40 ?k9z40 ?kBz40 ?kDz40 ?_ ?c2z40 ?c3z40 ?c4z40; (case kAz40 => exact rfl); (case kFz40 => exact rfl); (case kKz40 => assumption); (case k1z40 => k_asm); (case k2z40 => k_asm); (case kNz40 => exact hled); (case k3z40 => k_asm); (case k5z40 => k_asm); (case k6z40 => k_is); (case k7z40 => k_is); (case k8z40 => ktr_room); (case k9z40 => exact BindsTo.of_eq rfl); (case kBz40 => exact rfl); (case kDz40 => decide +kernel); (case c2z40 => exact rfl); (case c3z40 => exact rfl); (case c4z40 => exact rfl); k_whole; intro g h' tk' L' cells' eL' keep F' N' Y' B' X' T'; k_cells Y'; (try dsimp only); (try (refine fold2 ?_; intro qk ek hqk hek)); (try dsimp only [List.cons_append, List.nil_append] at N')))
 replace keep := Hid.mk keep
 rename_i zv1 zv2 zv3 zv4 zv5 zv6; revert eL' F' B' X' T' zv4 zv5 zv6 N' hqk hek keep; revert g h' tk' L' zv1 zv2 zv3 qk ek; exists hc, kS yH <| kS yH <| kS yN <| kS yN <| kS zeO <| kS zeO <| kS zeO <| kS (yF (yF yP)) <| kO (yF (yF yP)), 1, g, h', tk', L', zv1, zv2, zv3, qk, ek; intro eL' F' B' X' T' _ _ _ N' hqk hek keep
 walk_at "ws"
 show wpAny _ _ _ _ _ _
 have vl : vs.length = es.length := (All2.length hes).symm
 rename_i zv7 _ zv8 zv10 zv11 _ zv12 _ zv13 zv9 zv14 zv15; revert zv10 zv11 zv12 zv13 zv14 zv15; revert zv7 zv8 zv9 tk; exists hc, kS yN <| kS zeO <| kS yH <| kO yN, 2, zv7, zv8, zv9, tk; intro _ _ _ _ _ _
 refine wpAny_mono (Q := fun f s₂ => f = .next ∧ ∃ (Dd : Addr) (h : Heap) (tk : Nat) (mF : Str → Option Value) (nw : List (Addr × Obj)), s₂ = { s with heap := h, toks := tk } ∧ s.heap.get? Dd = none ∧ (Dd == sysModules) = false ∧
   DueJ w s.heap L' Dd ((ev, W.listOf vs.toArray k) :: tl) (dueE es es) nw ∧ Fr g L' h (ovr mF [(Str.ofString "due", some (.ref Dd))]) ∧ News g L' h nw)
  (wpAny_for_of ?_ (by intro _; rfl)) ?_ (fun _ _ z => z)
 ·walk_at "ws"
  rename Obj.IsDictOf (PySem.strKind PG w) _ [] => hs0
  rename News _ _ _ _ => N9
  rename Fr _ _ _ _ => F9
  rename (_ < _ ∧ _ < _ ∧ _ < _ ∧ _ < _ ∧ AllLt _ _) => hlt
  have newS : ∀ b, g.get? b = none → b ∉ ((ev, W.listOf vs.toArray k) :: tl).map (·.1) → s.heap.get? b = none := fun b h1 h3 => by
   cases q : s.heap.get? b with
   | none => rfl
   | some o => rw [keep.h _ _ q h3] at h1; cases h1
  obtain ⟨t1, t2, t3, t4, t5⟩ := hlt
  have hltR : ∀ p ∈ ((ev, W.listOf vs.toArray k) :: tl), @LT.lt Nat _ p.1 (L' + 1) := fun p hp => by
   have h1 := (hled p hp).1
   have := Heap.lt_size h1
   rw [← eL'] at this
   exact Nat.lt_succ_of_lt this
  have offC0 : ∀ p ∈ ((ev, W.listOf vs.toArray k) :: tl) ++ [], (@Ne Nat p.1 (L' + 1)) ∧ (@Ne Nat p.1 (L' + 1 + 1)) ∧ (@Ne Nat p.1 (L' + 1 + 1 + 1)) := fun p hp => by
   rw [List.append_nil] at hp
   have := hltR p hp
   omega
  have hm : ∃ (m₀ : Str → Option Value) (Dd : Addr) (oD oM oO oE : Obj) (v1 v2 v3 : Option Value), Fr g L' _ m₀ ∧ m₀ (Str.ofString "due") = some (.ref Dd) ∧ m₀ (Str.ofString "events") = some (.ref ev) ∧ s.heap.get? Dd = none ∧ (Dd == sysModules) = false ∧ oD.IsDictOf (sk w) [] ∧
    News g L' _ ((Dd, oD) :: (L' + 1 + 1 + 1, oM) :: (L' + 1 + 1, oO) :: (L' + 1, oE) :: (((ev, W.listOf vs.toArray k) :: tl) ++ [])) ∧ oM.data = .cell v1 ∧ oO.data = .cell v2 ∧ oE.data = .cell v3 ∧
    ((@Ne Nat Dd (L' + 1)) ∧ (@Ne Nat Dd (L' + 1 + 1)) ∧ (@Ne Nat Dd (L' + 1 + 1 + 1))) ∧ (∀ p ∈ ((ev, W.listOf vs.toArray k) :: tl) ++ [], (@Ne Nat p.1 (L' + 1)) ∧ (@Ne Nat p.1 (L' + 1 + 1)) ∧ (@Ne Nat p.1 (L' + 1 + 1 + 1))) ∧ (∀ p ∈ ((ev, W.listOf vs.toArray k) :: tl) ++ [], p.1 ≠ Dd) := (xi9 _ _ _ _ _ _ _ _ _ ⟨F9, rfl, rfl, newS _ (N9 _ (.head _)).2.2 (fun q => by
   simp only [List.map_cons, List.mem_cons, List.mem_map] at q
   rcases q with q | ⟨p, hp, q⟩
   ·have := t4; rw [← q] at this; exact Nat.lt_irrefl _ this
   ·have := allLt_mem t5 p hp; rw [q] at this; exact Nat.lt_irrefl _ this), by assumption, hs0, by rw [List.append_nil]; exact N9, by assumption, by assumption, by assumption, ⟨(Nat.ne_of_lt t3).symm, (Nat.ne_of_lt t2).symm, (Nat.ne_of_lt t1).symm⟩, offC0, fun p hp => by
   rw [List.append_nil] at hp
   rcases List.mem_cons.mp hp with rfl | hp
   ·exact Nat.ne_of_lt t4
   ·exact Nat.ne_of_lt (allLt_mem t5 p hp)⟩)
  refine exC (kS (yF yT) <| kS yN <| kS zeO <| kS zeO <| kS zeO <| kS zeO <| kS yT <| kS yT <| kO yT) hm ?_; clear hm; intro m₀ Dd oD oM oO oE v1 v2 v3 hZ; revert hZ; revert m₀ Dd oD oM oO oE v1 v2 v3; exists hc, kS (yF yT) <| kS yN <| kS zeO <| kS zeO <| kS zeO <| kS zeO <| kS yT <| kS yT <| kO yT, 3, m₀, Dd, oD, oM, oO, oE, v1, v2, v3; intro hZ; obtain ⟨F2, e1, e2, hEn, lo, hs1, N2, c1, c2, c3, nDc, offC, offD⟩ := hZ
  refine for_listN (N2.isList (.tail _ (.tail _ (.tail _ (.tail _ (.head _)))))) rfl F2 N2
   (fun i m' nw gs => gs = s.gens ∧ (∃ v1 v2, m' = locD m₀ v1 v2 Dd ev) ∧ DueJ w s.heap L' Dd ((ev, W.listOf vs.toArray k) :: tl) (dueE es (es.take i)) nw) ?_ ?_ ?_ ?_
  ·refine ⟨rfl, (xi2 (m₀ (Str.ofString "callers")) (m₀ (Str.ofString "sums")) (ovr_self ?_)), oD, oM, oO, oE, [], [], v1, v2, v3, c1, c2, c3, hs1, .nil, (fun p hp => nomatch hp), offC, offD, rfl⟩
   intro p hp
   simp only [List.mem_cons, List.not_mem_nil, or_false] at hp
   rcases hp with rfl | rfl | rfl | rfl <;> first | rfl | exact e1 | exact e2
  ·intro i m' nw gs h9 hGJ
   obtain ⟨_, _, hZ⟩ := hGJ; obtain ⟨oD, oM, oO, oE, kvs, mk, v1, v2, v3, _, _, _, _, _, _, _, _, rfl⟩ := hZ
   intro _ N8
   exact N8.isList (.tail _ (.tail _ (.tail _ (.tail _ (.head _)))))
  ·clear F9 N9 F2 N2 hs0 hs1
   clear c1 c2 c3 offC offD
   intro i v m₁ nw gs h tk I oI hv hGJ
   obtain ⟨rfl, ⟨x1, x2, rfl⟩, hZ⟩ := hGJ; obtain ⟨oD, oM, oO, oE, kvs, mk, v1, v2, v3, c1, c2, c3, hoD, hT, newD, offC, offD, rfl⟩ := hZ
   intro F3 N3 offI
   generalize hJO : FEnd _ _ _ _ _ _ _ = QO
   (revert QO; refine hold_pi ?_; set_option tactic.hygienic false in intros)
   have hZ := All2.getR hes hv; refine exC (kO zeEv) hZ ?_; clear hZ; intro e hZ; revert hv c1 c2 c3 hoD hT newD offC offD F3 N3 offI hJO hZ; revert i v h tk I oI x1 x2 oD oM oO oE kvs mk v1 v2 v3 QO e; exists hc, kS yN <| kS zeV <| kS yH <| kS yN <| kS yN <| kS zeO <| kS yT <| kS yT <| kS zeO <| kS zeO <| kS zeO <| kS zeO <| kS yL <| kS yL <| kS yT <| kS yT <| kS yT <| kS (yF (yF yP)) <| kO zeEv, 4, i, v, h, tk, I, oI, x1, x2, oD, oM, oO, oE, kvs, mk, v1, v2, v3, QO, e; intro hv c1 c2 c3 hoD hT newD offC offD F3 N3 offI hJO hZ; obtain ⟨he, hZ⟩ := hZ; refine exC (kS yN <| kS yN <| kS yN <| kS yN <| kS yN <| kO yN) hZ ?_; clear hZ; intro ea t1 t2 t3 t4 t5 hZ; revert hZ; revert ea t1 t2 t3 t4 t5; exists hc, kS yN <| kS yN <| kS yN <| kS yN <| kS yN <| kO yN, 5, ea, t1, t2, t3, t4, t5; intro hZ; obtain ⟨rfl, hmem⟩ := hZ
   dsimp only [List.cons_append] at N3 offI
   have heT := List.mem_append.mpr (.inl hmem : (ea, evO e t1 t2 t3 t4 t5) ∈ tl ∨ (ea, evO e t1 t2 t3 t4 t5) ∈ mk)
   walk_at "ws"
   show wpAny _ _ _ _ _ _
   have nI1 : @Ne Nat I (L' + 1) := fun z => offI (L' + 1, oE) (by k_mem) z.symm
   have nI2 : @Ne Nat I (L' + 1 + 1) := fun z => offI (L' + 1 + 1, oO) (by k_mem) z.symm
   have nI3 : @Ne Nat I (L' + 1 + 1 + 1) := fun z => offI (L' + 1 + 1 + 1, oM) (by k_mem) z.symm
   refine storeX_C (c := L' + 1) F3 N3 rfl (UpdF.tail nI1 (UpdF.tail nDc.1 (UpdF.tail (by show @Ne Nat _ _; dsimp only; omega) (UpdF.tail (by show @Ne Nat _ _; dsimp only; omega) (UpdF.head fun p hp => (offC p hp).1))))) c3 ?_
   intro h' oE' F4 N4 c3'
   clear F3 N3 c3
   revert F4 N4 c3'; revert h' oE'; exists hc, kS yH <| kO zeO, 6, h', oE'; intro F4 N4 c3'
   walk_at "ws"
   show wpAny _ _ _ _ _ _
   have hea : ∀ {h : Heap} {R : List (Addr × Obj)}, News g L' h R → (∀ p ∈ ((ev, W.listOf vs.toArray k) :: tl), p ∈ R) → h.get? ea = some (evO e t1 t2 t3 t4 t5) := fun N sub => (N _ (sub _ (.tail _ hmem))).1
   refine ev_item (hea N4 (fun p hp => ?_)) (by decide) (by decide) rfl rfl ?_
   ·exact subm (by walk_at "sz") hp
   walk_at "ws"
   show wpAny _ _ _ _ _ _
   rename News _ _ _ _ => N5
   cases hany : (dueE es (es.take i)).any (fun p => decide (p.1 = e.nm)) with
   | true =>
    refine kda_in N5 (.tail _ (.head _)) hoD lo (strKind_is _ _ _ _) true (by rw [va_any, tb_any hT]; exact hany) ?_
    walk_at "ws"
    rw [if_pos rfl]
    walk_at "ws"
    show QO .cont _
    rename Fr _ _ _ _ => F5
    have hst : dueE es (es.take (i + 1)) = dueE es (es.take i) := by rw [due_take he]; unfold dueStep; rw [if_pos hany]
    rw [← hJO]
    refine FEnd.cont F5 N5 (fun _ h => h) ?_ ⟨rfl, (xi2 x1 x2 rfl), oD, oM, oO, oE', kvs, mk, _, _, _, c1, c2, c3', hoD, by rw [hst]; exact hT, newD, offC, offD, rfl⟩
    exact off_keys' offI (by rfl)
   | false =>
    refine kda_in N5 (.tail _ (.head _)) hoD lo (strKind_is _ _ _ _) false (by rw [va_any, tb_any hT]; exact hany) ?_
    walk_at "ws"
    rw [if_neg Bool.false_ne_true]
    walk_at "ws"
    show wpAny _ _ _ _ _ _
    refine wpAny_Assign_Name ?_ (by rfl)
    revert tk; refine hzC (kO yN) 7 ?_; generalize zz _ _ _ = tk; dsimp only [Cu.un, kO]
    refine LCt.ListComp_T (F₀ := by k_asm) (by with_unfolding_all rfl) (by decide) (by rfl) (by decide) (by rfl) ?_
    walk_at "ws"
    rename News _ _ _ _ => N6
    rename Fr _ _ _ _ => F6
    refine LCt.CompSrcT.ledger rfl F6 N6 (.tail _ (.tail _ (.tail _ (.tail _ (.tail _ (.head _)))))) ?_ fun g9 => ?_
    ·rw [List.size_toArray, vl]; exact Nat.le_trans hl (by decide)
    ·revert g9; refine hzC (kO yH) 8 ?_; generalize zz _ _ _ = g9; dsimp only [Cu.un, kO]
     refine compT_ind (fun j => ((es[j]?).map fun x => x.nm == e.nm).getD false) (fun j y _ => ∃ x, es[j]? = some x ∧ ∃ a t1 t2 t3 t4 t5, y = Value.ref a ∧ (a, evO x t1 t2 t3 t4 t5) ∈ tl) (fun _ _ _ _ _ h => h) (srcAt_sub (.tail _ (.tail _ (.tail _ (.tail _ (.tail _ (.head _))))))) ?_ ?_
     ·intro j y ys nw I9 oI9 C9 oC9 D9 m₂ h9 tk9 E' hj hy hC hx9 F N off ne
      have hZ := All2.getR hes (show vs[j]? = some y by first | exact hy | walk_at "mz" | simpa using hy); refine exC (kO zeEv) hZ ?_; clear hZ; intro x hZ; revert hj hy hC hx9 F N off ne hZ; revert j y ys nw I9 oI9 C9 oC9 D9 m₂ h9 tk9 E' x; exists hc, kS yN <| kS zeV <| kS yL <| kS yL <| kS yN <| kS zeO <| kS yN <| kS zeO <| kS yN <| kS (yF yT) <| kS yH <| kS yN <| kS (yF (yF yP)) <| kO zeEv, 9, j, y, ys, nw, I9, oI9, C9, oC9, D9, m₂, h9, tk9, E', x; intro hj hy hC hx9 F N off ne hZ; obtain ⟨hx, hZ⟩ := hZ; refine exC (kS yN <| kS yN <| kS yN <| kS yN <| kS yN <| kO yN) hZ ?_; clear hZ; intro xa q1 q2 q3 q4 q5 hZ; revert hZ; revert xa q1 q2 q3 q4 q5; exists hc, kS yN <| kS yN <| kS yN <| kS yN <| kS yN <| kO yN, 10, xa, q1, q2, q3, q4, q5; intro hZ; obtain ⟨rfl, hxm⟩ := hZ
      dsimp only [List.cons_append] at N
      have hxa := (N (xa, evO x q1 q2 q3 q4 q5) (by first | walk_at "mz" | simp [hxm])).1
      have hb : ((es[j]?).map fun x => x.nm == e.nm).getD false = (x.nm == e.nm) := by rw [hx]; rfl
      walk_at "ws"
      show wpAny _ _ _ _ _ _
      refine ev_item hxa (by decide) (by decide) rfl rfl ?_
      walk_at "ws"
      show wpAny _ _ _ _ _ _
      refine ev_item (hea N (by walk_at "sz")) (by decide) (by decide) rfl rfl ?_
      walk_at "ws"
      refine ⟨hb.symm, ?_⟩
      split
      ·walk_at "ws"
       exact CEnd.intro F N off (fun _ h => h) ⟨x, hx, xi6 xa q1 q2 q3 q4 q5 ⟨rfl, hxm⟩⟩
      ·exact CEnd.intro F N off (fun _ h => h) trivial
     ·intro ys nw al
      unfold LCg.FinE
      intro D h tk F7 N7 off7
      dsimp only [List.cons_append] at N7 off7
      have hme : EvsAt tl (mineE es e.nm) ys := by
       have := All2.range_filter (p := fun x : Ev => x.nm == e.nm) (as := es) (fun j => ((es[j]?).map fun x => x.nm == e.nm).getD false) (by rw [List.size_toArray, vl]) (fun i a h => by rw [h]; rfl) al
       exact this
      have hml : (mineE es e.nm).length ≤ 44 := Nat.le_trans (List.length_filter_le _ _) hl
      have hmb : ∀ x ∈ mineE es e.nm, EvB x := fun x hx => hb x (List.mem_filter.mp hx).1
      have N8 : News g L' h ((D, LCg.lst ys) :: (I, oI) :: (Dd, oD) :: (L' + 1 + 1 + 1, oM) :: (L' + 1 + 1, oO) :: (L' + 1, oE') :: (ev, W.listOf vs.toArray k) :: (tl ++ mk)) := news_sub N7 (by walk_at "sz")
      have oD7 : ∀ p ∈ (I, oI) :: (Dd, oD) :: (L' + 1 + 1 + 1, oM) :: (L' + 1 + 1, oO) :: (L' + 1, oE') :: (ev, W.listOf vs.toArray k) :: (tl ++ mk), @Ne Nat p.1 D := fun p hp => off1_mem off7 p (subm (by walk_at "sz") hp)
      clear N7 off7 N6 F6 al
      have nw' : s.heap.get? D = none := newS _ (N8 _ (.head _)).2.2 (fun q => by
       have hZ := List.mem_map.mp q; refine exC (kO (zeP2 yN zeO)) hZ ?_; clear hZ; intro p hZ; revert F7 hme N8 oD7 q hZ; revert ys D h p; exists hc, kS yL <| kS yN <| kS yH <| kO (zeP2 yN zeO), 11, ys, D, h, p; intro F7 hme N8 oD7 q hZ; obtain ⟨hp, z⟩ := hZ
       refine oD7 p ?_ z
       exact subm (by walk_at "sz") hp)
      revert F7 hme N8 oD7 nw'; revert ys D h tk; exists hc, kS yL <| kS yN <| kS yH <| kO yN, 12, ys, D, h, tk; intro F7 hme N8 oD7 nw'
      walk_at "ws"
      show wpAny _ _ _ _ _ _
      refine storeX_C (c := L' + 1 + 1 + 1) F7 N8 rfl (UpdF.tail (oD7 (L' + 1 + 1 + 1, oM) (by k_mem)).symm (UpdF.tail nI3 (UpdF.tail nDc.2.2 (UpdF.head fun p hp => ?_)))) c1 ?_
      ·rcases List.mem_cons.mp hp with rfl | hp
       ·show @Ne Nat _ _; dsimp only; omega
       ·rcases List.mem_cons.mp hp with rfl | hp
        ·show @Ne Nat _ _; dsimp only; omega
        ·exact (offC p hp).2.2
      intro h' oM' F9 N9 c1'
      clear F7 N8 c1
      revert F9 N9 c1'; revert h' oM'; exists hc, kS yH <| kO zeO, 13, h', oM'; intro F9 N9 c1'
      walk_at "ws"
      show wpAny _ _ _ _ _ _
      rename Obj.IsDictOf (PySem.strKind PG w) _ [] => hs0
      rename News _ _ _ _ => Na
      rename Fr _ _ _ _ => Fa
      rename (_ < _ ∧ _ < _ ∧ _ < _ ∧ _ < _ ∧ _ < _ ∧ _ < _ ∧ _ < _ ∧ AllLt _ _) => hlt
      have hm : ∃ (Cd : Addr) (oC : Obj), Fr g L' _ (locD m₀ (some (.ref Cd)) x2 Dd ev) ∧ s.heap.get? Cd = none ∧ (Cd == sysModules) = false ∧ oC.IsDictOf (sk w) [] ∧ News g L' _ ((Cd, oC) :: (D, LCg.lst ys) :: (I, oI) :: (Dd, oD) :: (L' + 1 + 1 + 1, oM') :: (L' + 1 + 1, oO) :: (L' + 1, oE') :: (ev, W.listOf vs.toArray k) :: (tl ++ mk)) ∧
        (∀ p ∈ (D, LCg.lst ys) :: (I, oI) :: (Dd, oD) :: (L' + 1 + 1 + 1, oM') :: (L' + 1 + 1, oO) :: (L' + 1, oE') :: (ev, W.listOf vs.toArray k) :: (tl ++ mk), @Ne Nat p.1 Cd) := (xi2 _ _ ⟨fr_ovr Fa (by walk_at "oi") (by walk_at "oo"), newS _ (Na _ (.head _)).2.2 (fun q => by
       simp only [List.map_cons, List.mem_cons, List.mem_map] at q
       rcases q with q | ⟨p, hp, q⟩
       ·have := hlt.2.2.2.2.2.2.1; rw [← q] at this; exact Nat.lt_irrefl _ this
       ·have := allLt_mem hlt.2.2.2.2.2.2.2 p (List.mem_append.mpr (.inl hp)); rw [q] at this; exact Nat.lt_irrefl _ this), by assumption, hs0, Na, fun p hp => by
       simp only [List.mem_cons] at hp
       rcases hp with rfl | rfl | rfl | rfl | rfl | rfl | rfl | hp
       ·exact Nat.ne_of_lt hlt.1
       ·exact Nat.ne_of_lt hlt.2.1
       ·exact Nat.ne_of_lt hlt.2.2.1
       ·exact Nat.ne_of_lt hlt.2.2.2.1
       ·exact Nat.ne_of_lt hlt.2.2.2.2.1
       ·exact Nat.ne_of_lt hlt.2.2.2.2.2.1
       ·exact Nat.ne_of_lt hlt.2.2.2.2.2.2.1
       ·exact Nat.ne_of_lt (allLt_mem hlt.2.2.2.2.2.2.2 p hp)⟩)
      refine exC (kS yN <| kO zeO) hm ?_; clear hm; intro Cd oC hZ; rename_i zv11 _ zv13 zv15 _ zv16 _ zv14; revert zv15 hs0 zv16 hlt Fa Na hZ; revert zv11 zv13 zv14 tk Cd oC; exists hc, kS yN <| kS zeO <| kS yH <| kS yN <| kS yN <| kO zeO, 14, zv11, zv13, zv14, tk, Cd, oC; intro _ hs0 _ hlt Fa Na hZ; obtain ⟨Fb, hCn, loC, hsC, Nb, offCd⟩ := hZ
      clear Na Fa hs0 hlt
      have yl : ys.length = (mineE es e.nm).length := (All2.length hme).symm
      generalize hmeq : mineE es e.nm = me at hme hml hmb yl
      (revert me; refine hold_pi ?_; set_option tactic.hygienic false in intros)
      have offl : ∀ p ∈ (D, LCg.lst ys) :: (I, oI) :: (Dd, oD) :: (L' + 1 + 1 + 1, oM') :: (L' + 1, oE') :: (ev, W.listOf vs.toArray k) :: (tl ++ mk), @Ne Nat p.1 (L' + 1 + 1) := fun p hp => by
       simp only [List.mem_cons] at hp
       rcases hp with rfl | rfl | rfl | rfl | rfl | hp
       ·exact (oD7 (L' + 1 + 1, oO) (by k_mem)).symm
       ·exact nI2
       ·exact nDc.2.1
       ·show @Ne Nat _ _; dsimp only; omega
       ·show @Ne Nat _ _; dsimp only; omega
       ·exact (offC p (by first | exact hp | walk_at "mz" | simpa using hp)).2.1
      revert hmeq hme hml hmb yl; revert me; refine hzC (kO yL) 15 ?_; generalize zz _ _ _ = me; intro hmeq hme hml hmb yl
      refine wpAny_mono (Q := fun f s₂ => f = .next ∧ ∃ (h : Heap) (tk : Nat) (oO' oC' : Obj) (v2' : Option Value) (kvsC : List (Str × Value)), s₂ = { s with heap := h, toks := tk } ∧ oO'.data = .cell v2' ∧ oC'.IsDictOf (sk w) kvsC ∧ IntPairs kvsC (callersE me me) ∧
        Fr g L' h (locD m₀ (some (.ref Cd)) x2 Dd ev) ∧ News g L' h ((Cd, oC') :: (D, LCg.lst ys) :: (I, oI) :: (Dd, oD) :: (L' + 1 + 1 + 1, oM') :: (L' + 1 + 1, oO') :: (L' + 1, oE') :: (ev, W.listOf vs.toArray k) :: (tl ++ mk)))
       (wpAny_for_of ?_ (by intro _; rfl)) ?_ (fun _ _ z => z)
      ·walk_at "ws"
       show wpAny _ _ _ _ _ _
       refine for_listN (vs := ys) (Nb.isList (.tail _ (.head _))) rfl Fb Nb
        (fun j m' nw gs => gs = s.gens ∧ m' = locD m₀ (some (.ref Cd)) x2 Dd ev ∧ ∃ (oO' oC' : Obj) (v2' : Option Value) (kvsC : List (Str × Value)), oO'.data = .cell v2' ∧ oC'.IsDictOf (sk w) kvsC ∧ IntPairs kvsC (callersE me (me.take j)) ∧
         nw = (Cd, oC') :: (D, LCg.lst ys) :: (I, oI) :: (Dd, oD) :: (L' + 1 + 1 + 1, oM') :: (L' + 1 + 1, oO') :: (L' + 1, oE') :: (ev, W.listOf vs.toArray k) :: (tl ++ mk)) ?_ ?_ ?_ ?_
       ·exact ⟨rfl, rfl, xi4 oO oC v2 [] ⟨c2, hsC, .nil, rfl⟩⟩
       ·intro j m' nw gs h9 hGJ
        obtain ⟨_, _, hZ⟩ := hGJ; refine exC (kS zeO <| kS zeO <| kS yT <| kO yL) hZ ?_; clear hZ; intro oO' oC' v2' kvsC hZ; rename_i zv17 zv18; revert zv17 zv18 hZ; revert j m' nw gs h9 oO' oC' v2' kvsC; exists hc, kS yN <| kS (yF yT) <| kS yL <| kS zeY <| kS yH <| kS zeO <| kS zeO <| kS yT <| kO yL, 16, j, m', nw, gs, h9, oO', oC', v2', kvsC; intro _ _ hZ; obtain ⟨_, _, _, rfl⟩ := hZ
        intro _ N8
        exact N8.isList (.tail _ (.head _))
       ·intro j v m₂ nw gs h tk I2 oI2 hv2 hGJ
        obtain ⟨rfl, rfl, hZ⟩ := hGJ; refine exC (kS zeO <| kS zeO <| kS yT <| kO yL) hZ ?_; clear hZ; intro oO' oC' v2' kvsC hZ; revert hv2 hZ; revert j v nw h tk I2 oI2 oO' oC' v2' kvsC; exists hc, kS yN <| kS zeV <| kS yL <| kS yH <| kS yN <| kS yN <| kS zeO <| kS zeO <| kS zeO <| kS yT <| kO yL, 17, j, v, nw, h, tk, I2, oI2, oO', oC', v2', kvsC; intro hv2 hZ; obtain ⟨c2', hC', hI', rfl⟩ := hZ
        intro Fc Nc offI2
        clear Fb Nb
        generalize hJI : FEnd _ _ _ _ _ _ _ = QI
        (revert QI; refine hold_pi ?_; set_option tactic.hygienic false in intros)
        have hZ := All2.getR hme hv2; refine exC (kO zeEv) hZ ?_; clear hZ; intro x hZ; revert hJI hZ; revert QI x; exists hc, kS (yF (yF yP)) <| kO zeEv, 18, QI, x; intro hJI hZ; obtain ⟨hx, hZ⟩ := hZ; refine exC (kS yN <| kS yN <| kS yN <| kS yN <| kS yN <| kO yN) hZ ?_; clear hZ; intro xa q1 q2 q3 q4 q5 hZ; revert hZ; revert xa q1 q2 q3 q4 q5; exists hc, kS yN <| kS yN <| kS yN <| kS yN <| kS yN <| kO yN, 19, xa, q1, q2, q3, q4, q5; intro hZ; obtain ⟨rfl, hxm⟩ := hZ
        walk_at "ws"
        show wpAny _ _ _ _ _ _
        refine storeX_C (c := L' + 1 + 1) Fc Nc rfl (UpdF.tail ?_ (UpdF.tail ?_ (UpdF.tail (offl _ (.head _)) (UpdF.tail nI2 (UpdF.tail nDc.2.1 (UpdF.tail (by show @Ne Nat _ _; dsimp only; omega) (UpdF.head fun p hp => offl p ?_))))))) c2' ?_
        ·exact fun z => offI2 (L' + 1 + 1, oO') (by k_mem) z.symm
        ·exact (offCd (L' + 1 + 1, oO) (by k_mem)).symm
        ·exact subm (by walk_at "sz") hp
        intro h' oO'' Fd Nd c2''
        clear Fc Nc c2'
        revert Fd Nd c2''; revert h' oO''; exists hc, kS yH <| kO zeO, 20, h', oO''; intro Fd Nd c2''
        walk_at "ws"
        show wpAny _ _ _ _ _ _
        k_dflt (refine LCt.ListComp_T (F₀ := by k_asm) (by with_unfolding_all rfl) (by decide) (by rfl) (by decide) (by rfl) ?_)
        walk_at "ws"
        rename News _ _ _ _ => Ng
        rename Fr _ _ _ _ => Fg
        refine LCt.CompSrcT.ledger (its := ys.toArray) rfl Fg Ng (.tail _ (.tail _ (.head _))) ?_ fun g9 => ?_
        ·rw [List.size_toArray, yl]; exact Nat.le_trans hml (by decide)
        ·revert g9; refine hzC (kO yH) 21 ?_; generalize zz _ _ _ = g9; dsimp only [Cu.un, kO]
         refine compT_ind (fun j => ((me[j]?).map fun z => z.c == x.c).getD false) (fun j y _ => ∃ z, me[j]? = some z ∧ True) (fun _ _ _ _ _ h => h) (srcAt_sub (.tail _ (.tail _ (.head _)))) ?_ ?_
         ·intro j2 y2 zs nw I9 oI9 C9 oC9 D9 m₂ h9 tk9 E' hj hy hC hx9 F N off ne
          have hZ := All2.getR hme (show ys[j2]? = some y2 by first | exact hy | walk_at "mz" | simpa using hy); refine exC (kO zeEv) hZ ?_; clear hZ; intro z hZ; revert hj hy hC hx9 F N off ne hZ; revert j2 y2 zs nw I9 oI9 C9 oC9 D9 m₂ h9 tk9 E' z; exists hc, kS yN <| kS zeV <| kS yL <| kS yL <| kS yN <| kS zeO <| kS yN <| kS zeO <| kS yN <| kS (yF yT) <| kS yH <| kS yN <| kS (yF (yF yP)) <| kO zeEv, 22, j2, y2, zs, nw, I9, oI9, C9, oC9, D9, m₂, h9, tk9, E', z; intro hj hy hC hx9 F N off ne hZ; obtain ⟨hz, hZ⟩ := hZ; refine exC (kS yN <| kS yN <| kS yN <| kS yN <| kS yN <| kO yN) hZ ?_; clear hZ; intro za p1 p2 p3 p4 p5 hZ; revert hZ; revert za p1 p2 p3 p4 p5; exists hc, kS yN <| kS yN <| kS yN <| kS yN <| kS yN <| kO yN, 23, za, p1, p2, p3, p4, p5; intro hZ; obtain ⟨rfl, hzm⟩ := hZ
          dsimp only [List.cons_append] at N
          have hza := (N (za, evO z p1 p2 p3 p4 p5) (by first | walk_at "mz" | simp [hzm])).1
          have hxa := (N (xa, evO x q1 q2 q3 q4 q5) (by first | walk_at "mz" | simp [hxm])).1
          have hb : ((me[j2]?).map fun z => z.c == x.c).getD false = (z.c == x.c) := by rw [hz]; rfl
          walk_at "ws"
          show wpAny _ _ _ _ _ _
          refine ev_item hza (by decide) (by decide) rfl rfl ?_
          walk_at "ws"
          show wpAny _ _ _ _ _ _
          refine ev_item hxa (by decide) (by decide) rfl rfl ?_
          walk_at "ws"
          refine ⟨hb.symm, ?_⟩
          split
          ·walk_at "ws"
           exact CEnd.intro F N off (fun _ h => h) ⟨z, hz, trivial⟩
          ·exact CEnd.intro F N off (fun _ h => h) trivial
         ·intro zs nw al
          unfold LCg.FinE
          intro D2 h tk F7 N7 off7
          dsimp only [List.cons_append] at N7 off7
          have hzl : (zs.length : Int) = cntE me x.c := by
           have h1 : All2 (fun (a : Ev) (b : Value) => True) (me.filter fun z => z.c == x.c) zs := All2.range_filter (p := fun z : Ev => z.c == x.c) (as := me) (fun j => ((me[j]?).map fun z => z.c == x.c).getD false) (by rw [List.size_toArray, yl]) (fun i a h => by rw [h]; rfl) al
           unfold cntE; rw [All2.length h1]
          have hz44 : zs.length ≤ 44 := by
           have : (me.filter fun z => z.c == x.c).length ≤ me.length := List.length_filter_le _ _
           unfold cntE at hzl; omega
          have N8 : News g L' h ((D2, LCg.lst zs) :: (I2, oI2) :: (Cd, oC') :: (D, LCg.lst ys) :: (I, oI) :: (Dd, oD) :: (L' + 1 + 1 + 1, oM') :: (L' + 1 + 1, oO'') :: (L' + 1, oE') :: (ev, W.listOf vs.toArray k) :: (tl ++ mk)) := news_sub N7 (by walk_at "sz")
          have oD2 : @Ne Nat Cd D2 := off1_mem off7 (Cd, oC') (by k_mem)
          have hxa := (N8 (xa, evO x q1 q2 q3 q4 q5) (by first | walk_at "mz" | simp [hxm])).1
          clear N7 off7 Ng Fg al
          revert F7 hzl hz44 N8 oD2 hxa; revert zs D2 h tk; exists hc, kS yL <| kS yN <| kS yH <| kO yN, 24, zs, D2, h, tk; intro F7 hzl hz44 N8 oD2 hxa
          walk_at "ws"
          show wpAny _ _ _ _ _ _
          show wpAny _ _ _ _ _ _
          refine PyProof.Rows.len_list (N8.isList (.head _)) (by rw [List.size_toArray]; omega) ?_
          rw [List.size_toArray, hzl]
          walk_at "ws"
          show wpAny _ _ _ _ _ _
          refine ev_item hxa (by decide) (by decide) rfl rfl ?_
          walk_at "ws"
          show wpAny _ _ _ _ _ _
          have hkl : kvsC.length ≤ 44 := by
           rw [← All2.length hI']
           have h1 := callers_len me (me.take j) []
           have h2 := List.length_take_le' j me
           unfold callersE
           simp only [List.length_nil] at h1
           omega
          refine kda_set F7 N8 (UpdF.tail (by exact fun z => oD2 (Eq.symm z)) (UpdF.tail (by exact fun z => offI2 (Cd, oC') (by k_mem) (Eq.symm z)) (UpdF.head fun p hp => ?_))) hC' (strKind_is _ _ _ _) (Nat.le_trans hkl (by decide)) (fun h' oC'' F9 N9 hC'' => ?_)
          ·by_cases q : p = (L' + 1 + 1, oO'')
           ·rw [q]; exact offCd (L' + 1 + 1, oO) (by k_mem)
           ·refine offCd p ?_
            first | exact subm (by walk_at "sz") hp | (simp only [List.cons_append, List.nil_append, List.mem_cons, List.mem_append, List.not_mem_nil, or_false] at hp ⊢; grind)
          revert F9 N9 hC''; revert h' oC''; exists hc, kS yH <| kO zeO, 25, h', oC''; intro F9 N9 hC''
          walk_at "ws"
          rw [← hJI]
          refine FEnd.next F9 N9 (fun p hp => .tail _ hp) (off_keys' offI2 (by rfl)) ⟨rfl, rfl, xi4 oO'' oC'' _ _ ⟨c2'', hC'', ?_, rfl⟩⟩
          rw [callers_take hx]
          exact ip_setC hI' _ _ _
       ·intro m₂ nw gs hGJ
        obtain ⟨rfl, rfl, hZ⟩ := hGJ; refine exC (kS zeO <| kS zeO <| kS yT <| kO yL) hZ ?_; clear hZ; intro oO' oC' v2' kvsC hZ; revert hZ; revert nw oO' oC' v2' kvsC; exists hc, kS yL <| kS zeO <| kS zeO <| kS yT <| kO yL, 26, nw, oO', oC', v2', kvsC; intro hZ; obtain ⟨c2', hC', hI', rfl⟩ := hZ
        intro h tk Fc Nc
        rw [yl, List.take_length] at hI'
        exact ⟨rfl, xi6 h tk oO' oC' v2' kvsC ⟨rfl, c2', hC', hI', Fc, Nc⟩⟩
      ·intro f s₂ hGJ
       obtain ⟨rfl, hZ⟩ := hGJ; refine exC (kS yH <| kS yN <| kS zeO <| kS zeO <| kS yT <| kO yL) hZ ?_; clear hZ; intro h tk oO' oC' v2' kvsC hZ; revert hZ; revert s₂ h tk oO' oC' v2' kvsC; refine hzC (kS zeS <| kS yH <| kS yN <| kS zeO <| kS zeO <| kS yT <| kO yL) 27 ?_; walk_at "zp"; generalize zp.1 = s₂, zp.2.1 = h, zp.2.2.1 = tk, zp.2.2.2.1 = oO', zp.2.2.2.2.1 = oC', zp.2.2.2.2.2.1 = v2', zp.2.2.2.2.2.2 = kvsC; clear zp; intro hZ; obtain ⟨rfl, c2', hC', hI', Fc, Nc⟩ := hZ
       walk_at "ws"
       show wpAny _ _ _ _ _ _
       refine Assign_ListComp_K (L := L') (h₀ := g) (m := locD m₀ (some (.ref Cd)) x2 Dd ev) rfl (by with_unfolding_all rfl) (by with_unfolding_all rfl) (fun lo => rfl) (fun h => rfl) rfl rfl (by decide) rfl rfl ?_
       walk_at "ws"
       rename News _ _ _ _ => Nd
       rename Fr _ _ _ _ => Fd
       refine (xi6 _ _ _ _ _ (fun i ys nw => (∀ p ∈ (Cd, oC') :: (D, LCg.lst _) :: (I, oI) :: (Dd, oD) :: (L' + 1 + 1 + 1, oM') :: (L' + 1 + 1, oO') :: (L' + 1, oE') :: (ev, W.listOf vs.toArray k) :: (tl ++ mk), p ∈ nw) ∧ All2 (fun j y => ∃ t, y = Value.int (sumK me j) t) (List.range i) ys) ⟨rfl, rfl, Fd, Nd, .head _, rfl, rfl, Nat.le_of_ble_eq_true rfl, ⟨fun p hp => .tail _ hp, .nil⟩, ?_, ?_⟩)
       ·intro i v zs nw I8 oI8 C8 oC8 K8 oK8 D8 h8 tk8 E' hv ⟨hsub, hz⟩ hm8 hK8 F8 N8 off8
        clear Fd Nd
        obtain ⟨tv, rfl, hi3⟩ : ∃ tv, v = Value.int (2 + (i : Int)) tv ∧ i < 3 := by
         have hi3 : i < 3 := by have := (Array.getElem?_eq_some_iff.mp hv).1; simpa using this
         rcases (by omega : i = 0 ∨ i = 1 ∨ i = 2) with rfl | rfl | rfl <;> (simp at hv; exact ⟨_, hv.symm, by omega⟩)
        obtain ⟨tq, hmq, hqe⟩ : ∃ q : Addr × Obj, q ∈ nw ∧ q = (_, _) := ⟨_, hm8, rfl⟩
        have hsub2 : ∀ p ∈ tq :: (Cd, oC') :: (D, LCg.lst ys) :: (I, oI) :: (Dd, oD) :: (L' + 1 + 1 + 1, oM') :: (L' + 1 + 1, oO') :: (L' + 1, oE') :: (ev, W.listOf vs.toArray k) :: (tl ++ mk), p ∈ nw := List.forall_mem_cons.mpr ⟨hmq, fun p hp => hsub p (by first | exact hp | walk_at "mz" | simpa using hp)⟩
        have N9 : News g L' h8 ((I8, oI8) :: (C8, oC8) :: (K8, oK8) :: (D8, LCg.lst zs) :: tq :: (Cd, oC') :: (D, LCg.lst ys) :: (I, oI) :: (Dd, oD) :: (L' + 1 + 1 + 1, oM') :: (L' + 1 + 1, oO') :: (L' + 1, oE') :: (ev, W.listOf vs.toArray k) :: (tl ++ mk)) := fun p hp => N8 p (by
         rcases List.mem_cons.mp hp with q | hp
         ·exact q ▸ .head _
         ·rcases List.mem_cons.mp hp with q | hp
          ·exact q ▸ .tail _ (.head _)
          ·rcases List.mem_cons.mp hp with q | hp
           ·exact q ▸ .tail _ (.tail _ (.head _))
           ·rcases List.mem_cons.mp hp with q | hp
            ·exact q ▸ .tail _ (.tail _ (.tail _ (.head _)))
            ·exact .tail _ (.tail _ (.tail _ (.tail _ (hsub2 p hp)))))
        have off9 : ∀ p ∈ tq :: (Cd, oC') :: (D, LCg.lst ys) :: (I, oI) :: (Dd, oD) :: (L' + 1 + 1 + 1, oM') :: (L' + 1 + 1, oO') :: (L' + 1, oE') :: (ev, W.listOf vs.toArray k) :: (tl ++ mk), p.1 ≠ I8 ∧ p.1 ≠ C8 ∧ p.1 ≠ K8 ∧ p.1 ≠ D8 := fun p hp => off8 p (hsub2 p hp)
        clear N8 off8 hsub hsub2 hmq
        rename_i zv17 zv18 _; revert zv18 hz hm8 F8 hi3 hv hK8 hqe N9 off9; revert zv17 i zs nw I8 oI8 C8 oC8 K8 oK8 D8 h8 tk8 E' tv tq; exists hc, kS yH <| kS yN <| kS yL <| kS yL <| kS yN <| kS zeO <| kS yN <| kS zeO <| kS yN <| kS zeO <| kS yN <| kS yH <| kS yN <| kS (yF (yF yP)) <| kS yN <| kO (zeP2 yN zeO), 28, zv17, i, zs, nw, I8, oI8, C8, oC8, K8, oK8, D8, h8, tk8, E', tv, tq; intro _ hz hm8 F8 hi3 hv hK8 hqe N9 off9
        walk_at "ws"
        show wpAny _ _ _ _ _ _
        k_dflt (refine LCg.ListComp_U (F₀ := by k_asm) (by with_unfolding_all rfl) (by decide) (by rfl) (by decide) (by rfl) ?_)
        walk_at "ws"
        rename News _ _ _ _ => Ng
        rename Fr _ _ _ _ => Fg
        refine LCg.CompSrc.ledger (its := ys.toArray) rfl Fg Ng (by k_mem) ?_ fun g9 => ?_
        ·rw [List.size_toArray, yl]; exact Nat.le_trans hml (by decide)
        ·revert g9; refine hzC (kO yH) 29 ?_; generalize zz _ _ _ = g9; dsimp only [Cu.un, kO]
         refine compU_ind (fun j y _ => ∃ z t, me[j]? = some z ∧ y = Value.int (fldE i z) t) (fun _ _ _ _ _ h => h) (srcAt_sub (by k_mem)) ?_ ?_
         ·intro j2 y2 xs nw2 I9 oI9 C9 oC9 D9 m₂ h9 tk9 E' hj hy hC hx9 F N off ne
          have hZ := All2.getR hme (show ys[j2]? = some y2 by first | exact hy | walk_at "mz" | simpa using hy); refine exC (kO zeEv) hZ ?_; clear hZ; intro z hZ; revert hj hy hC hx9 F N off ne hZ; revert j2 y2 xs nw2 I9 oI9 C9 oC9 D9 m₂ h9 tk9 E' z; exists hc, kS yN <| kS zeV <| kS yL <| kS yL <| kS yN <| kS zeO <| kS yN <| kS zeO <| kS yN <| kS (yF yT) <| kS yH <| kS yN <| kS (yF (yF yP)) <| kO zeEv, 30, j2, y2, xs, nw2, I9, oI9, C9, oC9, D9, m₂, h9, tk9, E', z; intro hj hy hC hx9 F N off ne hZ; obtain ⟨hz2, hZ⟩ := hZ; refine exC (kS yN <| kS yN <| kS yN <| kS yN <| kS yN <| kO yN) hZ ?_; clear hZ; intro za p1 p2 p3 p4 p5 hZ; revert hZ; revert za p1 p2 p3 p4 p5; exists hc, kS yN <| kS yN <| kS yN <| kS yN <| kS yN <| kO yN, 31, za, p1, p2, p3, p4, p5; intro hZ; obtain ⟨rfl, hzm⟩ := hZ
          dsimp only [List.cons_append] at N
          have hza := (N (za, evO z p1 p2 p3 p4 p5) (by first | walk_at "mz" | simp [hzm])).1
          have hZ := fld_at (x := z) (q1 := p1) (q2 := p2) (q3 := p3) (q4 := p4) (q5 := p5) hi3; refine exC (kO yN) hZ ?_; clear hZ; intro tf hZ; revert hZ; revert tf; refine hzC (kO yN) 32 ?_; generalize zz _ _ _ = tf; intro hZ; obtain ⟨hf1, hf2⟩ := hZ
          walk_at "ws"
          show wpAny _ _ _ _ _ _
          refine ev_item hza (by omega) (by omega) hf2 hf1 ?_
          walk_at "ws"
          exact CEnd.intro F N off (fun _ h => h) (xi2 z tf ⟨hz2, rfl⟩)
         ·intro xs nw2 al
          unfold LCg.FinE
          intro D2 h tk F7 N7 off7
          dsimp only [List.cons_append] at N7 off7
          have hxs : IntsAre xs (me.map (fldE i)) := ints_of_range (by rw [List.size_toArray, yl]) al
          try dsimp only
          revert al F7 N7 off7 hxs; revert xs nw2 D2 h tk; exists hc, kS yL <| kS yL <| kS yN <| kS yH <| kO yN, 33, xs, nw2, D2, h, tk; intro al F7 N7 off7 hxs
          walk_at "ws"
          rename News _ _ _ _ => Nh
          rename Fr _ _ _ _ => Fh
          refine ⟨_, _, tq :: (Cd, oC') :: (D, LCg.lst ys) :: (I, oI) :: (Dd, oD) :: (L' + 1 + 1 + 1, oM') :: (L' + 1 + 1, oO') :: (L' + 1, oE') :: (ev, W.listOf vs.toArray k) :: (tl ++ mk), rfl, Fh, news_sub Nh (fun p hp => ?_), off9, hqe ▸ .head _, fun p hp => .tail _ hp, ?_⟩
          ·exact subm (by walk_at "sz") hp
          ·rw [List.range_succ]
           exact All2.append hz (.cons ⟨_, rfl⟩ .nil)
       ·intro zs nw D8 h8 tk8 ⟨hsub, hz⟩ F8 N8 off8
        clear Fd Nd
        have N9 : News g L' h8 ((D8, LCg.lst zs) :: (Cd, oC') :: (D, LCg.lst _) :: (I, oI) :: (Dd, oD) :: (L' + 1 + 1 + 1, oM') :: (L' + 1 + 1, oO') :: (L' + 1, oE') :: (ev, W.listOf vs.toArray k) :: (tl ++ mk)) := fun p hp => N8 p (by
         simp only [List.mem_cons] at hp ⊢
         rcases hp with q | q
         ·exact .inl q
         ·exact .inr (hsub p (by first | exact q | walk_at "mz" | simpa using q)))
        clear N8
        have hlt8 := fun p hp => Heap.lt_size (N9 p hp).1
        have hZ := three_of (show All2 _ (List.range 3) zs from hz); refine exC (kS yN <| kS yN <| kO yN) hZ ?_; clear hZ; intro u0 u1 u2 hZ; rename_i zv17 zv18 _; revert zv18 hsub hz F8 off8 N9 hlt8 hZ; revert zv17 zs nw D8 h8 tk8 u0 u1 u2; exists hc, kS yH <| kS yL <| kS yL <| kS yN <| kS yH <| kS yN <| kS yN <| kS yN <| kO yN, 34, zv17, zs, nw, D8, h8, tk8, u0, u1, u2; intro _ hsub hz F8 off8 N9 hlt8 hZ; obtain rfl := hZ
        have hea2 := hea N9 (by walk_at "sz")
        try dsimp only
        walk_at "ws"
        show wpAny _ _ _ _ _ _
        show wpAny _ _ _ _ _ _
        refine PyProof.Rows.len_list (N9.isList (.tail _ (.tail _ (.head _)))) (by rw [List.size_toArray, yl]; omega) ?_
        rw [List.size_toArray, yl]
        walk_at "ws"
        show wpAny _ _ _ _ _ _
        refine item_list (N9.isList (.head _)) (by decide) (by decide) rfl ?_
        walk_at "ws"
        show wpAny _ _ _ _ _ _
        refine item_list (N9.isList (.head _)) (by decide) (by decide) rfl ?_
        walk_at "ws"
        show wpAny _ _ _ _ _ _
        refine item_list (N9.isList (.head _)) (by decide) (by decide) rfl ?_
        walk_at "ws"
        show wpAny _ _ _ _ _ _
        rename News _ _ _ _ => Nf
        rename Fr _ _ _ _ => Ff
        refine ev_item (hea Nf (by walk_at "sz")) (by decide) (by decide) rfl rfl ?_
        rename_i zv19 zv20 _; revert Ff Nf zv20; revert zv19; refine hzC (kO yH) 35 ?_; generalize zz _ _ _ = zv19; intro Ff Nf _
        walk_at "ws"
        show wpAny _ _ _ _ _ _
        rename News _ _ _ _ => Ng
        rename Fr _ _ _ _ => Fg
        replace Ng : News g L' _ ((h8.objs.size, entO (entE me) (tk8 + 1) u0 u1 u2 (.ref Cd)) :: (D8, LCg.lst [.int (sumK me 0) u0, .int (sumK me 1) u1, .int (sumK me 2) u2]) :: (Cd, oC') :: (D, LCg.lst ys) :: (I, oI) :: (Dd, oD) :: (L' + 1 + 1 + 1, oM') :: (L' + 1 + 1, oO') :: (L' + 1, oE') :: (ev, W.listOf vs.toArray k) :: (tl ++ mk)) := Ng
        have hkl : kvs.length ≤ 100 := by
         rw [← All2.length hT]
         have h1 := due_len (es := es) (es.take i) []
         have h2 := List.length_take_le' i es
         unfold dueE
         simp only [List.length_nil] at h1
         omega
        have nDT : @Ne Nat h8.objs.size Dd := (Nat.ne_of_lt (hlt8 (Dd, oD) (by k_mem))).symm
        have nCT : @Ne Nat h8.objs.size Cd := (Nat.ne_of_lt (hlt8 (Cd, oC') (by k_mem))).symm
        have nDC : @Ne Nat Dd Cd := offCd (Dd, oD) (by k_mem)
        have nD8 : @Ne Nat Dd D8 := off8 (Dd, oD) (hsub _ (by k_mem))
        have nDD : @Ne Nat Dd D := oD7 (Dd, oD) (by k_mem)
        have nDI : @Ne Nat Dd I := offI (Dd, oD) (by k_mem)
        refine kda_set Fg Ng (UpdF.tail nDT (UpdF.tail nD8.symm (UpdF.tail nDC.symm (UpdF.tail nDD.symm (UpdF.tail nDI.symm (UpdF.head fun p hp => ?_)))))) hoD (strKind_is _ _ _ _) (Nat.le_trans hkl (by decide)) (fun h' oD'' F9 Ni hD'' => ?_)
        ·simp only [List.mem_cons] at hp
         rcases hp with rfl | rfl | rfl | hp
         ·exact nDc.2.2.symm
         ·exact nDc.2.1.symm
         ·exact nDc.1.symm
         ·exact offD p (by first | exact hp | walk_at "mz" | simpa using hp)
        have hst : dueE es (es.take (i + 1)) = dueE es (es.take i) ++ [(e.nm, entE me)] := by rw [due_take he]; unfold dueStep; rw [if_neg (by rw [hany]; decide), hmeq]
        have hst2 : stored kvs e.nm (.ref h8.objs.size) = kvs ++ [(e.nm, .ref h8.objs.size)] := by unfold stored; rw [tb_any hT, hany]; rfl
        revert F9 Ni hD''; revert h' oD''; exists hc, kS yH <| kO zeO, 36, h', oD''; intro F9 Ni hD''
        walk_at "ws"
        rw [← hJO]
        have cT : ∀ p ∈ (Cd, oC') :: (D, LCg.lst ys) :: (I, oI) :: (Dd, oD) :: (L' + 1 + 1 + 1, oM') :: (L' + 1 + 1, oO') :: (L' + 1, oE') :: (ev, W.listOf vs.toArray k) :: (tl ++ mk), @Ne Nat h8.objs.size p.1 := fun p hp => (Nat.ne_of_lt (hlt8 p (.tail _ hp))).symm
        refine FEnd.next F9 Ni (fun p hp => ?_) (fun p hp => ?_) ⟨rfl, (xi2 _ _ (ovr_eq (by walk_at "oi") (by walk_at "oo"))), oD'', oM', oO', oE', stored kvs e.nm (.ref h8.objs.size), (h8.objs.size, entO (entE me) (tk8 + 1) u0 u1 u2 (.ref Cd)) :: (Cd, oC') :: mk, _, _, _, c1', c2', c3', hD'', ?_, ?_, fun p hp => ?_, fun p hp => ?_, rfl⟩
        ·exact subm (by walk_at "sz") hp
        ·simp only [List.mem_cons, List.mem_append] at hp
         rcases hp with rfl | rfl | rfl | rfl | (rfl | q) | rfl | rfl | q
         ·exact nDI
         ·exact nI3.symm
         ·exact nI2.symm
         ·exact nI1.symm
         ·exact offI (ev, W.listOf vs.toArray k) (by k_mem)
         ·exact offI p (by first | walk_at "mz" | simp [q])
         ·exact cT (I, oI) (by k_mem)
         ·exact (offCd (I, oI) (by k_mem)).symm
         ·exact offI p (by first | walk_at "mz" | simp [q])
        ·rw [hst, hst2]
         refine All2.append (TabAt.mono hT fun p hp => .tail _ (.tail _ hp)) (.cons ⟨rfl, _, _, _, _, _, _, rfl, .head _, Cd, oC', kvsC, rfl, .tail _ (.head _), loC, hC', hI'⟩ .nil)
        ·refine List.forall_mem_cons.mpr ⟨newS _ (Ni _ (.head _)).2.2 (fun q => ?_), List.forall_mem_cons.mpr ⟨hCn, newD⟩⟩
         have hZ := List.mem_map.mp q; refine exC (kO (zeP2 yN zeO)) hZ ?_; clear hZ; intro p hZ; revert hZ; revert p; refine hzC (kO (zeP2 yN zeO)) 37 ?_; generalize zz _ _ _ = p; intro hZ; obtain ⟨hp, z⟩ := hZ
         exact cT p (subm (by walk_at "sz") hp) z.symm
        ·simp only [List.mem_append, List.mem_cons] at hp
         rcases hp with (rfl | q) | rfl | rfl | q
         ·exact offC (ev, W.listOf vs.toArray k) (by walk_at "ms")
         ·exact offC p (by first | walk_at "mz" | simp [q])
         ·exact ⟨cT (L' + 1, oE') (by k_mem), cT (L' + 1 + 1, oO') (by k_mem), cT (L' + 1 + 1 + 1, oM') (by k_mem)⟩
         ·exact ⟨(offCd (L' + 1, oE') (by k_mem)).symm, (offCd (L' + 1 + 1, oO) (by k_mem)).symm, (offCd (L' + 1 + 1 + 1, oM') (by k_mem)).symm⟩
         ·exact offC p (by first | walk_at "mz" | simp [q])
        ·simp only [List.mem_append, List.mem_cons] at hp
         rcases hp with (rfl | q) | rfl | rfl | q
         ·exact offD (ev, W.listOf vs.toArray k) (by walk_at "ms")
         ·exact offD p (by first | walk_at "mz" | simp [q])
         ·exact nDT
         ·exact nDC.symm
         ·exact offD p (by first | walk_at "mz" | simp [q])
  ·intro m' nw gs hGJ
   obtain ⟨rfl, ⟨x1, x2, rfl⟩, hJ⟩ := hGJ
   intro h tk F3 N3
   rw [vl, List.take_length] at hJ
   refine ⟨rfl, xi5 Dd h tk (locD m₀ x1 x2 Dd ev) nw ⟨rfl, hEn, lo, hJ, ?_, N3⟩⟩
   rw [← ovr_self (List.forall_mem_cons.mpr ⟨rfl, List.forall_mem_nil _⟩)]
   exact F3
 ·intro f s₂ hGJ
  obtain ⟨rfl, hZ⟩ := hGJ; refine exC (kS yN <| kS yH <| kS yN <| kS (yF yT) <| kO yL) hZ ?_; clear hZ; intro Dd h tk mF nw hZ; revert hZ; revert s₂ Dd h tk mF nw; exists hc, kS zeS <| kS yN <| kS yH <| kS yN <| kS (yF yT) <| kO yL, 38, s₂, Dd, h, tk, mF, nw; intro hZ; obtain ⟨rfl, hEn, lo, ⟨oD, oM, oO, oE, kvs, mk, v1, v2, v3, c1, c2, c3, hoD, hT, newD, offC, offD, rfl⟩, F9, N9⟩ := hZ
  revert c1 c2 c3 hoD hT newD offC offD N9; revert oD oM oO oE kvs mk v1 v2 v3; exists hc, kS zeO <| kS zeO <| kS zeO <| kS zeO <| kS yL <| kS yL <| kS yT <| kS yT <| kO yT, 39, oD, oM, oO, oE, kvs, mk, v1, v2, v3; intro c1 c2 c3 hoD hT newD offC offD N9
  walk_at "ws"
  all_goals (try dsimp only)
  show Q _ _
  refine hret _ _ _ (ext_of_led keep.h hled F9 N9 fun p hp _ => ?_) (xi4 Dd oD kvs mk ⟨rfl, fun p hp => ⟨?_, (N9 p ?_).1⟩, hoD, hT, lo⟩)
  ·exact subm (by walk_at "sz") hp
  ·rcases List.mem_cons.mp hp with rfl | hp
   ·exact hEn
   ·exact newD p hp
  ·exact subm (by walk_at "sz") hp
end c_due_spec
theorem due_spec (w : World) (mean : ExcName → Option Value) (mg mb : Str → Option Value) (ev : Addr) (k : Nat) (es : List Ev) (vs : List Value) (tl : List (Addr × Obj)) (hes : EvsAt tl es vs) (hl : es.length ≤ 44) (hb : ∀ e ∈ es, EvB e) : SpecL w mean mg mb none 4 100 262 [.ref ev] ((ev, W.listOf vs.toArray k) :: tl) [] (fun h h' r => ∃ Dd oD kvs mk, r = .ref Dd ∧ Made h h' ((Dd, oD) :: mk) ∧ oD.IsDictOf (sk w) kvs ∧ TabAt w mk kvs (dueE es es) ∧ (Dd == sysModules) = false) := by
 intro dp un gd cn cs a ccd cl outer A₀ base h₀ L m s Q E
 exact @cst_all _ c_due_spec.ne c_due_spec.P (by with_unfolding_all exact c_due_spec.main) (w, mean, mg, mb, ev, k, es, vs, tl, dp, un, gd, cn, cs, a, ccd, cl, outer, A₀, base, h₀, L, m, s, Q, E) hes hl hb
end
section
noncomputable abbrev tcD (w : World) (la : Addr) (k1 : Tok) : Obj := dictOf [⟨PyData.keyHash w.params (Str.ofString "comp_select_list"), .str (Str.ofString "comp_select_list") k1, .ref la⟩] 1
set_option maxRecDepth 100000 in
set_option maxHeartbeats 8000000 in
theorem tc_spec : ∀ (w : World) (mean : ExcName → Option Value) (mg mb : Str → Option Value) (la : Addr), SpecN w mean mg mb none 3 30 45 [.ref la] (fun _ => True) (fun h h' r => ∃ xa dx k1, r = .ref xa ∧ Made h h' [(xa, instObj 45 dx), (dx, tcD w la k1)]) := by
 intro w mean mg mb la
 intro dp un gd cn cs a ccd cl outer A₀ base h₀ L m s Q E
 show SpecN.at w mean mg mb none 3 30 45 [.ref la] (fun _ => True) (fun h h' r => ∃ xa dx k1, r = .ref xa ∧ Made h h' [(xa, instObj 45 dx), (dx, tcD w la k1)]) dp un gd cn cs a ccd cl outer A₀ base h₀ L m s Q E
 revert w mean mg mb la dp un gd cn cs a ccd cl outer A₀ base h₀ L m s Q E
 exists hc, kS zeW <| kS (yF yT) <| kS (yF yT) <| kS (yF yT) <| kS yN <| kS yN <| kS yN <| kS yT <| kS zeR <| kS (inferInstanceAs (Nonempty Scope)) <| kS yN <| kS zeV <| kS yL <| kS yL <| kS zeA <| kS yH <| kS yH <| kS yN <| kS (yF yT) <| kS zeS <| kS (yF <| yF yP) <| kO (yF <| yF yP), 99, w, mean, mg, mb, la, dp, un, gd, cn, cs, a, ccd, cl, outer, A₀, base, h₀, L, m, s, Q, E
 unfold SpecN.at; intro B F X T hk hdp hun hpre hret
 refine' enterCls (C := 45) (fI := 35) (binds := [(Str.ofString "comp_select_list", .ref la)]) (pos := [.ref la]) ?k1 ?k2 ?k3 ?k5 ?kA ?kF ?kK ?hm ?hi ?hfn ?k6 ?k7 ?k8 ?k9 ?kB ?h ?c5 ?c2 ?c3 ?c4
 case kA => exact rfl
 case kF => exact rfl
 case kK => assumption
 case k1 => exact B
 case k2 => exact F
 case k3 => exact X
 case k5 => exact T
 case hm => k_is
 case hi => k_is
 case hfn => k_is
 case k6 => k_is
 case k7 => k_is
 case k8 => ktr_room
 case k9 => exact fun x s => BindsTo.of_eq rfl
 case c5 => decide
 case kB => exact fun x => locs rfl
 case c2 => exact rfl
 case c3 => exact rfl
 case c4 => exact rfl
 intro x1 dx g h' L' l1 l2 n1 n2 eg F' N' B' X' T'
 k_lt2 l1
 k_lt2 l2
 try dsimp only
 (try (refine fold2 ?_; intro qk ek hqk hek))
 revert n1 n2 eg F' N' B' X' T' l1 l2 hqk hek; revert x1 dx g h' L' qk ek; refine no_implicit_lambda% hzC (kS yN <| kS yN <| kS yH <| kS yH <| kS yN <| kS (yF (yF yP)) <| kO (yF (yF yP))) 1 ?_; walk_at "zp"; generalize zp.1 = x1, zp.2.1 = dx, zp.2.2.1 = g, zp.2.2.2.1 = h', zp.2.2.2.2.1 = L', zp.2.2.2.2.2.1 = qk, zp.2.2.2.2.2.2 = ek; clear zp; intro n1 n2 eg F' N' B' X' T' l1 l2 hqk hek
 walk_at "ws"
 refine ⟨rfl, hret _ _ _ (fun b o e => Fr.keep (by assumption) _ _ (eg b o e)) (xi3 x1 dx _ ⟨rfl, fun p hp => ⟨?_, News.get (by assumption) hp⟩⟩)⟩
 rcases List.mem_cons.mp hp with rfl | hp
 ·exact n1
 ·rw [List.mem_singleton.mp hp]; exact n2
noncomputable abbrev rowO (nm : Str) (e : Ent) (t1 t2 t3 t4 t5 : Tok) : Obj := { cls := .type "tuple", data := .seq #[.int e.c t1, .int e.n t2, .int e.t t3, .int e.u t4, .str nm t5] }
noncomputable def colE (e : Ent) : Nat → Int
 | 0 => e.c
 | 1 => e.n
 | 2 => e.t
 | _ => e.u
noncomputable def cmpS (col : Nat) (na nb : Str) (ea eb : Ent) : Int := if colE ea col < colE eb col then 1 else if colE eb col < colE ea col then -1 else if na.cps.toList < nb.cps.toList then -1 else if nb.cps.toList < na.cps.toList then 1 else 0
theorem col_at {nm : Str} {e : Ent} {t1 t2 t3 t4 t5 : Tok} {col : Nat} (hc : col < 4) : ∃ t, [Value.int e.c t1, .int e.n t2, .int e.t t3, .int e.u t4, .str nm t5][col]? = some (.int (colE e col) t) ∧ seqIndex? (col : Int) 5 = some col := by
 rcases (by exact oz21 hc : col = 0 ∨ col = 1 ∨ col = 2 ∨ col = 3) with rfl | rfl | rfl | rfl
 ·exact ⟨t1, rfl, rfl⟩
 ·exact ⟨t2, rfl, rfl⟩
 ·exact ⟨t3, rfl, rfl⟩
 ·exact ⟨t4, rfl, rfl⟩
theorem row_item {w : World} {A : Around} {E : Value → Shared → Prop} {s : Shared} {value slice : PySem.Expr} {ra : Addr} {nm : Str} {e : Ent} {t1 t2 t3 t4 t5 : Tok} {k : Int} {u : Tok} {j : Nat} {x : Value} {Q : Value → Shared → Prop} (hat : s.heap.get? ra = some (rowO nm e t1 t2 t3 t4 t5))
  (hlo : -(2 ^ 63) ≤ k) (hhi : k < 2 ^ 63) (hj : seqIndex? k 5 = some j) (hx : [Value.int e.c t1, .int e.n t2, .int e.t t3, .int e.u t4, .str nm t5][j]? = some x) (h : Q x s)
  (hs : subscripted slice false (.ref ra) (.int k u) = operate [.ref ra, .int k u] (getItem (.ref ra) (.int k u)) := by with_unfolding_all rfl) :
  wpAny (model PG w) A (subscriptTail value slice (.ref ra) (.int k u)) Q E s :=
 item_tupleT (l := [Value.int e.c t1, .int e.n t2, .int e.t t3, .int e.u t4, .str nm t5]) ⟨_, hat, rfl, _, rfl⟩ hlo hhi hj hx h hs
local macro_rules | `(tactic| walk_at "exec For Tuple Attribute cons nil") => `(tactic| (k_here; refine hold_it ?_))
local macro_rules | `(tactic| walk_at "subscriptTail Name Name ref int") => `(tactic| (k_here; refine hold_it ?_))
noncomputable abbrev locC (m₀ : Str → Option Value) (v1 v2 v3 v4 : Option Value) (xa ra rb : Addr) : Str → Option Value :=
 ovr m₀ [(Str.ofString "index", v1), (Str.ofString "direction", v2), (Str.ofString "l", v3), (Str.ofString "r", v4), (Str.ofString "self", some (.ref xa)), (Str.ofString "left", some (.ref ra)), (Str.ofString "right", some (.ref rb))]
set_option maxRecDepth 100000 in
set_option maxHeartbeats 8000000 in
theorem cmp_spec : ∀ (w : World) (mean : ExcName → Option Value) (mg mb : Str → Option Value) (xa dx la p1 p2 ra rb : Addr) (k1 u1 u2 u3 u4 t1 t2 t3 t4 t5 q1 q2 q3 q4 q5 : Tok) (kl : Nat) (col : Nat) (hc : col < 4) (na nb : Str) (ea eb : Ent), SpecL w mean mg mb none 2 30 42 [.ref xa, .ref ra, .ref rb] [(xa, instObj 45 dx), (dx, tcD w la k1), (la, W.listOf #[.ref p1, .ref p2] kl), (p1, { cls := .type "tuple", data := .seq #[.int col u1, .int (-1) u2] }), (p2, { cls := .type "tuple", data := .seq #[.int 4 u3, .int 1 u4] }), (ra, rowO na ea t1 t2 t3 t4 t5), (rb, rowO nb eb q1 q2 q3 q4 q5)] [] (fun _ _ r => ∃ t, r = .int (cmpS col na nb ea eb) t) := by
 intro w mean mg mb xa dx la p1 p2 ra rb k1 u1 u2 u3 u4 t1 t2 t3 t4 t5 q1 q2 q3 q4 q5 kl col hc na nb ea eb
 intro dp un gd cn cs a ccd cl outer A₀ base h₀ L m s Q E
 revert hc
 show ∀ (hc : col < 4), SpecL.at w mean mg mb none 2 30 42 [.ref xa, .ref ra, .ref rb] [(xa, instObj 45 dx), (dx, tcD w la k1), (la, W.listOf #[.ref p1, .ref p2] kl), (p1, { cls := .type "tuple", data := .seq #[.int col u1, .int (-1) u2] }), (p2, { cls := .type "tuple", data := .seq #[.int 4 u3, .int 1 u4] }), (ra, rowO na ea t1 t2 t3 t4 t5), (rb, rowO nb eb q1 q2 q3 q4 q5)] [] (fun _ _ r => ∃ t, r = .int (cmpS col na nb ea eb) t) dp un gd cn cs a ccd cl outer A₀ base h₀ L m s Q E
 revert w mean mg mb xa dx la p1 p2 ra rb k1 u1 u2 u3 u4 t1 t2 t3 t4 t5 q1 q2 q3 q4 q5 kl col na nb ea eb dp un gd cn cs a ccd cl outer A₀ base h₀ L m s Q E
 exists hc, kS zeW <| kS (yF yT) <| kS (yF yT) <| kS (yF yT) <| kS yN <| kS yN <| kS yN <| kS yN <| kS yN <| kS yN <| kS yN <| kS yN <| kS yN <| kS yN <| kS yN <| kS yN <| kS yN <| kS yN <| kS yN <| kS yN <| kS yN <| kS yN <| kS yN <| kS yN <| kS yN <| kS yN <| kS yN <| kS yN <| kS zeR <| kS zeR <| kS zeEnt <| kS zeEnt <| kS yN <| kS yN <| kS yT <| kS zeR <| kS (inferInstanceAs (Nonempty Scope)) <| kS yN <| kS zeV <| kS yL <| kS yL <| kS zeA <| kS yH <| kS yH <| kS yN <| kS (yF yT) <| kS zeS <| kS (yF <| yF yP) <| kO (yF <| yF yP), 99, w, mean, mg, mb, xa, dx, la, p1, p2, ra, rb, k1, u1, u2, u3, u4, t1, t2, t3, t4, t5, q1, q2, q3, q4, q5, kl, col, na, nb, ea, eb, dp, un, gd, cn, cs, a, ccd, cl, outer, A₀, base, h₀, L, m, s, Q, E
 intro hc
 unfold SpecL.at; intro B F X T hk hdp hun hHO hled hret
 (refine wpAny_call ?_; k_dflt (refine' enterM (binds := [(Str.ofString "self", .ref xa), (Str.ofString "left", .ref ra), (Str.ofString "right", .ref rb)]) ?k1z41 ?k2z41 ?kNz41 ?k3z41 ?k5z41 ?kAz41 ?kFz41 ?kKz41 ?k6z41 ?k7z41 ?k8z41 ?k9z41 ?kBz41 ?_ ?c5z41 ?c2z41 ?c3z41 ?c4z41; (case kAz41 => exact rfl); (case kFz41 => exact rfl); (case kKz41 => assumption); (case k1z41 => k_asm); (case k2z41 => k_asm); (case kNz41 => exact hled); (case k3z41 => k_asm); (case k5z41 => k_asm); (case k6z41 => k_is); (case k7z41 => k_is); (case k8z41 => ktr_room); (case k9z41 => exact BindsTo.of_eq rfl); (case c5z41 => decide); (case kBz41 => exact locs rfl); (case c2z41 => exact rfl); (case c3z41 => exact rfl); (case c4z41 => exact rfl); k_whole; intro g h' L' eL' keep F' N' B' X' T'; (try dsimp only); (try (refine fold2 ?_; intro qk ek hqk hek))))
 revert eL' keep F' N' B' X' T' hqk hek; revert g h' L' qk ek; refine no_implicit_lambda% hzC (kS yH <| kS yH <| kS yN <| kS (yF (yF yP)) <| kO (yF (yF yP))) 2 ?_; walk_at "zp"; generalize zp.1 = g, zp.2.1 = h', zp.2.2.1 = L', zp.2.2.2.1 = qk, zp.2.2.2.2 = ek; clear zp; intro eL' keep F' N' B' X' T' hqk hek
 walk_at "ws"
 show wpAny _ _ _ _ _ _
 revert tk; refine no_implicit_lambda% hzC (kO yN) 3 ?_; generalize zz _ _ _ = tk; dsimp only [Cu.un, kO]
 refine wpAny_mono (Q := fun f s₂ => ∃ (h : Heap) (tk : Nat) (mF : Str → Option Value), s₂ = { s with heap := h, toks := tk } ∧ Fr g L' h mF ∧ News g L' h [(xa, instObj 45 dx), (dx, tcD w la k1), (la, W.listOf #[.ref p1, .ref p2] kl), (p1, { cls := .type "tuple", data := .seq #[.int col u1, .int (-1) u2] }), (p2, { cls := .type "tuple", data := .seq #[.int 4 u3, .int 1 u4] }), (ra, rowO na ea t1 t2 t3 t4 t5), (rb, rowO nb eb q1 q2 q3 q4 q5)] ∧
   ((f = .next ∧ cmpS col na nb ea eb = 0) ∨ ∃ t, f = .ret (.int (cmpS col na nb ea eb) t)))
  (wpAny_for_of ?_ (by intro _; rfl)) ?_ (fun _ _ z => z)
 ·walk_at "ws"
  rename News _ _ _ _ => N9
  rename Fr _ _ _ _ => F9
  obtain ⟨m₀, F1, e1, e2, e3⟩ : ∃ m₀, Fr g L' _ m₀ ∧ m₀ (Str.ofString "self") = some (.ref xa) ∧ m₀ (Str.ofString "left") = some (.ref ra) ∧ m₀ (Str.ofString "right") = some (.ref rb) := ⟨_, F9, rfl, rfl, rfl⟩
  revert F1 e1 e2 e3; revert m₀; refine no_implicit_lambda% hzC (kO (yF yT)) 4 ?_; generalize zz _ _ _ = m₀; intro F1 e1 e2 e3
  refine for_listT (vs := [.ref p1, .ref p2]) rfl (N9.isList (.tail _ (.tail _ (.head _)))) (fun v hv => by simp only [List.mem_cons, List.not_mem_nil, or_false] at hv; rcases hv with rfl | rfl <;> exact ⟨_, rfl⟩) F1 N9
   (fun i m' nw gs => gs = s.gens ∧ (∃ v1 v2 v3 v4, m' = locC m₀ v1 v2 v3 v4 xa ra rb) ∧ nw = [(xa, instObj 45 dx), (dx, tcD w la k1), (la, W.listOf #[.ref p1, .ref p2] kl), (p1, { cls := .type "tuple", data := .seq #[.int col u1, .int (-1) u2] }), (p2, { cls := .type "tuple", data := .seq #[.int 4 u3, .int 1 u4] }), (ra, rowO na ea t1 t2 t3 t4 t5), (rb, rowO nb eb q1 q2 q3 q4 q5)] ∧ (1 ≤ i → ¬ colE ea col < colE eb col ∧ ¬ colE eb col < colE ea col) ∧ (2 ≤ i → ¬ na.cps.toList < nb.cps.toList ∧ ¬ nb.cps.toList < na.cps.toList)) ?_ ?_ ?_ ?_
  ·refine ⟨rfl, (xi4 (m₀ (Str.ofString "index")) (m₀ (Str.ofString "direction")) (m₀ (Str.ofString "l")) (m₀ (Str.ofString "r")) (ovr_self ?_)), rfl, by omega, by omega⟩
   intro p hp
   simp only [List.mem_cons, List.not_mem_nil, or_false] at hp
   rcases hp with rfl | rfl | rfl | rfl | rfl | rfl | rfl <;> first | rfl | exact e1 | exact e2 | exact e3
  ·rintro i m' nw gs h ⟨_, _, rfl, _⟩ _ N8
   exact N8.isList (.tail _ (.tail _ (.head _)))
  ·rintro i v m₁ nw gs h tk I oI hv ⟨rfl, ⟨v1, v2, v3, v4, rfl⟩, rfl, hq1, hq2⟩ F3 N3 offI
   clear F9 N9 F1
   generalize hJO : FEnd _ _ _ _ _ _ _ = QO
   (revert QO; refine hold_pi ?_; set_option tactic.hygienic false in intros)
   replace F3 : Fr g L' h _ := F3
   replace N3 : News g L' h _ := N3
   obtain ⟨tc, hc1, hc2⟩ := col_at (nm := na) (e := ea) (t1 := t1) (t2 := t2) (t3 := t3) (t4 := t4) (t5 := t5) hc
   obtain ⟨td, hd1, hd2⟩ := col_at (nm := nb) (e := eb) (t1 := q1) (t2 := q2) (t3 := q3) (t4 := q4) (t5 := q5) hc
   have hi2 : i < 2 := (List.getElem?_eq_some_iff.mp hv).1
   rcases (by exact oz20 hi2 : i = 0 ∨ i = 1) with rfl | rfl
   ·cases hv
    refine unpackN' F3 N3 trivial (N3.isTup (.tail _ (.tail _ (.tail _ (.tail _ (.head _)))))) rfl rfl ?_
    intro h' F4 N4
    clear F3 N3
    replace F4 : Fr g L' h' _ := F4
    replace N4 : News g L' h' _ := N4
    revert offI hc1 hd1 hJO F4 N4; revert h tk I oI v1 v2 v3 v4 QO tc td h'; refine no_implicit_lambda% hzC (kS yH <| kS yN <| kS yN <| kS zeO <| kS yT <| kS yT <| kS yT <| kS yT <| kS (yF (yF yP)) <| kS yN <| kS yN <| kO yH) 5 ?_; walk_at "zp"; generalize zp.1 = h, zp.2.1 = tk, zp.2.2.1 = I, zp.2.2.2.1 = oI, zp.2.2.2.2.1 = v1, zp.2.2.2.2.2.1 = v2, zp.2.2.2.2.2.2.1 = v3, zp.2.2.2.2.2.2.2.1 = v4, zp.2.2.2.2.2.2.2.2.1 = QO, zp.2.2.2.2.2.2.2.2.2.1 = tc, zp.2.2.2.2.2.2.2.2.2.2.1 = td, zp.2.2.2.2.2.2.2.2.2.2.2 = h'; clear zp; intro offI hc1 hd1 hJO F4 N4
    walk_at "ws"
    show wpAny _ _ _ _ _ _
    rename News _ _ _ _ => N5
    refine row_item (N5.get (by k_mem)) (by omega) (by omega) hc2 hc1 ?_
    rename_i zv1 zv2; revert zv2 N5; revert zv1 tk; refine no_implicit_lambda% hzC (kS yH <| kO yN) 6 ?_; walk_at "zp"; generalize zp.1 = zv1, zp.2 = tk; clear zp; intro _ N5
    walk_at "ws"
    show wpAny _ _ _ _ _ _
    rename News _ _ _ _ => N6
    refine row_item (N6.get (by k_mem)) (by omega) (by omega) hd2 hd1 ?_
    rename_i zv2 zv3; revert zv3 N6; revert zv2 tk; refine no_implicit_lambda% hzC (kS yH <| kO yN) 7 ?_; walk_at "zp"; generalize zp.1 = zv2, zp.2 = tk; clear zp; intro _ N6
    walk_at "wp"
    ·try dsimp only
     rename News _ _ _ _ => Nz
     rename Fr _ _ _ _ => Fz
     rw [← hJO]
     exact ⟨_, _, _, rfl, Fz, news_sub Nz (fun p hp => .tail _ hp), .inr ⟨_, congrArg (fun z => Flow.ret (Value.int z _)) (by unfold cmpS; rw [if_pos (of_decide_eq_true (by assumption))]; rfl)⟩⟩
    ·try dsimp only
     rename News _ _ _ _ => Nz
     rename Fr _ _ _ _ => Fz
     rw [← hJO]
     exact ⟨_, _, _, rfl, Fz, news_sub Nz (fun p hp => .tail _ hp), .inr ⟨_, congrArg (fun z => Flow.ret (Value.int z _)) (by unfold cmpS; rw [if_neg (fun q => by simp [q] at *), if_pos (of_decide_eq_true (by assumption))])⟩⟩
    ·rename News _ _ _ _ => Nz
     rename Fr _ _ _ _ => Fz
     rw [← hJO]
     exact FEnd.next Fz Nz (fun _ h => h) offI ⟨rfl, (xi4 _ _ _ _ (ovr_eq (by walk_at "oi") (by walk_at "oo"))), rfl, fun _ => ⟨fun q => by simp [q] at *, fun q => by simp [q] at *⟩, by omega⟩
   ·cases hv
    replace hq1 := hq1 (Nat.le_refl _)
    refine unpackN' F3 N3 trivial (N3.isTup (.tail _ (.tail _ (.tail _ (.tail _ (.tail _ (.head _))))))) rfl rfl ?_
    intro h' F4 N4
    clear F3 N3
    replace F4 : Fr g L' h' _ := F4
    replace N4 : News g L' h' _ := N4
    revert offI hc1 hd1 hJO F4 N4; revert h tk I oI v1 v2 v3 v4 QO tc td h'; refine no_implicit_lambda% hzC (kS yH <| kS yN <| kS yN <| kS zeO <| kS yT <| kS yT <| kS yT <| kS yT <| kS (yF (yF yP)) <| kS yN <| kS yN <| kO yH) 8 ?_; walk_at "zp"; generalize zp.1 = h, zp.2.1 = tk, zp.2.2.1 = I, zp.2.2.2.1 = oI, zp.2.2.2.2.1 = v1, zp.2.2.2.2.2.1 = v2, zp.2.2.2.2.2.2.1 = v3, zp.2.2.2.2.2.2.2.1 = v4, zp.2.2.2.2.2.2.2.2.1 = QO, zp.2.2.2.2.2.2.2.2.2.1 = tc, zp.2.2.2.2.2.2.2.2.2.2.1 = td, zp.2.2.2.2.2.2.2.2.2.2.2 = h'; clear zp; intro offI hc1 hd1 hJO F4 N4
    walk_at "ws"
    show wpAny _ _ _ _ _ _
    rename News _ _ _ _ => N5
    refine row_item (j := 4) (N5.get (by k_mem)) (by omega) (by omega) rfl rfl ?_
    rename_i zv1 zv2; revert zv2 N5; revert zv1 tk; refine no_implicit_lambda% hzC (kS yH <| kO yN) 9 ?_; walk_at "zp"; generalize zp.1 = zv1, zp.2 = tk; clear zp; intro _ N5
    walk_at "ws"
    show wpAny _ _ _ _ _ _
    rename News _ _ _ _ => N6
    refine row_item (j := 4) (N6.get (by k_mem)) (by omega) (by omega) rfl rfl ?_
    rename_i zv2 zv3; revert zv3 N6; revert zv2 tk; refine no_implicit_lambda% hzC (kS yH <| kO yN) 10 ?_; walk_at "zp"; generalize zp.1 = zv2, zp.2 = tk; clear zp; intro _ N6
    walk_at "wp"
    ·try dsimp only
     rename News _ _ _ _ => Nz
     rename Fr _ _ _ _ => Fz
     rw [← hJO]
     exact ⟨_, _, _, rfl, Fz, news_sub Nz (fun p hp => .tail _ hp), .inr ⟨_, congrArg (fun z => Flow.ret (Value.int z _)) (by unfold cmpS; rw [if_neg hq1.1, if_neg hq1.2, if_pos (of_decide_eq_true (by assumption))])⟩⟩
    ·try dsimp only
     rename News _ _ _ _ => Nz
     rename Fr _ _ _ _ => Fz
     rw [← hJO]
     exact ⟨_, _, _, rfl, Fz, news_sub Nz (fun p hp => .tail _ hp), .inr ⟨_, congrArg (fun z => Flow.ret (Value.int z _)) (by unfold cmpS; rw [if_neg hq1.1, if_neg hq1.2, if_neg (fun q => by simp [q] at *), if_pos (of_decide_eq_true (by assumption))])⟩⟩
    ·rename News _ _ _ _ => Nz
     rename Fr _ _ _ _ => Fz
     rw [← hJO]
     exact FEnd.next Fz Nz (fun _ h => h) offI ⟨rfl, (xi4 _ _ _ _ (ovr_eq (by walk_at "oi") (by walk_at "oo"))), rfl, fun _ => hq1, fun _ => ⟨fun q => by simp [q] at *, fun q => by simp [q] at *⟩⟩
  ·rintro m₁ nw gs ⟨rfl, ⟨v1, v2, v3, v4, rfl⟩, rfl, hq1, hq2⟩ h tk F3 N3
   have q1 := hq1 (by walk_at "ms")
   have q2 := hq2 (by walk_at "ms")
   exact (xi3 h tk _ ⟨rfl, F3, N3, .inl ⟨rfl, by unfold cmpS; rw [if_neg q1.1, if_neg q1.2, if_neg q2.1, if_neg q2.2]⟩⟩)
 ·rintro f s₂ ⟨h, tk, mF, rfl, F1, N1, ⟨rfl, h0⟩ | ⟨t, rfl⟩⟩
  ·revert F1 N1; revert h tk mF; refine no_implicit_lambda% hzC (kS yH <| kS yN <| kO (yF yT)) 11 ?_; walk_at "zp"; generalize zp.1 = h, zp.2.1 = tk, zp.2.2 = mF; clear zp; intro F1 N1
   walk_at "ws"
   all_goals (try dsimp only)
   show Q _ _
   refine hret _ _ _ (ext_of_led keep hled F1 N1 fun p hp _ => hp) ⟨_, congrArg (Value.int · _) h0.symm⟩
  ·revert F1 N1; revert h tk mF t; refine no_implicit_lambda% hzC (kS yH <| kS yN <| kS (yF yT) <| kO yN) 12 ?_; walk_at "zp"; generalize zp.1 = h, zp.2.1 = tk, zp.2.2.1 = mF, zp.2.2.2 = t; clear zp; intro F1 N1
   walk_at "ws"
   all_goals (try dsimp only)
   show Q _ _
   exact hret _ _ _ (ext_of_led keep hled F1 N1 fun p hp _ => hp) ⟨_, rfl⟩
end
section
noncomputable abbrev Rw := Addr × Str × Ent
noncomputable def cmpR (col : Nat) (x y : Rw) : Int := cmpS col x.2.1 y.2.1 x.2.2 y.2.2
noncomputable def posR (col : Nat) (T : List Rw) (r : Rw) : Nat → Nat
 | 0 => 0
 | n + 1 => if (T[n]?.map fun x => decide (0 < cmpR col x r)).getD false = true then posR col T r n else n + 1
theorem posR_le (col : Nat) (T : List Rw) (r : Rw) : ∀ n, posR col T r n ≤ n
 | 0 => Nat.le_refl _
 | n + 1 => by
  unfold posR
  split
  ·exact Nat.le_succ_of_le (posR_le col T r n)
  ·exact Nat.le_refl _
noncomputable def insR (col : Nat) (T : List Rw) (r : Rw) : List Rw := T.take (posR col T r T.length) ++ r :: T.drop (posR col T r T.length)
noncomputable def orderR (col : Nat) (rs : List Rw) : List Rw := rs.foldl (insR col) []
theorem insR_perm (col : Nat) (T : List Rw) (r : Rw) : (insR col T r).Perm (r :: T) := by
 unfold insR
 refine List.perm_middle.trans (.cons _ ?_)
 rw [List.take_append_drop]
theorem order_perm (col : Nat) : ∀ (rs acc : List Rw), (rs.foldl (insR col) acc).Perm (rs ++ acc)
 | [], acc => .refl _
 | r :: rs, acc => by
  rw [List.foldl_cons]
  refine (order_perm col rs _).trans ?_
  refine ((insR_perm col acc r).append_left rs).trans ?_
  exact List.perm_middle
theorem order_take {col : Nat} {rs : List Rw} {i : Nat} {r : Rw} (h : rs[i]? = some r) : orderR col (rs.take (i + 1)) = insR col (orderR col (rs.take i)) r := by
 unfold orderR; rw [List.take_add_one, h, List.foldl_append]; rfl
theorem order_mem {col : Nat} {rs : List Rw} {r : Rw} (h : r ∈ orderR col rs) : r ∈ rs := by
 have := (order_perm col rs []).mem_iff.mp h
 rwa [List.append_nil] at this
theorem order_len (col : Nat) (rs : List Rw) : (orderR col rs).length = rs.length := by
 have := (order_perm col rs []).length_eq
 rwa [List.append_nil] at this
noncomputable abbrev refsR (T : List Rw) : List Value := T.map fun r => Value.ref r.1
noncomputable def RowsAt (led : List (Addr × Obj)) (T : List Rw) : Prop := ∀ r ∈ T, ∃ t1 t2 t3 t4 t5, (r.1, rowO r.2.1 r.2.2 t1 t2 t3 t4 t5) ∈ led
noncomputable abbrev cmpLed (w : World) (xa dx la p1 p2 : Addr) (k1 u1 u2 u3 u4 : Tok) (kl col : Nat) : List (Addr × Obj) := [(xa, instObj 45 dx), (dx, tcD w la k1), (la, W.listOf #[.ref p1, .ref p2] kl), (p1, { cls := .type "tuple", data := .seq #[.int col u1, .int (-1) u2] }), (p2, { cls := .type "tuple", data := .seq #[.int 4 u3, .int 1 u4] })]
noncomputable abbrev locO (m₀ : Str → Option Value) (v1 v2 : Option Value) (Ta lr xa : Addr) : Str → Option Value :=
 ovr m₀ [(Str.ofString "at", v1), (Str.ofString "row", v2), (Str.ofString "told", some (.ref Ta)), (Str.ofString "rows", some (.ref lr)), (Str.ofString "order", some (.ref xa))]
local macro_rules | `(tactic| walk_at "exec For Name Name cons nil") => `(tactic| (k_here; refine hold_it ?_))
local macro_rules | `(tactic| walk_at "exec While BoolOp cons nil") => `(tactic| (k_here; refine hold_it ?_))
local macro_rules | `(tactic| walk_at "subscriptTail Name BinOp ref int") => `(tactic| (k_here; refine hold_it ?_))
set_option maxRecDepth 100000 in
set_option maxHeartbeats 8000000 in
theorem order_spec : ∀ (w : World) (mean : ExcName → Option Value) (mg mb : Str → Option Value) (xa dx la p1 p2 lr : Addr) (k1 u1 u2 u3 u4 : Tok) (kl kr col : Nat) (hc : col < 4) (rs : List Rw) (tl : List (Addr × Obj)) (hrs : RowsAt tl rs) (hl : rs.length ≤ 44), SpecL w mean mg mb none 4 60 269 [.ref lr, .ref xa] ((lr, W.listOf (refsR rs).toArray kr) :: (cmpLed w xa dx la p1 p2 k1 u1 u2 u3 u4 kl col ++ tl)) [] (fun h h' r => ∃ Ta n, r = .ref Ta ∧ Made h h' [(Ta, W.listOf (refsR (orderR col rs)).toArray n)]) := by
 intro w mean mg mb xa dx la p1 p2 lr k1 u1 u2 u3 u4 kl kr col hc rs tl hrs hl
 intro dp un gd cn cs a ccd cl outer A₀ base h₀ L m s Q E
 revert hc hrs hl
 show ∀ (hc : col < 4) (hrs : RowsAt tl rs) (hl : rs.length ≤ 44), SpecL.at w mean mg mb none 4 60 269 [.ref lr, .ref xa] ((lr, W.listOf (refsR rs).toArray kr) :: (cmpLed w xa dx la p1 p2 k1 u1 u2 u3 u4 kl col ++ tl)) [] (fun h h' r => ∃ Ta n, r = .ref Ta ∧ Made h h' [(Ta, W.listOf (refsR (orderR col rs)).toArray n)]) dp un gd cn cs a ccd cl outer A₀ base h₀ L m s Q E
 revert w mean mg mb xa dx la p1 p2 lr k1 u1 u2 u3 u4 kl kr col rs tl dp un gd cn cs a ccd cl outer A₀ base h₀ L m s Q E
 exists hc, kS zeW <| kS (yF yT) <| kS (yF yT) <| kS (yF yT) <| kS yN <| kS yN <| kS yN <| kS yN <| kS yN <| kS yN <| kS yN <| kS yN <| kS yN <| kS yN <| kS yN <| kS yN <| kS yN <| kS yN <| kS yL <| kS yL <| kS yN <| kS yN <| kS yT <| kS zeR <| kS (inferInstanceAs (Nonempty Scope)) <| kS yN <| kS zeV <| kS yL <| kS yL <| kS zeA <| kS yH <| kS yH <| kS yN <| kS (yF yT) <| kS zeS <| kS (yF <| yF yP) <| kO (yF <| yF yP), 99, w, mean, mg, mb, xa, dx, la, p1, p2, lr, k1, u1, u2, u3, u4, kl, kr, col, rs, tl, dp, un, gd, cn, cs, a, ccd, cl, outer, A₀, base, h₀, L, m, s, Q, E
 intro hc hrs hl
 unfold SpecL.at; intro B F X T hk hdp hun hHO hled hret
 (refine wpAny_call ?_; k_dflt (refine' enterM (binds := [(Str.ofString "rows", .ref lr), (Str.ofString "order", .ref xa)]) ?k1z42 ?k2z42 ?kNz42 ?k3z42 ?k5z42 ?kAz42 ?kFz42 ?kKz42 ?k6z42 ?k7z42 ?k8z42 ?k9z42 ?kBz42 ?_ ?c5z42 ?c2z42 ?c3z42 ?c4z42; (case kAz42 => exact rfl); (case kFz42 => exact rfl); (case kKz42 => assumption); (case k1z42 => k_asm); (case k2z42 => k_asm); (case kNz42 => exact hled); (case k3z42 => k_asm); (case k5z42 => k_asm); (case k6z42 => k_is); (case k7z42 => k_is); (case k8z42 => ktr_room); (case k9z42 => exact BindsTo.of_eq rfl); (case c5z42 => decide); (case kBz42 => exact locs rfl); (case c2z42 => exact rfl); (case c3z42 => exact rfl); (case c4z42 => exact rfl); k_whole; intro g h' L' eL' keep F' N' B' X' T'; (try dsimp only); (try (refine fold2 ?_; intro qk ek hqk hek))))
 replace keep := Hid.mk keep
 revert eL' F' N' B' X' T' hqk hek keep; revert g h' L' qk ek; exists hc, kS yH <| kS yH <| kS yN <| kS (yF (yF yP)) <| kO (yF (yF yP)), 1, g, h', L', qk, ek; intro eL' F' N' B' X' T' hqk hek keep
 walk_at "ws"
 show wpAny _ _ _ _ _ _
 rename_i zv1 _ zv3 zv2 zv4 zv5; revert zv3 zv4 zv5; revert zv1 zv2 tk; exists hc, kS yN <| kS yH <| kO yN, 2, zv1, zv2, tk; intro _ _ _
 refine wpAny_mono (Q := fun f s₂ => f = .next ∧ ∃ (Ta : Addr) (n : Nat) (h : Heap) (tk : Nat) (mF : Str → Option Value), s₂ = { s with heap := h, toks := tk } ∧ s.heap.get? Ta = none ∧
   Fr g L' h (ovr mF [(Str.ofString "told", some (.ref Ta))]) ∧ News g L' h ((Ta, W.listOf (refsR (orderR col rs)).toArray n) :: (lr, W.listOf (refsR rs).toArray kr) :: (cmpLed w xa dx la p1 p2 k1 u1 u2 u3 u4 kl col ++ tl)))
  (wpAny_for_of ?_ (by intro _; rfl)) ?_ (fun _ _ z => z)
 ·walk_at "ws"
  rename News _ _ _ _ => N9
  rename Fr _ _ _ _ => F9
  rename (lr < _ ∧ AllLt _ _) => hlt
  have newS : ∀ b, g.get? b = none → b ∉ ((lr, W.listOf (refsR rs).toArray kr) :: (cmpLed w xa dx la p1 p2 k1 u1 u2 u3 u4 kl col ++ tl)).map (·.1) → s.heap.get? b = none := fun b h1 h3 => by
   cases q : s.heap.get? b with
   | none => rfl
   | some o => rw [keep.h _ _ q h3] at h1; cases h1
  obtain ⟨m₀, Ta, F1, e1, e2, e3, hTn, N1, offT⟩ : ∃ (m₀ : Str → Option Value) (Ta : Addr), Fr g L' _ m₀ ∧ m₀ (Str.ofString "told") = some (.ref Ta) ∧ m₀ (Str.ofString "rows") = some (.ref lr) ∧ m₀ (Str.ofString "order") = some (.ref xa) ∧ s.heap.get? Ta = none ∧
    News g L' _ ((Ta, W.listOf (refsR (orderR col (rs.take 0))).toArray 0) :: (lr, W.listOf (refsR rs).toArray kr) :: (cmpLed w xa dx la p1 p2 k1 u1 u2 u3 u4 kl col ++ tl)) ∧ (∀ p ∈ (lr, W.listOf (refsR rs).toArray kr) :: (cmpLed w xa dx la p1 p2 k1 u1 u2 u3 u4 kl col ++ tl), @Ne Nat p.1 Ta) := (xi2 _ _ ⟨F9, rfl, rfl, rfl, newS _ (N9 _ (.head _)).2.2 (fun q => by
   obtain ⟨p, hp, z⟩ := List.mem_map.mp q
   rcases List.mem_cons.mp hp with rfl | hp
   ·have := hlt.1; rw [← z] at this; exact Nat.lt_irrefl _ this
   ·have := allLt_mem hlt.2 p hp; rw [z] at this; exact Nat.lt_irrefl _ this), N9, fun p hp => by
   rcases List.mem_cons.mp hp with rfl | hp
   ·exact Nat.ne_of_lt hlt.1
   ·exact Nat.ne_of_lt (allLt_mem hlt.2 p hp)⟩)
  clear F9 N9
  revert F1 e1 e2 e3 hTn N1 offT; revert m₀ Ta; exists hc, kS (yF yT) <| kO yN, 3, m₀, Ta; intro F1 e1 e2 e3 hTn N1 offT
  refine for_list (vs := refsR rs) (N1.isList (.tail _ (.head _))) rfl rfl rfl F1 N1
   (fun i m' nw gs => gs = s.gens ∧ (∃ v1 v2, m' = locO m₀ v1 v2 Ta lr xa) ∧ ∃ n, nw = (Ta, W.listOf (refsR (orderR col (rs.take i))).toArray n) :: (lr, W.listOf (refsR rs).toArray kr) :: (cmpLed w xa dx la p1 p2 k1 u1 u2 u3 u4 kl col ++ tl)) ?_ ?_ ?_ ?_
  ·refine ⟨rfl, (xi2 (m₀ (Str.ofString "at")) (m₀ (Str.ofString "row")) (ovr_self ?_)), 0, rfl⟩
   intro p hp
   simp only [List.mem_cons, List.not_mem_nil, or_false] at hp
   rcases hp with rfl | rfl | rfl | rfl | rfl <;> first | rfl | exact e1 | exact e2 | exact e3
  ·rintro i m' nw gs h ⟨_, _, n, rfl⟩ _ N8
   exact N8.isList (.tail _ (.head _))
  ·rintro i v m₁ nw gs h tk I oI hv ⟨rfl, ⟨v1, v2, rfl⟩, n, rfl⟩ F3 N3 offI
   clear F1 N1
   generalize hJO : FEnd _ _ _ _ _ _ _ = QO
   (revert QO; refine hold_pi ?_; set_option tactic.hygienic false in intros)
   obtain ⟨r, hr, rfl⟩ : ∃ r, rs[i]? = some r ∧ v = .ref r.1 := by
    rw [List.getElem?_map] at hv
    cases e : rs[i]? with
    | none => rw [e] at hv; cases hv
    | some r => rw [e] at hv; cases hv; exact ⟨r, rfl, rfl⟩
   have hTm : ∀ x ∈ orderR col (rs.take i), x ∈ rs := fun x hx => List.mem_of_mem_take (order_mem hx)
   have hTl : (orderR col (rs.take i)).length ≤ 44 := by rw [order_len]; exact Nat.le_trans (List.length_take_le' i rs) hl
   rw [order_take hr] at hJO
   generalize orderR col (rs.take i) = T at hTm hTl N3 hJO offI
   have hrl : (refsR T).length = T.length := List.length_map ..
   revert hr hv F3 hTm hTl N3 hJO offI hrl; revert i h tk I oI v1 v2 n QO r T; exists hc, kS yN <| kS yH <| kS yN <| kS yN <| kS zeO <| kS yT <| kS yT <| kS yN <| kS (yF (yF yP)) <| kS (zeP2 yN (zeP2 zeR zeEnt)) <| kO yL, 4, i, h, tk, I, oI, v1, v2, n, QO, r, T; intro hr hv F3 hTm hTl N3 hJO offI hrl
   walk_at "ws"
   show wpAny _ _ _ _ _ _
   refine PyProof.Rows.len_list (N3.isList (.tail _ (.head _))) (by rw [List.size_toArray]; exact oz94 hrl hTl) ?_
   rw [List.size_toArray, hrl]
   walk_at "ws"
   show wpAny _ _ _ _ _ _
   rename News _ _ _ _ => N4
   rename Fr _ _ _ _ => F4
   replace F4 := fr_ovr (m₀ := m₀) (ps := [(Str.ofString "at", some (Value.int (T.length : Int) _)), (Str.ofString "row", some (.ref r.1)), (Str.ofString "told", some (.ref Ta)), (Str.ofString "rows", some (.ref lr)), (Str.ofString "order", some (.ref xa))]) F4 (by walk_at "oi") (by walk_at "oo")
   rename_i zv3; revert N4 F4; revert zv3 tk; exists hc, kS yH <| kO yN, 5, zv3, tk; intro N4 F4
   refine wpAny_mono (Q := fun f s₂ => f = .next ∧ ∃ (h : Heap) (tk : Nat) (t : Tok), s₂ = { s with heap := h, toks := tk } ∧
     Fr g L' h (locO m₀ (some (.int (posR col T r T.length : Nat) t)) (some (.ref r.1)) Ta lr xa) ∧ News g L' h ((I, oI) :: (Ta, W.listOf (refsR T).toArray n) :: (lr, W.listOf (refsR rs).toArray kr) :: (cmpLed w xa dx la p1 p2 k1 u1 u2 u3 u4 kl col ++ tl)))
    (wpAny_While (codeAny_mono (codeAny_whileLoop (R := fun rr s₂ => ∃ f, rr = .ok f ∧ f = .next ∧ ∃ (h : Heap) (tk : Nat) (t : Tok), s₂ = { s with heap := h, toks := tk } ∧
     Fr g L' h (locO m₀ (some (.int (posR col T r T.length : Nat) t)) (some (.ref r.1)) Ta lr xa) ∧ News g L' h ((I, oI) :: (Ta, W.listOf (refsR T).toArray n) :: (lr, W.listOf (refsR rs).toArray kr) :: (cmpLed w xa dx la p1 p2 k1 u1 u2 u3 u4 kl col ++ tl))) (fun k s' => ∃ (h : Heap) (tk : Nat) (t : Tok), s' = { s with heap := h, toks := tk } ∧ Fr g L' h (locO m₀ (some (.int (k : Nat) t)) (some (.ref r.1)) Ta lr xa) ∧
     News g L' h ((I, oI) :: (Ta, W.listOf (refsR T).toArray n) :: (lr, W.listOf (refsR rs).toArray kr) :: (cmpLed w xa dx la p1 p2 k1 u1 u2 u3 u4 kl col ++ tl)) ∧ k ≤ T.length ∧ posR col T r T.length = posR col T r k) ?_ T.length
     (xi3 _ _ _ ⟨rfl, F4, N4, Nat.le_refl _, rfl⟩)) (fun rr s₂ q => by obtain ⟨f, rfl, q⟩ := q; exact q))) ?_ (fun _ _ z => z)
   ·rintro k s' ⟨h, tk, t, rfl, F5, N5, hk1, hpos⟩
    clear F3 N3 F4 N4
    revert F5 N5 hk1 hpos; revert k h tk t; exists hc, kS yN <| kS yH <| kS yN <| kO yN, 6, k, h, tk, t; intro F5 N5 hk1 hpos
    walk_at "wp"
    ·show wpAny _ _ _ _ _ _
     have hk0 : 0 < k := by
      have := of_decide_eq_true (show decide (0 < (k : Int)) = true by assumption)
      exact oz93 this
     obtain ⟨j, rfl⟩ : ∃ j, k = j + 1 := ⟨k - 1, by exact oz92 hk0⟩
     have hjT : j < T.length := by exact oz64 hk1
     obtain ⟨x, hx⟩ : ∃ x, T[j]? = some x := ⟨_, List.getElem?_eq_getElem hjT⟩
     have hxm := hTm x (List.mem_of_getElem? hx)
     have hpj : posR col T r (j + 1) = if decide (0 < cmpR col x r) = true then posR col T r j else j + 1 := by
      conv => lhs; unfold posR
      rw [hx]; rfl
     refine item_list (x := .ref x.1) (N5.isList (.tail _ (.head _))) (by exact oz91) (by exact oz90 hjT hTl) (by
      rw [show (((j + 1 : Nat) : Int) - 1).toNat = j by exact oz89, List.getElem?_toArray, List.getElem?_map, hx]; rfl) ?_
     rename_i zv4; revert F5 hk1 hpos zv4 hk0 hjT hx hxm hpj; revert j x; exists hc, kS yN <| kO (zeP2 yN (zeP2 zeR zeEnt)), 7, j, x; intro F5 hk1 hpos _ hk0 hjT hx hxm hpj
     walk_at "ws"
     obtain ⟨a1, a2, a3, a4, a5, hma⟩ := hrs x hxm
     obtain ⟨b1, b2, b3, b4, b5, hmb⟩ := hrs r (List.mem_of_getElem? hr)
     refine ⟨X'.keeps F5.keep, ?_⟩
     ((try (refine ⟨?kinz43, ?_⟩; (case kinz43 => k_in))); k_dflt (refine' SpecL.use0 (cmp_spec w mean mg mb xa dx la p1 p2 x.1 r.1 k1 u1 u2 u3 u4 a1 a2 a3 a4 a5 b1 b2 b3 b4 b5 kl col hc x.2.1 r.2.1 x.2.2 r.2.2) ?k1z43 ?k2z43 ?k3z43 ?k4z43 ?k5z43 ?kKz43 ?kdz43 ?kuz43 ?kpz43 ?ksz43 ?_; (case k1z43 => k_asm); (case k2z43 => k_asm); (case k3z43 => k_asm); (case k4z43 => k_asm); (case k5z43 => k_asm); (case kKz43 => first | exact rfl | assumption); (case kdz43 => ktr_room); (case kuz43 => ktr_units); (case kpz43 => first | exact trivial | assumption); (case ksz43 => exact (fun p hp => by
      revert p; refine fc ?_ (fc ?_ (fc ?_ (fc ?_ (fc ?_ (fc ?_ (fc ?_ fnil))))))
      ·exact .tail _ (.tail _ (.tail _ (.head _)))
      ·exact .tail _ (.tail _ (.tail _ (.tail _ (.head _))))
      ·exact .tail _ (.tail _ (.tail _ (.tail _ (.tail _ (.head _)))))
      ·exact .tail _ (.tail _ (.tail _ (.tail _ (.tail _ (.tail _ (.head _))))))
      ·exact .tail _ (.tail _ (.tail _ (.tail _ (.tail _ (.tail _ (.tail _ (.head _)))))))
      ·exact .tail _ (.tail _ (.tail _ (.tail _ (.tail _ (.tail _ (.tail _ (.tail _ hma)))))))
      ·exact .tail _ (.tail _ (.tail _ (.tail _ (.tail _ (.tail _ (.tail _ (.tail _ hmb)))))))))))
     intro z h9 tk9 e9 F9 N9 hz
     obtain ⟨tz, rfl⟩ := hz
     clear e9 F5 N5
     rw [show cmpS col x.2.1 r.2.1 x.2.2 r.2.2 = cmpR col x r from rfl]
     generalize hcz : cmpR col x r = cz at hpj
     (revert cz; refine hold_pi ?_; set_option tactic.hygienic false in intros)
     revert hma hmb F9 N9 hcz hpj; revert a1 a2 a3 a4 a5 b1 b2 b3 b4 b5 h9 tk9 tz cz; exists hc, kS yN <| kS yN <| kS yN <| kS yN <| kS yN <| kS yN <| kS yN <| kS yN <| kS yN <| kS yN <| kS yH <| kS yN <| kS yN <| kO zeI, 8, a1, a2, a3, a4, a5, b1, b2, b3, b4, b5, h9, tk9, tz, cz; intro hma hmb F9 N9 hcz hpj
     walk_at "wp"
     ·rename News _ _ _ _ => Nz
      rename Fr _ _ _ _ => Fz
      rw [show ((j + 1 : Nat) : Int) - 1 = (j : Int) by exact oz88] at Fz
      refine ⟨j, by exact oz87, xi3 _ _ _ ⟨rfl, fr_ovr (m₀ := m₀) Fz (by walk_at "oi") (by walk_at "oo"), Nz, by exact oz86 hjT, ?_⟩⟩
      rw [hpos, hpj, if_pos (by assumption)]
     ·exact absurd (show ¬ true = true by assumption) (by decide)
     ·exact absurd (show false = true by assumption) (by decide)
     ·refine ⟨_, rfl, rfl, xi3 _ _ t ⟨rfl, ?_, N9⟩⟩
      rw [hpos, hpj, if_neg (by assumption)]
      exact F9
    ·exact absurd (show false = true by assumption) (by decide)
    ·have hk0 : k = 0 := by
      have : ¬ decide (0 < (k : Int)) = true := by assumption
      rw [decide_eq_true_eq] at this
      exact oz85 this
     subst hk0
     refine ⟨_, rfl, rfl, xi3 _ _ t ⟨rfl, ?_, N5⟩⟩
     rw [hpos]
     exact F5
   ·rintro f s₂ ⟨rfl, h, tk, t, rfl, F5, N5⟩
    have hple := posR_le col T r T.length
    revert F5 N5; revert h tk t; exists hc, kS yH <| kS yN <| kO yN, 9, h, tk, t; intro F5 N5
    walk_at "ws"
    show wpAny _ _ _ _ _ _
    refine kl_insert F5 N5 ?_ (l := refsR (insR col T r)) ?_ (Upd.tail ?_ (Upd.head ?_)) ?_ (fun h' F6 N6 => ?_)
    ·unfold Builtin.List.listFitsIndex
     simp only [Bool.and_eq_true, decide_eq_true_eq]
     exact oz84 hple hTl
    ·unfold kl_ins insR refsR
     rw [if_neg (by exact oz50)]
     simp only [Int.toNat_natCast, List.length_map, Nat.min_eq_left hple, List.map_append, List.map_cons, List.map_take, List.map_drop]
    ·exact (offI (Ta, W.listOf (refsR T).toArray n) (.head _)).symm
    ·exact offT
    ·show (refsR T).length ≤ sizeLine
     rw [hrl]; exact Nat.le_trans hTl (by decide)
    revert F6 N6; revert h'; refine hzC (kO yH) 10 ?_; generalize zz _ _ _ = h'; intro F6 N6
    walk_at "ws"
    rw [← hJO]
    exact FEnd.next F6 N6 (fun _ h => h) (off_keys' offI (by rfl)) ⟨rfl, (xi2 _ _ rfl), _, rfl⟩
  ·rintro m₁ nw gs ⟨rfl, ⟨v1, v2, rfl⟩, n, rfl⟩ h tk F3 N3
   rw [List.length_map, List.take_length] at N3
   refine ⟨rfl, xi5 Ta n h tk (locO m₀ v1 v2 Ta lr xa) ⟨rfl, hTn, ?_, N3⟩⟩
   rw [← ovr_self (List.forall_mem_cons.mpr ⟨rfl, List.forall_mem_nil _⟩)]
   exact F3
 ·rintro f s₂ ⟨rfl, Ta, n, h, tk, mF, rfl, hTn, F1, N1⟩
  revert hTn F1 N1; revert Ta n h tk mF; exists hc, kS yN <| kS yN <| kS yH <| kS yN <| kO (yF yT), 11, Ta, n, h, tk, mF; intro hTn F1 N1
  walk_at "ws"
  all_goals (try dsimp only)
  show Q _ _
  refine hret _ _ _ (ext_of_led keep.h hled F1 N1 fun p hp _ => .tail _ hp) (xi2 Ta n ⟨rfl, fun p hp => ?_⟩)
  rw [List.mem_singleton.mp hp]
  exact ⟨hTn, (N1 _ (.head _)).1⟩
end
section
set_option maxRecDepth 100000
theorem K_no186 {P : Params} : (hd.heap_39 P).lookup 186 = none := by kernel_rfl
theorem in_hide {P : Params} {h : Heap} (X : (hd.heap_39 P).In h) : (hd.heap_39 P).In (hideAll h [186]) := fun a o e => hideAll_get _ (X a o e) fun q => by
 rw [List.mem_singleton.mp q, K_no186] at e; cases e
theorem ns_hide {h : Heap} {a : Addr} {m : Str → Option Value} (N : h.Ns a m) (ha : a ≠ 186) : (hideAll h [186]).Ns a m := N.at' fun o e => hideAll_get _ e (by simpa using ha)
theorem top_hide {mean : ExcName → Option Value} {mg mb : Str → Option Value} {h : Heap} {ps : Array Value} (T : Top EP LS0 mean mg mb h) (h6 : h.get? 186 = some (tabO ps)) : Top EP LS0 mean mg mb (hideAll h [186]) where
 g := ns_hide T.g (by decide)
 b := ns_hide T.b (by decide)
 nolimit := let ⟨mc, a, b⟩ := T.nolimit; ⟨mc, ns_hide a (by decide), b⟩
 nodigits := let ⟨mc, a, b⟩ := T.nodigits; ⟨mc, ns_hide a (by decide), b⟩
 fn := fun d hd => (nomatch hd)
 own := fun d hd => (nomatch hd)
 tab := fun d hd => (nomatch hd)
 const := T.const
 free := T.free
 builtins := T.builtins
 bmain := by
  walk_at "cg"
  obtain ⟨bm, ob, a1, a2, a3, a4, a5, a6⟩ := T.bmain
  walk_at "bg"
  refine ⟨bm, ob, a1, a2, hideAll_get _ a3 fun q => ?_, a4, a5, a6⟩
  rw [List.mem_singleton.mp q, h6] at a3
  cases a3; cases a4
 seer := fun e => by
  have x := T.seer e
  refine ⟨?_, ?_, ?_, ?_⟩
  ·obtain ⟨mc, a, b⟩ := x.statics; exact ⟨mc, ns_hide a (by decide), b⟩
  ·obtain ⟨mc, a, b⟩ := x.mods; exact ⟨mc, ns_hide a (by decide), b⟩
  ·obtain ⟨mc, a, b⟩ := x.imp; exact ⟨mc, ns_hide a (by decide), b⟩
  ·walk_at "cg"
   obtain ⟨mg, bm, ob, a, b, c, d, e⟩ := x.main
   walk_at "bg"
   refine ⟨mg, bm, ob, ns_hide a (by decide), b, hideAll_get _ c fun q => ?_, d, e⟩
   rw [List.mem_singleton.mp q, h6] at c
   cases c; cases d
section
variable {prog : Program} {w : World} {s : Shared} {K : Frag} {R : Result → Shared → Prop} {name qual : Str} {params : Arguments} {body : List Stmt} {scope : Scope} {dV kV doc pm cdv ct oc : Value} {an od : Option Addr} {osl : Array (Option Value)} {f : Addr} {args : Args} {binds : List (Str × Value)}
 {p : Program} {loose : List Str} {mean : ExcName → Option Value} {mg mb : Str → Option Value}
theorem enterLaw (X : K.In s.heap) (T : Top p loose mean mg mb s.heap)
  (ho : K.lookup f = some ⟨oc, od, .func (fnOf name qual params body scope dV kV doc pm an cdv ct), osl⟩) (hcd : codeIn K cdv qual = true)
  (hbind : BindsTo s (fnOf name qual params body scope dV kV doc pm an cdv ct) args binds)
  (hkind : (binds.all fun y => scope.names.lookup y.1 == some .local || scope.names.lookup y.1 == some .cell) = true)
  (hnd : ((cellsFrom 0 scope.names []).map (·.1)).Nodup)
  (h : ∀ h₁ tk L' cells, L' = s.heap.objs.size → (∀ b o, s.heap.get? b = some o → h₁.get? b = some o) → Fr (hideAll s.heap [186]) L' h₁ (bindL (envOfC qual scope L' f cdv).kindOf binds fun _ => none) → News (hideAll s.heap [186]) L' h₁ cells →
   CellsAre (bindC (envOfC qual scope L' f cdv).kindOf binds fun _ => none) (cellsFrom (L' + 1) scope.names []) cells → (∀ p ∈ cells, s.heap.get? p.1 = none) →
   wpAny (model prog w) (callerA.deeper (envOfC qual scope L' f cdv)) (execs body (envOfC qual scope L' f cdv))
    (fun fl s' => R (.ok (.ret (match fl with | .ret v => v | _ => .none))) s')
    (fun e s' => wpAny (model prog w) (callerA.deeper (envOfC qual scope L' f cdv)) (leaving (envOfC qual scope L' f cdv) e) (fun _ s'' => R (.error e) s'') (fun e' s'' => R (.error e') s'') s')
    { s with heap := h₁, toks := tk })
  (hco : scope.isCoroutine = false) (hgen : scope.isGenerator = false) (hk : scope.kind = .function) : codeAny (model prog w) callerA (.call (.ref f) args) R s := by
 refine codeAny_call_function (by decide) (X _ _ ho) rfl hco hgen rfl (codeRec_of X hcd) (hbind _ _ _ _ ?_)
 refine wpAny_newFunctionEnv_cells hk (kindsX hkind _) fun env' he s' x => ?_
 subst he
 refine ⟨T.nolimit.keeps x.toInCall.keep, codeAny_func ?_⟩
 walk_at "cg"
 obtain ⟨h₁, tk, rfl, _⟩ := x.done
 walk_at "bg"
 have hk₁ := x.toInCall.keep
 obtain ⟨cells, NC, Y⟩ := Cl.news (h₀ := s.heap) (Nat.le_refl _) fun n c hm => ⟨x.cell n c (lookup_of_mem_nodup (cellsFrom_names scope.names 0 (s.heap.objs.size + 1) [] [] rfl ▸ hnd) hm), x.above n c hm⟩
 refine h h₁ tk s.heap.objs.size cells rfl hk₁ ⟨x.toInCall.ns, fun b o e => hk₁ b o (of_hideAll _ e), Nat.le_of_eq (hideAll_size _ _)⟩ (fun p hp => ⟨(NC p hp).1, (NC p hp).2.1, ?_⟩) Y (fun p hp => (NC p hp).2.2)
 cases e : (hideAll s.heap [186]).get? p.1 with
 | none => rfl
 | some o => have := of_hideAll _ e; rw [(NC p hp).2.2] at this; cases this
end
end
section
set_option maxRecDepth 100000
theorem slice_up {vs : List Value} {y : Int} (h : 0 ≤ y) : slicePick vs.toArray none (some y) none = (vs.take y.toNat).toArray := by
 have e : sliceBounds none (some y) none vs.toArray.size = (((0 : Nat) : Int), ((min y.toNat vs.toArray.size : Nat) : Int), 1) := by
  simp only [sliceBounds, Option.getD_none, show (1 : Int) > 0 by decide, if_true, if_neg (show ¬ (y < 0) by lia)]
  congr 1
  congr 1
  lia
 rw [kmk_pick_nat _ e]
 show ((vs.drop 0).take (min y.toNat vs.toArray.size - 0)).toArray = _
 rw [List.drop_zero, Nat.sub_zero, List.size_toArray, kmk_take_min]
theorem slice_from {vs : List Value} {x : Int} (h : 0 ≤ x) : slicePick vs.toArray (some x) none none = (vs.drop x.toNat).toArray := by
 have e : sliceBounds (some x) none none vs.toArray.size = (((min x.toNat vs.toArray.size : Nat) : Int), ((vs.toArray.size : Nat) : Int), 1) := by
  simp only [sliceBounds, Option.getD_none, show (1 : Int) > 0 by decide, if_true, if_neg (show ¬ (x < 0) by lia)]
  congr 1
  lia
 rw [kmk_pick_nat _ e]
 show ((vs.drop (min x.toNat vs.toArray.size)).take (vs.toArray.size - min x.toNat vs.toArray.size)).toArray = _
 rw [List.size_toArray, kmk_drop_min, List.take_of_length_le (by rw [List.length_drop]; lia)]
theorem LinesAt.take {led : List (Addr × Obj)} {ls : List Lin} {vs : List Value} (h : LinesAt led ls vs) (k : Nat) : LinesAt led (ls.take k) (vs.take k) := by
 induction h generalizing k with
 | nil => simp only [List.take_nil]; exact .nil
 | cons h _ ih =>
  cases k with
  | zero => exact .nil
  | succ k => exact .cons h (ih k)
theorem LinesAt.drop {led : List (Addr × Obj)} {ls : List Lin} {vs : List Value} (h : LinesAt led ls vs) (k : Nat) : LinesAt led (ls.drop k) (vs.drop k) := by
 induction h generalizing k with
 | nil => simp only [List.drop_nil]; exact .nil
 | cons h r ih =>
  cases k with
  | zero => exact .cons h r
  | succ k => exact ih k
theorem filed_law {w : World} {mean : ExcName → Option Value} {mg mb : Str → Option Value} {A₀ : Around} {base g : Heap} {L : Addr} {dp un : Nat} {gd : Option (List Code)} {cn : Str} {cs : Scope} {a : Addr} {ccd : Value} {cl : List (Str × Addr)} {m : Str → Option Value} {s : Shared} {Q E : Value → Shared → Prop}
  {Al An : Addr} {kn ka : Nat} {x0 x1 : Str} {t0 t1 : Tok} {sl : Array Value} {vs : List Value} {ls : List Lin} {ps : Array Value} {Z tls : List (Addr × Obj)}
  (B : Below A₀ base [] g) (F : Fr g L s.heap m) (X : (hd.heap_39 w.params).In g) (N : News g L s.heap ((Al, { cls := .type "list", data := .seq sl ka }) :: Z)) (T : Top EP LS0 mean mg mb g) (hk : cs.kind = .function) (h1 : dp + 9 < recursionLimit) (h2 : un + 120 < cLine) (hab : AllBare s.gens)
  (hsl : sl = vs.toArray) (hps : TabOk ps) (m1 : (An, W.listOf #[.str x0 t0, .str x1 t1] kn) ∈ Z) (m2 : (186, tabO ps) ∈ Z) (hLA : LinesAt tls ls vs) (sub : ∀ p ∈ tls, p ∈ Z ∧ p.1 ≠ 186) (hl : ls.length ≤ 11) (hok0 : ∀ l ∈ ls, LineOk x0 l) (hok1 : ∀ l ∈ ls, LineOk x1 l)
  (k : ∀ Ta oT kvs mk ps' h' tk' gs', Fr g L h' m → TabOk ps' → News g L h' ((Ta, oT) :: (186, tabO ps') :: mk) → (∀ p ∈ Z, p.1 ≠ 186 → h'.get? p.1 = some p.2 ∧ p.1 ≠ L ∧ g.get? p.1 = none) → (∀ p ∈ (Ta, oT) :: mk, ∀ q ∈ Z, p.1 ≠ q.1) →
   oT.IsDictOf (sk w) kvs → TabAt w mk kvs (fileT x0 x1 ls) → (Ta == sysModules) = false → (∀ p ∈ mk, p.1 ≠ Ta) → AllBare gs' → Q (.ref Ta) { s with heap := h', toks := tk', gens := gs' }) :
  wpAny (model PG w) (ad none dp un gd cn cs L a ccd cl []) (call (.ref 226) [.ref An, .ref Al]) Q E s := by
 subst hsl
 have l6 := N (186, tabO ps) (.tail _ m2)
 refine filed_spec w mean mg mb x0 x1 t0 t1 ls vs An Al kn ka tls ps hps hLA (fun p hp => (sub p hp).2) hl hok0 hok1 _ _ _ _ _ _ _ _ _ _ _ _ _ _ _ _ B F X T hk h1 h2 (fun p hp => ?_) hab (fun r h' tk' gs' x ab hr => ?_)
 ·revert p; refine fc ?_ (fc ?_ (fc ?_ (fun p hp => ?_)))
  ·exact l6
  ·exact N _ (.tail _ m1)
  ·exact N _ (.head _)
  ·exact N p (.tail _ (sub p hp).1)
 ·obtain ⟨Ta, oT, kvs, mk, ps', rfl, hps', h186, hM, hd, hT, lo, off⟩ := hr
  have F' := Fr.extF F x (fun b hb => by rw [List.mem_singleton.mp hb]; exact ⟨l6.2.2, l6.2.1⟩) (fun b hb => .inl (List.mem_singleton.mp hb))
  have N' := hM.news F (news := [(186, tabO ps')]) (fun p hp => by rw [List.mem_singleton.mp hp]; exact ⟨h186, l6.2⟩)
  refine k Ta oT kvs mk ps' h' tk' gs' F' hps' (fun p hp => N' p (subm (by walk_at "sz") hp)) (fun p hp ne => ?_) (fun p hp q hq z => ?_) hd hT lo off ab
  ·have z := N p (.tail _ hp)
   exact ⟨(x _ _ (by simpa using ne) z.1).1 (by simpa using z.2.1), z.2⟩
  ·have h1 := (hM p hp).1
   rw [z, (N q (.tail _ hq)).1] at h1; cases h1
end
section
theorem lead_mem (v : Int) : leadS v ∈ leadT := by
 unfold leadS
 have h0 := Int.fmod_nonneg_of_pos v (b := 6) (by decide)
 have h1 := Int.fmod_lt_of_pos v (b := 6) (by decide)
 generalize (Int.fmod v 6) = k at h0 h1
 have : k.toNat < 6 := by lia
 generalize k.toNat = n at this
 rcases (by lia : n = 0 ∨ n = 1 ∨ n = 2 ∨ n = 3 ∨ n = 4 ∨ n = 5) with rfl | rfl | rfl | rfl | rfl | rfl <;> simp [leadT]
noncomputable def okB (x y : Str) : Bool :=
 decide (x.length ≤ 10) && x.cps.all (· < 128) && (wsC x).all (fun c => decide (0 ≤ c) && decide (c ≤ 50)) && decide (y.length ≤ 10) && (markS y).cps.all (· < 128) && (wsC (markS y)).all (fun c => decide (0 ≤ c) && decide (c ≤ 50)) &&
  decide ((markS y).cps[(markS y).cps.size - 1]? = some 126) && decide ((witS x (markS y) (wlenS x (markS y)).toNat).length ≤ 20) && (lookW x (markS y)).all (fun z => decide (0 ≤ z) && decide (z ≤ 20))
theorem okB_all : (leadT.all fun x => leadT.all fun y => okB x y) = true := by decide +kernel
noncomputable def evB (x y : Str) : Bool :=
 decide (0 < (runsS x y).length) && decide ((runsS x y).length ≤ 20) && decide ((uS x y).length ≤ 20) && (uS x y).all (fun z => decide (0 ≤ z) && decide (z ≤ 20)) && decide (Txt.count y tabS ≤ 20) && decide (0 ≤ Txt.count y tabS)
theorem evB_all : (leadT.all fun x => leadT.all fun y => evB x y) = true := by decide +kernel
theorem line_ok {x : Str} {l : Lin} (hx : x ∈ leadT) (hy : l.1 ∈ leadT) (n0 : 0 ≤ l.2.1) (n1 : l.2.1 ≤ 2) : LineOk x l := by
 have h := List.all_eq_true.mp (List.all_eq_true.mp okB_all x hx) l.1 hy
 unfold okB at h
 simp only [Bool.and_eq_true, decide_eq_true_eq, List.all_eq_true] at h
 obtain ⟨⟨⟨⟨⟨⟨⟨⟨a1, a2⟩, a3⟩, a4⟩, a5⟩, a6⟩, a7⟩, a8⟩, a9⟩ := h
 exact ⟨a1, a2, a3, a4, a5, a6, ⟨_, _, a7, by decide, by decide⟩, n0, n1, a8, a9⟩
theorem line_ev {x : Str} {l : Lin} (hx : x ∈ leadT) (hy : l.1 ∈ leadT) (n0 : 0 ≤ l.2.1) (n1 : l.2.1 ≤ 2) : LineEv x l ∧ Txt.count l.1 tabS ≤ 20 ∧ 0 ≤ Txt.count l.1 tabS := by
 have h := List.all_eq_true.mp (List.all_eq_true.mp evB_all x hx) l.1 hy
 unfold evB at h
 simp only [Bool.and_eq_true, decide_eq_true_eq, List.all_eq_true] at h
 obtain ⟨⟨⟨⟨⟨a1, a2⟩, a3⟩, a4⟩, a5⟩, a6⟩ := h
 have o := line_ok hx hy n0 n1
 exact ⟨⟨o.x1, o.y1, a1, a2, n0, n1, a3, a4⟩, a5, a6⟩
theorem entB_all : (leadT.all fun y => decide (0 ≤ wsNt (markS y)) && decide (wsNt (markS y) ≤ 20) && decide (0 ≤ wsN (markS y)) && decide (wsN (markS y) ≤ 20)) = true := by decide +kernel
theorem fileEnt_b1 {l : Lin} {c : Str} (hy : l.1 ∈ leadT) (n0 : 0 ≤ l.2.1) (n1 : l.2.1 ≤ 2) : EntB 1 (fileEnt l c) := by
 have h := List.all_eq_true.mp entB_all l.1 hy
 simp only [Bool.and_eq_true, decide_eq_true_eq] at h
 obtain ⟨⟨⟨a1, a2⟩, a3⟩, a4⟩ := h
 unfold fileEnt
 refine ⟨by dsimp only; lia, by dsimp only; lia, by dsimp only; lia, by dsimp only; lia, Nat.le_refl _, fun p hp => ?_, by walk_at "ms", by walk_at "ms"⟩
 rw [List.mem_singleton.mp hp]; exact Int.one_nonneg
theorem fileRow_b {x c : Str} : ∀ {ls : List Lin} {tb : List (Str × Ent)} {k : Nat}, (∀ l ∈ ls, l.1 ∈ leadT ∧ 0 ≤ l.2.1 ∧ l.2.1 ≤ 2) → TbB k tb → TbB (k + ls.length) (fileRow x c ls tb)
 | [], tb, k, _, h => h
 | l :: r, tb, k, hl, h => by
  have h1 : TbB (k + 1) (fileOne x c tb l) := by
   unfold fileOne
   split
   ·exact h.mono (Nat.le_succ _)
   ·have q := hl l (.head _)
    exact putT_b h (fileEnt_b1 q.1 q.2.1 q.2.2) (Nat.le_refl _)
  have := fileRow_b (fun l' hl' => hl l' (.tail _ hl')) h1 (x := x) (c := c) (ls := r)
  rw [List.length_cons, show k + (r.length + 1) = k + 1 + r.length by lia]
  exact this
theorem fileT_b {x0 x1 : Str} {ls : List Lin} (hl : ∀ l ∈ ls, l.1 ∈ leadT ∧ 0 ≤ l.2.1 ∧ l.2.1 ≤ 2) (hn : ls.length ≤ 11) : TbB 22 (fileT x0 x1 ls) := by
 have h0 : TbB 0 [] := ⟨Nat.le_refl _, fun p hp => nomatch hp⟩
 exact (fileRow_b hl (fileRow_b hl h0)).mono (by lia)
end
section
theorem evRow_b {x c : Str} (hx : x ∈ leadT) : ∀ {ls : List Lin} {acc : List Ev}, (∀ l ∈ ls, l.1 ∈ leadT ∧ 0 ≤ l.2.1 ∧ l.2.1 ≤ 2) → (∀ e ∈ acc, EvB e) → (∀ e ∈ evRow x c ls acc, EvB e) ∧ (evRow x c ls acc).length ≤ acc.length + ls.length
 | [], acc, _, h => ⟨h, Nat.le_refl _⟩
 | l :: r, acc, hl, h => by
  have q := hl l (.head _)
  obtain ⟨a1, a2, a3⟩ := line_ev hx q.1 q.2.1 q.2.2
  have h1 : (∀ e ∈ evOne x c acc l, EvB e) ∧ (evOne x c acc l).length ≤ acc.length + 1 := by
   unfold evOne
   split
   ·exact ⟨h, Nat.le_succ _⟩
   ·refine ⟨fun e he => ?_, by walk_at "ms"⟩
    rcases List.mem_append.mp he with z | z
    ·exact h e z
    ·rw [List.mem_singleton.mp z]
     have hy := a1.y1
     exact ⟨q.2.1, q.2.2, a3, a2, by show (0 : Int) ≤ (l.1.length : Int); lia, by show (l.1.length : Int) ≤ 20; lia⟩
  obtain ⟨r1, r2⟩ := evRow_b hx (fun l' hl' => hl l' (.tail _ hl')) h1.1 (c := c) (ls := r)
  refine ⟨r1, ?_⟩
  have := h1.2
  rw [List.length_cons]
  refine Nat.le_trans r2 ?_
  lia
theorem evJ_b {x0 x1 : Str} {ls : List Lin} (hx0 : x0 ∈ leadT) (hx1 : x1 ∈ leadT) (hl : ∀ l ∈ ls, l.1 ∈ leadT ∧ 0 ≤ l.2.1 ∧ l.2.1 ≤ 2) (hn : ls.length ≤ 11) : (∀ e ∈ evJ x0 x1 ls 2, EvB e) ∧ (evJ x0 x1 ls 2).length ≤ 22 := by
 obtain ⟨a1, a2⟩ := evRow_b hx0 hl (fun e he => nomatch he) (c := nannyC 0) (acc := [])
 obtain ⟨b1, b2⟩ := evRow_b hx1 hl a1 (c := nannyC 1)
 refine ⟨b1, Nat.le_trans b2 ?_⟩
 rw [List.length_nil] at a2
 lia
end
section
set_option maxRecDepth 100000
noncomputable def finB (x y : Str) : Bool := (eqS x (markS y) == decide (uS x y = [])) && (eqS x (markS y) || [0, 1, 2].all fun n => [true, false].all fun d => fileName x (y, n, d) == nameS y n d (uS x y))
noncomputable def unlL : List (List Int) := [[1], [1, 2], [1, 2, 3], [1, 2, 3, 4], [1, 3], [1, 4]]
theorem finB_1 : (leadT.all fun x => leadT.all fun y => (eqS x (markS y) == decide (uS x y = [])) && (eqS x (markS y) || lookW x (markS y) == uS x y && unlL.contains (uS x y))) = true := by decide +kernel
theorem finB_0 : (unlL.all fun L => [true, false].all fun d => stdS (markS (Str.ofString "")) 0 (dressS d (wordsS L)) == nameS (Str.ofString "") 0 d L) = true := by decide +kernel
theorem mark_ne : (leadT.all fun y => markS y == Str.ofString "~" → y == Str.ofString "") = true := by decide +kernel
theorem std_name {y : Str} (hy : y ∈ leadT) (n : Int) (d : Bool) {L : List Int} (hL : L ∈ unlL) : stdS (markS y) n (dressS d (wordsS L)) = nameS y n d L := by
 by_cases h : y = Str.ofString "" ∧ n = 0
 ·obtain ⟨rfl, rfl⟩ := h
  have q := List.all_eq_true.mp (List.all_eq_true.mp finB_0 L hL) d (by cases d <;> simp)
  exact beq_iff_eq.mp q
 ·have hm := of_decide_eq_true (List.all_eq_true.mp mark_ne y hy)
  unfold stdS nameS
  rw [if_neg h, if_neg fun q => h (by
   rw [Bool.and_eq_true] at q
   exact ⟨beq_iff_eq.mp (hm q.1), beq_iff_eq.mp q.2⟩)]
  unfold markS
  rw [Str.append_assoc y]
  rfl
theorem finB_all : (leadT.all fun x => leadT.all fun y => finB x y) = true := by
 refine List.all_eq_true.mpr fun x hx => List.all_eq_true.mpr fun y hy => ?_
 have h1 := List.all_eq_true.mp (List.all_eq_true.mp finB_1 x hx) y hy
 rw [Bool.and_eq_true] at h1
 unfold finB
 rw [h1.1, Bool.true_and]
 have h2 := h1.2
 cases he : eqS x (markS y) with
 | true => rfl
 | false =>
  rw [he, Bool.false_or, Bool.and_eq_true] at h2
  rw [Bool.false_or]
  refine List.all_eq_true.mpr fun n _ => List.all_eq_true.mpr fun d _ => beq_iff_eq.mpr ?_
  show stdS (markS y) n (dressS d (wordsS (lookW x (markS y)))) = nameS y n d (uS x y)
  rw [beq_iff_eq.mp h2.1]
  exact std_name hy n d (List.contains_iff_mem.mp h2.2)
theorem finY : (leadT.all fun y => (wsNt (markS y) == (Txt.count y tabS : Int)) && (wsN (markS y) == (y.length : Int))) = true := by decide +kernel
theorem caller0 : callerS 0 = nannyC 0 := by decide +kernel
theorem caller1 : callerS 1 = nannyC 1 := by decide +kernel
noncomputable def oneE (e : Ev) : Ent := ⟨1, e.n, e.t, e.u, [(e.c, 1)]⟩
noncomputable def filedE (tb : List (Str × Ent)) (es : List Ev) : List (Str × Ent) := es.foldl (fun tb e => putT tb e.nm (oneE e)) tb
theorem one_ev {x c : Str} {l : Lin} (hx : x ∈ leadT) (hy : l.1 ∈ leadT) (n0 : 0 ≤ l.2.1) (n1 : l.2.1 ≤ 2) (tb : List (Str × Ent)) (acc : List Ev) :
  ∃ es, evOne x c acc l = acc ++ es ∧ fileOne x c tb l = filedE tb es := by
 have h := List.all_eq_true.mp (List.all_eq_true.mp finB_all x hx) l.1 hy
 have h2 := List.all_eq_true.mp finY l.1 hy
 unfold finB at h
 simp only [Bool.and_eq_true, beq_iff_eq] at h h2
 unfold evOne fileOne
 by_cases q : uS x l.1 = []
 ·have e : eqS x (markS l.1) = true := by rw [h.1]; exact decide_eq_true q
  rw [if_pos q, if_pos e]
  exact ⟨[], by walk_at "ms", rfl⟩
 ·have e : eqS x (markS l.1) = false := by rw [h.1]; exact decide_eq_false q
  rw [if_neg q, if_neg (by rw [e]; exact Bool.false_ne_true)]
  refine ⟨[evOf c l (uS x l.1)], rfl, ?_⟩
  have h3 := h.2
  rw [e, Bool.false_or] at h3
  have h4 : fileName x l = nameS l.1 l.2.1 l.2.2 (uS x l.1) := by
   obtain ⟨y, n, d⟩ := l
   dsimp only at *
   have hn : n ∈ [0, 1, 2] := by
    rcases (by lia : n = 0 ∨ n = 1 ∨ n = 2) with rfl | rfl | rfl <;> simp
   have := List.all_eq_true.mp (List.all_eq_true.mp h3 n hn) d (by cases d <;> simp)
   exact eq_of_beq this
  show putT tb _ _ = putT tb _ _
  unfold fileEnt oneE evOf
  rw [h4, h2.1, h2.2]
theorem row_ev {x c : Str} (hx : x ∈ leadT) : ∀ {ls : List Lin}, (∀ l ∈ ls, l.1 ∈ leadT ∧ 0 ≤ l.2.1 ∧ l.2.1 ≤ 2) → ∀ (tb : List (Str × Ent)) (acc : List Ev), ∃ es, evRow x c ls acc = acc ++ es ∧ fileRow x c ls tb = filedE tb es
 | [], _, tb, acc => ⟨[], by simp [evRow], rfl⟩
 | l :: r, hl, tb, acc => by
  have q := hl l (.head _)
  obtain ⟨e1, a1, a2⟩ := one_ev (c := c) hx q.1 q.2.1 q.2.2 tb acc
  obtain ⟨e2, b1, b2⟩ := row_ev hx (fun l' h' => hl l' (.tail _ h')) (fileOne x c tb l) (evOne x c acc l) (c := c)
  refine ⟨e1 ++ e2, ?_, ?_⟩
  ·show evRow x c r (evOne x c acc l) = _
   rw [b1, a1, List.append_assoc]
  ·show fileRow x c r (fileOne x c tb l) = _
   rw [b2, a2]
   unfold filedE
   rw [List.foldl_append]
theorem fileT_ev {x0 x1 : Str} {ls : List Lin} (h0 : x0 ∈ leadT) (h1 : x1 ∈ leadT) (hl : ∀ l ∈ ls, l.1 ∈ leadT ∧ 0 ≤ l.2.1 ∧ l.2.1 ≤ 2) : fileT x0 x1 ls = filedE [] (evJ x0 x1 ls 2) := by
 obtain ⟨e1, a1, a2⟩ := row_ev (c := nannyC 0) h0 hl [] []
 obtain ⟨e2, b1, b2⟩ := row_ev (c := nannyC 1) h1 hl (filedE [] e1) e1
 have e : evJ x0 x1 ls 2 = e1 ++ e2 := by
  show evRow x1 (nannyC 1) ls (evRow x0 (nannyC 0) ls []) = _
  rw [a1, List.nil_append, b1]
 rw [e]
 unfold fileT
 rw [caller0, caller1, a2, b2]
 unfold filedE
 rw [List.foldl_append]
end
section
noncomputable def insK (L : List Str) (k : Str) : List Str := if k ∈ L then L else L ++ [k]
noncomputable def fsts (l : List Str) : List Str := l.foldl insK []
theorem mem_insK {L : List Str} {k j : Str} : j ∈ insK L k ↔ j ∈ L ∨ j = k := by
 unfold insK
 split
 ·exact ⟨.inl, fun h => h.elim id fun z => by rw [z]; assumption⟩
 ·rw [List.mem_append, List.mem_singleton]
theorem nodup_insK {L : List Str} {k : Str} (h : L.Nodup) : (insK L k).Nodup := by
 unfold insK
 split
 ·exact h
 ·rename_i hn
  rw [List.nodup_append]
  refine ⟨h, by walk_at "ms", fun a ha b hb z => hn ?_⟩
  rw [List.mem_singleton.mp hb] at z
  rw [← z]; exact ha
theorem mem_foldK : ∀ (l L : List Str) (j : Str), j ∈ l.foldl insK L ↔ j ∈ L ∨ j ∈ l
 | [], L, j => by walk_at "ms"
 | k :: r, L, j => by
  rw [List.foldl_cons, mem_foldK r, mem_insK, List.mem_cons, or_assoc]
theorem nodup_foldK : ∀ (l : List Str) {L : List Str}, L.Nodup → (l.foldl insK L).Nodup
 | [], _, h => h
 | k :: r, _, h => nodup_foldK r (nodup_insK h)
theorem fold_ins (M L : List Str) (k : Str) : (insK M k).foldl insK L = insK (M.foldl insK L) k := by
 by_cases h : k ∈ M
 ·have e : insK M k = M := if_pos h
  have e2 : insK (M.foldl insK L) k = M.foldl insK L := if_pos ((mem_foldK M L k).mpr (.inr h))
  rw [e, e2]
 ·have e : insK M k = M ++ [k] := if_neg h
  rw [e, List.foldl_append]; rfl
theorem fold_fold : ∀ (l M L : List Str), (l.foldl insK M).foldl insK L = l.foldl insK (M.foldl insK L)
 | [], _, _ => rfl
 | k :: r, M, L => by
  rw [List.foldl_cons, List.foldl_cons, fold_fold r, fold_ins]
theorem fsts_app (a b : List Str) : fsts (a ++ b) = (fsts b).foldl insK (fsts a) := by
 unfold fsts
 rw [List.foldl_append, fold_fold]; rfl
theorem nodup_fsts (l : List Str) : (fsts l).Nodup := nodup_foldK l List.nodup_nil
theorem mem_fsts {l : List Str} {j : Str} : j ∈ fsts l ↔ j ∈ l := by
 unfold fsts; rw [mem_foldK]; simp
theorem any_map {V : Type} (L : List Str) (F : Str → V) (k : Str) : (L.map fun j => (j, F j)).any (fun p => decide (p.1 = k)) = decide (k ∈ L) := by
 rw [List.any_map]
 induction L with
 | nil => rfl
 | cons a r ih =>
  rw [List.any_cons, ih]
  by_cases h : a = k
  ·simp [h]
  ·have : ¬ k = a := fun z => h z.symm
   simp [h, this]
section
variable {V : Type} (put : List (Str × V) → Str → V → List (Str × V)) (add : V → V → V) (zero : V)
 (hput : ∀ tb k v, put tb k v = if tb.any (fun p => decide (p.1 = k)) then tb.map (fun p => if p.1 = k then (p.1, add p.2 v) else p) else tb ++ [(k, add zero v)])
include hput
theorem put_one (L : List Str) (F : Str → V) (hz : ∀ j, j ∉ L → F j = zero) (k : Str) (v : V) :
  put (L.map fun j => (j, F j)) k v = (insK L k).map fun j => (j, if j = k then add (F k) v else F j) := by
 rw [hput, any_map]
 by_cases h : k ∈ L
 ·rw [decide_eq_true h, if_pos rfl, insK, if_pos h, List.map_map]
  refine List.map_congr_left fun j _ => ?_
  simp only [Function.comp]
  split
  ·rename_i e; rw [e]
  ·rfl
 ·rw [decide_eq_false h, if_neg Bool.false_ne_true, insK, if_neg h, List.map_append]
  congr 1
  ·refine List.map_congr_left fun j hj => ?_
   rw [if_neg fun z : j = k => h (z ▸ hj)]
  ·simp only [List.map_cons, List.map_nil, if_true, hz k h]
theorem put_all (g : Str → V) : ∀ (ks L : List Str) (F : Str → V), (∀ j, j ∉ L → F j = zero) → ks.Nodup →
  (ks.map fun k => (k, g k)).foldl (fun acc p => put acc p.1 p.2) (L.map fun j => (j, F j)) = (ks.foldl insK L).map fun j => (j, if j ∈ ks then add (F j) (g j) else F j)
 | [], L, F, _, _ => by walk_at "ms"
 | k :: r, L, F, hz, hn => by
  rw [List.nodup_cons] at hn
  rw [List.map_cons, List.foldl_cons, List.foldl_cons]
  rw [put_one put add zero hput L F hz k (g k)]
  rw [put_all g r (insK L k) (fun j => if j = k then add (F k) (g k) else F j) (fun j hj => ?_) hn.2]
  ·refine List.map_congr_left fun j _ => ?_
   by_cases e : j = k
   ·subst e
    simp [hn.1]
   ·simp [e]
  ·have h := fun z => hj (mem_insK.mpr z)
   rw [if_neg fun z => h (.inr z)]
   exact hz j fun z => h (.inl z)
end
theorem putC_gen (tb : List (Str × Int)) (k : Str) (v : Int) : putC tb k v = if tb.any (fun p => decide (p.1 = k)) then tb.map (fun p => if p.1 = k then (p.1, p.2 + v) else p) else tb ++ [(k, 0 + v)] := by
 rw [Int.zero_add]; rfl
theorem setC_fold (me : List Ev) : ∀ (ms : List Ev) (L : List Str), ms.foldl (fun cs e => setC cs e.c (cntE me e.c)) (L.map fun j => (j, cntE me j)) = ((ms.map (·.c)).foldl insK L).map fun j => (j, cntE me j)
 | [], L => rfl
 | e :: r, L => by
  rw [List.foldl_cons, List.map_cons, List.foldl_cons]
  rw [← setC_fold me r (insK L e.c)]
  congr 1
  unfold setC
  rw [any_map]
  by_cases h : e.c ∈ L
  ·rw [decide_eq_true h, if_pos rfl, insK, if_pos h, List.map_map]
   refine List.map_congr_left fun j _ => ?_
   simp only [Function.comp]
   split
   ·rename_i z; rw [z]
   ·rfl
  ·rw [decide_eq_false h, if_neg Bool.false_ne_true, insK, if_neg h, List.map_append]; rfl
theorem callers_can (me ms : List Ev) : callersE me ms = (fsts (ms.map (·.c))).map fun j => (j, cntE me j) := setC_fold me ms []
theorem cnt_off {me : List Ev} {j : Str} (h : j ∉ fsts (me.map (·.c))) : cntE me j = 0 := by
 have : me.filter (fun e => e.c == j) = [] := by
  rw [List.filter_eq_nil_iff]
  intro e he z
  exact h (mem_fsts.mpr (List.mem_map.mpr ⟨e, he, eq_of_beq z⟩))
 unfold cntE; rw [this]; rfl
theorem cnt_app (a b : List Ev) (j : Str) : cntE (a ++ b) j = cntE a j + cntE b j := by
 unfold cntE; rw [List.filter_append, List.length_append]; exact Int.natCast_add _ _
theorem addC_can (a b : List Ev) : addC (callersE a a) (callersE b b) = callersE (a ++ b) (a ++ b) := by
 rw [callers_can, callers_can, callers_can]
 show (((fsts (b.map (·.c))).map fun j => (j, cntE b j)).foldl (fun acc p => putC acc p.1 p.2) ((fsts (a.map (·.c))).map fun j => (j, cntE a j))) = _
 rw [put_all putC (· + ·) 0 putC_gen (cntE b) _ _ (cntE a) (fun j => cnt_off) (nodup_fsts _), List.map_append, fsts_app]
 refine List.map_congr_left fun j _ => ?_
 split
 ·rw [cnt_app]
 ·rename_i h; rw [cnt_app, cnt_off h, Int.add_zero]
theorem sumK_app (a b : List Ev) (i : Nat) : sumK (a ++ b) i = sumK b i + sumK a i := by
 unfold sumK; rw [List.map_append, List.sum_append, Int.add_comm]
theorem addE_can (a b : List Ev) : addE (entE a) (entE b) = entE (a ++ b) := by
 unfold addE entE
 dsimp only
 rw [addC_can, sumK_app, sumK_app, sumK_app, List.length_append, Int.natCast_add, Int.add_comm (b.length : Int)]
theorem putT_gen (tb : List (Str × Ent)) (k : Str) (v : Ent) : putT tb k v = if tb.any (fun p => decide (p.1 = k)) then tb.map (fun p => if p.1 = k then (p.1, addE p.2 v) else p) else tb ++ [(k, addE zeroE v)] := rfl
noncomputable def tabE (es : List Ev) : List (Str × Ent) := (fsts (es.map (·.nm))).map fun k => (k, entE (mineE es k))
theorem mine_off {es : List Ev} {k : Str} (h : k ∉ fsts (es.map (·.nm))) : mineE es k = [] := by
 unfold mineE
 rw [List.filter_eq_nil_iff]
 intro e he z
 exact h (mem_fsts.mpr (List.mem_map.mpr ⟨e, he, eq_of_beq z⟩))
theorem mine_app (a b : List Ev) (k : Str) : mineE (a ++ b) k = mineE a k ++ mineE b k := List.filter_append ..
theorem putAll_can (a b : List Ev) : putAll (tabE a) (tabE b) = tabE (a ++ b) := by
 show ((fsts (b.map (·.nm))).map fun k => (k, entE (mineE b k))).foldl (fun acc p => putT acc p.1 p.2) ((fsts (a.map (·.nm))).map fun k => (k, entE (mineE a k))) = _
 rw [put_all putT addE zeroE putT_gen (fun k => entE (mineE b k)) _ _ (fun k => entE (mineE a k)) (fun j hj => by rw [mine_off hj]; rfl) (nodup_fsts _)]
 unfold tabE
 rw [List.map_append, fsts_app]
 refine List.map_congr_left fun j _ => ?_
 split
 ·rw [addE_can, mine_app]
 ·rename_i h; rw [mine_app, mine_off h, List.append_nil]
theorem tab_one (e : Ev) : tabE [e] = [(e.nm, oneE e)] := by
 have h1 : fsts ([e].map (·.nm)) = [e.nm] := rfl
 have h2 : mineE [e] e.nm = [e] := by unfold mineE; simp
 unfold tabE
 rw [h1, List.map_cons, List.map_nil, h2]
 have h3 : callersE [e] [e] = [(e.c, 1)] := by
  rw [callers_can]
  have h4 : fsts ([e].map (·.c)) = [e.c] := rfl
  have h5 : cntE [e] e.c = 1 := by unfold cntE; simp
  rw [h4, List.map_cons, List.map_nil, h5]
 unfold entE oneE
 rw [h3]
 simp [sumK, fldE]
theorem filed_can : ∀ (b a : List Ev), filedE (tabE a) b = tabE (a ++ b)
 | [], a => by rw [List.append_nil]; rfl
 | e :: r, a => by
  have h : putT (tabE a) e.nm (oneE e) = tabE (a ++ [e]) := by
   rw [← putAll_can, tab_one]; rfl
  show filedE (putT (tabE a) e.nm (oneE e)) r = _
  rw [h, filed_can r, List.append_assoc]; rfl
theorem due_fold (es : List Ev) : ∀ (ms : List Ev) (L : List Str), ms.foldl (dueStep es) (L.map fun k => (k, entE (mineE es k))) = ((ms.map (·.nm)).foldl insK L).map fun k => (k, entE (mineE es k))
 | [], L => rfl
 | e :: r, L => by
  rw [List.foldl_cons, List.map_cons, List.foldl_cons, ← due_fold es r (insK L e.nm)]
  congr 1
  unfold dueStep
  rw [any_map]
  by_cases h : e.nm ∈ L
  ·rw [decide_eq_true h, if_pos rfl, insK, if_pos h]
  ·rw [decide_eq_false h, if_neg Bool.false_ne_true, insK, if_neg h, List.map_append]; rfl
theorem due_can (es : List Ev) : dueE es es = tabE es := due_fold es es []
theorem merge_can (a b : List Ev) : mergeT (filedE [] a) (filedE [] b) = dueE (a ++ b) (a ++ b) := by
 have h0 : ∀ x : List Ev, filedE [] x = tabE x := fun x => filed_can x []
 rw [h0, h0, due_can]
 show putAll (putAll (tabE []) (tabE a)) (tabE b) = _
 rw [putAll_can, putAll_can]; rfl
end
section
theorem plain_tables {x0 x1 : Str} {l1 l2 : List Lin} (h0 : x0 ∈ leadT) (h1 : x1 ∈ leadT) (k1 : ∀ l ∈ l1, l.1 ∈ leadT ∧ 0 ≤ l.2.1 ∧ l.2.1 ≤ 2) (k2 : ∀ l ∈ l2, l.1 ∈ leadT ∧ 0 ≤ l.2.1 ∧ l.2.1 ≤ 2) :
  mergeT (fileT x0 x1 l1) (fileT x0 x1 l2) = dueE (evJ x0 x1 l1 2 ++ evJ x0 x1 l2 2) (evJ x0 x1 l1 2 ++ evJ x0 x1 l2 2) := by
 rw [fileT_ev h0 h1 k1, fileT_ev h0 h1 k2]
 exact merge_can _ _
end
section
theorem due_ent {es : List Ev} : ∀ (ms : List Ev) (acc : List (Str × Ent)), (∀ p ∈ acc, p.2 = entE (mineE es p.1)) → ∀ p ∈ ms.foldl (dueStep es) acc, p.2 = entE (mineE es p.1)
 | [], acc, h => h
 | e :: r, acc, h => by
  rw [List.foldl_cons]
  refine due_ent r _ fun p hp => ?_
  unfold dueStep at hp
  split at hp
  ·exact h p hp
  ·rcases List.mem_append.mp hp with q | q
   ·exact h p q
   ·rw [List.mem_singleton.mp q]
theorem due_ent' {es ms : List Ev} {p : Str × Ent} (h : p ∈ dueE es ms) : p.2 = entE (mineE es p.1) := due_ent ms [] (fun _ h => nomatch h) p h
theorem due_cs {es ms : List Ev} {p : Str × Ent} (h : p ∈ dueE es ms) : p.2.cs.length ≤ es.length := by
 rw [due_ent' h]
 have h1 := callers_len (mineE es p.1) (mineE es p.1) []
 have h2 := List.length_filter_le (fun e : Ev => e.nm == p.1) es
 have : (entE (mineE es p.1)).cs.length ≤ (mineE es p.1).length := by simpa [entE, callersE] using h1
 exact Nat.le_trans this h2
theorem filter_or {α : Type} : ∀ (l : List α) (f g : α → Bool), (∀ e, f e = true → g e = true → False) → (l.filter f).length + (l.filter g).length = (l.filter fun e => f e || g e).length
 | [], _, _, _ => rfl
 | e :: l, f, g, h => by
  have ih := filter_or l f g h
  simp only [List.filter_cons]
  cases hf : f e <;> cases hg : g e
  ·simpa using ih
  ·simp only [Bool.false_or, Bool.false_eq_true, if_false, if_true, List.length_cons]; lia
  ·simp only [Bool.or_false, Bool.false_eq_true, if_false, if_true, List.length_cons]; lia
  ·exact (h e hf hg).elim
theorem sum_cnt (me : List Ev) : ∀ (cs : List (Str × Int)), (cs.map (·.1)).Nodup → (∀ p ∈ cs, p.2 = cntE me p.1) → (cs.map (·.2)).sum = ((me.filter fun e => cs.any fun p => decide (p.1 = e.c)).length : Int)
 | [], _, _ => by
  show (0 : Int) = ((me.filter fun _ => false).length : Int)
  rw [List.filter_eq_nil_iff.mpr (fun _ _ => by walk_at "ms")]; rfl
 | q :: r, hn, hv => by
  rw [List.map_cons, List.nodup_cons] at hn
  rw [List.map_cons, List.sum_cons, sum_cnt me r hn.2 (fun p hp => hv p (.tail _ hp)), hv q (.head _)]
  unfold cntE
  have hd : ∀ e : Ev, (e.c == q.1) = true → (r.any fun p => decide (p.1 = e.c)) = true → False := fun e h1 h2 => by
   obtain ⟨p, hp, z⟩ := List.any_eq_true.mp h2
   exact hn.1 (List.mem_map.mpr ⟨p, hp, (of_decide_eq_true z).trans (eq_of_beq h1)⟩)
  have := filter_or me (fun e => e.c == q.1) (fun e => r.any fun p => decide (p.1 = e.c)) hd
  have e2 : (fun e : Ev => (q :: r).any fun p => decide (p.1 = e.c)) = fun e => (e.c == q.1) || (r.any fun p => decide (p.1 = e.c)) := by
   funext e
   rw [List.any_cons]
   congr 1
   by_cases z : q.1 = e.c
   ·rw [z]; simp
   ·simp only [z, decide_false]
    exact (beq_eq_false_iff_ne.mpr fun y => z y.symm).symm
  rw [e2]
  lia
theorem setC_keys (cs : List (Str × Int)) (k : Str) (n : Int) (hn : (cs.map (·.1)).Nodup) : ((setC cs k n).map (·.1)).Nodup ∧ (∀ x, x ∈ (setC cs k n).map (·.1) ↔ x ∈ cs.map (·.1) ∨ x = k) := by
 unfold setC
 split
 ·rename_i ha
  have e : (cs.map fun p => if p.1 = k then (p.1, n) else p).map (·.1) = cs.map (·.1) := by
   rw [List.map_map]
   refine List.map_congr_left fun p _ => ?_
   simp only [Function.comp]
   split <;> rfl
  rw [e]
  refine ⟨hn, fun x => ⟨.inl, fun h => h.elim id fun z => ?_⟩⟩
  rw [List.any_eq_true] at ha
  obtain ⟨p, hp, hk⟩ := ha
  rw [z, ← of_decide_eq_true hk]
  exact List.mem_map.mpr ⟨p, hp, rfl⟩
 ·rename_i ha
  have ha' : k ∉ cs.map (·.1) := fun z => by
   obtain ⟨p, hp, e⟩ := List.mem_map.mp z
   exact ha (List.any_eq_true.mpr ⟨p, hp, decide_eq_true e⟩)
  rw [List.map_append]
  refine ⟨?_, fun x => by walk_at "ms"⟩
  rw [List.nodup_append]
  refine ⟨hn, by walk_at "ms", fun a ha b hb => ?_⟩
  simp only [List.map_cons, List.map_nil, List.mem_singleton] at hb
  exact fun z => ha' (hb ▸ z ▸ ha)
theorem setC_val {me : List Ev} {cs : List (Str × Int)} {k : Str} (h : ∀ p ∈ cs, p.2 = cntE me p.1) : ∀ p ∈ setC cs k (cntE me k), p.2 = cntE me p.1 := by
 intro p hp
 unfold setC at hp
 split at hp
 ·obtain ⟨q, hq, rfl⟩ := List.mem_map.mp hp
  split
  ·rename_i z; rw [z]
  ·exact h q hq
 ·rcases List.mem_append.mp hp with q | q
  ·exact h p q
  ·rw [List.mem_singleton.mp q]
theorem callers_inv (me : List Ev) : ∀ (ms : List Ev) (acc : List (Str × Int)), (acc.map (·.1)).Nodup → (∀ p ∈ acc, p.2 = cntE me p.1) →
  ((ms.foldl (fun cs e => setC cs e.c (cntE me e.c)) acc).map (·.1)).Nodup ∧ (∀ p ∈ ms.foldl (fun cs e => setC cs e.c (cntE me e.c)) acc, p.2 = cntE me p.1) ∧
  (∀ x, x ∈ (ms.foldl (fun cs e => setC cs e.c (cntE me e.c)) acc).map (·.1) ↔ x ∈ acc.map (·.1) ∨ x ∈ ms.map (·.c))
 | [], acc, hn, hv => ⟨hn, hv, fun x => by walk_at "ms"⟩
 | e :: r, acc, hn, hv => by
  rw [List.foldl_cons]
  have hk := setC_keys acc e.c (cntE me e.c) hn
  obtain ⟨a, b, c⟩ := callers_inv me r (setC acc e.c (cntE me e.c)) hk.1 (setC_val hv)
  refine ⟨a, b, fun x => ?_⟩
  rw [c x, hk.2 x, List.map_cons, List.mem_cons]
  constructor <;> intro h <;> rcases h with h | h <;> simp_all
  ·rcases h with h | h <;> simp [h]
  ·rcases h with h | h <;> simp [h]
theorem calls_sum (me : List Ev) : ((callersE me me).map (·.2)).sum = (me.length : Int) := by
 obtain ⟨a, b, c⟩ := callers_inv me me [] (by walk_at "ms") (fun _ h => nomatch h)
 have := sum_cnt me (callersE me me) a b
 rw [this]
 have e : me.filter (fun e => (callersE me me).any fun p => decide (p.1 = e.c)) = me := by
  rw [List.filter_eq_self]
  intro e he
  have := (c e.c).mpr (.inr (List.mem_map.mpr ⟨e, he, rfl⟩))
  obtain ⟨p, hp, z⟩ := List.mem_map.mp this
  exact List.any_eq_true.mpr ⟨p, hp, decide_eq_true z⟩
 rw [e]
theorem due_sum {es ms : List Ev} {p : Str × Ent} (h : p ∈ dueE es ms) : (p.2.cs.map (·.2)).sum = p.2.c := by
 rw [due_ent' h]; exact calls_sum _
theorem cnt_b {me : List Ev} {k : Str} : 0 ≤ cntE me k ∧ cntE me k ≤ me.length := by
 unfold cntE
 have := List.length_filter_le (fun e : Ev => e.c == k) me
 lia
theorem due_cb {es ms : List Ev} {p : Str × Ent} (h : p ∈ dueE es ms) : ∀ q ∈ p.2.cs, 0 ≤ q.2 ∧ q.2 ≤ (es.length : Int) := fun q hq => by
 rw [due_ent' h] at hq
 obtain ⟨a, b, c⟩ := callers_inv (mineE es p.1) (mineE es p.1) [] (by walk_at "ms") (fun _ h => nomatch h)
 have h1 := b q hq
 have h2 := cnt_b (me := mineE es p.1) (k := q.1)
 have h3 := List.length_filter_le (fun e : Ev => e.nm == p.1) es
 have : (mineE es p.1).length ≤ es.length := h3
 lia
end
section
open PySem.AutoSeq1 (wpAny_loadPart')
open PySem.MeetsSeq PySem.MeetsSeq2 PySem.MeetsSeq3 PySem.SeqRoads2
set_option maxRecDepth 100000
noncomputable def EqP (prog : Program) (w : World) (A : Around) (s : Shared) (y x : Value) : Prop := ∀ (E : Value → Shared → Prop) (Q : Bool → Shared → Prop), Q true s → wpAny (model prog w) A (eqBool y x) Q E s
section
variable {prog : Program} {w : World} {A : Around} {s : Shared} {E : Value → Shared → Prop}
theorem EqP.of {y x : Value} (h : SeqAt.EqAt A s y x true) : EqP prog w A s y x := fun E Q hq => h prog w E Q hq
theorem EqP.refs {l b : Addr} (h : ∀ (E : Value → Shared → Prop) (Q : Value → Shared → Prop), Q (.bool true) s → wpAny (model prog w) A (richCompare .Eq (.ref l) (.ref b)) Q E s) : EqP prog w A s (.ref l) (.ref b) := fun E Q hq => by
 by_cases hne : l = b
 ·subst hne
  exact SeqAt.EqAt.same _ prog w E Q hq
 ·unfold eqBool
  refine wpAny_holding ?_
  refine wpAny_ite_split (fun hab => absurd (by have := eq_of_beq hab; injection this) hne) (fun _ => ?_)
  exact wpAny_bind (h E _ (wpAny_truthy_bool hq))
theorem tuple_eqP (l b : Addr) (items items2 : Array Value) (n n2 : Nat) (dd dd2 : Option Addr) (sl sl2 : Array (Option Value)) :
  MeetsIn prog w (Builtin.«tuple.__eq__» ⟨[.ref l, .ref b], []⟩)
   (fun A R s => s.heap.get? l = some { cls := .type "tuple", dict := dd, data := .seq items n, slots := sl } ∧ s.heap.get? b = some { cls := .type "tuple", dict := dd2, data := .seq items2 n2, slots := sl2 } ∧ items.size = items2.size ∧
    (∀ j (h1 : j < items.size) (h2 : j < items2.size), EqP prog w A.in1 s items[j] items2[j]) ∧ R (.ok (.ret (.bool true))) s) :=
 .of_wp fun A R s h => by
  obtain ⟨hp, g, d, tk, os⟩ := s; obtain ⟨hl, hb, hse, he, h⟩ := h
  have f2 := AutoSeq1.sub_tuple_tuple
  have hZ : (items.toList.zip items2.toList).length = items.size := by simp [hse]
  wp_walk using wpAny_loadPart' hl, wpAny_loadPart' hb, wpAny_forIn_list _ (fun rest b s' => b.1 = none ∧ s' = ⟨hp, g, d, tk, os⟩ ∧ ∃ i, rest = (items.toList.zip items2.toList).drop i) _
  case turn =>
   rintro ⟨y, x⟩ rest b s' ⟨hb', rfl, i, hz⟩
   have hlt : i < (items.toList.zip items2.toList).length := by
    rcases Nat.lt_or_ge i (items.toList.zip items2.toList).length with h' | h'
    ·exact h'
    ·rw [List.drop_of_length_le h'] at hz; cases hz
   have h1 : i < items.size := hZ ▸ hlt
   have h2 : i < items2.size := hse ▸ h1
   rw [List.drop_eq_getElem_cons hlt] at hz
   injection hz with hyx hrest
   have hy : y = items[i] := by have := congrArg Prod.fst hyx; simpa using this
   have hx : x = items2[i] := by have := congrArg Prod.snd hyx; simpa using this
   subst hy hx
   refine wpAny_bind (he i h1 h2 _ _ ?_)
   wp_walk
   exact ⟨rfl, rfl, i + 1, hrest⟩
  case fin =>
   rintro ⟨b1, b2⟩ s' ⟨hb', rfl, i, hz⟩
   simp only at hb'
   subst hb'
   wp_walk
   exact ⟨_, rfl, by simpa [Builtin.Tuple.tupleCompareSizes, hse] using h⟩
  case h =>
   exact ⟨rfl, rfl, 0, rfl⟩
theorem EqP.tuples {l b : Addr} {items items2 : Array Value} (hl : s.heap.IsTuple l items) (hb : s.heap.IsTuple b items2) (hse : items.size = items2.size) (hu : A.units < cLine)
  (he : ∀ j (h1 : j < items.size) (h2 : j < items2.size), EqP prog w A.in1 s items[j] items2[j]) : EqP prog w A s (.ref l) (.ref b) := EqP.refs fun E Q hq => by
 obtain ⟨⟨cls, dd, data, sl⟩, ho, hc, n, hd⟩ := id hl
 obtain ⟨⟨cls2, dd2, data2, sl2⟩, ho2, hc2, n2, hd2⟩ := id hb
 simp only at hc hd hc2 hd2
 subst hc hd hc2 hd2
 refine wpAny_richCompare_same_room (op := .Eq) ⟨_, ho, rfl⟩ ⟨_, ho2, rfl⟩ F.slot_tuple_eq (call_meetsIn F.slot_tuple_eq ⟨_, ho, rfl⟩ F.entry_tuple_eq (F.args_tuple_eq_2 _ _) (tuple_eqP l b items items2 n n2 dd dd2 sl sl2) ⟨ho, ho2, hse, he, ?_⟩) hu
 exact ⟨(fun x => nomatch x), hq⟩
end
section
variable {prog : Program} {w : World} {K : Type} [DecidableEq K] {knd : KeyKind prog w K} {A : Around} {E : Value → Shared → Prop} {s : Shared}
theorem same_pairsP {nm : String} {a b : Addr} {ka kb : List (K × Value)} {Q : Bool → Shared → Prop} (ha : (a == sysModules) = false) (hb : (b == sysModules) = false)
  (da : s.heap.DictOf knd a ka) (db : s.heap.DictOf knd b kb) (hlen : ka.length = kb.length) (hits : ∀ p ∈ ka, ∃ y, valueAt kb p.1 = some y ∧ EqP prog w A s p.2 y) (h : Q true s) :
  wpAny (model prog w) A (Builtin.Dict.samePairs nm a b) Q E s := by
 obtain ⟨oa, es, ep, hoa, _, hda, hka, hpa, _⟩ := da
 obtain ⟨ob, es', ep', hob, _, hdb, hkb, hpb, _⟩ := db
 have hla : ka.length = es.size := by rw [← hpa.length]; exact Array.length_toList
 have hlb : kb.length = es'.size := by rw [← hpb.length]; exact Array.length_toList
 have hfind : ∀ k, findBy knd.is es' k = valueAt kb k := fun k => by
  rw [← hpb.find k]
  clear hlb hpb hkb hdb hob
  obtain ⟨l⟩ := es'
  simp [findBy]
 have hsz : es.size = es'.size := by rw [← hla, ← hlb]; exact hlen
 unfold Builtin.Dict.samePairs Builtin.Dict.showsAll
 rw [if_neg (show ¬ (a == sysModules) = true by rw [ha]; exact Bool.false_ne_true), if_neg (show ¬ (b == sysModules) = true by rw [hb]; exact Bool.false_ne_true)]
 refine wpAny_bind (wpAny_pure (wpAny_bind (wpAny_pure ?_)))
 refine wpAny_bind (wpAny_dictEntries hoa hda ?_)
 dsimp only
 refine wpAny_bind (wpAny_dictEntries hob hdb ?_)
 rw [if_neg (by rw [hsz]; simp)]
 refine wpAny_bind (wpAny_dictEpoch hoa hda ?_)
 refine wpAny_bind ?_
 rw [Std.Legacy.Range.forIn_eq_forIn_range']
 simp only [Std.Legacy.Range.size, Nat.sub_zero, Nat.add_sub_cancel, Nat.div_one]
 refine wpAny_forIn_list _ (fun rest q s' => s' = s ∧ q = (none, ()) ∧ ∃ i, rest = List.range' i (es.size - i) ∧ i ≤ es.size) _ ?_ ?_ _ _ ⟨rfl, rfl, 0, by walk_at "ms", Nat.zero_le _⟩
 ·rintro x rest q s' ⟨rfl, rfl, i, hr, hi⟩
  have hlt : i < es.size := by
   rcases Nat.lt_or_ge i es.size with h | h
   ·exact h
   ·rw [Nat.sub_eq_zero_of_le h] at hr; simp at hr
  obtain ⟨rfl, hrest⟩ : x = i ∧ rest = List.range' (i + 1) (es.size - (i + 1)) := by
   have e : es.size - i = (es.size - (i + 1)) + 1 := by exact oz112 hlt
   rw [e, List.range'_succ] at hr
   injection hr with h1 h2
   exact ⟨h1, h2⟩
  refine wpAny_bind (wpAny_dictEntries hoa hda ?_)
  rw [Array.getElem?_eq_getElem hlt]
  have hlt' : x < ka.length := by rw [hla]; exact hlt
  obtain ⟨k, v, hkv⟩ : ∃ k v, ka[x] = (k, v) := (xi2 _ _ rfl)
  obtain ⟨hkey, hval⟩ := hpa.get? (i := x) (e := es[x]) (k := k) (v := v) (by rw [Array.getElem?_toList]; exact Array.getElem?_eq_getElem hlt) (by rw [List.getElem?_eq_getElem hlt', hkv])
  obtain ⟨k', hk', hh⟩ := hka es[x] (Array.getElem_mem hlt)
  have ekk : k' = k := knd.inj _ _ _ hk' hkey
  rw [ekk] at hh
  obtain ⟨y, hy, he⟩ := hits (k, v) (hkv ▸ List.getElem_mem hlt')
  dsimp only at hy he
  show wpAny _ _ (holding [es[x].key, es[x].val] _ >>= _) _ _ _
  rw [hh]
  refine wpAny_bind (wpAny_holding (wpAny_bind (wpAny_dictFind_of hkey hob hdb hkb ?_)))
  cases hj : es'.findIdx? fun e => knd.is k e.key with
  | none =>
   have hn : valueAt kb k = none := by rw [← hfind k, findBy_of_findIdx?, hj]
   rw [hn] at hy; exact nomatch hy
  | some j =>
   obtain ⟨hjlt, _, _⟩ := Array.findIdx?_eq_some_iff_getElem.mp hj
   have hv' : valueAt kb k = some es'[j].val := by
    rw [← hfind k, findBy_of_findIdx?, hj]
    simp [Array.getElem?_eq_getElem hjlt]
   refine wpAny_bind (wpAny_dictEntries hob hdb ?_)
   rw [Array.getElem?_eq_getElem hjlt]
   have ey : es'[j].val = y := Option.some.inj (hv'.symm.trans hy)
   rw [← ey, ← hval] at he
   refine wpAny_holding (he _ _ ?_)
   show wpAny _ _ (if (!true) = true then _ else _) _ _ _
   rw [if_neg (by decide)]
   refine wpAny_bind (wpAny_dictEpoch hoa hda ?_)
   rw [if_neg (by walk_at "ms")]
   exact wpAny_pure ⟨rfl, rfl, x + 1, hrest, hlt⟩
 ·rintro q s' ⟨rfl, rfl, i, hr, hi⟩
  exact wpAny_pure h
theorem ne_dictP {a b : Addr} {ka kb : List (K × Value)} {Q : Value → Shared → Prop} (ha : (a == sysModules) = false) (hb : (b == sysModules) = false)
  (da : s.heap.DictOf knd a ka) (db : s.heap.DictOf knd b kb) (hu : A.units < cLine) (hlen : ka.length = kb.length) (hits : ∀ p ∈ ka, ∃ y, valueAt kb p.1 = some y ∧ EqP prog w A.in1 s p.2 y) (h : Q (.bool false) s) :
  wpAny (model prog w) A (compareOp .NotEq (.ref a) (.ref b)) Q E s := by
 refine wpAny_richCompare_same_room (op := .NotEq) da.typeIs db.typeIs PySem.F.slot_dict_ne (wpAny_call_entry PySem.F.slot_dict_ne da.typeIs PySem.F.entry_dict_ne ?_ (PySem.F.args_dict_ne_2 _ _)) hu
 show wpAny _ _ (Builtin.Dict.dictSlotArgs "__ne__" ⟨[.ref a, .ref b], []⟩ >>= _) _ _ s
 refine wpAny_bind ?_
 unfold Builtin.Dict.dictSlotArgs
 refine wpAny_bind (wpAny_notOrdered_dict da.typeIs ?_)
 show wpAny _ _ (pure (Value.ref a, Value.ref b)) _ _ s
 refine wpAny_pure ?_
 refine wpAny_bind (wpAny_isInstance (T := "dict") db.typeIs PySem.F.sub_dict_dict ?_)
 simp only [Bool.not_true, Bool.false_eq_true, if_false]
 refine wpAny_bind (wpAny_pure (wpAny_bind (wpAny_pure ?_)))
 refine wpAny_bind (same_pairsP ha hb da db hlen hits ?_)
 refine wpAny_pure ⟨_, rfl, ?_, ?_⟩
 ·exact fun x => nomatch x
 ·simpa using h
end
theorem ent_eqP {w : World} {A : Around} {s : Shared} {h₀ : Heap} {L : Addr} {news led1 led2 : List (Addr × Obj)} {v y : Value} {e : Ent} (N : News h₀ L s.heap news) (s1 : ∀ p ∈ led1, p ∈ news) (s2 : ∀ p ∈ led2, p ∈ news) (h1 : EntAt w led1 v e) (h2 : EntAt w led2 y e) (hu : A.units + 1 < cLine) : EqP PG w A s v y := by
 obtain ⟨a, t1, t2, t3, t4, vc, rfl, m1, d1, o1, kv1, rfl, q1, lo1, i1, p1⟩ := h1
 obtain ⟨b, u1, u2, u3, u4, wc, rfl, m2, d2, o2, kv2, rfl, q2, lo2, i2, p2⟩ := h2
 refine EqP.tuples (items := #[.int e.c t1, .int e.n t2, .int e.t t3, .int e.u t4, .ref d1]) (items2 := #[.int e.c u1, .int e.n u2, .int e.t u3, .int e.u u4, .ref d2]) ⟨_, (N _ (s1 _ m1)).1, rfl, _, rfl⟩ ⟨_, (N _ (s2 _ m2)).1, rfl, _, rfl⟩ rfl (by omega) (fun j h1 h2 => ?_)
 match j, h1 with
 | 0, _ => exact EqP.of (by have := SeqAt.EqAt.int_int (A := A.in1) (s := s) e.c t1 e.c u1; rwa [beq_self_eq_true] at this)
 | 1, _ => exact EqP.of (by have := SeqAt.EqAt.int_int (A := A.in1) (s := s) e.n t2 e.n u2; rwa [beq_self_eq_true] at this)
 | 2, _ => exact EqP.of (by have := SeqAt.EqAt.int_int (A := A.in1) (s := s) e.t t3 e.t u3; rwa [beq_self_eq_true] at this)
 | 3, _ => exact EqP.of (by have := SeqAt.EqAt.int_int (A := A.in1) (s := s) e.u t4 e.u u4; rwa [beq_self_eq_true] at this)
 | 4, _ =>
  refine EqP.refs fun E Q hq => ?_
  have da : s.heap.DictOf (sk w) d1 kv1 := Heap.dictOf_iff.mpr ⟨o1, (N _ (s1 _ q1)).1, i1⟩
  have db : s.heap.DictOf (sk w) d2 kv2 := Heap.dictOf_iff.mpr ⟨o2, (N _ (s2 _ q2)).1, i2⟩
  have hlen : kv1.length = kv2.length := by rw [← All2.length p1, ← All2.length p2]
  have nd2 : (kv2.map (·.1)).Nodup := let ⟨_, _, _, _, _, _, q⟩ := i2; q
  have hits : KeqHits A.in1.in1 s kv2 kv1 true := by
   have go : ∀ (l : List (Str × Value)), (∀ p ∈ l, ∃ n t, p.2 = Value.int n t ∧ ∃ u, valueAt kv2 p.1 = some (.int n u)) → KeqHits A.in1.in1 s kv2 l true := by
    intro l
    induction l with
    | nil => intro _; exact .nil
    | cons p r ih =>
     intro hl
     obtain ⟨n, t, e1, u, e2⟩ := hl p (.head _)
     obtain ⟨k, v⟩ := p
     dsimp only at e1 e2
     subst e1
     have := KeqHits.hit (A := A.in1.in1) (s := s) (v := .int n t) (e := true) e2 (by have := SeqAt.EqAt.int_int (A := A.in1.in1) (s := s) n t n u; rwa [beq_self_eq_true] at this) (ih fun p hp => hl p (.tail _ hp))
     exact this
   refine go kv1 fun p hp => ?_
   obtain ⟨i, hi⟩ := List.mem_iff_getElem?.mp hp
   obtain ⟨c, hc, e1, t, e2⟩ := All2.getR p1 hi
   obtain ⟨q, hq2, e3, u, e4⟩ := All2.get p2 hc
   refine (xi2 c.2 t ⟨e2, u, ?_⟩)
   obtain ⟨qk, qv⟩ := q
   dsimp only at e3 e4
   subst e3 e4
   rw [e1]
   exact va_get nd2 hq2
  refine keq_eq lo1 lo2 da db (by show A.units + 1 < cLine; exact hu) (fun _ => hits) ?_
  rw [hlen, beq_self_eq_true]
  exact hq
 | j + 5, h1 => exact absurd h1 (by walk_at "ms")
end
section
set_option maxRecDepth 100000
open LCg
section
variable {prog : Program} {w : World} {K : Type} [DecidableEq K] {A : Around} {E : Value → Shared → Prop} {s : Shared} {h₀ : Heap} {L : Addr} {m : Str → Option Value} {env : Env}
noncomputable def DictSrc (prog : Program) (w : World) (knd : KeyKind prog w K) (A : Around) (h₀ : Heap) (L : Addr) (m : Str → Option Value) (env : Env) (elt : Expr) (x : Str) (scope : Scope) (cl : List (Str × Addr)) (Fin : Shared → List Value → List (Addr × Obj) → Prop) (xv : Value) (s₁ : Shared) : Prop :=
 ∃ (d : Addr) (od : Obj) (kvs : List (K × Value)) (news : List (Addr × Obj)), xv = .ref d ∧ A.handled = none ∧ Fr h₀ L s₁.heap m ∧ News h₀ L s₁.heap news ∧ (d, od) ∈ news ∧ (d == sysModules) = false ∧ od.IsDictOf knd kvs ∧ kvs.length ≤ sizeLine ∧
  ∀ g, CompRest prog w A h₀ L m env elt x scope cl { s₁ with heap := g } (fun nw => (d, od) ∈ nw) (fun i v => ∃ k y, kvs[i]? = some (k, y) ∧ knd.is k v = true) (Fin { s₁ with heap := g }) kvs.length 0 [] news
theorem dict_st {knd : KeyKind prog w K} {d I : Addr} {od : Obj} {kvs : List (K × Value)} {ep : Nat} (at0 : ∀ {h : Heap}, h.get? d = some od → h.DictAt knd d kvs ep) :
  ∀ i (h h' : Heap) (o : Obj) (nw : List (Addr × Obj)), (h.IsKeyIter I d i kvs.length ep ∧ h.DictAt knd d kvs ep) → h.get? I = some o → h'.get? I = some o → (∀ b o, h₀.get? b = some o → h'.get? b = some o) → News h₀ L h' nw → (d, od) ∈ nw → (h'.IsKeyIter I d i kvs.length ep ∧ h'.DictAt knd d kvs ep) :=
 fun i h h' o nw st e e' k N S => ⟨by obtain ⟨o', q, r⟩ := st.1; rw [e] at q; cases q; exact ⟨o, e', r⟩, at0 (N _ S).1⟩
theorem ListComp_D {knd : KeyKind prog w K} {elt iter : Expr} {x : Str} {px : Pos} {scope : Scope} {cl : List (Str × Addr)} {pos : Pos} {Q : Value → Shared → Prop} (F₀ : Fr h₀ L s.heap m)
  (hclos : closureFor scope env = pure cl) (hcell : ∀ y ∈ scope.names, y.2 ≠ .cell) (hkind : scope.kind = .function)
  (hnames : ∀ y ∈ scope.names, y.2 = .local → scope.names.lookup y.1 = some .local) (hx : scope.names.lookup x = some .local)
  (h : wpAny (model prog w) A (eval iter env) (DictSrc prog w knd A h₀ L m env elt x scope cl (fun s₂ => FinE h₀ L m s₂ Q)) E s)
  (hs : ∀ x, foldedSetIterable iter env x = pure x := by intro _; rfl) :
  wpAny (model prog w) A (eval (.ListComp elt [⟨.Name x px, iter, [], 0⟩] scope pos) env) Q E s := by
 rw [eval_ListComp]
 refine wpAny_comprehension_free (use := none) rfl hs hclos hkind hnames (wpAny_mono h (fun xv s₁ h₁ => ?_) fun _ _ e => e)
 walk_at "cg"
 obtain ⟨d, od, kvs, news, rfl, hh, F, N, hm, lo, hod, hsz, R⟩ := h₁
 walk_at "bg"
 walk_at "cg"
 obtain ⟨es, ep, hc, hd, hk, hpp, hn⟩ := id hod
 walk_at "bg"
 have at0 : ∀ {h : Heap}, h.get? d = some od → h.DictAt knd d kvs ep := fun e => dict_at_of e hc hd hk hpp hn
 have hlt : d < s₁.heap.objs.size := Heap.lt_size (N _ hm).1
 refine wpAny_pyIter_dict lo (at0 (N _ hm).1) ?_
 have up : ∀ (o' : Obj) b o, s₁.heap.get? b = some o → (s₁.heap.push o').get? b = some o := fun o' b o e => Heap.get?_push_of_some _ e
 refine block_U (Walks.dictKeys (knd := knd) hh s₁.heap.objs.size d (Nat.ne_of_lt hlt) kvs ep) hsz (fun i h st => by obtain ⟨o, e, _⟩ := st.1; exact ⟨o, e⟩) (dict_st at0) hcell hkind hx ⟨⟨_, Heap.get?_push_size _ rfl, rfl, rfl⟩, at0 (up _ _ _ (N _ hm).1)⟩ (fun b hb => ?_)
  (F.keeps (up _)) (N.grown (up _)) (Nat.ne_of_lt F.ns.lt) (next_is_new F) (fun p hp => Nat.ne_of_lt (Heap.lt_size (N p hp).1)) hm (R _) ?_
 ·show b < (s₁.heap.push _).objs.size
  rw [Heap.size_push]
  rcases List.mem_cons.mp hb with rfl | hb
  ·exact Nat.lt_succ_self _
  ·rw [List.mem_singleton.mp hb]; exact Nat.lt_succ_of_lt hlt
 ·intro D C h tk m' ys news' F' N' o1 hn hC₀ hD₀ hCL hDL hCD offC fin
  refine ⟨m', hn, fun h'' hs'' => fin D h'' tk (F'.change hs'' hCL hC₀) (fun p hp => ?_) o1⟩
  refine ⟨hs''.extBut _ _ ?_ (N' p hp).1, (N' p hp).2⟩
  rcases List.mem_cons.mp hp with rfl | hp
  ·exact Ne.symm hCD
  ·exact offC p hp
theorem Assign_ListComp_D {knd : KeyKind prog w K} {elt iter : Expr} {x y : Str} {px py : Pos} {scope : Scope} {cl : List (Str × Addr)} {pos spos : Pos} {Q : Flow → Shared → Prop} (F₀ : Fr h₀ L s.heap m) (hLe : env.locals = L)
  (hsw : swapsWith (.ListComp elt [⟨.Name x px, iter, [], 0⟩] scope pos) (some (.Name y py)) spos.line env = pure true)
  (hclos : closureFor scope env = pure cl) (hcell : ∀ z ∈ scope.names, z.2 ≠ .cell) (hkind : scope.kind = .function)
  (hnames : ∀ z ∈ scope.names, z.2 = .local → scope.names.lookup z.1 = some .local) (hx : scope.names.lookup x = some .local)
  (hy : env.kindOf y = some .local) (hp : (env.scope.kind == .class || (env.scope.kind == .module && env.locals != env.globals)) = false)
  (h : wpAny (model prog w) A (eval iter env) (DictSrc prog w knd A h₀ L m env elt x scope cl (fun s₂ => FinA h₀ L m s₂ y Q)) E s)
  (hs : ∀ x, foldedSetIterable iter env x = pure x := by intro _; rfl) :
  wpAny (model prog w) A (exec (.Assign [.Name y py] (.ListComp elt [⟨.Name x px, iter, [], 0⟩] scope pos) spos) env) Q E s := by
 subst hLe
 rw [exec_Assign_Name_used _ _ _ _ hsw]
 refine wpAny_bind (wpAny_standAt (wpAny_bind ?_))
 show wpAny _ A (do let _ ← comprehension (.ListComp elt [⟨.Name x px, iter, [], 0⟩] scope pos) scope env _ (newList []) false (eval iter env) (some (assign (.Name y py) env))) _ _ s
 refine wpAny_bind (wpAny_mono (wpAny_comprehension_free (use := some (assign (.Name y py) env)) (Q := fun _ s' => Q .next s') rfl hs hclos hkind hnames
  (wpAny_mono h (fun xv s₁ h₁ => ?_) fun _ _ e => e)) (fun _ s' hq => wpAny_pure (wpAny_pure hq)) fun _ _ e => e)
 walk_at "cg"
 obtain ⟨d, od, kvs, news, rfl, hh, F, N, hm, lo, hod, hsz, R⟩ := h₁
 walk_at "bg"
 walk_at "cg"
 obtain ⟨es, ep, hc, hd, hk, hpp, hn⟩ := id hod
 walk_at "bg"
 have at0 : ∀ {h : Heap}, h.get? d = some od → h.DictAt knd d kvs ep := fun e => dict_at_of e hc hd hk hpp hn
 have hlt : d < s₁.heap.objs.size := Heap.lt_size (N _ hm).1
 refine wpAny_pyIter_dict lo (at0 (N _ hm).1) ?_
 have up : ∀ (o' : Obj) b o, s₁.heap.get? b = some o → (s₁.heap.push o').get? b = some o := fun o' b o e => Heap.get?_push_of_some _ e
 refine block_U (Walks.dictKeys (knd := knd) hh s₁.heap.objs.size d (Nat.ne_of_lt hlt) kvs ep) hsz (fun i h st => by obtain ⟨o, e, _⟩ := st.1; exact ⟨o, e⟩) (dict_st at0) hcell hkind hx ⟨⟨_, Heap.get?_push_size _ rfl, rfl, rfl⟩, at0 (up _ _ _ (N _ hm).1)⟩ (fun b hb => ?_)
  (F.keeps (up _)) (N.grown (up _)) (Nat.ne_of_lt F.ns.lt) (next_is_new F) (fun p hp => Nat.ne_of_lt (Heap.lt_size (N p hp).1)) hm (R _) ?_
 ·show b < (s₁.heap.push _).objs.size
  rw [Heap.size_push]
  rcases List.mem_cons.mp hb with rfl | hb
  ·exact Nat.lt_succ_self _
  ·rw [List.mem_singleton.mp hb]; exact Nat.lt_succ_of_lt hlt
 ·intro D C h' tk m' ys news' F' N' o1 hn hC₀ hD₀ hCL hDL hCD offC fin
  show wpAny _ A (assign (.Name y py) env (.ref D)) _ _ _
  refine wpAny_assign_Name (wpAny_storeName_local hy F'.ns (fun h₂ hn₂ hs₂ => ?_) hp)
  have hL₀ : h₀.get? env.locals = none := Heap.get?_none_of_le F'.above
  have F₂ : Fr h₀ env.locals h₂ (fun z => if z = y then some (.ref D) else m z) := ⟨hn₂, fun b o e => hs₂.extBut b o (fun q => by rw [q, hL₀] at e; cases e) (F'.keep b o e), F'.above⟩
  refine ⟨m', hn.sameBut hs₂ hCL, fun h'' hs'' => fin D h'' _ (F₂.change hs'' hCL hC₀) (fun p hp => ?_) o1⟩
  have z : h₂.get? p.1 = some p.2 := hs₂.extBut _ _ (N' p hp).2.1 (N' p hp).1
  refine ⟨hs''.extBut _ _ ?_ z, (N' p hp).2⟩
  rcases List.mem_cons.mp hp with rfl | hp
  ·exact Ne.symm hCD
  ·exact offC p hp
end
end
section
set_option maxRecDepth 100000
theorem keys_strs {w : World} {kvs : List (Str × Value)} {vs : List Value} (hl : vs.length = kvs.length) (hv : ∀ (j : Nat) v, vs[j]? = some v → ∃ k x, kvs[j]? = some (k, x) ∧ (sk w).is k v = true) : StrsAre vs (kvs.map (·.1)) := by
 refine All2.strs (All2.of_get (by rw [List.length_map, hl]) fun i a b ha hb => ?_)
 obtain ⟨k, x, hx, hk⟩ := hv i b hb
 rw [List.getElem?_map, hx] at ha
 obtain ⟨t, rfl⟩ := sk_key hk
 cases ha
 exact ⟨t, rfl⟩
theorem list_keys {w : World} {A : Around} {E : Value → Shared → Prop} {s : Shared} {Q : Value → Shared → Prop} {h₀ : Heap} {L : Addr} {m : Str → Option Value} {news : List (Addr × Obj)} {d : Addr} {od : Obj} {kvs : List (Str × Value)} (hh : A.handled = none) (F : Fr h₀ L s.heap m) (N : News h₀ L s.heap news)
  (hm : (d, od) ∈ news) (lo : (d == sysModules) = false) (hod : od.IsDictOf (sk w) kvs) (hl : kvs.length ≤ 1000)
  (h : ∀ (D : Addr) c h' tk (vs : List Value), Fr h₀ L h' m → News h₀ L h' ((D, listOf vs.toArray c) :: news) → (∀ q ∈ news, q.1 < D) → StrsAre vs (kvs.map (·.1)) → Q (.ref D) { s with heap := h', toks := tk }) :
  wpAny (model PG w) A (call (.type "list") [.ref d]) Q E s := by
 obtain ⟨es, ep, hc, hd, hk, hpp, hn⟩ := id hod
 exact kdl_N (kdl_dict (knd := sk w) (kvs := kvs) (ep := ep) lo) hh F N (dict_at_of (N _ hm).1 hc hd hk hpp hn) (kdl_size (by omega)) fun D c h' tk vs F' N' l1 hl' hv => h D c h' tk vs F' N' l1 (keys_strs hl' hv)
section
variable {A : Around} {s : Shared}
theorem all_true {n : Nat} : (List.range n).all (fun _ => true) = true := by rw [List.all_eq_true]; intros; rfl
theorem All2.at {α β : Type} {R : α → β → Prop} {as : List α} {bs : List β} (h : All2 R as bs) {j : Nat} (h1 : j < as.length) (h2 : j < bs.length) : R as[j] bs[j] := by
 obtain ⟨b, e, r⟩ := All2.get h (List.getElem?_eq_getElem h1)
 rw [List.getElem?_eq_getElem h2] at e
 cases e; exact r
theorem eq_strs {xs ys : List Value} {ns : List Str} (h : StrsAre xs ns) (k : StrsAre ys ns) : All2 (fun v y => SeqAt.EqAt A s v y true) xs ys := by
 induction h generalizing ys with
 | nil => cases k; exact .nil
 | cons n t _ ih =>
  cases k with
  | cons _ u q => exact .cons (by have := SeqAt.EqAt.str_str (A := A) (s := s) n t n u; rwa [beq_self_eq_true] at this) (ih q)
theorem eq_refs {l b : Addr} {xs ys : List Value} (hl : s.heap.IsList l xs.toArray) (hb : s.heap.IsList b ys.toArray) (hu : A.units < cLine) (h : All2 (fun v y => SeqAt.EqAt A.in1 s v y true) xs ys) : SeqAt.EqAt A s (.ref l) (.ref b) true := by
 by_cases e : l = b
 ·subst e; exact SeqAt.EqAt.same _
 ·refine SeqAt.EqAt.of_refs e ?_
  have := SeqAt.RcAt.lists (e := fun _ => true) hl hb (by rw [List.size_toArray, List.size_toArray]; exact All2.length h) hu (fun j h1 h2 => by
   simp only [List.size_toArray] at h1 h2
   simpa using h.at h1 h2)
  rwa [all_true] at this
theorem ne_lists {prog : Program} {w : World} {E : Value → Shared → Prop} {Q : Value → Shared → Prop} {l b : Addr} {xs ys : List Value} (hl : s.heap.IsList l xs.toArray) (hb : s.heap.IsList b ys.toArray) (hu : A.units < cLine) (h : All2 (fun v y => SeqAt.EqAt A.in1 s v y true) xs ys) (hq : Q (.bool false) s) :
  wpAny (model prog w) A (compareOp .NotEq (.ref l) (.ref b)) Q E s := by
 have := SeqAt.RcNeAt.lists (e := fun _ => true) hl hb (by rw [List.size_toArray, List.size_toArray]; exact All2.length h) hu (fun j h1 h2 => by
   simp only [List.size_toArray] at h1 h2
   simpa using h.at h1 h2)
 rw [all_true] at this
 exact this prog w E Q hq
theorem eq_lists {prog : Program} {w : World} {E : Value → Shared → Prop} {Q : Value → Shared → Prop} {l b : Addr} {xs ys : List Value} (hl : s.heap.IsList l xs.toArray) (hb : s.heap.IsList b ys.toArray) (hu : A.units < cLine) (h : All2 (fun v y => SeqAt.EqAt A.in1 s v y true) xs ys) (hq : Q (.bool true) s) :
  wpAny (model prog w) A (compareOp .Eq (.ref l) (.ref b)) Q E s := by
 refine SeqAt.eq_listAt (e := fun _ => true) hl hb (by rw [List.size_toArray, List.size_toArray]; exact All2.length h) hu (fun j h1 h2 => by
   simp only [List.size_toArray] at h1 h2
   simpa using h.at h1 h2) ?_
 rw [all_true]; exact hq
end
theorem CEnd.push {h₀ : Heap} {L I C D X : Addr} {m : Str → Option Value} {s₁ : Shared} {oI oC oD oX : Obj} {news nw : List (Addr × Obj)} {G : Value → List (Addr × Obj) → Prop} {y : Value} {h' : Heap} {tk : Nat}
  (F : Fr h₀ L h' m) (N : News h₀ L h' ((X, oX) :: (I, oI) :: (C, oC) :: (D, oD) :: nw)) (off : LCg.Off3 I C D nw) (l1 : ∀ q ∈ (I, oI) :: (C, oC) :: (D, oD) :: nw, q.1 < X) (sub : ∀ p ∈ news, p ∈ nw) (g : G y ((X, oX) :: nw)) : CEnd h₀ L m s₁ I oI C oC D oD news G y { s₁ with heap := h', toks := tk } := by
 refine CEnd.intro (nw := (X, oX) :: nw) F (news_sub N fun p hp => ?_) (LCg.Off3.of fun p hp => ?_) (fun p hp => .tail _ (sub p hp)) g
 ·simp only [List.mem_cons] at hp ⊢
  rcases hp with q | q | q | q | q
  ·exact .inr (.inl q)
  ·exact .inr (.inr (.inl q))
  ·exact .inr (.inr (.inr (.inl q)))
  ·exact .inl q
  ·exact .inr (.inr (.inr (.inr q)))
 ·rcases List.mem_cons.mp hp with rfl | hp
  ·exact ⟨(Nat.ne_of_lt (l1 _ (.head _))).symm, (Nat.ne_of_lt (l1 _ (.tail _ (.head _)))).symm, (Nat.ne_of_lt (l1 _ (.tail _ (.tail _ (.head _))))).symm⟩
  ·exact off.mem p hp
theorem ent_item {w : World} {A : Around} {E : Value → Shared → Prop} {s : Shared} {value slice : PySem.Expr} {ea : Addr} {e : Ent} {t1 t2 t3 t4 : Tok} {vc : Value} {k : Int} {u : Tok} {j : Nat} {x : Value} {Q : Value → Shared → Prop} (hat : s.heap.get? ea = some (entO e t1 t2 t3 t4 vc))
  (hlo : -(2 ^ 63) ≤ k) (hhi : k < 2 ^ 63) (hj : seqIndex? k 5 = some j) (hx : [Value.int e.c t1, .int e.n t2, .int e.t t3, .int e.u t4, vc][j]? = some x) (h : Q x s)
  (hs : subscripted slice false (.ref ea) (.int k u) = operate [.ref ea, .int k u] (getItem (.ref ea) (.int k u)) := by with_unfolding_all rfl) :
  wpAny (model PG w) A (subscriptTail value slice (.ref ea) (.int k u)) Q E s :=
 item_tupleT (l := [Value.int e.c t1, .int e.n t2, .int e.t t3, .int e.u t4, vc]) ⟨_, hat, rfl, _, rfl⟩ hlo hhi hj hx h hs
noncomputable def CallsL (tb : List (Str × Ent)) (i : Nat) (v : Value) (l : List (Addr × Obj)) : Prop := ∃ (a : Addr) (c : Nat) (vs : List Value) (p : Str × Ent), v = .ref a ∧ (a, W.listOf vs.toArray c) ∈ l ∧ tb[i]? = some p ∧ StrsAre vs (p.2.cs.map (·.1))
theorem CallsL.mono {tb : List (Str × Ent)} : ∀ (i : Nat) (y : Value) (l l' : List (Addr × Obj)), (∀ p ∈ l, p ∈ l') → CallsL tb i y l → CallsL tb i y l' :=
 fun _ _ _ _ sub ⟨a, c, vs, p, e, m, r⟩ => ⟨a, c, vs, p, e, sub _ m, r⟩
theorem ip_len {kvs : List (Str × Value)} {cs : List (Str × Int)} (h : IntPairs kvs cs) : kvs.length = cs.length := (All2.length h).symm
theorem callsL_eq {tb : List (Str × Ent)} {s : Shared} {A : Around} {h₀ : Heap} {L : Addr} {news l1 l2 : List (Addr × Obj)} {xs ys : List Value} {n : Nat} (N : News h₀ L s.heap news) (s1 : ∀ p ∈ l1, p ∈ news) (s2 : ∀ p ∈ l2, p ∈ news) (hu : A.units < cLine)
  (h1 : All2 (fun i y => CallsL tb i y l1) (List.range n) xs) (h2 : All2 (fun i y => CallsL tb i y l2) (List.range n) ys) : All2 (fun v y => SeqAt.EqAt A s v y true) xs ys := by
 refine All2.of_get (by rw [← All2.length h1, ← All2.length h2]) fun i v y hv hy => ?_
 obtain ⟨j, hj, a, c, vs, p, rfl, m, e, q⟩ := All2.getR h1 hv
 obtain ⟨j', hj', a', c', vs', p', rfl, m', e', q'⟩ := All2.getR h2 hy
 rw [hj] at hj'
 cases hj'
 rw [e] at e'
 cases e'
 exact eq_refs (News.isList N (s1 _ m)) (News.isList N (s2 _ m')) hu (eq_strs q q')
noncomputable def IntL (f : Ent → Int) (tb : List (Str × Ent)) (i : Nat) (v : Value) (_ : List (Addr × Obj)) : Prop := ∃ (p : Str × Ent) (t : Tok), tb[i]? = some p ∧ v = .int (f p.2) t
theorem IntL.mono {f : Ent → Int} {tb : List (Str × Ent)} : ∀ (i : Nat) (y : Value) (l l' : List (Addr × Obj)), (∀ p ∈ l, p ∈ l') → IntL f tb i y l → IntL f tb i y l' := fun _ _ _ _ _ h => h
theorem intL_eq {f : Ent → Int} {tb : List (Str × Ent)} {s : Shared} {A : Around} {l1 l2 : List (Addr × Obj)} {xs ys : List Value} {n : Nat}
  (h1 : All2 (fun i y => IntL f tb i y l1) (List.range n) xs) (h2 : All2 (fun i y => IntL f tb i y l2) (List.range n) ys) : All2 (fun v y => SeqAt.EqAt A s v y true) xs ys := by
 refine All2.of_get (by rw [← All2.length h1, ← All2.length h2]) fun i v y hv hy => ?_
 obtain ⟨j, hj, p, t, e, rfl⟩ := All2.getR h1 hv
 obtain ⟨j', hj', p', t', e', rfl⟩ := All2.getR h2 hy
 rw [hj] at hj'
 cases hj'
 rw [e] at e'
 cases e'
 have := SeqAt.EqAt.int_int (A := A) (s := s) (f p.2) t (f p.2) t'
 rwa [beq_self_eq_true] at this
noncomputable def RowL (tb : List (Str × Ent)) (i : Nat) (v : Value) (l : List (Addr × Obj)) : Prop := ∃ (a : Addr) (p : Str × Ent) (t1 t2 t3 t4 t5 : Tok), v = .ref a ∧ (a, ({ cls := .type "tuple", data := .seq #[.int p.2.c t1, .int p.2.n t2, .int p.2.t t3, .int p.2.u t4, .str p.1 t5] } : Obj)) ∈ l ∧ tb[i]? = some p
theorem RowL.mono {tb : List (Str × Ent)} : ∀ (i : Nat) (y : Value) (l l' : List (Addr × Obj)), (∀ p ∈ l, p ∈ l') → RowL tb i y l → RowL tb i y l' :=
 fun _ _ _ _ sub ⟨a, p, t1, t2, t3, t4, t5, e, m, r⟩ => ⟨a, p, t1, t2, t3, t4, t5, e, sub _ m, r⟩
end
section
set_option maxRecDepth 100000
theorem rows_pack {tb : List (Str × Ent)} {l : List (Addr × Obj)} {ys : List Value} (h : All2 (fun i y => RowL tb i y l) (List.range tb.length) ys) : ∃ rs : List Rw, ys = refsR rs ∧ RowsAt l rs ∧ rs.map (fun r => r.2) = tb := by
 have h2 : All2 (fun (p : Str × Ent) v => ∃ (a : Addr) (t1 t2 t3 t4 t5 : Tok), v = Value.ref a ∧ (a, rowO p.1 p.2 t1 t2 t3 t4 t5) ∈ l) tb ys := by
  refine All2.range rfl (h.mono fun i y ⟨a, p, t1, t2, t3, t4, t5, e, m, r⟩ => ⟨p, r, xi6 a t1 t2 t3 t4 t5 ⟨e, m⟩⟩)
 clear h
 induction h2 with
 | nil => exact ⟨[], rfl, (fun _ h => nomatch h), rfl⟩
 | @cons p v ps vs hp _ ih =>
  obtain ⟨rs, rfl, hr, e⟩ := ih
  obtain ⟨a, t1, t2, t3, t4, t5, rfl, m⟩ := hp
  refine ⟨(a, p) :: rs, rfl, fun r hr' => ?_, by simp [e]⟩
  rcases List.mem_cons.mp hr' with rfl | hr'
  ·exact (xi5 t1 t2 t3 t4 t5 m)
  ·exact hr r hr'
noncomputable def KeyL (col : Nat) (rs : List Rw) (i : Nat) (v : Value) (l : List (Addr × Obj)) : Prop := ∃ (a : Addr) (r : Rw) (t1 t2 : Tok), v = .ref a ∧ (a, ({ cls := .type "tuple", data := .seq #[.int (-(colE r.2.2 col)) t1, .str r.2.1 t2, .ref r.1] } : Obj)) ∈ l ∧ rs[i]? = some r
theorem KeyL.mono {col : Nat} {rs : List Rw} : ∀ (i : Nat) (y : Value) (l l' : List (Addr × Obj)), (∀ p ∈ l, p ∈ l') → KeyL col rs i y l → KeyL col rs i y l' :=
 fun _ _ _ _ sub ⟨a, r, t1, t2, e, m, q⟩ => ⟨a, r, t1, t2, e, sub _ m, q⟩
end
section
noncomputable def ltR (col : Nat) (x y : Rw) : Bool := decide (colE y.2.2 col < colE x.2.2 col) || (decide (colE x.2.2 col = colE y.2.2 col) && decide (x.2.1.cps.toList < y.2.1.cps.toList))
theorem ltR_iff {col : Nat} {x y : Rw} : ltR col x y = true ↔ colE y.2.2 col < colE x.2.2 col ∨ (colE x.2.2 col = colE y.2.2 col ∧ x.2.1.cps.toList < y.2.1.cps.toList) := by
 unfold ltR; simp only [Bool.or_eq_true, Bool.and_eq_true, decide_eq_true_eq]
theorem ltR_irrefl {col : Nat} {x : Rw} : ¬ ltR col x x = true := fun h => by
 rcases ltR_iff.mp h with h | ⟨_, h⟩
 ·lia
 ·exact List.lt_irrefl _ h
theorem ltR_trans {col : Nat} {x y z : Rw} (h1 : ltR col x y = true) (h2 : ltR col y z = true) : ltR col x z = true := by
 rw [ltR_iff] at h1 h2 ⊢
 rcases h1 with h1 | ⟨e1, h1⟩ <;> rcases h2 with h2 | ⟨e2, h2⟩
 ·exact .inl (by lia)
 ·exact .inl (by lia)
 ·exact .inl (by lia)
 ·exact .inr ⟨by lia, List.lt_trans h1 h2⟩
theorem str_tri {a b : List Nat} (h : a ≠ b) : a < b ∨ b < a := by
 by_cases h1 : a < b
 ·exact .inl h1
 ·by_cases h2 : b < a
  ·exact .inr h2
  ·exact absurd (List.le_antisymm (List.not_lt.mp h2) (List.not_lt.mp h1)) h
theorem name_ne {x y : Str} (h : x ≠ y) : x.cps.toList ≠ y.cps.toList := fun z => h (by
 cases x; cases y; simp only [Str.mk.injEq]; exact Array.toList_inj.mp z)
theorem ltR_total {col : Nat} {x y : Rw} (h : x.2.1 ≠ y.2.1) : ltR col x y = true ∨ ltR col y x = true := by
 rw [ltR_iff, ltR_iff]
 rcases Int.lt_trichotomy (colE x.2.2 col) (colE y.2.2 col) with q | q | q
 ·exact .inr (.inl q)
 ·rcases str_tri (name_ne h) with z | z
  ·exact .inl (.inr ⟨q, z⟩)
  ·exact .inr (.inr ⟨q.symm, z⟩)
 ·exact .inl (.inl q)
theorem cmp_pos {col : Nat} {x y : Rw} (h : 0 < cmpR col x y) : ltR col y x = true := by
 unfold cmpR cmpS at h
 rw [ltR_iff]
 split at h
 ·exact .inl (by assumption)
 ·split at h
  ·lia
  ·split at h
   ·lia
   ·split at h
    ·exact .inr ⟨by lia, by assumption⟩
    ·lia
theorem cmp_npos {col : Nat} {x y : Rw} (hn : x.2.1 ≠ y.2.1) (h : ¬ 0 < cmpR col x y) : ltR col x y = true := by
 refine (ltR_total hn).resolve_right fun z => h ?_
 unfold cmpR cmpS
 rw [ltR_iff] at z
 rcases z with z | ⟨e, z⟩
 ·rw [if_pos z]; decide
 ·rw [if_neg (by lia), if_neg (by lia), if_neg (fun q => List.lt_irrefl _ (List.lt_trans q z)), if_pos z]; decide
theorem posR_spec {col : Nat} {T : List Rw} {r : Rw} (hs : T.Pairwise fun x y => ltR col x y = true) (hn : ∀ x ∈ T, x.2.1 ≠ r.2.1) : ∀ n, n ≤ T.length →
  (∀ i x, posR col T r n ≤ i → i < n → T[i]? = some x → ltR col r x = true) ∧ (∀ i x, i < posR col T r n → T[i]? = some x → ltR col x r = true)
 | 0, _ => ⟨fun i x _ h => absurd h (Nat.not_lt_zero _), fun i x h => absurd h (Nat.not_lt_zero _)⟩
 | n + 1, hl => by
  have hx : T[n]? = some T[n] := List.getElem?_eq_getElem (by lia)
  have hm : T[n] ∈ T := List.getElem_mem _
  unfold posR
  rw [hx]
  simp only [Option.map_some, Option.getD_some, decide_eq_true_eq]
  split
  ·rename_i hc
   obtain ⟨a, b⟩ := posR_spec hs hn n (by lia)
   refine ⟨fun i x h1 h2 h3 => ?_, b⟩
   by_cases e : i = n
   ·subst e
    rw [hx] at h3; cases h3
    exact cmp_pos hc
   ·exact a i x h1 (by lia) h3
  ·rename_i hc
   refine ⟨fun i x h1 h2 => absurd h1 (by lia), fun i x h1 h3 => ?_⟩
   have hr := cmp_npos (hn _ hm) hc
   by_cases e : i = n
   ·subst e
    rw [hx] at h3; cases h3
    exact hr
   ·have hi : i < T.length := by lia
    rw [List.getElem?_eq_getElem hi] at h3; cases h3
    exact ltR_trans (List.pairwise_iff_getElem.mp hs i n hi (by lia) (by lia)) hr
theorem insR_sorted {col : Nat} {T : List Rw} {r : Rw} (hs : T.Pairwise fun x y => ltR col x y = true) (hn : ∀ x ∈ T, x.2.1 ≠ r.2.1) : (insR col T r).Pairwise fun x y => ltR col x y = true := by
 obtain ⟨a, b⟩ := posR_spec hs hn T.length (Nat.le_refl _)
 unfold insR
 generalize posR col T r T.length = k at a b
 rw [List.pairwise_append]
 refine ⟨hs.sublist (List.take_sublist _ _), ?_, fun x hx y hy => ?_⟩
 ·rw [List.pairwise_cons]
  refine ⟨fun y hy => ?_, hs.sublist (List.drop_sublist _ _)⟩
  obtain ⟨i, hi, rfl⟩ := List.mem_iff_getElem.mp hy
  rw [List.length_drop] at hi
  refine a (k + i) _ (by lia) (by lia) ?_
  rw [List.getElem_drop, List.getElem?_eq_getElem (by lia)]
 ·have hx' : ltR col x r = true := by
   obtain ⟨i, hi, rfl⟩ := List.mem_iff_getElem.mp hx
   rw [List.length_take] at hi
   refine b i _ (by lia) ?_
   rw [List.getElem_take, List.getElem?_eq_getElem (by lia)]
  rcases List.mem_cons.mp hy with rfl | hy
  ·exact hx'
  ·obtain ⟨i, hi, rfl⟩ := List.mem_iff_getElem.mp hy
   rw [List.length_drop] at hi
   refine ltR_trans hx' (a (k + i) _ (by lia) (by lia) ?_)
   rw [List.getElem_drop, List.getElem?_eq_getElem (by lia)]
theorem order_sorted_aux (col : Nat) : ∀ (rs T : List Rw), T.Pairwise (fun x y => ltR col x y = true) → ((T ++ rs).map fun r => r.2.1).Nodup → (rs.foldl (insR col) T).Pairwise fun x y => ltR col x y = true
 | [], T, hs, _ => hs
 | r :: rs, T, hs, hn => by
  rw [List.foldl_cons]
  have p : (T ++ r :: rs).Perm (insR col T r ++ rs) := List.perm_middle.trans ((insR_perm col T r).symm.append_right rs)
  refine order_sorted_aux col rs _ (insR_sorted hs fun x hx z => ?_) ((p.map _).nodup_iff.mp hn)
  rw [List.map_append, List.nodup_append] at hn
  exact hn.2.2 x.2.1 (List.mem_map.mpr ⟨x, hx, rfl⟩) r.2.1 (by walk_at "ms") z
theorem order_sorted {col : Nat} {rs : List Rw} (nd : (rs.map fun r => r.2.1).Nodup) : (orderR col rs).Pairwise fun x y => ltR col x y = true := order_sorted_aux col rs [] .nil nd
noncomputable def rkR (col : Nat) (rs : List Rw) (x : Rw) : Nat := rs.countP fun y => ltR col y x
theorem count_lt {α : Type} {p q : α → Bool} : ∀ {l : List α}, (∀ x ∈ l, p x = true → q x = true) → (∃ x ∈ l, q x = true ∧ p x = false) → l.countP p < l.countP q
 | [], _, ⟨_, h, _⟩ => nomatch h
 | y :: l, h, ⟨x, hx, h1, h2⟩ => by
  rw [List.countP_cons, List.countP_cons]
  have hle : l.countP p ≤ l.countP q := List.countP_mono_left fun z hz => h z (.tail _ hz)
  rcases List.mem_cons.mp hx with rfl | hx
  ·rw [h1, h2]; simp only [if_true, Bool.false_eq_true, if_false]; lia
  ·have := count_lt (fun z hz => h z (.tail _ hz)) ⟨x, hx, h1, h2⟩
   have h3 := h y (.head _)
   by_cases hp : p y = true
   ·rw [if_pos hp, if_pos (h3 hp)]; lia
   ·rw [if_neg hp]; lia
theorem rk_lt {col : Nat} {rs : List Rw} {x y : Rw} (hx : x ∈ rs) (h : ltR col x y = true) : rkR col rs x < rkR col rs y :=
 count_lt (fun z _ hz => ltR_trans hz h) ⟨x, hx, h, by cases e : ltR col x x with | false => rfl | true => exact absurd e ltR_irrefl⟩
theorem rk_iff {col : Nat} {rs : List Rw} {x y : Rw} (hx : x ∈ rs) (hy : y ∈ rs) (hn : x.2.1 = y.2.1 → x = y) : ltR col x y = decide (rkR col rs x < rkR col rs y) := by
 cases e : ltR col x y with
 | true => exact (decide_eq_true (rk_lt hx e)).symm
 | false =>
  refine (decide_eq_false fun h => ?_).symm
  by_cases z : x.2.1 = y.2.1
  ·rw [hn z] at h; exact Nat.lt_irrefl _ h
  ·rcases ltR_total (col := col) z with q | q
   ·rw [q] at e; cases e
   ·exact Nat.lt_asymm h (rk_lt hy q)
theorem nodup_inj {rs : List Rw} (nd : (rs.map fun r => r.2.1).Nodup) {x y : Rw} (hx : x ∈ rs) (hy : y ∈ rs) (h : x.2.1 = y.2.1) : x = y := by
 induction rs with
 | nil => cases hx
 | cons q r ih =>
  rw [List.map_cons, List.nodup_cons] at nd
  rcases List.mem_cons.mp hx with rfl | hx <;> rcases List.mem_cons.mp hy with rfl | hy
  ·rfl
  ·rename_i hx
   exact (nd.1 (List.mem_map.mpr ⟨_, hy, h.symm⟩)).elim
  ·exact (nd.1 (List.mem_map.mpr ⟨_, by assumption, h⟩)).elim
  ·exact ih nd.2 hx hy
theorem order_uniq {col : Nat} {rs q : List Rw} (nd : (rs.map fun r => r.2.1).Nodup) (hp : q.Perm rs) (hs : q.Pairwise fun x y => rkR col rs x ≤ rkR col rs y) : q = orderR col rs := by
 have hp2 : (orderR col rs).Perm rs := by have := order_perm col rs []; rwa [List.append_nil] at this
 have hs2 : (orderR col rs).Pairwise fun x y => rkR col rs x ≤ rkR col rs y := by
  refine (List.Pairwise.and_mem.mp (order_sorted (col := col) nd)).imp ?_
  rintro x y ⟨hx, _, h⟩
  exact Nat.le_of_lt (rk_lt (order_mem hx) h)
 refine List.Perm.eq_of_pairwise (fun x y hx hy h1 h2 => ?_) hs hs2 (hp.trans hp2.symm)
 have hx' := hp.mem_iff.mp hx
 have hy' := order_mem hy
 refine nodup_inj nd hx' hy' (Classical.byContradiction fun z => ?_)
 rcases ltR_total (col := col) z with g | g
 ·exact absurd (rk_lt hx' g) (by lia)
 ·exact absurd (rk_lt hy' g) (by lia)
end
section
section
variable (r : Nat → Nat)
noncomputable def kK (p : Array Nat) (i : Nat) : Nat := r (p.getD i 0)
noncomputable def UpTo (p : Array Nat) (m : Nat) : Prop := ∀ i j, i ≤ j → j < m → kK r p i ≤ kK r p j
noncomputable def DownTo (p : Array Nat) (m : Nat) : Prop := ∀ i j, i ≤ j → j < m → kK r p j ≤ kK r p i
noncomputable def EqFrom (p : Array Nat) (q m : Nat) : Prop := ∀ i, m - (q + 1) ≤ i → i < m → kK r p i = kK r p (m - 1)
variable {r}
theorem kK_congr {p p' : Array Nat} {i j : Nat} (h : p[i]? = p'[j]?) : kK r p i = kK r p' j := by
 have : p.getD i 0 = p'.getD j 0 := by rw [Array.getD_eq_getD_getElem?, Array.getD_eq_getD_getElem?, h]
 unfold kK; rw [this]
theorem kK_rev {p : Array Nat} {i j : Nat} (hj : j ≤ p.size) (k : Nat) : kK r (kas_rev p i j) k = if i ≤ k ∧ k < j then kK r p (i + j - 1 - k) else kK r p k := by
 have e := getElem?_mirror_all (i := i) hj k
 unfold kas_rev
 by_cases h1 : i ≤ k ∧ k < j
 ·rw [if_pos h1] at e ⊢; exact kK_congr e
 ·rw [if_neg h1] at e ⊢; exact kK_congr e
theorem kK_rev_same {p : Array Nat} {i j : Nat} (hj : j ≤ p.size) (heq : ∀ k, i ≤ k → k < j → kK r p k = kK r p (j - 1)) (k : Nat) : kK r (kas_rev p i j) k = kK r p k := by
 rw [kK_rev hj]
 split
 ·rw [heq _ (by lia) (by lia), heq k (by lia) (by lia)]
 ·rfl
theorem kK_bub {p : Array Nat} {src d : Nat} (hs : src < p.size) (hd : d ≤ src) (k : Nat) :
  kK r (bubble p src d) k = if k = src - d then kK r p src else if src - d < k ∧ k ≤ src then kK r p (k - 1) else kK r p k := by
 have e := getElem?_bubble hs d hd k
 by_cases h1 : k = src - d
 ·rw [if_pos h1] at e ⊢; exact kK_congr e
 ·rw [if_neg h1] at e ⊢
  by_cases h2 : src - d < k ∧ k ≤ src
  ·rw [if_pos h2] at e ⊢; exact kK_congr e
  ·rw [if_neg h2] at e ⊢; exact kK_congr e
variable (r)
structure IdxOk (n : Nat) (p : Array Nat) : Prop where
 size : p.size = n
 perm : p.toList.Perm (List.range n)
variable {r}
theorem IdxOk.lt {n : Nat} {p : Array Nat} (h : IdxOk n p) {i : Nat} (hi : i < n) : p.getD i 0 < n := by
 have hi' : i < p.size := by rw [h.size]; exact hi
 have e : p.getD i 0 = p[i] := by simp [Array.getD, hi']
 have : p[i] ∈ p.toList := by walk_at "ms"
 rw [e]
 exact List.mem_range.mp (h.perm.mem_iff.mp this)
theorem IdxOk.rev {n : Nat} {p : Array Nat} (h : IdxOk n p) (i j : Nat) : IdxOk n (kas_rev p i j) :=
 ⟨(mirror_size _ _ _ _).trans h.size, (Array.perm_iff_toList_perm.mp (mirror_perm _ _ _ _)).trans h.perm⟩
theorem IdxOk.bub {n : Nat} {p : Array Nat} (h : IdxOk n p) (i j : Nat) : IdxOk n (bubble p i j) :=
 ⟨(bubble_size _ _ _).trans h.size, (Array.perm_iff_toList_perm.mp (bubble_perm _ _ _)).trans h.perm⟩
variable {cmp : Nat → Nat → (Bool → Shared → Prop) → Shared → Prop} {s : Shared} {n : Nat}
 (hc : ∀ i j C, i < n → j < n → C (decide (r i < r j)) s → cmp i j C s)
include hc
theorem ask_wp {α : Type} {p : Array Nat} {i j : Nat} {k : Bool → KasT α} {Q : α → Shared → Prop} (hp : IdxOk n p) (hi : i < n) (hj : j < n) (h : (k (decide (kK r p i < kK r p j))).kasWp cmp Q s) :
  (KasT.ask (p.getD i 0) (p.getD j 0) k).kasWp cmp Q s := hc _ _ _ (hp.lt hi) (hp.lt hj) h
theorem asc_wp {p : Array Nat} (hp : IdxOk n p) {Q : Nat → Shared → Prop} : ∀ (f m : Nat), 1 ≤ m → m + f = n → UpTo r p m →
  (∀ m', m ≤ m' → m' ≤ n → UpTo r p m' → (m' = n ∨ kK r p m' < kK r p (m' - 1)) → Q m' s) → (kas_asc p f m).kasWp cmp Q s
 | 0, m, h1, hf, hs, h => h m (Nat.le_refl _) (by lia) hs (.inl (by lia))
 | f + 1, m, h1, hf, hs, h => by
  unfold kas_asc
  refine ask_wp hc hp (by lia) (by lia) ?_
  by_cases hl : kK r p m < kK r p (m - 1)
  ·rw [decide_eq_true hl, if_pos rfl]
   exact h m (Nat.le_refl _) (by lia) hs (.inr hl)
  ·rw [decide_eq_false hl, if_neg Bool.false_ne_true]
   refine asc_wp hp f (m + 1) (by lia) (by lia) (fun i j hij hj => ?_) fun m' a b c d => h m' (by lia) b c d
   by_cases hjx : j < m
   ·exact hs i j hij hjx
   ·have hj' : j = m := by lia
    subst hj'
    by_cases hi' : i = j
    ·subst hi'; exact Nat.le_refl _
    ·have := hs i (j - 1) (by lia) (by lia)
     lia
theorem desc_wp {Q : Array Nat × Nat × Nat → Shared → Prop} : ∀ (f : Nat) (p : Array Nat) (m q : Nat), IdxOk n p → 1 ≤ m → m + f = n → DownTo r p m → q + 1 ≤ m → EqFrom r p q m →
  (∀ p' m' q', IdxOk n p' → m ≤ m' → m' ≤ n → DownTo r p' m' → q' + 1 ≤ m' → EqFrom r p' q' m' → Q (p', m', q') s) → (kas_desc f p m q).kasWp cmp Q s
 | 0, p, m, q, hp, h1, hf, hs, hq, he, h => h p m q hp (Nat.le_refl _) (by lia) hs hq he
 | f + 1, p, m, q, hp, h1, hf, hs, hq, he, h => by
  unfold kas_desc
  have hsz : m ≤ p.size := by rw [hp.size]; lia
  refine ask_wp hc hp (by lia) (by lia) ?_
  by_cases hl : kK r p m < kK r p (m - 1)
  ·rw [decide_eq_true hl, if_pos rfl]
   have step1 : ∀ xs : Array Nat, (∀ k, kK r xs k = kK r p k) → DownTo r xs (m + 1) := by
    intro xs hk i j hij hj
    rw [hk, hk]
    by_cases hjx : j < m
    ·exact hs i j hij hjx
    ·have hj' : j = m := by lia
     subst hj'
     by_cases hi' : i = j
     ·subst hi'; exact Nat.le_refl _
     ·have := hs i (j - 1) (by lia) (by lia)
      lia
   have one : ∀ xs : Array Nat, EqFrom r xs 0 (m + 1) := fun xs i a b => by
    have : i = m + 1 - 1 := by lia
    rw [this]
   by_cases hq0 : q > 0
   ·rw [if_pos hq0]
    exact desc_wp f _ (m + 1) 0 (hp.rev _ _) (by lia) (by lia) (step1 _ (kK_rev_same hsz he)) (by lia) (one _) fun p' m' q' a b c d e g => h p' m' q' a (by lia) c d e g
   ·rw [if_neg hq0]
    exact desc_wp f _ (m + 1) 0 hp (by lia) (by lia) (step1 _ fun _ => rfl) (by lia) (one _) fun p' m' q' a b c d e g => h p' m' q' a (by lia) c d e g
  ·rw [decide_eq_false hl, if_neg Bool.false_ne_true]
   refine ask_wp hc hp (by lia) (by lia) ?_
   by_cases hg : kK r p (m - 1) < kK r p m
   ·rw [decide_eq_true hg, if_pos rfl]
    exact h p m q hp (Nat.le_refl _) (by lia) hs hq he
   ·rw [decide_eq_false hg, if_neg Bool.false_ne_true]
    have heq : kK r p m = kK r p (m - 1) := by lia
    refine desc_wp f p (m + 1) (q + 1) hp (by lia) (by lia) (fun i j hij hj => ?_) (by lia) (fun i a b => ?_) fun p' m' q' a b c d e g => h p' m' q' a (by lia) c d e g
    ·by_cases hjx : j < m
     ·exact hs i j hij hjx
     ·have hj' : j = m := by lia
      subst hj'
      by_cases hi' : i = j
      ·subst hi'; exact Nat.le_refl _
      ·have := hs i (j - 1) (by lia) (by lia)
       lia
    ·rw [show m + 1 - 1 = m by lia]
     by_cases hi' : i = m
     ·rw [hi']
     ·rw [heq]; exact he i (by lia) (by lia)
theorem tail3_wp {Q : Nat × Array Nat → Shared → Prop} {m : Nat} {p : Array Nat} (hp : IdxOk n p) (h1 : 1 ≤ m) (hm : m ≤ n) (hs : DownTo r p m)
  (h : ∀ m' p', IdxOk n p' → 1 ≤ m' → m' ≤ n → UpTo r p' m' → Q (m', p') s) : (kas_tail3 m n p).kasWp cmp Q s := by
 unfold kas_tail3
 rw [KasT.kasWp_bind]
 have hsz : m ≤ p.size := by rw [hp.size]; exact hm
 refine asc_wp hc (hp.rev 0 m) (n - m) m h1 (by lia) (fun i j hij hj => ?_) fun m' a b c _ => h m' _ (hp.rev 0 m) (by lia) b c
 rw [kK_rev hsz, kK_rev hsz, if_pos (by lia), if_pos (by lia)]
 exact hs _ _ (by lia) (by lia)
theorem descPart_wp {Q : Nat × Array Nat → Shared → Prop} {m : Nat} {p : Array Nat} (hp : IdxOk n p) (hm : m + 1 ≤ n) (hs : DownTo r p (m + 1))
  (h : ∀ m' p', IdxOk n p' → 1 ≤ m' → m' ≤ n → UpTo r p' m' → Q (m', p') s) : (kas_descPart m n p).kasWp cmp Q s := by
 unfold kas_descPart
 rw [KasT.kasWp_bind]
 refine desc_wp hc (n - (m + 1)) p (m + 1) 0 hp (by lia) (by lia) hs (by lia) (fun i a b => by rw [show i = m + 1 - 1 by lia]) fun p' m' q' hp' a b hs' hq he => ?_
 dsimp only
 have hsz : m' ≤ p'.size := by rw [hp'.size]; exact b
 by_cases hq0 : q' > 0
 ·rw [if_pos hq0]
  refine tail3_wp hc (hp'.rev _ _) (by lia) b (fun i j hij hj => ?_) h
  rw [kK_rev_same hsz he, kK_rev_same hsz he]
  exact hs' i j hij hj
 ·rw [if_neg hq0]
  exact tail3_wp hc hp' (by lia) b hs' h
theorem count_wp {Q : Nat × Array Nat → Shared → Prop} {p : Array Nat} (hp : IdxOk n p) (h1 : 1 ≤ n)
  (h : ∀ m' p', IdxOk n p' → 1 ≤ m' → m' ≤ n → UpTo r p' m' → Q (m', p') s) : (kas_count n p).kasWp cmp Q s := by
 unfold kas_count
 rw [KasT.kasWp_bind]
 refine asc_wp hc hp (n - 1) 1 (Nat.le_refl _) (by lia) (fun i j hij hj => by have : i = j := (by lia); subst this; exact Nat.le_refl _) fun m a b hs hor => ?_
 by_cases e1 : m = n
 ·rw [if_pos (by simpa using e1)]
  exact h m p hp a b hs
 ·rw [if_neg (by simpa using e1)]
  have hl : kK r p m < kK r p (m - 1) := hor.resolve_left e1
  by_cases e2 : m > 1
  ·rw [if_pos e2]
   refine ask_wp hc hp (by lia) (by lia) ?_
   by_cases hg : kK r p 0 < kK r p (m - 1)
   ·rw [decide_eq_true hg, if_pos rfl]
    exact h m p hp a b hs
   ·rw [decide_eq_false hg, if_neg Bool.false_ne_true]
    have hsz : m ≤ p.size := by rw [hp.size]; exact b
    have hall : ∀ k, 0 ≤ k → k < m → kK r p k = kK r p (m - 1) := by
     intro k _ hk
     have a1 := hs 0 k (by lia) hk
     have a2 := hs k (m - 1) (by lia) (by lia)
     lia
    refine descPart_wp hc (hp.rev _ _) (by lia) (fun i j hij hj => ?_) h
    rw [kK_rev_same hsz hall, kK_rev_same hsz hall]
    by_cases hjn : j < m
    ·rw [hall i (by lia) (by lia), hall j (by lia) hjn]; exact Nat.le_refl _
    ·have hj' : j = m := by lia
     subst hj'
     by_cases hi' : i = j
     ·subst hi'; exact Nat.le_refl _
     ·rw [hall i (by lia) (by lia)]; lia
  ·rw [if_neg e2]
   have hm1 : m = 1 := by lia
   subst hm1
   refine descPart_wp hc hp (by lia) (fun i j hij hj => ?_) h
   by_cases hi' : i = j
   ·subst hi'; exact Nat.le_refl _
   ·have hi0 : i = 0 := by lia
    have hj1 : j = 1 := by lia
    subst hi0; subst hj1
    exact Nat.le_of_lt hl
theorem place_wp {Q : Nat → Shared → Prop} {p : Array Nat} {k : Nat} (hp : IdxOk n p) (hk : k < n) (hs : UpTo r p k) : ∀ (f l u : Nat), l ≤ u → u ≤ k → u - l ≤ f →
  (∀ i, i < l → kK r p i ≤ kK r p k) → (∀ i, u ≤ i → i < k → kK r p k < kK r p i) →
  (∀ l', l' ≤ k → (∀ i, i < l' → kK r p i ≤ kK r p k) → (∀ i, l' ≤ i → i < k → kK r p k < kK r p i) → Q l' s) → (kas_place p k f l u).kasWp cmp Q s
 | 0, l, u, hlu, huk, hf, lo, hi, h => h l (by lia) lo fun i a b => hi i (by lia) b
 | f + 1, l, u, hlu, huk, hf, lo, hi, h => by
  unfold kas_place
  by_cases hge : l ≥ u
  ·rw [if_pos hge]
   exact h l (by lia) lo fun i a b => hi i (by lia) b
  ·rw [if_neg hge]
   refine ask_wp hc hp hk (by lia) ?_
   by_cases hl : kK r p k < kK r p ((l + u) / 2)
   ·rw [decide_eq_true hl, if_pos rfl]
    refine place_wp hp hk hs f l ((l + u) / 2) (by lia) (by lia) (by lia) lo (fun i a b => ?_) h
    have := hs _ _ a b
    lia
   ·rw [decide_eq_false hl, if_neg Bool.false_ne_true]
    refine place_wp hp hk hs f ((l + u) / 2 + 1) u (by lia) huk (by lia) (fun i a => ?_) hi h
    have := hs i ((l + u) / 2) (by lia) (by lia)
    lia
theorem bin_wp {Q : Array Nat → Shared → Prop} : ∀ (f : Nat) (p : Array Nat) (k : Nat), IdxOk n p → k + f = n → UpTo r p k → (∀ p', IdxOk n p' → UpTo r p' n → Q p' s) → (kas_bin f p k).kasWp cmp Q s
 | 0, p, k, hp, hf, hs, h => h p hp (by rw [← hf]; exact hs)
 | f + 1, p, k, hp, hf, hs, h => by
  unfold kas_bin
  rw [KasT.kasWp_bind]
  refine place_wp hc hp (by lia) hs k 0 k (by lia) (by lia) (by lia) (fun i a => absurd a (Nat.not_lt_zero _)) (fun i a b => absurd a (by lia)) fun l hlk lo hi => ?_
  have hks : k < p.size := by rw [hp.size]; lia
  refine bin_wp f _ (k + 1) (hp.bub _ _) (by lia) (fun i j hij hj => ?_) h
  rw [kK_bub hks (by lia), kK_bub hks (by lia), show k - (k - l) = l by lia]
  repeat' split
  all_goals first
   | (exfalso; lia)
   | exact Nat.le_refl _
   | exact lo _ (by lia)
   | exact Nat.le_of_lt (hi _ (by lia) (by lia))
   | exact hs _ _ (by lia) (by lia)
theorem sort_wp {Q : Array Nat → Shared → Prop} (h1 : 1 ≤ n) (h : ∀ p, IdxOk n p → UpTo r p n → Q p s) : (kas_sort n).kasWp cmp Q s := by
 unfold kas_sort
 rw [KasT.kasWp_bind]
 have h0 : IdxOk n (List.toArray (List.range n)) := ⟨by walk_at "ms", .refl _⟩
 refine count_wp hc h0 h1 fun m p hp a b hs => ?_
 dsimp only
 by_cases hm : m < n
 ·rw [if_pos hm]
  have e : max m 1 = m := by lia
  rw [e]
  exact bin_wp hc (n - m) p m hp (by lia) hs h
 ·rw [if_neg hm]
  have e : m = n := by lia
  subst e
  exact h p hp hs
end
end
section
set_option maxRecDepth 100000
noncomputable def KeysAt (col : Nat) (l : List (Addr × Obj)) (rs : List Rw) (vs : List Value) : Prop := All2 (fun (r : Rw) v => ∃ (a : Addr) (t1 t2 : Tok), v = Value.ref a ∧ (a, ({ cls := .type "tuple", data := .seq #[.int (-(colE r.2.2 col)) t1, .str r.2.1 t2, .ref r.1] } : Obj)) ∈ l) rs vs
theorem keys_pack {col : Nat} {rs : List Rw} {l : List (Addr × Obj)} {ys : List Value} (h : All2 (fun i y => KeyL col rs i y l) (List.range rs.length) ys) : KeysAt col l rs ys :=
 All2.range rfl (h.mono fun _ _ ⟨a, r, t1, t2, e, m, q⟩ => ⟨r, q, a, t1, t2, e, m⟩)
section
variable {prog : Program} {w : World} {A : Around} {E : Value → Shared → Prop} {s : Shared} {h₀ : Heap} {L : Addr} {m : Str → Option Value} {news : List (Addr × Obj)} {vs : List Value}
theorem small_sort {a : Addr} {n : Nat} {P : Fin → Shared → Prop} (ho : s.heap.get? a = some (seqObj "list" vs.toArray n)) (h2 : vs.length < 2)
  (h : P (.done (.ret .none)) { s with heap := sortedHeap s.heap a vs vs.toArray }) : wpAny (model prog w) A (Builtin.«list.sort» ⟨[.ref a], []⟩) P E s := by
 have ha : a < s.heap.objs.size := Heap.lt_size ho
 have hz : vs.toArray.size < 2 := by rw [List.size_toArray]; exact h2
 have hs : vs.length ≤ sizeLine := by rw [sizeLine_eq]; omega
 obtain ⟨e1, ho1⟩ : ∃ e1, (s.heap.update a (Obj.mapSeq fun _ => #[])).get? a = some (seqObj "list" #[] e1) := ⟨_, get?_update_seq ho (fun _ => #[])⟩
 have ho6 : (((s.heap.update a (Obj.mapSeq fun _ => #[])).push (seqObj "tuple" vs.toArray 0)).push (seqObj "list" #[] 0)).get? a = some (seqObj "list" #[] e1) := Heap.get?_push_of_some _ (Heap.get?_push_of_some _ ho1)
 have hout : (arrOf (SortSt.mk' general' (vs.toArray.zip vs.toArray) #[] 7 none)).map (·.2) = vs.toArray := by
  show (vs.toArray.zip vs.toArray).map (·.2) = _
  apply Array.toList_inj.mp
  simp only [Array.toList_map, Array.toList_zip]
  exact List.map_snd_zip (Nat.le_refl _)
 rw [list_sort_plain]
 refine wpAny_bind (listItems_at ho rfl ?_)
 refine wpAny_bind (listUpdate_at ho rfl ?_ (by rw [List.size_toArray]; exact hs) (Nat.zero_le _))
 refine wpAny_bind (seqEpoch_at ho1 rfl ?_)
 refine wpAny_bind (wpAny_newTuple ?_ hs)
 refine wpAny_bind (wpAny_newList ?_ (Nat.zero_le _))
 refine wpAny_holding ?_
 show wpAny (model prog w) A _ P E { s with heap := ((s.heap.update a (Obj.mapSeq fun _ => #[])).push (seqObj "tuple" vs.toArray 0)).push (seqObj "list" #[] 0) }
 dsimp only
 rw [if_pos hz, if_pos hz]
 refine wpAny_bind (wpAny_pure ?_)
 rw [StateT.run_pure]
 refine wpAny_bind (wpAny_pure ?_)
 dsimp only
 rw [hout]
 refine wpAny_bind (seqEpoch_at ho6 rfl ?_)
 refine wpAny_bind (listUpdate_at ho6 rfl ?_ (Nat.zero_le _) (by rw [List.size_toArray]; omega))
 simp only [bne_self_eq_false, Bool.false_eq_true, if_false]
 exact wpAny_pure h
theorem small_sorted {l : Addr} {Q : Value → Shared → Prop} (F : Fr h₀ L s.heap m) (N : News h₀ L s.heap news) (hl : s.heap.IsList l vs.toArray) (h2 : vs.length < 2)
  (h : ∀ D c h', Fr h₀ L h' m → News h₀ L h' ((D, seqObj "list" vs.toArray c) :: news) → (∀ q ∈ news, q.1 < D) → Q (.ref D) { s with heap := h' }) :
  wpAny (model prog w) A (call (.builtin "sorted") [.ref l]) Q E s := by
 have hs : vs.length ≤ sizeLine := by rw [sizeLine_eq]; omega
 have hsz : ((s.heap.push (seqObj "list" #[] 0)).update s.heap.objs.size (Obj.mapSeq (· ++ vs.toArray))).objs.size = s.heap.objs.size + 1 := by
  rw [Heap.size_update, size_push']
 have hoL : (((s.heap.push (seqObj "list" #[] 0)).update s.heap.objs.size (Obj.mapSeq (· ++ vs.toArray))).push (seqObj "list" vs.toArray 0)).get? (s.heap.objs.size + 1) = some (seqObj "list" vs.toArray 0) := by
  rw [← hsz]; exact Heap.get?_push_size _ rfl
 refine Calls.call_function_entry kind_sorted plain_sorted entry_sorted (args_sorted1 _) ?_
 unfold Builtin.«sorted»
 refine wpAny_bind (m := checkCount "sorted" 1 1 _) (wpAny_pure (wpAny_bind (collect_list hl (wpAny_bind (wpAny_newList ?_ hs)) hs)))
 show wpAny _ _ _ _ _ { s with heap := ((s.heap.push (seqObj "list" #[] 0)).update s.heap.objs.size (Obj.mapSeq (· ++ vs.toArray))).push (seqObj "list" vs.toArray 0) }
 rw [hsz]
 refine wpAny_bind (wpAny_holding (wpAny_call_entry slot_list_sort ⟨_, hoL, rfl⟩ entry_list_sort (small_sort hoL h2 ⟨_, rfl, ?_⟩) (args_list_sort _)))
 obtain ⟨e, he⟩ := sortedAll_at s.heap vs vs.toArray
 exact wpAny_pure ⟨_, rfl, h _ e (sortedAll s.heap vs vs.toArray) (F.kept fun _ _ => sortedAll_old) (N.kept_cons F (fun _ _ => sortedAll_old) (Nat.le_succ _) he) fun q hq => Nat.lt_succ_of_lt (Heap.lt_size (N q hq).1)⟩
end
theorem all2_len {α β : Type} {R : α → β → Prop} {l : List α} {l' : List β} (h : All2 R l l') : l.length = l'.length := All2.length h
theorem tups_of {w : World} {h : Heap} {col : Nat} {news : List (Addr × Obj)} (hg : ∀ p ∈ news, h.get? p.1 = some p.2) : ∀ {rs : List Rw} {ks : List Value}, KeysAt col news rs ks → ∃ fs : List Value, KatTups h ks fs ∧ fs.length = rs.length ∧ ∀ v ∈ fs, ∃ n t, v = Value.int n t
 | _, _, .nil => ⟨[], KatTups.nil, rfl, fun v hv => nomatch hv⟩
 | _, _, .cons ⟨a, t1, t2, e, hm⟩ r => by
  walk_at "cg"
  obtain ⟨fs, a1, a2, a3⟩ := tups_of hg r (w := w)
  walk_at "bg"
  subst e
  refine ⟨_ :: fs, KatTups.cons (hg _ hm) rfl rfl rfl a1, by rw [List.length_cons, List.length_cons, a2], fun v hv => ?_⟩
  rcases List.mem_cons.mp hv with rfl | hv
  ·exact ⟨_, _, rfl⟩
  ·exact a3 v hv
theorem sort_rows {w : World} {A : Around} {E : Value → Shared → Prop} {s : Shared} {Q : Value → Shared → Prop} {h₀ : Heap} {L : Addr} {m : Str → Option Value} {news : List (Addr × Obj)} {col : Nat} {rs : List Rw} {ks : List Value} {l : Addr} (hh : A.handled = none) (hu : A.units + 20 < cLine) (F : Fr h₀ L s.heap m) (N : News h₀ L s.heap news)
  (hm : (l, LCg.lst ks) ∈ news) (hl : rs.length ≤ 44) (nd : (rs.map fun r => r.2.1).Nodup) (hk : KeysAt col news rs ks)
  (h : ∀ (D : Addr) c h' tk (vs : List Value), Fr h₀ L h' m → News h₀ L h' ((D, listOf vs.toArray c) :: news) → (∀ q ∈ news, q.1 < D) → KeysAt col news (orderR col rs) vs → Q (.ref D) { s with heap := h', toks := tk }) :
  wpAny (model PG w) A (call (.builtin "sorted") [.ref l]) Q E s := by
 have hL : s.heap.IsList l ks.toArray := ⟨_, (N _ hm).1, rfl, _, rfl⟩
 have len := all2_len hk
 by_cases h2 : ks.length < 2
 ·refine small_sorted F N hL h2 fun D c h' F' N' hD => ?_
  have e : orderR col rs = rs := by
   match rs, len with
   | [], _ => rfl
   | [r], _ => rfl
   | _ :: _ :: _, len => simp at len; omega
  exact h D c h' s.toks ks F' N' hD (by rw [e]; exact hk)
 refine kat_sorted F N hL (by omega) (by omega) fun D e1 h' F' N' hD => ?_
 have N0 : News h₀ L h' news := fun p hp => N' p (.tail _ hp)
 walk_at "cg"
 obtain ⟨fs, f1, f2, f3⟩ := tups_of (w := w) (fun p hp => (N0 p hp).1) hk
 walk_at "bg"
 refine kat_kind (T := .type "int") f1 (by omega) (fun v hv => ?_) rfl ?_
 ·obtain ⟨n, t, rfl⟩ := f3 v hv
  exact .now
 refine sort_wp (n := ks.length) (r := fun i => match rs[i]? with | some x => rkR col rs x | none => 0) (fun i j C hi hj hC => ?_) (by omega) fun p hp hs => ?_
 ·have ei := List.getElem?_eq_getElem (l := rs) (i := i) (by omega)
  have ej := List.getElem?_eq_getElem (l := rs) (i := j) (by omega)
  walk_at "cg"
  obtain ⟨vi, hvi, ai, ti1, ti2, rfl, mi⟩ := All2.get hk ei
  walk_at "bg"
  walk_at "cg"
  obtain ⟨vj, hvj, aj, tj1, tj2, rfl, mj⟩ := All2.get hk ej
  walk_at "bg"
  rw [ei, ej] at hC
  dsimp only at hC
  have hx := List.getElem_mem (l := rs) (n := i) (by omega)
  have hy := List.getElem_mem (l := rs) (n := j) (by omega)
  generalize rs[i] = x at *
  (revert x; refine hold_pi ?_; set_option tactic.hygienic false in intros)
  generalize rs[j] = y at *
  (revert y; refine hold_pi ?_; set_option tactic.hygienic false in intros)
  rw [← rk_iff hx hy (nodup_inj nd hx hy)] at hC
  show wpAny _ _ (keyLt' _ (ks.getD i Value.none) (ks.getD j Value.none)) _ _ _
  rw [List.getD_eq_getElem?_getD, List.getD_eq_getElem?_getD, hvi, hvj]
  refine kat_lt (b := true) (N0 _ mi).1 rfl (N0 _ mj).1 rfl ?_
  show KatLex _ _ _ _ _ _ [(_, _), (_, _), (_, _)] 0 _
  refine kat_cons (SeqAt.EqAt.int_int _ _ _ _ _ _ _ _ (kat_go (fun e => kat_yes ?_) fun e => kat_no ?_))
  ·have ec : colE x.2.2 col = colE y.2.2 col := by have := eq_of_beq e; omega
   refine kat_cons (SeqAt.EqAt.str_str _ _ _ _ _ _ _ _ (kat_go (fun e2 => kat_yes ?_) fun e2 => kat_no (kat_one _ _ (lt_str ?_))))
   ·have exy := nodup_inj nd hx hy (eq_of_beq e2)
    subst exy
    refine kat_cons (SeqAt.EqAt.same _ _ _ _ _ (kat_yes (kat_nil ?_)))
    have : ltR col x x = false := by
     cases q : ltR col x x with
     | false => rfl
     | true => exact absurd q ltR_irrefl
    rw [this] at hC
    exact hC
   ·have : ltR col x y = decide (x.2.1.cps.toList < y.2.1.cps.toList) := by
     unfold ltR
     rw [decide_eq_false (by omega : ¬ colE y.2.2 col < colE x.2.2 col), decide_eq_true ec, Bool.false_or, Bool.true_and]
    rw [this] at hC
    exact hC
  ·have ne : colE x.2.2 col ≠ colE y.2.2 col := fun z => by rw [z, beq_self_eq_true] at e; cases e
   refine oneLt_int ?_
   have : ltR col x y = decide (-colE x.2.2 col < -colE y.2.2 col) := by
    unfold ltR
    rw [decide_eq_false ne, Bool.false_and, Bool.or_false]
    exact decide_eq_decide.mpr (by omega)
   rw [this] at hC
   exact hC
 ·refine KasFin.intro F' N' (.head fun q hq => Nat.ne_of_lt (hD q hq)) fun h'' c F'' N'' => ?_
  have h0 : 0 < rs.length := by omega
  have hperm : (p.toList.map fun i => rs.getD i rs[0]).Perm rs := by
   have h1 := hp.perm.map fun i => rs.getD i rs[0]
   have e : ((List.range ks.length).map fun i => rs.getD i rs[0]) = rs := by
    refine List.ext_getElem (by simp [len]) fun i h1 h2 => ?_
    rw [List.getElem_map, List.getElem_range, List.getD_eq_getElem?_getD, List.getElem?_eq_getElem h2]; rfl
   rwa [e] at h1
  have hlt : ∀ i, i ∈ p.toList → i < rs.length := fun i hi => by
   have := List.mem_range.mp (hp.perm.mem_iff.mp hi)
   omega
  have hrk : ∀ i (hi : i < p.size), kK (fun i => match rs[i]? with | some x => rkR col rs x | none => 0) p i = rkR col rs (rs.getD p[i] rs[0]) := fun i hi => by
   have h1 : p.getD i 0 = p[i] := by simp [Array.getD, hi]
   have h2 := hlt p[i] (by simp)
   unfold kK
   rw [h1, List.getD_eq_getElem?_getD]
   dsimp only
   rw [List.getElem?_eq_getElem h2]; rfl
  have hsort : (p.toList.map fun i => rs.getD i rs[0]).Pairwise fun x y => rkR col rs x ≤ rkR col rs y := by
   rw [List.pairwise_map, List.pairwise_iff_getElem]
   intro i j hi hj hij
   have hi' : i < p.size := by simpa using hi
   have hj' : j < p.size := by simpa using hj
   have h1 := hs i j (Nat.le_of_lt hij) (by rw [← hp.size]; exact hj')
   rw [hrk i hi', hrk j hj'] at h1
   simpa using h1
  have hord := order_uniq nd hperm hsort
  have pick : ∀ is : List Nat, (∀ i ∈ is, i < rs.length) → KeysAt col news (is.map fun i => rs.getD i rs[0]) (is.map fun i => ks.getD i Value.none) := by
   intro is
   induction is with
   | nil => intro _; exact .nil
   | cons i is ih =>
    intro hi
    have h2 := hi i (.head _)
    walk_at "cg"
    obtain ⟨v, hv, a, t1, t2, rfl, ma⟩ := All2.get hk (List.getElem?_eq_getElem h2)
    walk_at "bg"
    refine .cons ?_ (ih fun j hj => hi j (.tail _ hj))
    dsimp only
    rw [List.getD_eq_getElem?_getD, List.getD_eq_getElem?_getD, List.getElem?_eq_getElem h2, hv]
    exact ⟨a, t1, t2, rfl, ma⟩
  have hks := pick p.toList hlt
  rw [hord] at hks
  exact h D c h'' s.toks _ F'' N'' hD hks
theorem RowsAt.mono {l l' : List (Addr × Obj)} {rs : List Rw} (h : RowsAt l rs) (sub : ∀ p ∈ l, p ∈ l') : RowsAt l' rs := fun r hr => let ⟨t1, t2, t3, t4, t5, m⟩ := h r hr; ⟨t1, t2, t3, t4, t5, sub _ m⟩
theorem tc_pack {w : World} {g h : Heap} {L xa dx la p1 p2 DR : Addr} {k1 u1 u2 u3 u4 : Tok} {kl kr col : Nat} {bS bK : Addr × Obj} {rs : List Rw} {tl : List (Addr × Obj)}
  (N : News g L h ([(xa, instObj 45 dx), (dx, tcD w la k1)] ++ (la, W.listOf #[.ref p1, .ref p2] kl) :: (p2, { cls := .type "tuple", data := .seq #[.int 4 u3, .int 1 u4] }) :: (p1, { cls := .type "tuple", data := .seq #[.int col u1, .int (-1) u2] }) :: bS :: bK :: (DR, W.listOf (refsR rs).toArray kr) :: tl)) :
  ∃ (la p1 p2 : Addr) (u1 u2 u3 u4 : Tok) (kl : Nat), News g L h ((DR, W.listOf (refsR rs).toArray kr) :: (cmpLed w xa dx la p1 p2 k1 u1 u2 u3 u4 kl col ++ (bS :: bK :: tl))) := by
 refine ⟨la, p1, p2, u1, u2, u3, u4, kl, news_sub N fun p hp => ?_⟩
 simp only [cmpLed, List.mem_cons, List.mem_append, List.not_mem_nil, or_false] at hp ⊢
 grind
theorem same_all {A : Around} {s : Shared} : ∀ (l : List Value), All2 (fun v y => SeqAt.EqAt A s v y true) l l
 | [] => .nil
 | v :: l => .cons (SeqAt.EqAt.same v) (same_all l)
theorem range_same {l ys : List Value} (h : All2 (fun i y => l[i]? = some y) (List.range l.length) ys) : ys = l := by
 refine List.ext_getElem? fun i => ?_
 have hl := All2.length h
 rw [List.length_range] at hl
 rcases Nat.lt_or_ge i l.length with q | q
 ·obtain ⟨y, hy, e⟩ := All2.get h (i := i) (a := i) (by rw [List.getElem?_range q])
  rw [hy, e]
 ·rw [List.getElem?_eq_none q, List.getElem?_eq_none (by omega)]
end
section
noncomputable def drawsS (ns : List Int) : List Int := (List.take 8 ns).map fun z => Int.fmod z 36
noncomputable def valsS (ns : List Int) : List Int := [0, 18] ++ drawsS ns ++ [0]
theorem vals_b (ns : List Int) : ∀ z ∈ valsS ns, 0 ≤ z ∧ z < 36 := fun z hz => by
 unfold valsS drawsS at hz
 simp only [List.mem_append, List.mem_cons, List.not_mem_nil, or_false, List.mem_map] at hz
 rcases hz with ((rfl | rfl) | ⟨y, _, rfl⟩) | rfl
 ·decide
 ·decide
 ·exact ⟨Int.fmod_nonneg_of_pos _ (by decide), Int.fmod_lt_of_pos _ (by decide)⟩
 ·decide
noncomputable def lineL (v : Int) : Lin := (leadS v, Int.fmod (Int.fdiv v 6) 3, Int.fmod (Int.fdiv v 18) 2 == 1)
theorem news_ned {h₀ h : Heap} {L a b : Addr} {o p : Obj} {news : List (Addr × Obj)} (N : News h₀ L h news) (ha : (a, o) ∈ news) (hb : (b, p) ∈ news) {v : Option Value} (hp : p.data = .cell v) (ho : ∀ v, o.data ≠ .cell v) : @Ne Nat a b := fun e => by
 have h1 := (N _ ha).1
 have h2 := (N _ hb).1
 dsimp only at h1 h2
 rw [show a = b from e, h2] at h1
 cases h1
 exact ho _ hp
theorem lines_ok (ns : List Int) : ∀ l ∈ (valsS ns).map lineL, l.1 ∈ leadT ∧ 0 ≤ l.2.1 ∧ l.2.1 ≤ 2 := fun l hl => by
 walk_at "cg"
 obtain ⟨z, hz, rfl⟩ := List.mem_map.mp hl
 walk_at "bg"
 refine ⟨lead_mem z, Int.fmod_nonneg_of_pos _ (by decide), ?_⟩
 have := Int.fmod_lt_of_pos (Int.fdiv z 6) (b := 3) (by decide)
 show Int.fmod (Int.fdiv z 6) 3 ≤ 2
 exact oz110 this
theorem law_pack {g h : Heap} {L' D3 An : Addr} {b0 b1 b2 b3 d : Addr × Obj} {oC oB oA : Obj} {n0 n1 : Value} {kn k : Nat} {ns : List Int} {zs : List Value} {nw : List (Addr × Obj)}
  (N : News g L' h ((D3, LCg.lst zs) :: ([b0, b1, b2, b3, (An, W.listOf #[n0, n1] kn), d, (L' + 1 + 1 + 1, oC), (L' + 1 + 1, oB), (L' + 1, oA), (186, tabO #[])] ++ nw)))
  (al : All2 (fun i y => ∃ z, (valsS ns)[i]? = some z ∧ ∃ a t1 t2, y = Value.ref a ∧ (a, linO (lineL z) t1 t2) ∈ [b0, b1, b2, b3, (An, W.listOf #[n0, n1] kn), d, (L' + 1 + 1 + 1, oC), (L' + 1 + 1, oB), (L' + 1, oA), (186, tabO #[])] ++ nw ∧ a ∉ [186, L' + 1, L' + 1 + 1, L' + 1 + 1 + 1]) (List.range k) zs) (hk : k = (valsS ns).length) :
  ∃ tls, News g L' h ((D3, LCg.lst zs) :: (An, W.listOf #[n0, n1] kn) :: (186, tabO #[]) :: (L' + 1 + 1 + 1, oC) :: (L' + 1 + 1, oB) :: (L' + 1, oA) :: tls) ∧ LinesAt tls ((valsS ns).map lineL) zs ∧ (∀ p ∈ tls, p.1 ∉ [186, L' + 1, L' + 1 + 1, L' + 1 + 1 + 1]) := by
 refine ⟨([b0, b1, b2, b3, (An, W.listOf #[n0, n1] kn), d, (L' + 1 + 1 + 1, oC), (L' + 1 + 1, oB), (L' + 1, oA), (186, tabO #[])] ++ nw).filter (fun p => decide (p.1 ∉ [186, L' + 1, L' + 1 + 1, L' + 1 + 1 + 1])), fun p hp => N p ?_, ?_, fun p hp => ?_⟩
 ·simp only [List.mem_cons] at hp
  rcases hp with q | q | q | q | q | q | q
  ·simp [q]
  ·simp [q]
  ·simp [q]
  ·simp [q]
  ·simp [q]
  ·simp [q]
  ·exact .tail _ (List.mem_filter.mp q).1
 ·have a2 : All2 (fun (z : Int) v => ∃ a t1 t2, v = Value.ref a ∧ (a, linO (lineL z) t1 t2) ∈ ([b0, b1, b2, b3, (An, W.listOf #[n0, n1] kn), d, (L' + 1 + 1 + 1, oC), (L' + 1 + 1, oB), (L' + 1, oA), (186, tabO #[])] ++ nw).filter (fun p => decide (p.1 ∉ [186, L' + 1, L' + 1 + 1, L' + 1 + 1 + 1]))) (valsS ns) zs :=
   All2.range hk (All2.mono (fun i y ⟨z, hz, a, t1, t2, e, m, n⟩ => ⟨z, hz, xi3 a t1 t2 ⟨e, List.mem_filter.mpr ⟨m, decide_eq_true n⟩⟩⟩) al)
  have := All2.map (S := fun (l : Lin) v => ∃ a t1 t2, v = Value.ref a ∧ (a, linO l t1 t2) ∈ ([b0, b1, b2, b3, (An, W.listOf #[n0, n1] kn), d, (L' + 1 + 1 + 1, oC), (L' + 1 + 1, oB), (L' + 1, oA), (186, tabO #[])] ++ nw).filter (fun p => decide (p.1 ∉ [186, L' + 1, L' + 1 + 1, L' + 1 + 1 + 1]))) lineL (fun _ _ h => h) a2
  exact this
 ·exact of_decide_eq_true (List.mem_filter.mp hp).2
local macro_rules | `(tactic| walk_at "subscriptTail Name Slice ref ref") => `(tactic| (k_here; refine hold_it ?_))
local macro_rules | `(tactic| walk_at "compareOp NotEq ref ref") => `(tactic| (k_here; refine hold_it ?_))
local macro_rules | `(tactic| walk_at "subscriptTail Name Constant ref int") => `(tactic| (k_here; refine hold_it ?_))
local macro_rules | `(tactic| walk_at "subscriptTail Name Name ref str") => `(tactic| (k_here; refine hold_it ?_))
local macro_rules | `(tactic| walk_at "exec Assign cons ListComp") => `(tactic| (k_here; refine hold_it ?_))
local macro_rules | `(tactic| walk_at "binaryOp Add ref ref") => `(tactic| (k_here; rename IsTup _ _ _ => zz; refine hold_it ?_))
local macro_rules | `(tactic| walk_at "subscriptTail Name Name ref int") => `(tactic| (k_here; refine hold_it ?_))
local macro_rules | `(tactic| walk_at "call builtin:sorted") => `(tactic| (k_here; refine hold_it ?_))
local macro_rules | `(tactic| walk_at "compareOp Eq ref ref") => `(tactic| (k_here; refine hold_it ?_))
local macro_rules | `(tactic| walk_at "eval ListComp") => `(tactic| (k_here; refine hold_it ?_))
local macro_rules | `(tactic| walk_at "call type:list") => `(tactic| (k_here; refine hold_it ?_))
namespace c_law
noncomputable def P := unc fun (w : World) => unc fun (mean : ExcName → Option Value) => unc fun (mg : Str → Option Value) => unc fun (mb : Str → Option Value) => unc fun (s : Shared) => unc fun (R : Result → Shared → Prop) => unc fun (ls : Addr) => unc fun (vs : List Value) => fun (ns : List Int) => ∀ (X0 : (hd.heap_39 w.params).In s.heap), ∀ (T0 : Top EP LS0 mean mg mb s.heap), ∀ (h6 : s.heap.get? 186 = some (tabO #[])), ∀ (hab : AllBare s.gens), ∀ (hl : s.heap.IsList ls vs.toArray), ∀ (hi : IntsAre vs ns), ∀ (hlen : ns.length ≤ 63), ∀ (hret : ∀ h' tk' gs' ps', (∀ b o, b ≠ 186 → s.heap.get? b = some o → h'.get? b = some o) → TabOk ps' → h'.get? 186 = some (tabO ps') → AllBare gs' → R (.ok (.ret (.bool true))) { s with heap := h', toks := tk', gens := gs' }), codeAny (model PG w) callerA (.call (.ref 274) ⟨[.ref ls], []⟩) R s
theorem ne : Nonempty (World × (ExcName → Option Value) × (Str → Option Value) × (Str → Option Value) × Shared × (Result → Shared → Prop) × Addr × List Value × List Int) := by repeat' (first | refine neP ?_ ?_ | exact neW | exact neA | exact neS | infer_instance)
@[irreducible] noncomputable def c := @cst _ ne P
@[irreducible] noncomputable def w : World := c.1
@[irreducible] noncomputable def mean : ExcName → Option Value := c.2.1
@[irreducible] noncomputable def mg : Str → Option Value := c.2.2.1
@[irreducible] noncomputable def mb : Str → Option Value := c.2.2.2.1
@[irreducible] noncomputable def s : Shared := c.2.2.2.2.1
@[irreducible] noncomputable def R : Result → Shared → Prop := c.2.2.2.2.2.1
@[irreducible] noncomputable def ls : Addr := c.2.2.2.2.2.2.1
@[irreducible] noncomputable def vs : List Value := c.2.2.2.2.2.2.2.1
@[irreducible] noncomputable def ns : List Int := c.2.2.2.2.2.2.2.2
set_option maxRecDepth 100000 in
set_option maxHeartbeats 8000000 in
noncomputable def q1 : {Q : Prop // Q → (∀ (X0 : (hd.heap_39 w.params).In s.heap) (T0 : Top EP LS0 mean mg mb s.heap) (h6 : s.heap.get? 186 = some (tabO #[])) (hab : AllBare s.gens) (hl : s.heap.IsList ls vs.toArray) (hi : IntsAre vs ns) (hlen : ns.length ≤ 63) (hret : ∀ h' tk' gs' ps', (∀ b o, b ≠ 186 → s.heap.get? b = some o → h'.get? b = some o) → TabOk ps' → h'.get? 186 = some (tabO ps') → AllBare gs' → R (.ok (.ret (.bool true))) { s with heap := h', toks := tk', gens := gs' }), codeAny (model PG w) callerA (.call (.ref 274) ⟨[.ref ls], []⟩) R s)} := by
 apply mkQ; intro hQ
 intro X0 T0 h6 hab hl hi hlen hret
 k_dflt (refine' enterLaw (K := hd.heap_39 w.params) (binds := [(Str.ofString "script", .ref ls)]) X0 T0 ?k6 ?k7 ?k9 ?kB ?kD ?_ ?c2 ?c3 ?c4)
 case k6 => k_is
 case k7 => k_is
 case k9 => exact BindsTo.of_eq rfl
 case kB => exact rfl
 case kD => decide +kernel
 case c2 => exact rfl
 case c3 => exact rfl
 case c4 => exact rfl
 k_whole
 intro h' tk' L' cells' eL' hk1 F' N' Y' newC
 k_cells Y'
 rename_i oC oB oA d1 d2 d3
 have B' := below_caller (hideAll s.heap [186])
 have X' := in_hide X0
 have T' := top_hide T0 h6
 have l6 : ls ≠ 186 := fun z => by
  refine exC (kO zeO) hl ?_; clear hl; intro o hZ; revert eL' hk1 F' d1 d2 d3 N' newC hZ; revert h' L' oC oB oA o; exists hc, kS yH <| kS yN <| kS zeO <| kS zeO <| kS zeO <| kO zeO, 1, h', L', oC, oB, oA, o; (try dsimp only); intro eL' hk1 F' d1 d2 d3 N' newC hZ; obtain ⟨e1, e2, _⟩ := hZ
  rw [z, h6] at e1; cases e1; cases e2
 have hlg : (hideAll s.heap [186]).IsList ls vs.toArray := by
  refine exC (kO zeO) hl ?_; clear hl; intro o hZ; revert eL' hk1 F' d1 d2 d3 N' newC hZ; revert h' L' oC oB oA o; exists hc, kS yH <| kS yN <| kS zeO <| kS zeO <| kS zeO <| kO zeO, 2, h', L', oC, oB, oA, o; (try dsimp only); intro eL' hk1 F' d1 d2 d3 N' newC hZ; obtain ⟨e1, r⟩ := hZ
  exact ⟨o, hideAll_get _ e1 (by first | exact l6 | walk_at "mz" | simpa using l6), r⟩
 have g6 : (hideAll s.heap [186]).get? 186 = none := hideAll_none _ (by walk_at "ms")
 have l6' : (186 : Addr) ≠ L' := fun z => by
  have := Heap.lt_size h6
  rw [eL'] at z; rw [← z] at this; exact Nat.lt_irrefl _ this
 obtain ⟨v1, c1⟩ : ∃ v, oC.data = .cell v := ⟨_, d1⟩
 obtain ⟨v2, c2⟩ : ∃ v, oB.data = .cell v := ⟨_, d2⟩
 obtain ⟨v3, c3⟩ : ∃ v, oA.data = .cell v := ⟨_, d3⟩
 have N0 : News (hideAll s.heap [186]) L' h' [(L' + 1 + 1 + 1, oC), (L' + 1 + 1, oB), (L' + 1, oA), (186, tabO #[])] := fun p hp => by
  revert p; refine fc ?_ (fc ?_ (fc ?_ (fc ?_ fnil)))
  ·exact N' _ (.head _)
  ·exact N' _ (.tail _ (.head _))
  ·exact N' _ (.tail _ (.tail _ (.head _)))
  ·exact ⟨hk1 _ _ h6, l6', g6⟩
 clear N' d1 d2 d3
 have newS : ∀ b, (hideAll s.heap [186]).get? b = none → b ≠ 186 → s.heap.get? b = none := fun b h1 h2 => by
  cases e : s.heap.get? b with
  | none => rfl
  | some o => rw [hideAll_get _ e (by first | exact h2 | walk_at "mz" | simpa using h2)] at h1; cases h1
 have keepG : ∀ b o, b ≠ 186 → s.heap.get? b = some o → (hideAll s.heap [186]).get? b = some o := fun b o h1 h2 => hideAll_get _ h2 (by first | exact h1 | walk_at "mz" | simpa using h1)
 generalize hg : hideAll s.heap [186] = g at B' X' T' hlg F' N0 g6 newS keepG
 (revert g; refine hold_pi ?_; set_option tactic.hygienic false in intros)
 clear hg hl hk1 X0 T0
 replace newS := Hid.mk newS
 replace keepG := Hid.mk keepG
 (try dsimp only)
 (try (refine fold2 ?_; intro qk ek hqk hek))
 revert eL' newC l6' c1 c2 c3 B' X' T' hlg F' N0 g6 newS keepG hqk hek; revert h' tk' L' oC oB oA v1 v2 v3 g qk ek; exists hc, kS yH <| kS yN <| kS yN <| kS zeO <| kS zeO <| kS zeO <| kS yT <| kS yT <| kS yT <| kS yH <| kS (yF (yF yP)) <| kO (yF (yF yP)), 3, h', tk', L', oC, oB, oA, v1, v2, v3, g, qk, ek; (try dsimp only); intro eL' newC l6' c1 c2 c3 B' X' T' hlg F' N0 g6 newS keepG hqk hek
 walk_at "ws"
 show wpAny _ _ _ _ _ _
 k_dflt (refine LCg.Assign_ListComp_U (F₀ := by k_asm) (by rfl) (by with_unfolding_all rfl) (by with_unfolding_all rfl) (by decide) (by rfl) (by decide) (by rfl) (by rfl) (by rfl) ?_)
 walk_at "ws"
 show wpAny _ _ _ _ _ _
 refine kmk_slice F' N0 ((by obtain ⟨o, e1, r⟩ := hlg; exact ⟨o, F'.keep _ _ e1, r⟩ : Heap.IsList _ ls vs.toArray)) .none (.int _ _) (fun S0 hS FS NS l1 => ?_) (by with_unfolding_all rfl) (by intro _; with_unfolding_all rfl) (by rw [List.size_toArray, hi.length]; exact Nat.le_trans hlen (by decide))
 rw [show slicePick vs.toArray none (some 8) none = (vs.take 8).toArray from slice_up (by decide)] at NS
 clear l1 F' N0
 have hI8 : IntsAre (vs.take 8) (ns.take 8) := hi.take 8
 revert FS NS; revert S0 hS; exists hc, kS yN <| kO yH, 4, S0, hS; (try dsimp only); intro FS NS
 walk_at "ws"
 have h8 : (List.take 8 ns).length ≤ 8 := List.length_take_le _ _
 rename News _ _ _ _ => N1
 rename Fr _ _ _ _ => F1
 refine LCg.CompSrc.ledger rfl F1 N1 (.head _) ?_ fun g9 => ?_
 ·rw [List.size_toArray, hI8.length]; exact Nat.le_trans h8 (by decide)
 revert g9; exists ho, kO yH, 5, g9; dsimp only [Cu.un, kO]
 refine compU_ind (fun i v _ => ∃ z t, (List.take 8 ns)[i]? = some z ∧ v = Value.int (Int.fmod z 36) t) (fun _ _ _ _ _ h => h) (srcAt_sub (.head _)) ?_ ?_
 ·intro i v ys nw I oI C oC2 D m₂ h tk E' hi9 hv hC hx9 F N off ne
  have hZ := IntsAre.item' hI8 (by first | exact hv | walk_at "mz" | simpa using hv); refine exC (kS zeI <| kO yN) hZ ?_; clear hZ; intro z tz hZ; revert hi9 hv hC hx9 F N off ne hZ; revert i v ys nw I oI C oC2 D m₂ h tk E' z tz; refine no_implicit_lambda% (hzC (kS yN <| kS zeV <| kS yL <| kS yL <| kS yN <| kS zeO <| kS yN <| kS zeO <| kS yN <| kS (yF yT) <| kS yH <| kS yN <| kS (yF (yF yP)) <| kS zeI <| kO yN) 6 ?_); show Cu.un ?C1h ?Z1h ?z1h; refine (?_ : Cu.all ?C1h ?Z1h) ?z1h.1 ?z1h.2.1 ?z1h.2.2.1 ?z1h.2.2.2.1 ?z1h.2.2.2.2.1 ?z1h.2.2.2.2.2.1 ?z1h.2.2.2.2.2.2.1 ?z1h.2.2.2.2.2.2.2.1 ?z1h.2.2.2.2.2.2.2.2.1 ?z1h.2.2.2.2.2.2.2.2.2.1 ?z1h.2.2.2.2.2.2.2.2.2.2.1 ?z1h.2.2.2.2.2.2.2.2.2.2.2.1 ?z1h.2.2.2.2.2.2.2.2.2.2.2.2.1 ?z1h.2.2.2.2.2.2.2.2.2.2.2.2.2.1 ?z1h.2.2.2.2.2.2.2.2.2.2.2.2.2.2; intro i v ys nw I oI C oC2 D m₂ h tk E' z tz hi9 hv hC hx9 F N off ne hZ; obtain ⟨rfl, hz⟩ := hZ
  dsimp only [List.cons_append, List.nil_append] at N
  walk_at "ws"
  exact CEnd.intro F N off (fun _ h => h) (xi2 z _ ⟨hz, rfl⟩)
 intro ys nw al
 unfold LCg.FinA
 intro D h tk F2 N2 off2
 have hdr : IntsAre ys (drawsS ns) := ints_of_range (by rw [List.size_toArray, hI8.length]) al
 have N3 : News g L' h [(D, LCg.lst ys), (L' + 1 + 1 + 1, oC), (L' + 1 + 1, oB), (L' + 1, oA), (186, tabO #[])] := news_sub N2 (by walk_at "sz")
 have oD2 : ∀ p ∈ [(L' + 1 + 1 + 1, oC), (L' + 1 + 1, oB), (L' + 1, oA), (186, tabO #[])], @Ne Nat p.1 D := fun p hp => off1_mem off2 p (subm (by walk_at "sz") hp)
 have hdl : (drawsS ns).length ≤ 8 := by unfold drawsS; rw [List.length_map]; exact h8
 clear N2 off2 al N1 F1 hI8 hlg hi
 try dsimp only
 revert F2 hdr N3 oD2; revert ys nw D h tk; exists hc, kS yL <| kS yL <| kS yN <| kS yH <| kO yN, 7, ys, nw, D, h, tk; (try dsimp only); intro F2 hdr N3 oD2
 walk_at "ws"
 obtain ⟨total, htot⟩ : ∃ t, (drawsS ns).sum = t := ⟨_, rfl⟩
 rename News _ _ _ _ => N4
 rename Fr _ _ _ _ => F4
 rw [htot] at F4 ⊢
 refine ⟨X'.keeps F4.keep, ?_⟩
 refine SpecN.use (lead_spec w mean mg mb total _) B' F4 X' N4 T' rfl (by ktr_room) (by ktr_units) trivial ?_
 intro r h5 tk5 e5 F5 N5 hr
 walk_at "cg"
 obtain ⟨tx0, rfl⟩ := hr
 walk_at "bg"
 clear e5 F4 N4
 rename_i zv1 zv2; revert htot F5 N5; revert zv1 zv2 tk total h5 tk5 tx0; exists hc, kS yN <| kS yH <| kS yN <| kS zeI <| kS yH <| kS yN <| kO yN, 8, zv1, zv2, tk, total, h5, tk5, tx0; (try dsimp only); intro htot F5 N5
 walk_at "ws"
 rename News _ _ _ _ => N4
 rename Fr _ _ _ _ => F4
 refine ⟨X'.keeps F4.keep, ?_⟩
 refine SpecN.use (lead_spec w mean mg mb _ _) B' F4 X' N4 T' rfl (by ktr_room) (by ktr_units) trivial ?_
 intro r h5 tk5 e5 F5 N5 hr
 walk_at "cg"
 obtain ⟨tx1, rfl⟩ := hr
 walk_at "bg"
 clear e5 F4 N4
 revert F5 N5; revert h5 tk5 tx1; exists hc, kS yH <| kS yN <| kO yN, 9, h5, tk5, tx1; (try dsimp only); intro F5 N5
 walk_at "ws"
 show wpAny _ _ _ _ _ _
 k_dflt (refine LCg.Assign_ListComp_U (F₀ := by k_asm) (by rfl) (by with_unfolding_all rfl) (by with_unfolding_all rfl) (by decide) (by rfl) (by decide) (by rfl) (by rfl) (by rfl) ?_)
 rename_i zv3 _ zv5 zv4 zv6 zv7; revert zv5 zv6 zv7; revert zv3 zv4 tk; exists hc, kS yN <| kS yH <| kO yN, 10, zv3, zv4, tk; (try dsimp only); intro _ _ _
 walk_at "ws"
 rename IntsAre _ ([0, 18] ++ drawsS ns ++ [0]) => hIv
 rename News _ _ _ _ => N4
 rename Fr _ _ _ _ => F4
 have hvs : ∀ z ∈ valsS ns, 0 ≤ z ∧ z < 36 := vals_b ns
 have hvl : (valsS ns).length ≤ 11 := by unfold valsS; simp only [List.length_append, List.length_cons, List.length_nil]; exact oz109 hdl
 replace hIv : IntsAre _ (valsS ns) := hIv
 rename_i zv6 _ zv15 zv7 zv8 zv9 zv16 zv17 zv10 zv11 zv18 zv12 zv13 zv14 zv19; revert zv15 zv16 zv17 zv18 F4 N4 zv19 hIv; revert zv6 zv7 zv8 zv9 zv10 zv11 zv12 zv13 zv14; exists hc, kS yN <| kS yN <| kS yL <| kS yH <| kS yN <| kS yH <| kS yN <| kS yL <| kO yH, 11, zv6, zv7, zv8, zv9, zv10, zv11, zv12, zv13, zv14; (try dsimp only); intro _ _ _ _ F4 N4 _ hIv
 refine LCg.CompSrc.ledger rfl F4 N4 (.head _) ?_ fun g9 => ?_
 ·rw [List.size_toArray, hIv.length]; exact Nat.le_trans hvl (by decide)
 revert g9; exists ho, kO yH, 12, g9; dsimp only [Cu.un, kO]
 refine compU_ind (fun i v l => ∃ z, (valsS ns)[i]? = some z ∧ ∃ a t1 t2, v = Value.ref a ∧ (a, linO (lineL z) t1 t2) ∈ l ∧ a ∉ [186, L' + 1, L' + 1 + 1, L' + 1 + 1 + 1]) (fun _ _ _ _ sub ⟨z, hz, a, t1, t2, e, m, n⟩ => ⟨z, hz, xi3 a t1 t2 ⟨e, sub _ m, n⟩⟩) (srcAt_sub (.head _)) ?_ ?_
 ·intro i v zs nw I oI C oC2 D3 m₂ h tk E' hi9 hv hC hx9 F N off ne
  have hZ := IntsAre.item' hIv (by first | exact hv | walk_at "mz" | simpa using hv); refine exC (kS zeI <| kO yN) hZ ?_; clear hZ; intro z tz hZ; revert hi9 hv hC hx9 F N off ne hZ; revert i v zs nw I oI C oC2 D3 m₂ h tk E' z tz; refine no_implicit_lambda% (hzC (kS yN <| kS zeV <| kS yL <| kS yL <| kS yN <| kS zeO <| kS yN <| kS zeO <| kS yN <| kS (yF yT) <| kS yH <| kS yN <| kS (yF (yF yP)) <| kS zeI <| kO yN) 13 ?_); show Cu.un ?C2h ?Z2h ?z2h; refine (?_ : Cu.all ?C2h ?Z2h) ?z2h.1 ?z2h.2.1 ?z2h.2.2.1 ?z2h.2.2.2.1 ?z2h.2.2.2.2.1 ?z2h.2.2.2.2.2.1 ?z2h.2.2.2.2.2.2.1 ?z2h.2.2.2.2.2.2.2.1 ?z2h.2.2.2.2.2.2.2.2.1 ?z2h.2.2.2.2.2.2.2.2.2.1 ?z2h.2.2.2.2.2.2.2.2.2.2.1 ?z2h.2.2.2.2.2.2.2.2.2.2.2.1 ?z2h.2.2.2.2.2.2.2.2.2.2.2.2.1 ?z2h.2.2.2.2.2.2.2.2.2.2.2.2.2.1 ?z2h.2.2.2.2.2.2.2.2.2.2.2.2.2.2; intro i v zs nw I oI C oC2 D3 m₂ h tk E' z tz hi9 hv hC hx9 F N off ne hZ; obtain ⟨rfl, hz⟩ := hZ
  have hzb := hvs z (List.mem_of_getElem? hz)
  dsimp only [List.cons_append, List.nil_append] at N off
  walk_at "ws"
  refine ⟨X'.keeps F.keep, ?_⟩
  refine SpecN.use (line_spec w mean mg mb z tz hzb.1 hzb.2) B' F X' N T' rfl (by ktr_room) (by ktr_units) trivial ?_
  intro r h9 tk9 e9 F9 N9 hr
  refine exC (kS yN <| kS yN <| kO yN) hr ?_; clear hr; intro a t1 t2 hZ; obtain ⟨rfl, ha0, ha1⟩ := hZ
  refine CEnd.ext (mk := [(a, linO (lineL z) t1 t2)]) F N off (fun _ h => h) e9 (fun p hp => by rw [List.mem_singleton.mp hp]; exact ⟨ha0, ha1⟩) ⟨z, hz, xi3 a t1 t2 ⟨rfl, by walk_at "ms", fun q => ?_⟩⟩
  have no : ∀ {b : Addr} {o : Obj}, h.get? b = some o → a ≠ b := fun e z => by rw [z, e] at ha0; cases ha0
  simp only [List.mem_cons, List.not_mem_nil, or_false] at q
  rcases q with q | q | q | q
  ·exact no (N (186, tabO #[]) (by walk_at "ms")).1 q
  ·exact no (N (L' + 1, oA) (by walk_at "ms")).1 q
  ·exact no (N (L' + 1 + 1, oB) (by walk_at "ms")).1 q
  ·exact no (N (L' + 1 + 1 + 1, oC) (by walk_at "ms")).1 q
 intro zs nw al
 unfold LCg.FinA
 intro D3 h tk F5 N5 off5
 have hzl : zs.length = (valsS ns).length := by rw [← All2.length al, List.length_range, List.size_toArray, hIv.length]
 have hZ := law_pack N5 al (by rw [List.size_toArray, hIv.length]); refine exC (kO yL) hZ ?_; clear hZ; intro tls hZ; revert al F5 N5 off5 hzl hZ; revert zs nw D3 h tk tls; exists hc, kS yL <| kS yL <| kS yN <| kS yH <| kS yN <| kO yL, 14, zs, nw, D3, h, tk, tls; (try dsimp only); intro al F5 N5 off5 hzl hZ; obtain ⟨N6, hLA, hoff⟩ := hZ
 obtain ⟨An, kn, t0, t1, tt, m₁, F6, hm1, hm2, hm3, N6⟩ : ∃ (An : Addr) (kn : Nat) (t0 t1 tt : Tok) (m₁ : Str → Option Value), Fr g L' h m₁ ∧ m₁ (Str.ofString "nannies") = some (.ref An) ∧ m₁ (Str.ofString "lines") = some (.ref D3) ∧ m₁ (Str.ofString "total") = some (.int total tt) ∧
   News g L' h ((D3, LCg.lst zs) :: (An, W.listOf #[.str (leadS total) t0, .str (leadS (1 + (total.fdiv 6).fmod 5)) t1] kn) :: (186, tabO #[]) :: (L' + 1 + 1 + 1, oC) :: (L' + 1 + 1, oB) :: (L' + 1, oA) :: tls) := (xi6 _ _ _ _ _ _ ⟨F5, rfl, rfl, rfl, N6⟩)
 clear F5 N5 off5 al F4 N4 hIv oD2
 replace F6 : Fr g L' h (ovr m₁ [(Str.ofString "nannies", some (.ref An)), (Str.ofString "lines", some (.ref D3)), (Str.ofString "total", some (.int total tt))]) := by
  rw [← ovr_self (List.forall_mem_cons.mpr ⟨hm1, List.forall_mem_cons.mpr ⟨hm2, List.forall_mem_cons.mpr ⟨hm3, List.forall_mem_nil _⟩⟩⟩)]
  exact F6
 clear hm1 hm2 hm3
 repeat (rename (_ < _ ∧ _) => hq; clear hq)
 try dsimp only
 clear hlen l6 newC l6' g6 newS hek h8 hdl hdr htot hvs
 rename_i zc1_1 zc2_1
 revert F6; revert N6; revert hoff; revert hLA; revert zc2_1; revert hzl; revert zc1_1; revert hvl; revert hqk; revert keepG; revert T'; revert X'; revert B'; revert c3; revert c2; revert c1; revert eL'; revert hret; revert hab; revert h6; revert L' oC oB oA v1 v2 v3 g qk ek total tx0 tx1 zv3 zv8 zs D3 h tk tls An kn t0 t1 tt m₁; exact hQ.h
noncomputable def X1 := xOf (kS yN <| kS zeO <| kS zeO <| kS zeO <| kS yT <| kS yT <| kS yT <| kS yH <| kS (yF (yF yP)) <| kS (yF (yF yP)) <| kS zeI <| kS yN <| kS yN <| kS yN <| kS yL <| kS yL <| kS yN <| kS yH <| kS yN <| kS yL <| kS yN <| kS yN <| kS yN <| kS yN <| kS yN <| kO (yF yT)) 1 (Q := q1.1) rfl
@[irreducible] noncomputable def L' := X1.1
@[irreducible] noncomputable def oC := X1.2.1
@[irreducible] noncomputable def oB := X1.2.2.1
@[irreducible] noncomputable def oA := X1.2.2.2.1
@[irreducible] noncomputable def v1 := X1.2.2.2.2.1
@[irreducible] noncomputable def v2 := X1.2.2.2.2.2.1
@[irreducible] noncomputable def v3 := X1.2.2.2.2.2.2.1
@[irreducible] noncomputable def g := X1.2.2.2.2.2.2.2.1
@[irreducible] noncomputable def qk := X1.2.2.2.2.2.2.2.2.1
@[irreducible] noncomputable def ek := X1.2.2.2.2.2.2.2.2.2.1
@[irreducible] noncomputable def total := X1.2.2.2.2.2.2.2.2.2.2.1
@[irreducible] noncomputable def tx0 := X1.2.2.2.2.2.2.2.2.2.2.2.1
@[irreducible] noncomputable def tx1 := X1.2.2.2.2.2.2.2.2.2.2.2.2.1
@[irreducible] noncomputable def zv3 := X1.2.2.2.2.2.2.2.2.2.2.2.2.2.1
@[irreducible] noncomputable def zv8 := X1.2.2.2.2.2.2.2.2.2.2.2.2.2.2.1
@[irreducible] noncomputable def zs := X1.2.2.2.2.2.2.2.2.2.2.2.2.2.2.2.1
@[irreducible] noncomputable def D3 := X1.2.2.2.2.2.2.2.2.2.2.2.2.2.2.2.2.1
@[irreducible] noncomputable def h := X1.2.2.2.2.2.2.2.2.2.2.2.2.2.2.2.2.2.1
@[irreducible] noncomputable def tk := X1.2.2.2.2.2.2.2.2.2.2.2.2.2.2.2.2.2.2.1
@[irreducible] noncomputable def tls := X1.2.2.2.2.2.2.2.2.2.2.2.2.2.2.2.2.2.2.2.1
@[irreducible] noncomputable def An := X1.2.2.2.2.2.2.2.2.2.2.2.2.2.2.2.2.2.2.2.2.1
@[irreducible] noncomputable def kn := X1.2.2.2.2.2.2.2.2.2.2.2.2.2.2.2.2.2.2.2.2.2.1
@[irreducible] noncomputable def t0 := X1.2.2.2.2.2.2.2.2.2.2.2.2.2.2.2.2.2.2.2.2.2.2.1
@[irreducible] noncomputable def t1 := X1.2.2.2.2.2.2.2.2.2.2.2.2.2.2.2.2.2.2.2.2.2.2.2.1
@[irreducible] noncomputable def tt := X1.2.2.2.2.2.2.2.2.2.2.2.2.2.2.2.2.2.2.2.2.2.2.2.2.1
@[irreducible] noncomputable def m₁ := X1.2.2.2.2.2.2.2.2.2.2.2.2.2.2.2.2.2.2.2.2.2.2.2.2.2
set_option maxRecDepth 100000 in
set_option maxHeartbeats 8000000 in
noncomputable def q2 : {Q : Prop // Q → q1.1} := by
 apply mkQ; intro hQ
 refine no_implicit_lambda% (hzX (kS yN <| kS zeO <| kS zeO <| kS zeO <| kS yT <| kS yT <| kS yT <| kS yH <| kS (yF (yF yP)) <| kS (yF (yF yP)) <| kS zeI <| kS yN <| kS yN <| kS yN <| kS yL <| kS yL <| kS yN <| kS yH <| kS yN <| kS yL <| kS yN <| kS yN <| kS yN <| kS yN <| kS yN <| kO (yF yT)) 1 X1 rfl rfl ?_); show Cu.un ?C ?Z ?z; with_unfolding_all show ?Z L' oC oB oA v1 v2 v3 g qk ek total tx0 tx1 zv3 zv8 zs D3 h tk tls An kn t0 t1 tt m₁
 intro h6 hab hret eL' c1 c2 c3 B' X' T' keepG hqk hvl _ hzl _ hLA hoff N6 F6
 walk_at "ws"
 show wpAny _ _ _ _ _ _
 refine PyProof.Rows.len_list (items := zs.toArray) (N6.isList (.head _)) (by rw [List.size_toArray]; omega) ?_
 rw [List.size_toArray, hzl]
 have hh0 : 0 ≤ ((valsS ns).length : Int).fdiv 2 := Int.fdiv_nonneg (by omega) (by decide)
 have hx0 := lead_mem total
 have hx1 := lead_mem (1 + (total.fdiv 6).fmod 5)
 have hlin : ∀ l ∈ (valsS ns).map lineL, l.1 ∈ leadT ∧ 0 ≤ l.2.1 ∧ l.2.1 ≤ 2 := lines_ok ns
 have hll : ((valsS ns).map lineL).length ≤ 11 := by rw [List.length_map]; exact hvl
 have nD6 : @Ne Nat D3 186 := news_ne N6 (.head _) (.tail _ (.tail _ (.head _))) (show Value.type "list" ≠ Value.none by decide)
 have nA6 : @Ne Nat An 186 := news_ne N6 (.tail _ (.head _)) (.tail _ (.tail _ (.head _))) (show Value.type "list" ≠ Value.none by decide)
 have h186 : 186 < L' := by rw [eL']; exact Heap.lt_size h6
 have nDC : D3 ∉ [L' + 1, L' + 1 + 1, L' + 1 + 1 + 1] := by
  have q1 : @Ne Nat D3 (L' + 1) := news_ned N6 (.head _) (by walk_at "ms") c3 (fun v h => nomatch h)
  have q2 : @Ne Nat D3 (L' + 1 + 1) := news_ned N6 (.head _) (by walk_at "ms") c2 (fun v h => nomatch h)
  have q3 : @Ne Nat D3 (L' + 1 + 1 + 1) := news_ned N6 (.head _) (by walk_at "ms") c1 (fun v h => nomatch h)
  simp only [List.mem_cons, List.not_mem_nil, or_false, not_or]
  exact ⟨q1, q2, q3⟩
 have nAC : An ∉ [L' + 1, L' + 1 + 1, L' + 1 + 1 + 1] := by
  have q1 : @Ne Nat An (L' + 1) := news_ned N6 (.tail _ (.head _)) (by walk_at "ms") c3 (fun v h => nomatch h)
  have q2 : @Ne Nat An (L' + 1 + 1) := news_ned N6 (.tail _ (.head _)) (by walk_at "ms") c2 (fun v h => nomatch h)
  have q3 : @Ne Nat An (L' + 1 + 1 + 1) := news_ned N6 (.tail _ (.head _)) (by walk_at "ms") c1 (fun v h => nomatch h)
  simp only [List.mem_cons, List.not_mem_nil, or_false, not_or]
  exact ⟨q1, q2, q3⟩
 generalize leadS total = x0 at N6 hx0
 generalize leadS (1 + (total.fdiv 6).fmod 5) = x1 at N6 hx1
 generalize hLs : (valsS ns).map lineL = lns at hLA hlin hll
 (revert lns; refine hold_pi ?_; set_option tactic.hygienic false in intros)
 have hzs : zs.toArray.size ≤ sizeLine := by rw [List.size_toArray, hzl]; exact Nat.le_trans hvl (by decide)
 revert hx0 N6 hx1 hLs hLA hlin hll; revert x0 x1 lns; exists hc, kS zeR <| kS zeR <| kO yL, 15, x0, x1, lns; (try dsimp only); intro hx0 N6 hx1 hLs hLA hlin hll
 walk_at "ws"
 rename Fr _ _ _ _ => F7
 rename News _ _ _ _ => N7
 show wpAny _ _ _ _ _ _
 refine kmk_slice F7 N7 (N7.isList (.head _)) .none (.int _ _) (fun Al hS FS NS l1 => ?_) (by with_unfolding_all rfl) (by intro _; with_unfolding_all rfl) hzs
 rw [slice_up hh0] at NS
 clear l1 N7 F7
 rename_i zv5; revert FS NS; revert zv5 tk Al hS; exists hc, kS yH <| kS yN <| kS yN <| kO yH, 16, zv5, tk, Al, hS; (try dsimp only); intro FS NS
 walk_at "ws"
 rename News _ _ _ _ => N7
 rename Fr _ _ _ _ => F7
 refine ⟨X'.keeps F7.keep, ?_⟩
 refine filed_law (tls := tls) (x0 := x0) (x1 := x1) (ps := #[]) (t0 := t0) (t1 := t1) (kn := kn) B' F7 X' N7 T' rfl (by ktr_room) (by ktr_units) hab rfl (.inl rfl) (.tail _ (.head _)) (.tail _ (.tail _ (.head _))) (hLA.take _) (fun p hp => ⟨by first | walk_at "mz" | simp [hp], fun z => hoff p hp (by first | walk_at "mz" | simp [z])⟩) (Nat.le_trans (List.length_take_le' _ _) hll)
  (fun l hl => have q := hlin l (List.mem_of_mem_take hl); line_ok hx0 q.1 q.2.1 q.2.2) (fun l hl => have q := hlin l (List.mem_of_mem_take hl); line_ok hx1 q.1 q.2.1 q.2.2) ?_
 intro Ta oT kvsT mk1 ps1 h8 tk8 gs8 F8 hps1 N8 keep8 off8 hoT hTT loT offT hab8
 have N9 : News g L' h8 ((Ta, oT) :: (D3, LCg.lst zs) :: (An, W.listOf #[.str x0 t0, .str x1 t1] kn) :: (186, tabO ps1) :: (L' + 1 + 1 + 1, oC) :: (L' + 1 + 1, oB) :: (L' + 1, oA) :: (mk1 ++ tls)) := fun p hp => by
  revert p; refine fc ?_ (fc ?_ (fc ?_ (fc ?_ (fc ?_ (fc ?_ (fc ?_ (fa (fun p q => ?_) (fun p q => ?_))))))))
  ·exact N8 _ (.head _)
  ·exact keep8 _ (.head _) nD6
  ·exact keep8 _ (.tail _ (.head _)) nA6
  ·exact N8 _ (.tail _ (.head _))
  ·exact keep8 (L' + 1 + 1 + 1, oC) (by walk_at "ms") (show @Ne Nat _ _ by dsimp only; omega)
  ·exact keep8 (L' + 1 + 1, oB) (by walk_at "ms") (show @Ne Nat _ _ by dsimp only; omega)
  ·exact keep8 (L' + 1, oA) (by walk_at "ms") (show @Ne Nat _ _ by dsimp only; omega)
  ·exact N8 p (.tail _ (.tail _ q))
  ·exact keep8 p (by first | walk_at "mz" | simp [q]) (fun z => hoff p q (by first | walk_at "mz" | simp [z]))
 clear N7 F7
 revert F8 hps1 N8 keep8 off8 hoT hTT loT offT hab8 N9; revert Ta oT kvsT mk1 ps1 h8 tk8 gs8; exists hc, kS yN <| kS zeO <| kS yL <| kS yL <| kS zeY <| kS yH <| kS yN <| kO zeY, 17, Ta, oT, kvsT, mk1, ps1, h8, tk8, gs8; (try dsimp only); intro F8 hps1 N8 keep8 off8 hoT hTT loT offT hab8 N9
 walk_at "ws"
 show wpAny _ _ _ _ _ _
 refine kmk_slice F8 N9 (N9.isList (.tail _ (.head _))) (.int _ _) .none (fun Al2 hS FS NS l1 => ?_) (by with_unfolding_all rfl) (by intro _; with_unfolding_all rfl) hzs
 rw [slice_from hh0] at NS
 clear l1
 revert FS NS; revert Al2 hS; exists hc, kS yN <| kO yH, 18, Al2, hS; (try dsimp only); intro FS NS
 walk_at "ws"
 rename News _ _ _ _ => N7
 rename Fr _ _ _ _ => F7
 refine ⟨X'.keeps F7.keep, ?_⟩
 have loT6 : @Ne Nat Ta 186 := fun z => off8 (Ta, oT) (.head _) (186, tabO #[]) (by walk_at "ms") z
 have mk16 : ∀ p ∈ mk1, @Ne Nat p.1 186 := fun p hp z => off8 p (.tail _ hp) (186, tabO #[]) (by walk_at "ms") z
 refine filed_law (tls := tls) (x0 := x0) (x1 := x1) (ps := ps1) (t0 := t0) (t1 := t1) (kn := kn) B' F7 X' N7 T' rfl (by ktr_room) (by ktr_units) hab8 rfl hps1 (.tail _ (.tail _ (.head _))) (.tail _ (.tail _ (.tail _ (.head _)))) (hLA.drop _) (fun p hp => ⟨by first | walk_at "mz" | simp [hp], fun z => hoff p hp (by first | walk_at "mz" | simp [z])⟩) (Nat.le_trans (by rw [List.length_drop]; exact oz107) hll)
  (fun l hl => have q := hlin l (List.mem_of_mem_drop hl); line_ok hx0 q.1 q.2.1 q.2.2) (fun l hl => have q := hlin l (List.mem_of_mem_drop hl); line_ok hx1 q.1 q.2.1 q.2.2) ?_
 intro Tb oV kvsV mk2 ps2 h10 tk10 gs10 F10 hps2 N10 keep10 off10 hoU hTU loU offU hab10
 have N11 : News g L' h10 ((Tb, oV) :: (Ta, oT) :: (D3, LCg.lst zs) :: (An, W.listOf #[.str x0 t0, .str x1 t1] kn) :: (186, tabO ps2) :: (L' + 1 + 1 + 1, oC) :: (L' + 1 + 1, oB) :: (L' + 1, oA) :: (mk2 ++ mk1 ++ tls)) := fun p hp => by
  simp only [List.mem_cons, List.mem_append] at hp
  rcases hp with rfl | rfl | rfl | rfl | rfl | rfl | rfl | rfl | (q | q) | q
  ·exact N10 _ (.head _)
  ·exact keep10 _ (.head _) loT6
  ·exact keep10 _ (.tail _ (.head _)) nD6
  ·exact keep10 _ (.tail _ (.tail _ (.head _))) nA6
  ·exact N10 _ (.tail _ (.head _))
  ·exact keep10 (L' + 1 + 1 + 1, oC) (by walk_at "ms") (show @Ne Nat _ _ by dsimp only; omega)
  ·exact keep10 (L' + 1 + 1, oB) (by walk_at "ms") (show @Ne Nat _ _ by dsimp only; omega)
  ·exact keep10 (L' + 1, oA) (by walk_at "ms") (show @Ne Nat _ _ by dsimp only; omega)
  ·exact N10 p (.tail _ (.tail _ q))
  ·exact keep10 p (by first | walk_at "mz" | simp [q]) (mk16 p q)
  ·exact keep10 p (by first | walk_at "mz" | simp [q]) (fun z => hoff p q (by first | walk_at "mz" | simp [z]))
 have mk1c : ∀ p ∈ mk1, p.1 ∉ [L' + 1, L' + 1 + 1, L' + 1 + 1 + 1] := fun p hp => by
  simp only [List.mem_cons, List.not_mem_nil, or_false, not_or]
  exact ⟨off8 p (.tail _ hp) (L' + 1, oA) (by walk_at "ms"), off8 p (.tail _ hp) (L' + 1 + 1, oB) (by walk_at "ms"), off8 p (.tail _ hp) (L' + 1 + 1 + 1, oC) (by walk_at "ms")⟩
 have mk2c : ∀ p ∈ mk2, p.1 ∉ [L' + 1, L' + 1 + 1, L' + 1 + 1 + 1] := fun p hp => by
  simp only [List.mem_cons, List.not_mem_nil, or_false, not_or]
  exact ⟨off10 p (.tail _ hp) (L' + 1, oA) (by walk_at "ms"), off10 p (.tail _ hp) (L' + 1 + 1, oB) (by walk_at "ms"), off10 p (.tail _ hp) (L' + 1 + 1 + 1, oC) (by walk_at "ms")⟩
 have bT : TbB 22 (fileT x0 x1 (lns.take (((valsS ns).length : Int).fdiv 2).toNat)) := fileT_b (fun l hl => hlin l (List.mem_of_mem_take hl)) (Nat.le_trans (List.length_take_le' _ _) hll)
 have bU : TbB 22 (fileT x0 x1 (lns.drop (((valsS ns).length : Int).fdiv 2).toNat)) := fileT_b (fun l hl => hlin l (List.mem_of_mem_drop hl)) (Nat.le_trans (by rw [List.length_drop]; exact oz107) hll)
 clear N7 F7 N9 F8 keep8 N8 off8 off10 keep10 N10 offT offU
 clear h6 hab hvl hzl nD6 nA6 hLs hps1 hab8 loT6 mk16
 rename_i zc1_2 _
 revert bU; revert bT; revert mk2c; revert mk1c; revert N11; revert hab10; revert loU; revert hTU; revert hoU; revert hps2; revert F10; revert loT; revert hTT; revert hoT; revert hll; revert hlin; revert hLA; revert hx1; revert hx0; revert hzs; revert nAC; revert nDC; revert h186; revert hh0; revert hoff; revert zc1_2; revert hqk; revert keepG; revert T'; revert X'; revert B'; revert c3; revert c2; revert c1; revert eL'; revert hret; revert x0 x1 lns Ta oT kvsT mk1 tk8 gs8 hS Tb oV kvsV mk2 ps2 h10 tk10 gs10; exact hQ.h
noncomputable def X2 := xOf (kS zeR <| kS zeR <| kS yL <| kS yN <| kS zeO <| kS yL <| kS yL <| kS yN <| kS zeY <| kS yH <| kS yN <| kS zeO <| kS yL <| kS yL <| kS zeY <| kS yH <| kS yN <| kO zeY) 2 (Q := q2.1) rfl
@[irreducible] noncomputable def x0 := X2.1
@[irreducible] noncomputable def x1 := X2.2.1
@[irreducible] noncomputable def lns := X2.2.2.1
@[irreducible] noncomputable def Ta := X2.2.2.2.1
@[irreducible] noncomputable def oT := X2.2.2.2.2.1
@[irreducible] noncomputable def kvsT := X2.2.2.2.2.2.1
@[irreducible] noncomputable def mk1 := X2.2.2.2.2.2.2.1
@[irreducible] noncomputable def tk8 := X2.2.2.2.2.2.2.2.1
@[irreducible] noncomputable def gs8 := X2.2.2.2.2.2.2.2.2.1
@[irreducible] noncomputable def hS := X2.2.2.2.2.2.2.2.2.2.1
@[irreducible] noncomputable def Tb := X2.2.2.2.2.2.2.2.2.2.2.1
@[irreducible] noncomputable def oV := X2.2.2.2.2.2.2.2.2.2.2.2.1
@[irreducible] noncomputable def kvsV := X2.2.2.2.2.2.2.2.2.2.2.2.2.1
@[irreducible] noncomputable def mk2 := X2.2.2.2.2.2.2.2.2.2.2.2.2.2.1
@[irreducible] noncomputable def ps2 := X2.2.2.2.2.2.2.2.2.2.2.2.2.2.2.1
@[irreducible] noncomputable def h10 := X2.2.2.2.2.2.2.2.2.2.2.2.2.2.2.2.1
@[irreducible] noncomputable def tk10 := X2.2.2.2.2.2.2.2.2.2.2.2.2.2.2.2.2.1
@[irreducible] noncomputable def gs10 := X2.2.2.2.2.2.2.2.2.2.2.2.2.2.2.2.2.2
set_option maxRecDepth 100000 in
set_option maxHeartbeats 8000000 in
noncomputable def q3 : {Q : Prop // Q → q2.1} := by
 apply mkQ; intro hQ
 refine no_implicit_lambda% (hzX (kS zeR <| kS zeR <| kS yL <| kS yN <| kS zeO <| kS yL <| kS yL <| kS yN <| kS zeY <| kS yH <| kS yN <| kS zeO <| kS yL <| kS yL <| kS zeY <| kS yH <| kS yN <| kO zeY) 2 X2 rfl rfl ?_); show Cu.un ?C ?Z ?z; with_unfolding_all show ?Z x0 x1 lns Ta oT kvsT mk1 tk8 gs8 hS Tb oV kvsV mk2 ps2 h10 tk10 gs10
 intro hret eL' c1 c2 c3 B' X' T' keepG hqk _ hoff hh0 h186 nDC nAC hzs hx0 hx1 hLA hlin hll hoT hTT loT F10 hps2 hoU hTU loU hab10 N11 mk1c mk2c bT bU
 walk_at "ws"
 refine ⟨X'.keeps F10.keep, ?_⟩
 refine SpecL.use0 (merged_spec w mean mg mb Ta Tb oT oV kvsT kvsV _ _ (mk2 ++ mk1) loT loU hoT hoU (hTT.mono fun p hp => List.mem_append.mpr (.inr hp)) (hTU.mono fun p hp => List.mem_append.mpr (.inl hp)) bT bU) B' F10 X' N11 T' rfl (by ktr_room) (by ktr_units) trivial (fun p hp => ?_) ?_
 ·exact subm (by walk_at "sz") hp
 intro r h12 tk12 e12 F12 N12 hr
 refine exC (kS yN <| kS zeO <| kS yL <| kO yL) hr ?_; clear hr; intro M oM kvsM mkM hZ; revert e12 F12 N12 hZ; revert r h12 tk12 M oM kvsM mkM; exists hc, kS zeV <| kS yH <| kS yN <| kS yN <| kS zeO <| kS yL <| kO yL, 19, r, h12, tk12, M, oM, kvsM, mkM; (try dsimp only); intro e12 F12 N12 hZ; obtain ⟨rfl, hMM, hoM, hTM, loM, offM⟩ := hZ
 have mkMc : ∀ p ∈ (M, oM) :: mkM, p.1 ∉ [L' + 1, L' + 1 + 1, L' + 1 + 1 + 1] := fun p hp => by
  have h1 := (hMM p hp).1
  have no : ∀ {b : Addr} {o : Obj}, h10.get? b = some o → p.1 ≠ b := fun e z => by rw [z] at h1; exact absurd (e.symm.trans h1) (by walk_at "ms")
  simp only [List.mem_cons, List.not_mem_nil, or_false, not_or]
  exact ⟨no (N11 (L' + 1, oA) (by walk_at "ms")).1, no (N11 (L' + 1 + 1, oB) (by walk_at "ms")).1, no (N11 (L' + 1 + 1 + 1, oC) (by walk_at "ms")).1⟩
 have N13 : News g L' h12 ((L' + 1, oA) :: (L' + 1 + 1, oB) :: (L' + 1 + 1 + 1, oC) :: (186, tabO ps2) :: (M, oM) :: (D3, LCg.lst zs) :: (An, W.listOf #[.str x0 t0, .str x1 t1] kn) :: (mkM ++ (mk2 ++ mk1) ++ tls)) := fun p hp => (hMM.news F10 N12) p (by
  exact subm (by walk_at "sz") hp)
 have nC13 : ∀ p ∈ (M, oM) :: (D3, LCg.lst zs) :: (An, W.listOf #[.str x0 t0, .str x1 t1] kn) :: (mkM ++ (mk2 ++ mk1) ++ tls), p.1 ∉ [L' + 1, L' + 1 + 1, L' + 1 + 1 + 1] := fun p hp => by
  simp only [List.mem_cons, List.mem_append] at hp
  rcases hp with rfl | rfl | rfl | (q | q | q) | q
  ·exact mkMc _ (.head _)
  ·exact nDC
  ·exact nAC
  ·exact mkMc p (.tail _ q)
  ·exact mk2c p q
  ·exact mk1c p q
  ·intro z
   refine hoff p q ?_
   simp only [List.mem_cons] at z ⊢
   exact .inr z
 generalize htA : mergeT (fileT x0 x1 (lns.take (((valsS ns).length : Int).fdiv 2).toNat)) (fileT x0 x1 (lns.drop (((valsS ns).length : Int).fdiv 2).toNat)) = tA at hTM
 (revert tA; refine hold_pi ?_; set_option tactic.hygienic false in intros)
 generalize mkM ++ (mk2 ++ mk1) = mkT at hTM N13 nC13
 (revert mkT; refine hold_pi ?_; set_option tactic.hygienic false in intros)
 clear N11 N12 F10 hMM mkMc e12 mk1c mk2c hTT hTU bT bU offM hoT hoU loT loU
 clear hoff nDC nAC
 rename_i zc1_3
 revert nC13; revert N13; revert hTM; revert htA; revert loM; revert hoM; revert F12; revert hab10; revert hps2; revert hll; revert hlin; revert hLA; revert hx1; revert hx0; revert hzs; revert h186; revert hh0; revert zc1_3; revert hqk; revert keepG; revert T'; revert X'; revert B'; revert c3; revert c2; revert c1; revert eL'; revert hret; revert h12 tk12 M oM kvsM tA mkT; exact hQ.h
noncomputable def X3 := xOf (kS yH <| kS yN <| kS yN <| kS zeO <| kS yL <| kS yL <| kO yL) 3 (Q := q3.1) rfl
@[irreducible] noncomputable def h12 := X3.1
@[irreducible] noncomputable def tk12 := X3.2.1
@[irreducible] noncomputable def M := X3.2.2.1
@[irreducible] noncomputable def oM := X3.2.2.2.1
@[irreducible] noncomputable def kvsM := X3.2.2.2.2.1
@[irreducible] noncomputable def tA := X3.2.2.2.2.2.1
@[irreducible] noncomputable def mkT := X3.2.2.2.2.2.2
set_option maxRecDepth 100000 in
set_option maxHeartbeats 8000000 in
noncomputable def q4 : {Q : Prop // Q → q3.1} := by
 apply mkQ; intro hQ
 refine no_implicit_lambda% (hzX (kS yH <| kS yN <| kS yN <| kS zeO <| kS yL <| kS yL <| kO yL) 3 X3 rfl rfl ?_); show Cu.un ?C ?Z ?z; with_unfolding_all show ?Z h12 tk12 M oM kvsM tA mkT
 intro hret eL' c1 c2 c3 B' X' T' keepG hqk _ hh0 h186 hzs hx0 hx1 hLA hlin hll hps2 hab10 F12 hoM loM htA hTM N13 nC13
 walk_at "ws"
 show wpAny _ _ _ _ _ _
 refine storeX_C (c := L' + 1) F12 N13 rfl (UpdF.head fun p hp => ?_) c3 ?_
 ·revert p; refine fc ?_ (fc ?_ (fc ?_ (fun p hp => ?_)))
  ·show @Ne Nat _ _; dsimp only; omega
  ·show @Ne Nat _ _; dsimp only; omega
  ·show @Ne Nat _ _; dsimp only; omega
  ·exact fun z => nC13 p (by first | exact hp | walk_at "mz" | simpa using hp) (by first | walk_at "mz" | simp [z])
 intro h14 oA2 F14 N14 c32
 clear F12 N13 c3
 revert F14 N14 c32; revert h14 oA2; exists hc, kS yH <| kO zeO, 20, h14, oA2; (try dsimp only); intro F14 N14 c32
 walk_at "ws"
 rename Fr _ _ _ _ => F15
 rename News _ _ _ _ => N15
 show wpAny _ _ _ _ _ _
 refine kmk_slice F15 N15 (N15.isList (.tail _ (.tail _ (.tail _ (.tail _ (.tail _ (.head _))))))) .none (.int _ _) (fun Al3 hS FS NS l1 => ?_) (by with_unfolding_all rfl) (by intro _; with_unfolding_all rfl) hzs
 rw [slice_up hh0] at NS
 clear l1 N15 F15
 revert FS NS; revert Al3 hS; exists hc, kS yN <| kO yH, 21, Al3, hS; (try dsimp only); intro FS NS
 walk_at "ws"
 rename News _ _ _ _ => N15
 rename Fr _ _ _ _ => F15
 refine ⟨X'.keeps F15.keep, ?_⟩
 refine SpecL.use0 (events_spec w mean mg mb x0 x1 t0 t1 (lns.take (((valsS ns).length : Int).fdiv 2).toNat) (zs.take (((valsS ns).length : Int).fdiv 2).toNat) An _ kn 0 tls (hLA.take _) (Nat.le_trans (List.length_take_le' _ _) hll)
  (fun l hl => have q := hlin l (List.mem_of_mem_take hl); (line_ev hx0 q.1 q.2.1 q.2.2).1) (fun l hl => have q := hlin l (List.mem_of_mem_take hl); (line_ev hx1 q.1 q.2.1 q.2.2).1)) B' F15 X' N15 T' rfl (by ktr_room) (by ktr_units) trivial (fun p hp => ?_) ?_
 ·revert p; refine fc ?_ (fc ?_ (fun p hp => ?_))
  ·simp
  ·exact .head _
  ·simp [hp]
 intro r h16 tk16 e16 F16 N16 hr
 refine exC (kS yN <| kS yL <| kS yN <| kO yL) hr ?_; clear hr; intro Ea es1 en1 mkE hZ; revert e16 F16 N16 hZ; revert r h16 tk16 Ea es1 en1 mkE; exists hc, kS zeV <| kS yH <| kS yN <| kS yN <| kS yL <| kS yN <| kO yL, 22, r, h16, tk16, Ea, es1, en1, mkE; (try dsimp only); intro e16 F16 N16 hZ; obtain ⟨rfl, hME, hE1, offE⟩ := hZ
 have N17 : News g L' h16 ((Ea, W.listOf es1.toArray en1) :: (L' + 1, oA2) :: (L' + 1 + 1, oB) :: (L' + 1 + 1 + 1, oC) :: (186, tabO ps2) :: (M, oM) :: (D3, LCg.lst zs) :: (An, W.listOf #[.str x0 t0, .str x1 t1] kn) :: (mkE ++ (mkT ++ tls))) := fun p hp => (hME.news F15 N16) p (by
  exact subm (by walk_at "sz") hp)
 have mkEc : ∀ p ∈ (Ea, W.listOf es1.toArray en1) :: mkE, p.1 ∉ [L' + 1, L' + 1 + 1, L' + 1 + 1 + 1] := fun p hp => by
  have h1 := (hME p hp).1
  have no : ∀ {b : Addr} {o : Obj}, Heap.get? _ b = some o → p.1 ≠ b := fun e z => by rw [z] at h1; exact absurd (e.symm.trans h1) (by walk_at "ms")
  simp only [List.mem_cons, List.not_mem_nil, or_false, not_or]
  exact ⟨no (N15 (L' + 1, oA2) (by walk_at "ms")).1, no (N15 (L' + 1 + 1, oB) (by walk_at "ms")).1, no (N15 (L' + 1 + 1 + 1, oC) (by walk_at "ms")).1⟩
 clear N15 F15 N16 hME e16
 clear offE mkEc
 rename_i zc1_4
 revert N17; revert hE1; revert F16; revert c32; revert nC13; revert hTM; revert htA; revert loM; revert hoM; revert hab10; revert hps2; revert hll; revert hlin; revert hLA; revert hx1; revert hx0; revert hzs; revert h186; revert hh0; revert zc1_4; revert hqk; revert keepG; revert T'; revert X'; revert B'; revert c2; revert c1; revert eL'; revert hret; revert oA2 h16 tk16 Ea es1 en1 mkE; exact hQ.h
noncomputable def X4 := xOf (kS zeO <| kS yH <| kS yN <| kS yN <| kS yL <| kS yN <| kO yL) 4 (Q := q4.1) rfl
@[irreducible] noncomputable def oA2 := X4.1
@[irreducible] noncomputable def h16 := X4.2.1
@[irreducible] noncomputable def tk16 := X4.2.2.1
@[irreducible] noncomputable def Ea := X4.2.2.2.1
@[irreducible] noncomputable def es1 := X4.2.2.2.2.1
@[irreducible] noncomputable def en1 := X4.2.2.2.2.2.1
@[irreducible] noncomputable def mkE := X4.2.2.2.2.2.2
set_option maxRecDepth 100000 in
set_option maxHeartbeats 8000000 in
noncomputable def q5 : {Q : Prop // Q → q4.1} := by
 apply mkQ; intro hQ
 refine no_implicit_lambda% (hzX (kS zeO <| kS yH <| kS yN <| kS yN <| kS yL <| kS yN <| kO yL) 4 X4 rfl rfl ?_); show Cu.un ?C ?Z ?z; with_unfolding_all show ?Z oA2 h16 tk16 Ea es1 en1 mkE
 intro hret eL' c1 c2 B' X' T' keepG hqk _ hh0 h186 hzs hx0 hx1 hLA hlin hll hps2 hab10 hoM loM htA hTM nC13 c32 F16 hE1 N17
 walk_at "ws"
 show wpAny _ _ _ _ _ _
 refine kmk_slice F16 N17 (N17.isList (.tail _ (.tail _ (.tail _ (.tail _ (.tail _ (.tail _ (.head _)))))))) (.int _ _) .none (fun Al4 hS FS NS l1 => ?_) (by with_unfolding_all rfl) (by intro _; with_unfolding_all rfl) hzs
 rw [slice_from hh0] at NS
 clear l1 N17 F16
 revert FS NS; revert Al4 hS; exists hc, kS yN <| kO yH, 23, Al4, hS; (try dsimp only); intro FS NS
 walk_at "ws"
 rename News _ _ _ _ => N18
 rename Fr _ _ _ _ => F18
 refine ⟨X'.keeps F18.keep, ?_⟩
 refine SpecL.use0 (events_spec w mean mg mb x0 x1 t0 t1 (lns.drop (((valsS ns).length : Int).fdiv 2).toNat) (zs.drop (((valsS ns).length : Int).fdiv 2).toNat) An _ kn 0 tls (hLA.drop _) (Nat.le_trans (by rw [List.length_drop]; exact oz107) hll)
  (fun l hl => have q := hlin l (List.mem_of_mem_drop hl); (line_ev hx0 q.1 q.2.1 q.2.2).1) (fun l hl => have q := hlin l (List.mem_of_mem_drop hl); (line_ev hx1 q.1 q.2.1 q.2.2).1)) B' F18 X' N18 T' rfl (by ktr_room) (by ktr_units) trivial (fun p hp => ?_) ?_
 ·revert p; refine fc ?_ (fc ?_ (fun p hp => ?_))
  ·simp
  ·exact .head _
  ·simp [hp]
 intro r h19 tk19 e19 F19 N19 hr
 refine exC (kS yN <| kS yL <| kS yN <| kO yL) hr ?_; clear hr; intro Eb es2 en2 mkF hZ; revert e19 F19 N19 hZ; revert r h19 tk19 Eb es2 en2 mkF; exists hc, kS zeV <| kS yH <| kS yN <| kS yN <| kS yL <| kS yN <| kO yL, 24, r, h19, tk19, Eb, es2, en2, mkF; (try dsimp only); intro e19 F19 N19 hZ; obtain ⟨rfl, hMF, hE2, offF⟩ := hZ
 have mkFc : ∀ p ∈ (Eb, W.listOf es2.toArray en2) :: mkF, p.1 ∉ [L' + 1, L' + 1 + 1, L' + 1 + 1 + 1] := fun p hp => by
  have h1 := (hMF p hp).1
  have no : ∀ {b : Addr} {o : Obj}, Heap.get? _ b = some o → p.1 ≠ b := fun e z => by rw [z] at h1; exact absurd (e.symm.trans h1) (by walk_at "ms")
  simp only [List.mem_cons, List.not_mem_nil, or_false, not_or]
  exact ⟨no (N18 (L' + 1, oA2) (by walk_at "ms")).1, no (N18 (L' + 1 + 1, oB) (by walk_at "ms")).1, no (N18 (L' + 1 + 1 + 1, oC) (by walk_at "ms")).1⟩
 have N20 : News g L' h19 ((Eb, W.listOf es2.toArray en2) :: (Ea, W.listOf es1.toArray en1) :: (L' + 1, oA2) :: (L' + 1 + 1, oB) :: (L' + 1 + 1 + 1, oC) :: (186, tabO ps2) :: (M, oM) :: (mkF ++ mkE ++ mkT)) := fun p hp => (hMF.news F18 N19) p (by
  exact subm (by walk_at "sz") hp)
 have hEs : EvsAt (mkF ++ mkE) (evJ x0 x1 (lns.take (((valsS ns).length : Int).fdiv 2).toNat) 2 ++ evJ x0 x1 (lns.drop (((valsS ns).length : Int).fdiv 2).toNat) 2) (es1 ++ es2) :=
  All2.append (All2.mono (fun _ _ ⟨a, t1, t2, t3, t4, t5, z, m⟩ => (xi6 a t1 t2 t3 t4 t5 ⟨z, List.mem_append.mpr (.inr m)⟩)) hE1) (All2.mono (fun _ _ ⟨a, t1, t2, t3, t4, t5, z, m⟩ => (xi6 a t1 t2 t3 t4 t5 ⟨z, List.mem_append.mpr (.inl m)⟩)) hE2)
 have hb1 := evJ_b hx0 hx1 (ls := lns.take (((valsS ns).length : Int).fdiv 2).toNat) (fun l hl => hlin l (List.mem_of_mem_take hl)) (Nat.le_trans (List.length_take_le' _ _) hll)
 have hb2 := evJ_b hx0 hx1 (ls := lns.drop (((valsS ns).length : Int).fdiv 2).toNat) (fun l hl => hlin l (List.mem_of_mem_drop hl)) (Nat.le_trans (by rw [List.length_drop]; exact oz107) hll)
 have hbE : ∀ e ∈ evJ x0 x1 (lns.take (((valsS ns).length : Int).fdiv 2).toNat) 2 ++ evJ x0 x1 (lns.drop (((valsS ns).length : Int).fdiv 2).toNat) 2, EvB e := fun e he => (List.mem_append.mp he).elim (hb1.1 e) (hb2.1 e)
 have hlE : (evJ x0 x1 (lns.take (((valsS ns).length : Int).fdiv 2).toNat) 2 ++ evJ x0 x1 (lns.drop (((valsS ns).length : Int).fdiv 2).toNat) 2).length ≤ 44 := by
  have := hb1.2
  have := hb2.2
  rw [List.length_append]; omega
 have hl12 : es1.length + es2.length ≤ 44 := by
  have := All2.length hEs
  rw [List.length_append (as := es1)] at this
  exact oz106 this hlE
 generalize hevs : evJ x0 x1 (lns.take (((valsS ns).length : Int).fdiv 2).toNat) 2 ++ evJ x0 x1 (lns.drop (((valsS ns).length : Int).fdiv 2).toNat) 2 = evs at hEs hbE hlE
 (revert evs; refine hold_pi ?_; set_option tactic.hygienic false in intros)
 clear N18 F18 N19 hMF e19 hE1 hE2 offF hb1 hb2
 clear hh0 hzs hLA hll mkFc
 rename_i zc1_5
 revert hlE; revert hbE; revert hEs; revert hevs; revert hl12; revert N20; revert F19; revert c32; revert nC13; revert hTM; revert htA; revert loM; revert hoM; revert hab10; revert hps2; revert hlin; revert hx1; revert hx0; revert h186; revert zc1_5; revert hqk; revert keepG; revert T'; revert X'; revert B'; revert c2; revert c1; revert eL'; revert hret; revert h19 tk19 Eb es2 en2 mkF evs; exact hQ.h
noncomputable def X5 := xOf (kS yH <| kS yN <| kS yN <| kS yL <| kS yN <| kS yL <| kO yL) 5 (Q := q5.1) rfl
@[irreducible] noncomputable def h19 := X5.1
@[irreducible] noncomputable def tk19 := X5.2.1
@[irreducible] noncomputable def Eb := X5.2.2.1
@[irreducible] noncomputable def es2 := X5.2.2.2.1
@[irreducible] noncomputable def en2 := X5.2.2.2.2.1
@[irreducible] noncomputable def mkF := X5.2.2.2.2.2.1
@[irreducible] noncomputable def evs := X5.2.2.2.2.2.2
set_option maxRecDepth 100000 in
set_option maxHeartbeats 8000000 in
noncomputable def q6 : {Q : Prop // Q → q5.1} := by
 apply mkQ; intro hQ
 refine no_implicit_lambda% (hzX (kS yH <| kS yN <| kS yN <| kS yL <| kS yN <| kS yL <| kO yL) 5 X5 rfl rfl ?_); show Cu.un ?C ?Z ?z; with_unfolding_all show ?Z h19 tk19 Eb es2 en2 mkF evs
 intro hret eL' c1 c2 B' X' T' keepG hqk _ h186 hx0 hx1 hlin hps2 hab10 hoM loM htA hTM nC13 c32 F19 N20 hl12 hevs hEs hbE hlE
 walk_at "ws"
 rename News _ _ _ _ => N21
 rename Fr _ _ _ _ => F21
 simp only [List.append_toArray] at N21
 refine ⟨X'.keeps F21.keep, ?_⟩
 refine SpecL.use0 (due_spec w mean mg mb _ 0 evs (es1 ++ es2) (mkF ++ mkE) hEs hlE hbE) B' F21 X' N21 T' rfl (by ktr_room) (by ktr_units) trivial (fun p hp => ?_) ?_
 ·rcases List.mem_cons.mp hp with rfl | hp
  ·exact .head _
  ·exact subm (by walk_at "sz") hp
 intro r h22 tk22 e22 F22 N22 hr
 refine exC (kS yN <| kS zeO <| kS yL <| kO yL) hr ?_; clear hr; intro U oU kvsU mkU hZ; rename_i zv15; revert F21 N21 e22 F22 N22 hZ; revert zv15 r h22 tk22 U oU kvsU mkU; exists hc, kS yH <| kS zeV <| kS yH <| kS yN <| kS yN <| kS zeO <| kS yL <| kO yL, 25, zv15, r, h22, tk22, U, oU, kvsU, mkU; (try dsimp only); intro F21 N21 e22 F22 N22 hZ; obtain ⟨rfl, hMU, hoU, hTU, loU⟩ := hZ
 have mkUc : ∀ p ∈ (U, oU) :: mkU, p.1 ∉ [L' + 1, L' + 1 + 1, L' + 1 + 1 + 1] := fun p hp => by
  have h1 := (hMU p hp).1
  have no : ∀ {b : Addr} {o : Obj}, Heap.get? _ b = some o → p.1 ≠ b := fun e z => by rw [z] at h1; exact absurd (e.symm.trans h1) (by walk_at "ms")
  simp only [List.mem_cons, List.not_mem_nil, or_false, not_or]
  exact ⟨no (N21 (L' + 1, oA2) (by walk_at "ms")).1, no (N21 (L' + 1 + 1, oB) (by walk_at "ms")).1, no (N21 (L' + 1 + 1 + 1, oC) (by walk_at "ms")).1⟩
 have offUM : ∀ p ∈ (U, oU) :: mkU, ∀ q ∈ (M, oM) :: mkT, p.1 ≠ q.1 := fun p hp q hq z => by
  have h1 := (hMU p hp).1
  rw [z, (N21 q (subm (by walk_at "sz") hq)).1] at h1
  cases h1
 have N23 : News g L' h22 ((L' + 1 + 1, oB) :: (L' + 1, oA2) :: (L' + 1 + 1 + 1, oC) :: (186, tabO ps2) :: (U, oU) :: (M, oM) :: (mkU ++ mkT)) := fun p hp => (hMU.news F21 N22) p (by
  exact subm (by walk_at "sz") hp)
 have nC23 : ∀ p ∈ (U, oU) :: (M, oM) :: (mkU ++ mkT), p.1 ∉ [L' + 1, L' + 1 + 1, L' + 1 + 1 + 1] := fun p hp => by
  revert p; refine fc ?_ (fc ?_ (fa (fun p q => ?_) (fun p q => ?_)))
  ·exact mkUc _ (.head _)
  ·exact nC13 _ (.head _)
  ·exact mkUc p (.tail _ q)
  ·exact nC13 p (by first | walk_at "mz" | simp [q])
 clear N21 F21 N22 N20 hMU e22 mkUc
 clear nC13 F19 hl12 hEs hbE offUM
 rename_i zc1_6
 revert nC23; revert N23; revert loU; revert hTU; revert hoU; revert F22; revert hlE; revert hevs; revert c32; revert hTM; revert htA; revert loM; revert hoM; revert hab10; revert hps2; revert hlin; revert hx1; revert hx0; revert h186; revert zc1_6; revert hqk; revert keepG; revert T'; revert X'; revert B'; revert c2; revert c1; revert eL'; revert hret; revert h22 tk22 U oU kvsU mkU; exact hQ.h
noncomputable def X6 := xOf (kS yH <| kS yN <| kS yN <| kS zeO <| kS yL <| kO yL) 6 (Q := q6.1) rfl
@[irreducible] noncomputable def h22 := X6.1
@[irreducible] noncomputable def tk22 := X6.2.1
@[irreducible] noncomputable def U := X6.2.2.1
@[irreducible] noncomputable def oU := X6.2.2.2.1
@[irreducible] noncomputable def kvsU := X6.2.2.2.2.1
@[irreducible] noncomputable def mkU := X6.2.2.2.2.2
set_option maxRecDepth 100000 in
set_option maxHeartbeats 8000000 in
noncomputable def q7 : {Q : Prop // Q → q6.1} := by
 apply mkQ; intro hQ
 refine no_implicit_lambda% (hzX (kS yH <| kS yN <| kS yN <| kS zeO <| kS yL <| kO yL) 6 X6 rfl rfl ?_); show Cu.un ?C ?Z ?z; with_unfolding_all show ?Z h22 tk22 U oU kvsU mkU
 intro hret eL' c1 c2 B' X' T' keepG hqk _ h186 hx0 hx1 hlin hps2 hab10 hoM loM htA hTM c32 hevs hlE F22 hoU hTU loU N23 nC23
 walk_at "ws"
 show wpAny _ _ _ _ _ _
 refine storeX_C (c := L' + 1 + 1) F22 N23 rfl (UpdF.head fun p hp => ?_) c2 ?_
 ·revert p; refine fc ?_ (fc ?_ (fc ?_ (fun p hp => ?_)))
  ·show @Ne Nat _ _; dsimp only; omega
  ·show @Ne Nat _ _; dsimp only; omega
  ·show @Ne Nat _ _; dsimp only; omega
  ·exact fun z => nC23 p (by first | exact hp | walk_at "mz" | simpa using hp) (by first | walk_at "mz" | simp [z])
 intro h24 oB2 F24 N24 c22
 clear F22 N23 c2
 rename_i zc1_7
 revert c22; revert N24; revert F24; revert nC23; revert loU; revert hTU; revert hoU; revert hlE; revert hevs; revert c32; revert hTM; revert htA; revert loM; revert hoM; revert hab10; revert hps2; revert hlin; revert hx1; revert hx0; revert h186; revert zc1_7; revert hqk; revert keepG; revert T'; revert X'; revert B'; revert c1; revert eL'; revert hret; revert h24 oB2; exact hQ.h
noncomputable def X7 := xOf (kS yH <| kO zeO) 7 (Q := q7.1) rfl
@[irreducible] noncomputable def h24 := X7.1
@[irreducible] noncomputable def oB2 := X7.2
set_option maxRecDepth 100000 in
set_option maxHeartbeats 8000000 in
noncomputable def q8 : {Q : Prop // Q → q7.1} := by
 apply mkQ; intro hQ
 refine no_implicit_lambda% (hzX (kS yH <| kO zeO) 7 X7 rfl rfl ?_); show Cu.un ?C ?Z ?z; with_unfolding_all show ?Z h24 oB2
 intro hret eL' c1 B' X' T' keepG hqk _ h186 hx0 hx1 hlin hps2 hab10 hoM loM htA hTM c32 hevs hlE hoU hTU loU nC23 F24 N24 c22
 walk_at "ws"
 rename News _ _ _ _ => N25
 rename Fr _ _ _ _ => F25
 have etb : tA = dueE evs evs := by
  rw [← htA, ← hevs]
  exact plain_tables hx0 hx1 (fun l hl => hlin l (List.mem_of_mem_take hl)) (fun l hl => hlin l (List.mem_of_mem_drop hl))
 rw [etb] at hTM
 have htl : (dueE evs evs).length ≤ 44 := Nat.le_trans (due_len evs []) (by first | exact hlE | walk_at "mz" | simpa using hlE)
 have ndU : (kvsU.map (·.1)).Nodup := let ⟨_, _, _, _, _, _, q⟩ := hoU; q
 have ndM : (kvsM.map (·.1)).Nodup := let ⟨_, _, _, _, _, _, q⟩ := hoM; q
 clear etb htA hevs
 show wpAny _ _ _ _ _ _
 refine ne_dictP (knd := sk w) loM loU (Heap.dictOf_iff.mpr ⟨oM, (N25 (M, oM) (by walk_at "ms")).1, hoM⟩) (Heap.dictOf_iff.mpr ⟨oU, (N25 (U, oU) (by walk_at "ms")).1, hoU⟩) (by ktr_units) (by rw [← All2.length hTM, ← All2.length hTU]) (fun p hp => ?_) ?_
 ·walk_at "cg"
  obtain ⟨i, hi⟩ := List.mem_iff_getElem?.mp hp
  walk_at "bg"
  have hZ := All2.getR hTM hi; refine exC (kO (zeP2 zeR zeEnt)) hZ ?_; clear hZ; intro c hZ; revert hp hi hZ; revert tk p i c; exists hc, kS yN <| kS (zeP2 zeR zeV) <| kS yN <| kO (zeP2 zeR zeEnt), 26, tk, p, i, c; (try dsimp only); intro hp hi hZ; obtain ⟨hc, e1, e2⟩ := hZ
  have hZ := All2.get hTU hc; refine exC (kO (zeP2 zeR zeV)) hZ ?_; clear hZ; intro q hZ; revert hZ; revert q; exists ho, kO (zeP2 zeR zeV), 27, q; intro hZ; obtain ⟨hq2, e3, e4⟩ := hZ
  refine ⟨q.2, ?_, ent_eqP (led1 := mkT) (led2 := mkU) N25 (fun p hp => by first | walk_at "mz" | simp [hp]) (fun p hp => by first | walk_at "mz" | simp [hp]) e2 e4 (by ktr_units)⟩
  walk_at "cg"
  obtain ⟨qk, qv⟩ := q
  walk_at "bg"
  try dsimp only at e1 e3
  subst e3
  rw [e1]
  exact va_get ndU hq2
 revert tk; exists ho, kO yN, 28, tk; dsimp only [Cu.un, kO]
 walk_at "ws"
 rw [if_neg Bool.false_ne_true]
 walk_at "ws"
 show wpAny _ _ _ _ _ _
 refine list_keys rfl F25 N25 (d := M) (od := oM) (by walk_at "ms") loM hoM (by rw [← All2.length hTM]; omega) (fun Ka c5 h26 tk26 vsA F26 N26 lA hsA => ?_)
 revert F26 N26 lA hsA; revert Ka c5 h26 tk26 vsA; exists hc, kS yN <| kS yN <| kS yH <| kS yN <| kO yL, 29, Ka, c5, h26, tk26, vsA; (try dsimp only); intro F26 N26 lA hsA
 walk_at "ws"
 show wpAny _ _ _ _ _ _
 refine list_keys rfl F26 N26 (d := U) (od := oU) (by walk_at "ms") loU hoU (by rw [← All2.length hTU]; omega) (fun Kb c6 h27 tk27 vsB F27 N27 lB hsB => ?_)
 rw [tb_keys hTM] at hsA
 rw [tb_keys hTU] at hsB
 clear lA lB N26 F26 N25 F25
 clear hx0 hx1 hlin
 rename_i zc1_8
 revert hsB; revert N27; revert F27; revert hsA; revert ndM; revert ndU; revert htl; revert c22; revert nC23; revert loU; revert hTU; revert hoU; revert hlE; revert hTM; revert c32; revert loM; revert hoM; revert hab10; revert hps2; revert h186; revert zc1_8; revert hqk; revert keepG; revert T'; revert X'; revert B'; revert c1; revert eL'; revert hret; revert Ka c5 h26 tk26 vsA Kb c6 h27 tk27 vsB; exact hQ.h
noncomputable def X8 := xOf (kS yN <| kS yN <| kS yH <| kS yN <| kS yL <| kS yN <| kS yN <| kS yH <| kS yN <| kO yL) 8 (Q := q8.1) rfl
@[irreducible] noncomputable def Ka := X8.1
@[irreducible] noncomputable def c5 := X8.2.1
@[irreducible] noncomputable def h26 := X8.2.2.1
@[irreducible] noncomputable def tk26 := X8.2.2.2.1
@[irreducible] noncomputable def vsA := X8.2.2.2.2.1
@[irreducible] noncomputable def Kb := X8.2.2.2.2.2.1
@[irreducible] noncomputable def c6 := X8.2.2.2.2.2.2.1
@[irreducible] noncomputable def h27 := X8.2.2.2.2.2.2.2.1
@[irreducible] noncomputable def tk27 := X8.2.2.2.2.2.2.2.2.1
@[irreducible] noncomputable def vsB := X8.2.2.2.2.2.2.2.2.2
set_option maxRecDepth 100000 in
set_option maxHeartbeats 8000000 in
noncomputable def q10 : {Q : Prop // Q → q8.1} := by
 apply mkQ; intro hQ
 refine no_implicit_lambda% (hzX (kS yN <| kS yN <| kS yH <| kS yN <| kS yL <| kS yN <| kS yN <| kS yH <| kS yN <| kO yL) 8 X8 rfl rfl ?_); show Cu.un ?C ?Z ?z; with_unfolding_all show ?Z Ka c5 h26 tk26 vsA Kb c6 h27 tk27 vsB
 intro hret eL' c1 B' X' T' keepG hqk _ h186 hps2 hab10 hoM loM c32 hTM hlE hoU hTU loU nC23 c22 htl ndU ndM hsA F27 N27 hsB
 walk_at "ws"
 show wpAny _ _ _ _ _ _
 refine ne_lists (xs := vsA) (ys := vsB) (News.isList N27 (.tail _ (.head _))) (News.isList N27 (.head _)) (by ktr_units) (eq_strs hsA hsB) ?_
 walk_at "ws"
 rw [if_neg Bool.false_ne_true]
 replace N27 : News g L' h27 ((L' + 1 + 1, oB2) :: (L' + 1, oA2) :: (L' + 1 + 1 + 1, oC) :: (186, tabO ps2) :: (U, oU) :: (M, oM) :: (mkU ++ mkT)) := news_sub N27 fun p hp => .tail _ (.tail _ hp)
 clear hsA hsB
 walk_at "ws"
 rw [if_neg Bool.false_ne_true]
 walk_at "ws"
 show wpAny _ _ _ _ _ _
 k_dflt (refine ListComp_D (knd := sk w) (F₀ := F27) (by with_unfolding_all rfl) (by decide) (by rfl) (by decide) (by rfl) ?_)
 walk_at "ws"
 rename News _ _ _ _ => NS1
 rename Fr _ _ _ _ => FS1
 refine ⟨M, oM, kvsM, _, rfl, rfl, FS1, NS1, by walk_at "ms", loM, hoM, kdl_size (by rw [← All2.length hTM]; omega), fun g9 => ?_⟩
 revert g9; exists ho, kO yH, 30, g9; dsimp only [Cu.un, kO]
 refine compU_ind (CallsL (dueE evs evs)) CallsL.mono (fun nw sub => sub _ (by walk_at "ms")) ?_ ?_
 ·intro i v ys nw I oI C oC2 D m₂ h tk E' hi9 hv hC hx9 F N off ne
  refine exC (kS zeR <| kO zeV) hv ?_; clear hv; intro k y hZ; revert hi9 hC hx9 F N off ne hZ; revert i v ys nw I oI C oC2 D m₂ h tk E' k y; refine no_implicit_lambda% (hzC (kS yN <| kS zeV <| kS yL <| kS yL <| kS yN <| kS zeO <| kS yN <| kS zeO <| kS yN <| kS (yF yT) <| kS yH <| kS yN <| kS (yF (yF yP)) <| kS zeR <| kO zeV) 31 ?_); show Cu.un ?C3h ?Z3h ?z3h; refine (?_ : Cu.all ?C3h ?Z3h) ?z3h.1 ?z3h.2.1 ?z3h.2.2.1 ?z3h.2.2.2.1 ?z3h.2.2.2.2.1 ?z3h.2.2.2.2.2.1 ?z3h.2.2.2.2.2.2.1 ?z3h.2.2.2.2.2.2.2.1 ?z3h.2.2.2.2.2.2.2.2.1 ?z3h.2.2.2.2.2.2.2.2.2.1 ?z3h.2.2.2.2.2.2.2.2.2.2.1 ?z3h.2.2.2.2.2.2.2.2.2.2.2.1 ?z3h.2.2.2.2.2.2.2.2.2.2.2.2.1 ?z3h.2.2.2.2.2.2.2.2.2.2.2.2.2.1 ?z3h.2.2.2.2.2.2.2.2.2.2.2.2.2.2; intro i v ys nw I oI C oC2 D m₂ h tk E' k y hi9 hC hx9 F N off ne hZ; obtain ⟨hk, hkey⟩ := hZ
  have hZ := All2.getR hTM hk; refine exC (kO (zeP2 zeR zeEnt)) hZ ?_; clear hZ; intro c hZ; revert hZ; revert c; exists ho, kO (zeP2 zeR zeEnt), 32, c; intro hZ; obtain ⟨hc, e1, e2⟩ := hZ
  walk_at "cg"
  obtain ⟨tk9, rfl⟩ := sk_key hkey
  walk_at "bg"
  refine exC (kS yN <| kS yN <| kS yN <| kS yN <| kS yN <| kO zeV) e2 ?_; clear e2; intro ea a1 a2 a3 a4 vc hZ; revert hx9 hkey hZ; revert tk9 ea a1 a2 a3 a4 vc; exists hc, kS yN <| kS yN <| kS yN <| kS yN <| kS yN <| kS yN <| kO zeV, 33, tk9, ea, a1, a2, a3, a4, vc; (try dsimp only); intro hx9 hkey hZ; obtain ⟨e3, hme, hZ⟩ := hZ; refine exC (kS yN <| kS zeO <| kO yL) hZ ?_; clear hZ; intro dc odc kvc hZ; revert hZ; revert dc odc kvc; exists hc, kS yN <| kS zeO <| kO yL, 34, dc, odc, kvc; (try dsimp only); intro hZ; obtain ⟨rfl, hmd, lodc, hodc, hic⟩ := hZ
  try dsimp only at e1 e3
  subst e1 e3
  dsimp only [List.cons_append, List.nil_append] at N off
  walk_at "ws"
  (try (unfold qk ek; clear qk ek; refine fold2 ?_; intro qk ek hqk hek))
  show wpAny _ _ _ _ _ _
  rename News _ _ _ _ => N3
  refine kdt_tail N3 (d := M) (o := oM) (by walk_at "ms") hoM (kdt_getItem N3 (d := M) (o := oM) (by walk_at "ms") hoM hkey (va_get ndM hk) ?_)
  revert hqk hek; revert qk ek; exists hc, kS (yF (yF yP)) <| kO (yF (yF yP)), 35, qk, ek; (try dsimp only); intro hqk hek
  walk_at "ws"
  show wpAny _ _ _ _ _ _
  rename News _ _ _ _ => N4
  refine ent_item (N4 (ea, entO c.2 a1 a2 a3 a4 (.ref dc)) (by first | walk_at "mz" | simp [hme])).1 (by decide) (by decide) (j := 4) rfl rfl ?_
  walk_at "ws"
  show wpAny _ _ _ _ _ _
  rename News _ _ _ _ => N5
  rename Fr _ _ _ _ => F5
  refine list_keys rfl F5 N5 (d := dc) (od := odc) (by first | walk_at "mz" | simp [hmd]) lodc hodc (by rw [ip_len hic]; exact Nat.le_trans (due_cs (List.mem_of_getElem? hc)) (by omega)) (fun X cX hX tkX vsX FX NX lX hsX => ?_)
  refine CEnd.push FX NX off lX (fun _ h => h) ⟨X, cX, vsX, c, rfl, .head _, hc, ?_⟩
  rw [ip_keys hic] at hsX
  exact hsX
 intro ys1 nw1 al1
 unfold LCg.FinE
 intro D1 hp1 tk1 F1 N1 off1
 clear FS1 NS1
 rw [← All2.length hTM] at al1
 dsimp only [List.cons_append] at N1
 try dsimp only
 clear off1
 rename_i zc1_10
 revert N1; revert F1; revert al1; revert ndM; revert ndU; revert htl; revert c22; revert nC23; revert loU; revert hTU; revert hoU; revert hlE; revert hTM; revert c32; revert loM; revert hoM; revert hab10; revert hps2; revert h186; revert zc1_10; revert hqk; revert keepG; revert T'; revert X'; revert B'; revert c1; revert eL'; revert hret; revert ys1 nw1 D1 hp1 tk1; exact hQ.h
noncomputable def X10 := xOf (kS yL <| kS yL <| kS yN <| kS yH <| kO yN) 10 (Q := q10.1) rfl
@[irreducible] noncomputable def ys1 := X10.1
@[irreducible] noncomputable def nw1 := X10.2.1
@[irreducible] noncomputable def D1 := X10.2.2.1
@[irreducible] noncomputable def hp1 := X10.2.2.2.1
@[irreducible] noncomputable def tk1 := X10.2.2.2.2
set_option maxRecDepth 100000 in
set_option maxHeartbeats 8000000 in
noncomputable def q11 : {Q : Prop // Q → q10.1} := by
 apply mkQ; intro hQ
 refine no_implicit_lambda% (hzX (kS yL <| kS yL <| kS yN <| kS yH <| kO yN) 10 X10 rfl rfl ?_); show Cu.un ?C ?Z ?z; with_unfolding_all show ?Z ys1 nw1 D1 hp1 tk1
 intro hret eL' c1 B' X' T' keepG hqk _ h186 hps2 hab10 hoM loM c32 hTM hlE hoU hTU loU nC23 c22 htl ndU ndM al1 F1 N1
 walk_at "ws"
 show wpAny _ _ _ _ _ _
 k_dflt (refine ListComp_D (knd := sk w) (F₀ := F1) (by with_unfolding_all rfl) (by decide) (by rfl) (by decide) (by rfl) ?_)
 walk_at "ws"
 rename News _ _ _ _ => NS2
 rename Fr _ _ _ _ => FS2
 refine ⟨U, oU, kvsU, _, rfl, rfl, FS2, NS2, by walk_at "ms", loU, hoU, kdl_size (by rw [← All2.length hTU]; omega), fun g9 => ?_⟩
 revert g9; exists ho, kO yH, 36, g9; dsimp only [Cu.un, kO]
 refine compU_ind (CallsL (dueE evs evs)) CallsL.mono (fun nw sub => sub _ (by walk_at "ms")) ?_ ?_
 ·intro i v ys nw I oI C oC2 D m₂ h tk E' hi9 hv hC hx9 F N off ne
  refine exC (kS zeR <| kO zeV) hv ?_; clear hv; intro k y hZ; revert hi9 hC hx9 F N off ne hZ; revert i v ys nw I oI C oC2 D m₂ h tk E' k y; refine no_implicit_lambda% (hzC (kS yN <| kS zeV <| kS yL <| kS yL <| kS yN <| kS zeO <| kS yN <| kS zeO <| kS yN <| kS (yF yT) <| kS yH <| kS yN <| kS (yF (yF yP)) <| kS zeR <| kO zeV) 37 ?_); show Cu.un ?C4h ?Z4h ?z4h; refine (?_ : Cu.all ?C4h ?Z4h) ?z4h.1 ?z4h.2.1 ?z4h.2.2.1 ?z4h.2.2.2.1 ?z4h.2.2.2.2.1 ?z4h.2.2.2.2.2.1 ?z4h.2.2.2.2.2.2.1 ?z4h.2.2.2.2.2.2.2.1 ?z4h.2.2.2.2.2.2.2.2.1 ?z4h.2.2.2.2.2.2.2.2.2.1 ?z4h.2.2.2.2.2.2.2.2.2.2.1 ?z4h.2.2.2.2.2.2.2.2.2.2.2.1 ?z4h.2.2.2.2.2.2.2.2.2.2.2.2.1 ?z4h.2.2.2.2.2.2.2.2.2.2.2.2.2.1 ?z4h.2.2.2.2.2.2.2.2.2.2.2.2.2.2; intro i v ys nw I oI C oC2 D m₂ h tk E' k y hi9 hC hx9 F N off ne hZ; obtain ⟨hk, hkey⟩ := hZ
  have hZ := All2.getR hTU hk; refine exC (kO (zeP2 zeR zeEnt)) hZ ?_; clear hZ; intro c hZ; revert hZ; revert c; exists ho, kO (zeP2 zeR zeEnt), 38, c; intro hZ; obtain ⟨hc, e1, e2⟩ := hZ
  walk_at "cg"
  obtain ⟨tk9, rfl⟩ := sk_key hkey
  walk_at "bg"
  refine exC (kS yN <| kS yN <| kS yN <| kS yN <| kS yN <| kO zeV) e2 ?_; clear e2; intro ea a1 a2 a3 a4 vc hZ; revert hx9 hkey hZ; revert tk9 ea a1 a2 a3 a4 vc; exists hc, kS yN <| kS yN <| kS yN <| kS yN <| kS yN <| kS yN <| kO zeV, 39, tk9, ea, a1, a2, a3, a4, vc; (try dsimp only); intro hx9 hkey hZ; obtain ⟨e3, hme, hZ⟩ := hZ; refine exC (kS yN <| kS zeO <| kO yL) hZ ?_; clear hZ; intro dc odc kvc hZ; revert hZ; revert dc odc kvc; exists hc, kS yN <| kS zeO <| kO yL, 40, dc, odc, kvc; (try dsimp only); intro hZ; obtain ⟨rfl, hmd, lodc, hodc, hic⟩ := hZ
  try dsimp only at e1 e3
  subst e1 e3
  dsimp only [List.cons_append, List.nil_append] at N off
  walk_at "ws"
  (try (unfold qk ek; clear qk ek; refine fold2 ?_; intro qk ek hqk hek))
  show wpAny _ _ _ _ _ _
  rename News _ _ _ _ => N3
  refine kdt_tail N3 (d := U) (o := oU) (by walk_at "ms") hoU (kdt_getItem N3 (d := U) (o := oU) (by walk_at "ms") hoU hkey (va_get ndU hk) ?_)
  revert hqk hek; revert qk ek; exists hc, kS (yF (yF yP)) <| kO (yF (yF yP)), 41, qk, ek; (try dsimp only); intro hqk hek
  walk_at "ws"
  show wpAny _ _ _ _ _ _
  rename News _ _ _ _ => N4
  refine ent_item (N4 (ea, entO c.2 a1 a2 a3 a4 (.ref dc)) (by first | walk_at "mz" | simp [hme])).1 (by decide) (by decide) (j := 4) rfl rfl ?_
  walk_at "ws"
  show wpAny _ _ _ _ _ _
  rename News _ _ _ _ => N5
  rename Fr _ _ _ _ => F5
  refine list_keys rfl F5 N5 (d := dc) (od := odc) (by first | walk_at "mz" | simp [hmd]) lodc hodc (by rw [ip_len hic]; exact Nat.le_trans (due_cs (List.mem_of_getElem? hc)) (by omega)) (fun X cX hX tkX vsX FX NX lX hsX => ?_)
  refine CEnd.push FX NX off lX (fun _ h => h) ⟨X, cX, vsX, c, rfl, .head _, hc, ?_⟩
  rw [ip_keys hic] at hsX
  exact hsX
 intro ys2 nw2 al2
 unfold LCg.FinE
 intro D2 hp2 tk2 F2 N2 off2
 clear FS2 NS2
 rw [← All2.length hTU] at al2
 dsimp only [List.cons_append] at N2
 try dsimp only
 clear hoU hTU loU c22 ndU off2
 rename_i zc1_11
 revert N2; revert F2; revert al2; revert al1; revert ndM; revert htl; revert nC23; revert hlE; revert hTM; revert c32; revert loM; revert hoM; revert hab10; revert hps2; revert h186; revert zc1_11; revert hqk; revert keepG; revert T'; revert X'; revert B'; revert c1; revert eL'; revert hret; revert ys2 nw2 D2 hp2 tk2; exact hQ.h
noncomputable def X11 := xOf (kS yL <| kS yL <| kS yN <| kS yH <| kO yN) 11 (Q := q11.1) rfl
@[irreducible] noncomputable def ys2 := X11.1
@[irreducible] noncomputable def nw2 := X11.2.1
@[irreducible] noncomputable def D2 := X11.2.2.1
@[irreducible] noncomputable def hp2 := X11.2.2.2.1
@[irreducible] noncomputable def tk2 := X11.2.2.2.2
set_option maxRecDepth 100000 in
set_option maxHeartbeats 8000000 in
noncomputable def q13 : {Q : Prop // Q → q11.1} := by
 apply mkQ; intro hQ
 refine no_implicit_lambda% (hzX (kS yL <| kS yL <| kS yN <| kS yH <| kO yN) 11 X11 rfl rfl ?_); show Cu.un ?C ?Z ?z; with_unfolding_all show ?Z ys2 nw2 D2 hp2 tk2
 intro hret eL' c1 B' X' T' keepG hqk _ h186 hps2 hab10 hoM loM c32 hTM hlE nC23 htl ndM al1 al2 F2 N2
 walk_at "ws"
 show wpAny _ _ _ _ _ _
 refine ne_lists (xs := ys1) (ys := ys2) (News.isList N2 (.tail _ (.head _))) (News.isList N2 (.head _)) (by ktr_units) (callsL_eq N2 (fun p hp => ?_) (fun p hp => ?_) (by ktr_units) al1 al2) ?_
 ·exact subm (by walk_at "sz") hp
 ·exact subm (by walk_at "sz") hp
 walk_at "ws"
 rw [if_neg Bool.false_ne_true]
 replace N2 : News g L' hp2 ((L' + 1 + 1, oB2) :: (L' + 1, oA2) :: (L' + 1 + 1 + 1, oC) :: (186, tabO ps2) :: (U, oU) :: (M, oM) :: (mkU ++ mkT)) := news_sub N2 (by walk_at "sz")
 clear al1 al2
 (try clear N1)
 (try clear F1)
 (try clear F27)
 (try clear N27)
 walk_at "ws"
 show wpAny _ _ _ _ _ _
 k_dflt (refine ListComp_D (knd := sk w) (F₀ := F2) (by with_unfolding_all rfl) (by decide) (by rfl) (by decide) (by rfl) ?_)
 walk_at "ws"
 rename News _ _ _ _ => NS3
 rename Fr _ _ _ _ => FS3
 refine ⟨M, oM, kvsM, _, rfl, rfl, FS3, NS3, by walk_at "ms", loM, hoM, kdl_size (by rw [← All2.length hTM]; omega), fun g9 => ?_⟩
 revert g9; exists ho, kO yH, 42, g9; dsimp only [Cu.un, kO]
 refine compU_ind (IntL (fun e => e.c) (dueE evs evs)) IntL.mono (fun nw sub => sub _ (by walk_at "ms")) ?_ ?_
 ·intro i v ys nw I oI C oC2 D m₂ h tk E' hi9 hv hC hx9 F N off ne
  refine exC (kS zeR <| kO zeV) hv ?_; clear hv; intro k y hZ; revert hi9 hC hx9 F N off ne hZ; revert i v ys nw I oI C oC2 D m₂ h tk E' k y; refine no_implicit_lambda% (hzC (kS yN <| kS zeV <| kS yL <| kS yL <| kS yN <| kS zeO <| kS yN <| kS zeO <| kS yN <| kS (yF yT) <| kS yH <| kS yN <| kS (yF (yF yP)) <| kS zeR <| kO zeV) 43 ?_); show Cu.un ?C5h ?Z5h ?z5h; refine (?_ : Cu.all ?C5h ?Z5h) ?z5h.1 ?z5h.2.1 ?z5h.2.2.1 ?z5h.2.2.2.1 ?z5h.2.2.2.2.1 ?z5h.2.2.2.2.2.1 ?z5h.2.2.2.2.2.2.1 ?z5h.2.2.2.2.2.2.2.1 ?z5h.2.2.2.2.2.2.2.2.1 ?z5h.2.2.2.2.2.2.2.2.2.1 ?z5h.2.2.2.2.2.2.2.2.2.2.1 ?z5h.2.2.2.2.2.2.2.2.2.2.2.1 ?z5h.2.2.2.2.2.2.2.2.2.2.2.2.1 ?z5h.2.2.2.2.2.2.2.2.2.2.2.2.2.1 ?z5h.2.2.2.2.2.2.2.2.2.2.2.2.2.2; intro i v ys nw I oI C oC2 D m₂ h tk E' k y hi9 hC hx9 F N off ne hZ; obtain ⟨hk, hkey⟩ := hZ
  have hZ := All2.getR hTM hk; refine exC (kO (zeP2 zeR zeEnt)) hZ ?_; clear hZ; intro c hZ; revert hZ; revert c; exists ho, kO (zeP2 zeR zeEnt), 44, c; intro hZ; obtain ⟨hc, e1, e2⟩ := hZ
  walk_at "cg"
  obtain ⟨tk9, rfl⟩ := sk_key hkey
  walk_at "bg"
  refine exC (kS yN <| kS yN <| kS yN <| kS yN <| kS yN <| kO zeV) e2 ?_; clear e2; intro ea a1 a2 a3 a4 vc hZ; revert hx9 hkey hZ; revert tk9 ea a1 a2 a3 a4 vc; exists hc, kS yN <| kS yN <| kS yN <| kS yN <| kS yN <| kS yN <| kO zeV, 45, tk9, ea, a1, a2, a3, a4, vc; (try dsimp only); intro hx9 hkey hZ; obtain ⟨e3, hme, hZ⟩ := hZ; refine exC (kS yN <| kS zeO <| kO yL) hZ ?_; clear hZ; intro dc odc kvc hZ; revert hZ; revert dc odc kvc; exists hc, kS yN <| kS zeO <| kO yL, 46, dc, odc, kvc; (try dsimp only); intro hZ; obtain ⟨rfl, hmd, lodc, hodc, hic⟩ := hZ
  try dsimp only at e1 e3
  subst e1 e3
  dsimp only [List.cons_append, List.nil_append] at N off
  walk_at "ws"
  (try (unfold qk ek; clear qk ek; refine fold2 ?_; intro qk ek hqk hek))
  show wpAny _ _ _ _ _ _
  rename News _ _ _ _ => N3
  refine kdt_tail N3 (d := M) (o := oM) (by walk_at "ms") hoM (kdt_getItem N3 (d := M) (o := oM) (by walk_at "ms") hoM hkey (va_get ndM hk) ?_)
  revert hqk hek; revert qk ek; exists hc, kS (yF (yF yP)) <| kO (yF (yF yP)), 47, qk, ek; (try dsimp only); intro hqk hek
  walk_at "ws"
  show wpAny _ _ _ _ _ _
  rename News _ _ _ _ => N4
  refine ent_item (N4 (ea, entO c.2 a1 a2 a3 a4 (.ref dc)) (by first | walk_at "mz" | simp [hme])).1 (by decide) (by decide) (j := 4) rfl rfl ?_
  walk_at "ws"
  rename News _ _ _ _ => N5
  rename Fr _ _ _ _ => F5
  refine ⟨X'.keeps F5.keep, ?_⟩
  refine SpecL.use0 (count_spec w mean mg mb dc odc kvc c.2.cs lodc hodc hic (Nat.le_trans (due_cs (List.mem_of_getElem? hc)) (by omega)) (fun q hq => by have := due_cb (List.mem_of_getElem? hc) q hq; exact oz105 this.1 this.2 hlE)) B' F5 X' N5 T' rfl (by ktr_room) (by ktr_units) trivial (fun q hq => by rw [List.mem_singleton.mp hq]; simp [hmd]) ?_
  intro r h9 tk9 e9 F9 N9 hr
  walk_at "cg"
  obtain ⟨tr, rfl⟩ := hr
  walk_at "bg"
  rw [due_sum (List.mem_of_getElem? hc)]
  exact CEnd.intro F9 N9 off (fun _ h => h) ⟨c, tr, hc, rfl⟩
 intro ys3 nw3 al3
 unfold LCg.FinE
 intro D9 hp3 tk3 F3 N3 off3
 clear FS3 NS3
 rw [← All2.length hTM] at al3
 dsimp only [List.cons_append] at N3
 try dsimp only
 clear hlE off3
 rename_i zc1_13
 revert N3; revert F3; revert al3; revert ndM; revert htl; revert nC23; revert hTM; revert c32; revert loM; revert hoM; revert hab10; revert hps2; revert h186; revert zc1_13; revert hqk; revert keepG; revert T'; revert X'; revert B'; revert c1; revert eL'; revert hret; revert ys3 nw3 D9 hp3 tk3; exact hQ.h
noncomputable def X13 := xOf (kS yL <| kS yL <| kS yN <| kS yH <| kO yN) 13 (Q := q13.1) rfl
@[irreducible] noncomputable def ys3 := X13.1
@[irreducible] noncomputable def nw3 := X13.2.1
@[irreducible] noncomputable def D9 := X13.2.2.1
@[irreducible] noncomputable def hp3 := X13.2.2.2.1
@[irreducible] noncomputable def tk3 := X13.2.2.2.2
set_option maxRecDepth 100000 in
set_option maxHeartbeats 8000000 in
noncomputable def q14 : {Q : Prop // Q → q13.1} := by
 apply mkQ; intro hQ
 refine no_implicit_lambda% (hzX (kS yL <| kS yL <| kS yN <| kS yH <| kO yN) 13 X13 rfl rfl ?_); show Cu.un ?C ?Z ?z; with_unfolding_all show ?Z ys3 nw3 D9 hp3 tk3
 intro hret eL' c1 B' X' T' keepG hqk _ h186 hps2 hab10 hoM loM c32 hTM nC23 htl ndM al3 F3 N3
 walk_at "ws"
 show wpAny _ _ _ _ _ _
 k_dflt (refine ListComp_D (knd := sk w) (F₀ := F3) (by with_unfolding_all rfl) (by decide) (by rfl) (by decide) (by rfl) ?_)
 walk_at "ws"
 rename News _ _ _ _ => NS4
 rename Fr _ _ _ _ => FS4
 refine ⟨M, oM, kvsM, _, rfl, rfl, FS4, NS4, by walk_at "ms", loM, hoM, kdl_size (by rw [← All2.length hTM]; omega), fun g9 => ?_⟩
 revert g9; exists ho, kO yH, 48, g9; dsimp only [Cu.un, kO]
 refine compU_ind (IntL (fun e => e.c) (dueE evs evs)) IntL.mono (fun nw sub => sub _ (by walk_at "ms")) ?_ ?_
 ·intro i v ys nw I oI C oC2 D m₂ h tk E' hi9 hv hC hx9 F N off ne
  refine exC (kS zeR <| kO zeV) hv ?_; clear hv; intro k y hZ; revert hi9 hC hx9 F N off ne hZ; revert i v ys nw I oI C oC2 D m₂ h tk E' k y; refine no_implicit_lambda% (hzC (kS yN <| kS zeV <| kS yL <| kS yL <| kS yN <| kS zeO <| kS yN <| kS zeO <| kS yN <| kS (yF yT) <| kS yH <| kS yN <| kS (yF (yF yP)) <| kS zeR <| kO zeV) 49 ?_); show Cu.un ?C6h ?Z6h ?z6h; refine (?_ : Cu.all ?C6h ?Z6h) ?z6h.1 ?z6h.2.1 ?z6h.2.2.1 ?z6h.2.2.2.1 ?z6h.2.2.2.2.1 ?z6h.2.2.2.2.2.1 ?z6h.2.2.2.2.2.2.1 ?z6h.2.2.2.2.2.2.2.1 ?z6h.2.2.2.2.2.2.2.2.1 ?z6h.2.2.2.2.2.2.2.2.2.1 ?z6h.2.2.2.2.2.2.2.2.2.2.1 ?z6h.2.2.2.2.2.2.2.2.2.2.2.1 ?z6h.2.2.2.2.2.2.2.2.2.2.2.2.1 ?z6h.2.2.2.2.2.2.2.2.2.2.2.2.2.1 ?z6h.2.2.2.2.2.2.2.2.2.2.2.2.2.2; intro i v ys nw I oI C oC2 D m₂ h tk E' k y hi9 hC hx9 F N off ne hZ; obtain ⟨hk, hkey⟩ := hZ
  have hZ := All2.getR hTM hk; refine exC (kO (zeP2 zeR zeEnt)) hZ ?_; clear hZ; intro c hZ; revert hZ; revert c; exists ho, kO (zeP2 zeR zeEnt), 50, c; intro hZ; obtain ⟨hc, e1, e2⟩ := hZ
  walk_at "cg"
  obtain ⟨tk9, rfl⟩ := sk_key hkey
  walk_at "bg"
  refine exC (kS yN <| kS yN <| kS yN <| kS yN <| kS yN <| kO zeV) e2 ?_; clear e2; intro ea a1 a2 a3 a4 vc hZ; revert hx9 hkey hZ; revert tk9 ea a1 a2 a3 a4 vc; exists hc, kS yN <| kS yN <| kS yN <| kS yN <| kS yN <| kS yN <| kO zeV, 51, tk9, ea, a1, a2, a3, a4, vc; (try dsimp only); intro hx9 hkey hZ; obtain ⟨e3, hme, hZ⟩ := hZ; refine exC (kS yN <| kS zeO <| kO yL) hZ ?_; clear hZ; intro dc odc kvc hZ; revert hZ; revert dc odc kvc; exists hc, kS yN <| kS zeO <| kO yL, 52, dc, odc, kvc; (try dsimp only); intro hZ; obtain ⟨rfl, hmd, lodc, hodc, hic⟩ := hZ
  try dsimp only at e1 e3
  subst e1 e3
  dsimp only [List.cons_append, List.nil_append] at N off
  walk_at "ws"
  (try (unfold qk ek; clear qk ek; refine fold2 ?_; intro qk ek hqk hek))
  show wpAny _ _ _ _ _ _
  rename News _ _ _ _ => N3
  refine kdt_tail N3 (d := M) (o := oM) (by walk_at "ms") hoM (kdt_getItem N3 (d := M) (o := oM) (by walk_at "ms") hoM hkey (va_get ndM hk) ?_)
  walk_at "ws"
  show wpAny _ _ _ _ _ _
  rename News _ _ _ _ => N4
  refine ent_item (N4 (ea, entO c.2 a1 a2 a3 a4 (.ref dc)) (by first | walk_at "mz" | simp [hme])).1 (by decide) (by decide) (j := 0) rfl rfl ?_
  walk_at "ws"
  rename News _ _ _ _ => N5
  rename Fr _ _ _ _ => F5
  exact CEnd.intro F5 N5 off (fun _ h => h) ⟨c, _, hc, rfl⟩
 intro ys4 nw4 al4
 unfold LCg.FinE
 intro D4 hp4 tk4 F4 N4 off4
 clear FS4 NS4
 rw [← All2.length hTM] at al4
 dsimp only [List.cons_append] at N4
 try dsimp only
 clear off4
 rename_i zc1_14
 revert N4; revert F4; revert al4; revert al3; revert ndM; revert htl; revert nC23; revert hTM; revert c32; revert loM; revert hoM; revert hab10; revert hps2; revert h186; revert zc1_14; revert hqk; revert keepG; revert T'; revert X'; revert B'; revert c1; revert eL'; revert hret; revert ys4 nw4 D4 hp4 tk4; exact hQ.h
noncomputable def X14 := xOf (kS yL <| kS yL <| kS yN <| kS yH <| kO yN) 14 (Q := q14.1) rfl
@[irreducible] noncomputable def ys4 := X14.1
@[irreducible] noncomputable def nw4 := X14.2.1
@[irreducible] noncomputable def D4 := X14.2.2.1
@[irreducible] noncomputable def hp4 := X14.2.2.2.1
@[irreducible] noncomputable def tk4 := X14.2.2.2.2
set_option maxRecDepth 100000 in
set_option maxHeartbeats 8000000 in
noncomputable def q16 : {Q : Prop // Q → q14.1} := by
 apply mkQ; intro hQ
 refine no_implicit_lambda% (hzX (kS yL <| kS yL <| kS yN <| kS yH <| kO yN) 14 X14 rfl rfl ?_); show Cu.un ?C ?Z ?z; with_unfolding_all show ?Z ys4 nw4 D4 hp4 tk4
 intro hret eL' c1 B' X' T' keepG hqk _ h186 hps2 hab10 hoM loM c32 hTM nC23 htl ndM al3 al4 F4 N4
 walk_at "ws"
 show wpAny _ _ _ _ _ _
 refine ne_lists (xs := ys3) (ys := ys4) (News.isList N4 (.tail _ (.head _))) (News.isList N4 (.head _)) (by ktr_units) (intL_eq al3 al4) ?_
 walk_at "ws"
 rw [if_neg Bool.false_ne_true]
 replace N4 : News g L' hp4 ((L' + 1 + 1 + 1, oC) :: (L' + 1 + 1, oB2) :: (L' + 1, oA2) :: (186, tabO ps2) :: (U, oU) :: (M, oM) :: (mkU ++ mkT)) := news_sub N4 (by walk_at "sz")
 clear al3 al4
 (try clear N3)
 (try clear F3)
 (try clear F2)
 (try clear N2)
 walk_at "ws"
 show wpAny _ _ _ _ _ _
 rename News _ _ _ _ => N5
 rename Fr _ _ _ _ => F5
 refine storeX_C (c := L' + 1 + 1 + 1) F5 N5 rfl (UpdF.head fun p hp => ?_) c1 ?_
 ·revert p; refine fc ?_ (fc ?_ (fc ?_ (fun p hp => ?_)))
  ·show @Ne Nat _ _; dsimp only; omega
  ·show @Ne Nat _ _; dsimp only; omega
  ·show @Ne Nat _ _; dsimp only; omega
  ·exact fun z => nC23 p (by first | exact hp | walk_at "mz" | simpa using hp) (by first | walk_at "mz" | simp [z])
 intro h6b oC2 F6 N6 c12
 clear F5 N5
 obtain ⟨col, hcol, hcl⟩ : ∃ col : Nat, total.fmod 4 = (col : Int) ∧ col < 4 := ⟨(total.fmod 4).toNat, by have := Int.fmod_nonneg_of_pos total (b := 4) (by decide); exact oz128 this, by have := Int.fmod_lt_of_pos total (b := 4) (by decide); exact oz127 this⟩
 rw [hcol] at c12
 revert F6 N6 c12 hcol hcl; revert h6b oC2 col; exists hc, kS yH <| kS zeO <| kO yN, 53, h6b, oC2, col; (try dsimp only); intro F6 N6 c12 hcol hcl
 walk_at "ws"
 show wpAny _ _ _ _ _ _
 k_dflt (refine Assign_ListComp_D (knd := sk w) (F₀ := F6) (by rfl) (by with_unfolding_all rfl) (by with_unfolding_all rfl) (by decide) (by rfl) (by decide) (by rfl) (by rfl) (by rfl) ?_)
 revert tk; exists ho, kO yN, 54, tk; dsimp only [Cu.un, kO]
 walk_at "ws"
 rename News _ _ _ _ => NS5
 rename Fr _ _ _ _ => FS5
 refine ⟨M, oM, kvsM, _, rfl, rfl, FS5, NS5, by walk_at "ms", loM, hoM, kdl_size (by rw [← All2.length hTM]; omega), fun g9 => ?_⟩
 revert g9; exists ho, kO yH, 55, g9; dsimp only [Cu.un, kO]
 refine compU_ind (RowL (dueE evs evs)) RowL.mono (fun nw sub => sub _ (by walk_at "ms")) ?_ ?_
 ·intro i v ys nw I oI C oC3 D m₂ h tk E' hi9 hv hC hx9 F N off ne
  refine exC (kS zeR <| kO zeV) hv ?_; clear hv; intro k y hZ; revert hi9 hC hx9 F N off ne hZ; revert i v ys nw I oI C oC3 D m₂ h tk E' k y; refine no_implicit_lambda% (hzC (kS yN <| kS zeV <| kS yL <| kS yL <| kS yN <| kS zeO <| kS yN <| kS zeO <| kS yN <| kS (yF yT) <| kS yH <| kS yN <| kS (yF (yF yP)) <| kS zeR <| kO zeV) 56 ?_); show Cu.un ?C7h ?Z7h ?z7h; refine (?_ : Cu.all ?C7h ?Z7h) ?z7h.1 ?z7h.2.1 ?z7h.2.2.1 ?z7h.2.2.2.1 ?z7h.2.2.2.2.1 ?z7h.2.2.2.2.2.1 ?z7h.2.2.2.2.2.2.1 ?z7h.2.2.2.2.2.2.2.1 ?z7h.2.2.2.2.2.2.2.2.1 ?z7h.2.2.2.2.2.2.2.2.2.1 ?z7h.2.2.2.2.2.2.2.2.2.2.1 ?z7h.2.2.2.2.2.2.2.2.2.2.2.1 ?z7h.2.2.2.2.2.2.2.2.2.2.2.2.1 ?z7h.2.2.2.2.2.2.2.2.2.2.2.2.2.1 ?z7h.2.2.2.2.2.2.2.2.2.2.2.2.2.2; intro i v ys nw I oI C oC3 D m₂ h tk E' k y hi9 hC hx9 F N off ne hZ; obtain ⟨hk, hkey⟩ := hZ
  have hZ := All2.getR hTM hk; refine exC (kO (zeP2 zeR zeEnt)) hZ ?_; clear hZ; intro c hZ; revert hZ; revert c; exists ho, kO (zeP2 zeR zeEnt), 57, c; intro hZ; obtain ⟨hc, e1, e2⟩ := hZ
  walk_at "cg"
  obtain ⟨tk9, rfl⟩ := sk_key hkey
  walk_at "bg"
  refine exC (kS yN <| kS yN <| kS yN <| kS yN <| kS yN <| kO zeV) e2 ?_; clear e2; intro ea a1 a2 a3 a4 vc hZ; revert hx9 hkey hZ; revert tk9 ea a1 a2 a3 a4 vc; exists hc, kS yN <| kS yN <| kS yN <| kS yN <| kS yN <| kS yN <| kO zeV, 58, tk9, ea, a1, a2, a3, a4, vc; (try dsimp only); intro hx9 hkey hZ; obtain ⟨e3, hme, hZ⟩ := hZ; refine exC (kS yN <| kS zeO <| kO yL) hZ ?_; clear hZ; intro dc odc kvc hZ; revert hZ; revert dc odc kvc; exists hc, kS yN <| kS zeO <| kO yL, 59, dc, odc, kvc; (try dsimp only); intro hZ; obtain ⟨rfl, hmd, lodc, hodc, hic⟩ := hZ
  try dsimp only at e1 e3
  subst e1 e3
  dsimp only [List.cons_append, List.nil_append] at N off
  walk_at "ws"
  (try (unfold qk ek; clear qk ek; refine fold2 ?_; intro qk ek hqk hek))
  show wpAny _ _ _ _ _ _
  rename News _ _ _ _ => N3
  refine kdt_tail N3 (d := M) (o := oM) (by walk_at "ms") hoM (kdt_getItem N3 (d := M) (o := oM) (by walk_at "ms") hoM hkey (va_get ndM hk) ?_)
  walk_at "ws"
  show wpAny _ _ _ _ _ _
  rename News _ _ _ _ => N4
  rename Fr _ _ _ _ => F4
  have hpt : IsTup _ ea #[.int c.2.c a1, .int c.2.n a2, .int c.2.t a3, .int c.2.u a4, .ref dc] := ⟨_, (N4 (ea, entO c.2 a1 a2 a3 a4 (.ref dc)) (by first | walk_at "mz" | simp [hme])).1, rfl, _, rfl⟩
  refine slice_tuple_upto (b := 4) F4 N4 hpt (show 4 < 5 by decide) ?_
  intro h' F' N'
  replace N' : News _ _ _ ((_, { cls := Value.type "tuple", data := .seq #[.int c.2.c a1, .int c.2.n a2, .int c.2.t a3, .int c.2.u a4] }) :: _) := N'
  revert F' N'; revert h'; exists ho, kO yH, 60, h'; intro F' N'
  walk_at "ws"
  show wpAny _ _ _ _ _ _
  rename News _ _ _ _ => N6e
  rename Fr _ _ _ _ => F6e
  refine kde_addT (its := #[.int c.2.c a1, .int c.2.n a2, .int c.2.t a3, .int c.2.u a4]) (its2 := #[.str c.1 tk9]) F6e N6e (News.isTup N6e (.tail _ (.head _))) (News.isTup N6e (.head _)) (by walk_at "ms") (by walk_at "ms") (Nat.le_of_ble_eq_true rfl) rfl (fun D9 h9 F9 N9 l9 => ?_)
  refine CEnd.push (X := D9) F9 (news_sub N9 (fun p hp => ?_)) off (fun q hq => l9 q (.tail _ (.tail _ hq))) (fun _ h => h) ⟨D9, c, a1, a2, a3, a4, tk9, rfl, .head _, hc⟩
  rcases List.mem_cons.mp hp with rfl | hp
  ·exact .head _
  ·exact .tail _ (.tail _ (.tail _ hp))
 intro ysR nwR alR
 unfold LCg.FinA
 intro DR h7 tk7 F7 N7 off7
 clear FS5 NS5
 (try clear N6)
 (try clear F6)
 rw [← All2.length hTM] at alR
 dsimp only [List.cons_append] at N7 alR
 have hZ := rows_pack alR; refine exC (kO yL) hZ ?_; clear hZ; intro rs hZ; revert alR F7 N7 off7 hZ; revert ysR nwR DR h7 tk7 rs; exists hc, kS yL <| kS yL <| kS yN <| kS yH <| kS yN <| kO yL, 61, ysR, nwR, DR, h7, tk7, rs; (try dsimp only); intro alR F7 N7 off7 hZ; obtain ⟨rfl, hrs, htb⟩ := hZ
 have hrl : rs.length ≤ 44 := by rw [← List.length_map (as := rs) (f := fun r => r.2), htb]; exact htl
 clear alR
 try dsimp only
 clear eL' c1 h186 hoM loM c32 nC23 htl hcol off7
 rename_i zc1_16
 revert hrl; revert htb; revert hrs; revert N7; revert F7; revert hcl; revert c12; revert ndM; revert hTM; revert hab10; revert hps2; revert zc1_16; revert hqk; revert keepG; revert T'; revert X'; revert B'; revert hret; revert oC2 col nwR DR h7 tk7 rs; exact hQ.h
noncomputable def X16 := xOf (kS zeO <| kS yN <| kS yL <| kS yN <| kS yH <| kS yN <| kO yL) 16 (Q := q16.1) rfl
@[irreducible] noncomputable def oC2 := X16.1
@[irreducible] noncomputable def col := X16.2.1
@[irreducible] noncomputable def nwR := X16.2.2.1
@[irreducible] noncomputable def DR := X16.2.2.2.1
@[irreducible] noncomputable def h7 := X16.2.2.2.2.1
@[irreducible] noncomputable def tk7 := X16.2.2.2.2.2.1
@[irreducible] noncomputable def rs := X16.2.2.2.2.2.2
set_option maxRecDepth 100000 in
set_option maxHeartbeats 8000000 in
noncomputable def q17 : {Q : Prop // Q → q16.1} := by
 apply mkQ; intro hQ
 refine no_implicit_lambda% (hzX (kS zeO <| kS yN <| kS yL <| kS yN <| kS yH <| kS yN <| kO yL) 16 X16 rfl rfl ?_); show Cu.un ?C ?Z ?z; with_unfolding_all show ?Z oC2 col nwR DR h7 tk7 rs
 intro hret B' X' T' keepG hqk _ hps2 hab10 hTM ndM c12 hcl F7 N7 hrs htb hrl
 walk_at "ws"
 show wpAny _ _ _ _ _ _
 k_dflt (refine LCg.ListComp_U (F₀ := by k_asm) (by with_unfolding_all rfl) (by decide) (by rfl) (by decide) (by rfl) ?_)
 walk_at "ws"
 rename News _ _ _ _ => NS6
 rename Fr _ _ _ _ => FS6
 refine LCg.CompSrc.ledger rfl FS6 NS6 (.head _) (by rw [List.size_toArray, List.length_map]; exact Nat.le_trans hrl (by decide)) fun g9 => ?_
 revert g9; exists ho, kO yH, 62, g9; dsimp only [Cu.un, kO]
 refine compU_ind (KeyL col rs) KeyL.mono (srcAt_sub (.head _)) ?_ ?_
 ·intro i v ys nw I oI C oC3 D m₂ h tk E' hi9 hv hC hx9 F N off ne
  obtain ⟨r, hr, rfl⟩ : ∃ r, rs[i]? = some r ∧ v = .ref r.1 := by
   rw [List.getElem?_toArray, List.getElem?_map] at hv
   cases e : rs[i]? with
   | none => rw [e] at hv; cases hv
   | some r => rw [e] at hv; cases hv; exact ⟨r, rfl, rfl⟩
  have hZ := hrs r (List.mem_of_getElem? hr); refine exC (kS yN <| kS yN <| kS yN <| kS yN <| kO yN) hZ ?_; clear hZ; intro a1 a2 a3 a4 a5 hma; revert hi9 hC F N off ne hr hv hx9 hma; revert i ys nw I oI C oC3 D m₂ h tk E' r a1 a2 a3 a4 a5; refine no_implicit_lambda% (hzC (kS yN <| kS yL <| kS yL <| kS yN <| kS zeO <| kS yN <| kS zeO <| kS yN <| kS (yF yT) <| kS yH <| kS yN <| kS (yF (yF yP)) <| kS (zeP2 yN (zeP2 zeR zeEnt)) <| kS yN <| kS yN <| kS yN <| kS yN <| kO yN) 63 ?_); show Cu.un ?C8h ?Z8h ?z8h; refine (?_ : Cu.all ?C8h ?Z8h) ?z8h.1 ?z8h.2.1 ?z8h.2.2.1 ?z8h.2.2.2.1 ?z8h.2.2.2.2.1 ?z8h.2.2.2.2.2.1 ?z8h.2.2.2.2.2.2.1 ?z8h.2.2.2.2.2.2.2.1 ?z8h.2.2.2.2.2.2.2.2.1 ?z8h.2.2.2.2.2.2.2.2.2.1 ?z8h.2.2.2.2.2.2.2.2.2.2.1 ?z8h.2.2.2.2.2.2.2.2.2.2.2.1 ?z8h.2.2.2.2.2.2.2.2.2.2.2.2.1 ?z8h.2.2.2.2.2.2.2.2.2.2.2.2.2.1 ?z8h.2.2.2.2.2.2.2.2.2.2.2.2.2.2.1 ?z8h.2.2.2.2.2.2.2.2.2.2.2.2.2.2.2.1 ?z8h.2.2.2.2.2.2.2.2.2.2.2.2.2.2.2.2.1 ?z8h.2.2.2.2.2.2.2.2.2.2.2.2.2.2.2.2.2; intro i ys nw I oI C oC3 D m₂ h tk E' r a1 a2 a3 a4 a5 hi9 hC F N off ne hr hv hx9 hma
  have hZ := col_at (nm := r.2.1) (e := r.2.2) (t1 := a1) (t2 := a2) (t3 := a3) (t4 := a4) (t5 := a5) hcl; refine exC (kO yN) hZ ?_; clear hZ; intro tc hZ; revert hZ; revert tc; exists ho, kO yN, 64, tc; intro hZ; obtain ⟨hct, hcs⟩ := hZ
  dsimp only [List.cons_append, List.nil_append] at N off
  walk_at "ws"
  show wpAny _ _ _ _ _ _
  rename News _ _ _ _ => N8
  refine row_item (N8 (r.1, rowO r.2.1 r.2.2 a1 a2 a3 a4 a5) (subm (by walk_at "sz") hma)).1 (by omega) (by omega) hcs hct ?_
  walk_at "ws"
  show wpAny _ _ _ _ _ _
  rename News _ _ _ _ => N9
  refine row_item (N9 (r.1, rowO r.2.1 r.2.2 a1 a2 a3 a4 a5) (subm (by walk_at "sz") hma)).1 (by decide) (by decide) (j := 4) rfl rfl ?_
  walk_at "ws"
  rename News _ _ _ _ => N10
  rename Fr _ _ _ _ => F10
  rename (_ < _ ∧ _) => hq
  refine CEnd.push F10 N10 off ?_ (fun _ h => h) ⟨_, r, _, _, rfl, .head _, hr⟩
  exact allLt_mem hq
 intro ysK nwK alK
 unfold LCg.FinE
 intro DK h8b tk8b F8 N8 off8
 clear FS6 NS6
 rw [List.size_toArray, List.length_map] at alK
 have hks := keys_pack alK
 clear alK
 dsimp only [List.cons_append] at N8 hks
 try dsimp only
 clear off8
 rename_i zc1_17
 revert hks; revert N8; revert F8; revert hrl; revert htb; revert hrs; revert hcl; revert c12; revert ndM; revert hTM; revert hab10; revert hps2; revert zc1_17; revert hqk; revert keepG; revert T'; revert X'; revert B'; revert hret; revert ysK nwK DK h8b tk8b; exact hQ.h
noncomputable def X17 := xOf (kS yL <| kS yL <| kS yN <| kS yH <| kO yN) 17 (Q := q17.1) rfl
@[irreducible] noncomputable def ysK := X17.1
@[irreducible] noncomputable def nwK := X17.2.1
@[irreducible] noncomputable def DK := X17.2.2.1
@[irreducible] noncomputable def h8b := X17.2.2.2.1
@[irreducible] noncomputable def tk8b := X17.2.2.2.2
set_option maxRecDepth 100000 in
set_option maxHeartbeats 8000000 in
noncomputable def q18 : {Q : Prop // Q → q17.1} := by
 apply mkQ; intro hQ
 refine no_implicit_lambda% (hzX (kS yL <| kS yL <| kS yN <| kS yH <| kO yN) 17 X17 rfl rfl ?_); show Cu.un ?C ?Z ?z; with_unfolding_all show ?Z ysK nwK DK h8b tk8b
 intro hret B' X' T' keepG hqk _ hps2 hab10 hTM ndM c12 hcl hrs htb hrl F8 N8 hks
 walk_at "ws"
 show wpAny _ _ _ _ _ _
 refine sort_rows rfl (by ktr_units) F8 N8 (.head _) hrl ?_ (All2.mono (fun r v ⟨a, t1, t2, e, m⟩ => (xi3 a t1 t2 ⟨e, .tail _ m⟩)) hks) (fun DS cS h9b tk9b vsS F9 N9 l9 hkS => ?_)
 ·have e1 : rs.map (fun r => r.2.1) = (rs.map fun r => r.2).map (·.1) := by rw [List.map_map]; rfl
  rw [e1, htb, ← tb_keys hTM]
  exact ndM
 clear F8 N8
 revert F9 N9 l9 hkS; revert DS cS h9b tk9b vsS; exists hc, kS yN <| kS yN <| kS yH <| kS yN <| kO yL, 65, DS, cS, h9b, tk9b, vsS; (try dsimp only); intro F9 N9 l9 hkS
 walk_at "ws"
 rename News _ _ _ _ => N10
 rename Fr _ _ _ _ => F10
 refine ⟨X'.keeps F10.keep, ?_⟩
 refine SpecN.use (tc_spec w mean mg mb _) B' F10 X' N10 T' rfl (by ktr_room) (by ktr_units) trivial ?_
 intro r h10b tk10b e10b F11 N11 hr
 refine exC (kS yN <| kS yN <| kO yN) hr ?_; clear hr; intro xa dx k1 hZ; rename_i zv17 _ zv21 zv18 _ zv22 zv19 zv20 zv23; revert zv21 zv22 F10 N10 zv23 e10b F11 N11 hZ; revert tk zv17 zv18 zv19 zv20 r h10b tk10b xa dx k1; exists hc, kS yN <| kS yN <| kS yN <| kS yN <| kS yH <| kS zeV <| kS yH <| kS yN <| kS yN <| kS yN <| kO yN, 66, tk, zv17, zv18, zv19, zv20, r, h10b, tk10b, xa, dx, k1; (try dsimp only); intro _ _ F10 N10 _ e10b F11 N11 hZ; obtain ⟨rfl, hMX⟩ := hZ
 have N12 := hMX.news F10 N11
 clear N11 N10 F10
 clear hTM ndM c12 htb hks l9 e10b hMX
 rename_i zc1_18 _ _ _ zc2_18 zc3_18 zc4_18
 revert N12; revert F11; revert zc4_18; revert zc3_18; revert zc2_18; revert hkS; revert hrl; revert hrs; revert hcl; revert hab10; revert hps2; revert zc1_18; revert hqk; revert keepG; revert T'; revert X'; revert B'; revert hret; revert DS cS vsS tk zv17 zv18 zv19 h10b tk10b xa dx k1; exact hQ.h
noncomputable def X18 := xOf (kS yN <| kS yN <| kS yL <| kS yN <| kS yN <| kS yN <| kS yN <| kS yH <| kS yN <| kS yN <| kS yN <| kO yN) 18 (Q := q18.1) rfl
@[irreducible] noncomputable def DS := X18.1
@[irreducible] noncomputable def cS := X18.2.1
@[irreducible] noncomputable def vsS := X18.2.2.1
@[irreducible] noncomputable def tkk := X18.2.2.2.1
@[irreducible] noncomputable def zv17 := X18.2.2.2.2.1
@[irreducible] noncomputable def zv18 := X18.2.2.2.2.2.1
@[irreducible] noncomputable def zv19 := X18.2.2.2.2.2.2.1
@[irreducible] noncomputable def h10b := X18.2.2.2.2.2.2.2.1
@[irreducible] noncomputable def tk10b := X18.2.2.2.2.2.2.2.2.1
@[irreducible] noncomputable def xa := X18.2.2.2.2.2.2.2.2.2.1
@[irreducible] noncomputable def dx := X18.2.2.2.2.2.2.2.2.2.2.1
@[irreducible] noncomputable def k1 := X18.2.2.2.2.2.2.2.2.2.2.2
set_option maxRecDepth 100000 in
set_option maxHeartbeats 8000000 in
noncomputable def q19 : {Q : Prop // Q → q18.1} := by
 apply mkQ; intro hQ
 refine no_implicit_lambda% (hzX (kS yN <| kS yN <| kS yL <| kS yN <| kS yN <| kS yN <| kS yN <| kS yH <| kS yN <| kS yN <| kS yN <| kO yN) 18 X18 rfl rfl ?_); show Cu.un ?C ?Z ?z; with_unfolding_all show ?Z DS cS vsS tkk zv17 zv18 zv19 h10b tk10b xa dx k1
 intro hret B' X' T' keepG hqk _ hps2 hab10 hcl hrs hrl hkS _ _ _ F11 N12
 walk_at "ws"
 rename Fr _ _ _ _ => F12
 have hZ := tc_pack N12; refine exC (kS yN <| kS yN <| kS yN <| kS yN <| kS yN <| kS yN <| kS yN <| kO yN) hZ ?_; clear hZ; intro la p1 p2 u1 u2 u3 u4 kl N13; revert N13; revert la p1 p2 u1 u2 u3 u4 kl; exists hc, kS yN <| kS yN <| kS yN <| kS yN <| kS yN <| kS yN <| kS yN <| kO yN, 67, la, p1, p2, u1, u2, u3, u4, kl; (try dsimp only); intro N13
 clear N12
 refine ⟨X'.keeps F12.keep, ?_⟩
 refine SpecL.use0 (order_spec w mean mg mb xa dx la p1 p2 DR k1 u1 u2 u3 u4 kl _ col hcl rs _ (RowsAt.mono hrs fun p hp => ?_) hrl) B' F12 X' N13 T' rfl (by ktr_room) (by ktr_units) trivial (fun p hp => hp) ?_
 ·exact subm (by walk_at "sz") hp
 intro r h13 tk13 e13 F13 N14 hr
 refine exC (kS yN <| kO yN) hr ?_; clear hr; intro Tz n13 hZ; revert e13 F13 N14 hZ; revert r h13 tk13 Tz n13; exists hc, kS zeV <| kS yH <| kS yN <| kS yN <| kO yN, 68, r, h13, tk13, Tz, n13; (try dsimp only); intro e13 F13 N14 hZ; obtain ⟨rfl, hMT⟩ := hZ
 have N15 := hMT.news F12 N14
 dsimp only [List.cons_append, List.nil_append] at N15
 clear N14 N13 F12
 clear hcl e13 hMT
 rename_i zc1_19 zc2_19 zc3_19 zc4_19
 revert N15; revert F13; revert zc4_19; revert zc3_19; revert zc2_19; revert hkS; revert hrl; revert hrs; revert hab10; revert hps2; revert zc1_19; revert hqk; revert keepG; revert T'; revert X'; revert B'; revert hret; revert la p1 p2 u1 u2 u3 u4 kl h13 tk13 Tz n13; exact hQ.h
noncomputable def X19 := xOf (kS yN <| kS yN <| kS yN <| kS yN <| kS yN <| kS yN <| kS yN <| kS yN <| kS yH <| kS yN <| kS yN <| kO yN) 19 (Q := q19.1) rfl
@[irreducible] noncomputable def la := X19.1
@[irreducible] noncomputable def p1 := X19.2.1
@[irreducible] noncomputable def p2 := X19.2.2.1
@[irreducible] noncomputable def u1 := X19.2.2.2.1
@[irreducible] noncomputable def u2 := X19.2.2.2.2.1
@[irreducible] noncomputable def u3 := X19.2.2.2.2.2.1
@[irreducible] noncomputable def u4 := X19.2.2.2.2.2.2.1
@[irreducible] noncomputable def kl := X19.2.2.2.2.2.2.2.1
@[irreducible] noncomputable def h13 := X19.2.2.2.2.2.2.2.2.1
@[irreducible] noncomputable def tk13 := X19.2.2.2.2.2.2.2.2.2.1
@[irreducible] noncomputable def Tz := X19.2.2.2.2.2.2.2.2.2.2.1
@[irreducible] noncomputable def n13 := X19.2.2.2.2.2.2.2.2.2.2.2
set_option maxRecDepth 100000 in
set_option maxHeartbeats 8000000 in
noncomputable def q20 : {Q : Prop // Q → q19.1} := by
 apply mkQ; intro hQ
 refine no_implicit_lambda% (hzX (kS yN <| kS yN <| kS yN <| kS yN <| kS yN <| kS yN <| kS yN <| kS yN <| kS yH <| kS yN <| kS yN <| kO yN) 19 X19 rfl rfl ?_); show Cu.un ?C ?Z ?z; with_unfolding_all show ?Z la p1 p2 u1 u2 u3 u4 kl h13 tk13 Tz n13
 intro hret B' X' T' keepG hqk _ hps2 hab10 hrs hrl hkS _ _ _ F13 N15
 walk_at "ws"
 show wpAny _ _ _ _ _ _
 k_dflt (refine LCg.ListComp_U (F₀ := by k_asm) (by with_unfolding_all rfl) (by decide) (by rfl) (by decide) (by rfl) ?_)
 walk_at "ws"
 rename News _ _ _ _ => NS7
 rename Fr _ _ _ _ => FS7
 have hvl : vsS.length = rs.length := by rw [← All2.length hkS, order_len]
 have hmS : (DS, W.listOf vsS.toArray cS) ∈ [(DS, W.listOf vsS.toArray cS)] := .head _
 refine LCg.CompSrc.ledger (its := vsS.toArray) rfl FS7 NS7 (show (DS, W.listOf vsS.toArray cS) ∈ _ by walk_at "ms") (by rw [List.size_toArray, hvl]; exact Nat.le_trans hrl (by decide)) fun g9 => ?_
 revert g9; exists ho, kO yH, 69, g9; dsimp only [Cu.un, kO]
 refine compU_ind (fun i v _ => (refsR (orderR col rs))[i]? = some v) (fun _ _ _ _ _ h => h) (srcAt_sub (show (DS, W.listOf vsS.toArray cS) ∈ _ by walk_at "ms")) ?_ ?_
 ·intro i v ys nw I oI C oC3 D m₂ h tk E' hi9 hv hC hx9 F N off ne
  have hZ := All2.getR hkS (by first | exact hv | walk_at "mz" | simpa using hv); refine exC (kO (zeP2 yN (zeP2 zeR zeEnt))) hZ ?_; clear hZ; intro r hZ; revert hi9 hv hC hx9 F N off ne hZ; revert i v ys nw I oI C oC3 D m₂ h tk E' r; exists hc, kS yN <| kS zeV <| kS yL <| kS yL <| kS yN <| kS zeO <| kS yN <| kS zeO <| kS yN <| kS (yF yT) <| kS yH <| kS yN <| kS (yF (yF yP)) <| kO (zeP2 yN (zeP2 zeR zeEnt)), 70, i, v, ys, nw, I, oI, C, oC3, D, m₂, h, tk, E', r; (try dsimp only); intro hi9 hv hC hx9 F N off ne hZ; obtain ⟨hr, hZ⟩ := hZ; refine exC (kS yN <| kS yN <| kO yN) hZ ?_; clear hZ; intro a t1 t2 hZ; revert hZ; revert a t1 t2; exists hc, kS yN <| kS yN <| kO yN, 71, a, t1, t2; (try dsimp only); intro hZ; obtain ⟨rfl, hma⟩ := hZ
  dsimp only [List.cons_append, List.nil_append] at N off
  walk_at "ws"
  show wpAny _ _ _ _ _ _
  rename News _ _ _ _ => N8
  refine item_tupleT (l := [Value.int (-(colE r.2.2 col)) t1, .str r.2.1 t2, .ref r.1]) ⟨_, (news_sub N8 (fun p hp => ?_) _ hma).1, rfl, _, rfl⟩ (by decide) (by decide) (j := 2) rfl rfl ?_ (by with_unfolding_all rfl)
  ·exact subm (by walk_at "sz") hp
  walk_at "ws"
  rename News _ _ _ _ => N9
  rename Fr _ _ _ _ => F9b
  exact CEnd.intro F9b N9 off (fun _ h => h) (by rw [List.getElem?_map, hr]; rfl)
 intro ysO nwO alO
 unfold LCg.FinE
 intro DO h15 tk15 F15 N16 off15
 rw [List.size_toArray, hvl, ← order_len col rs, ← List.length_map (as := orderR col rs) (f := fun r : Rw => Value.ref r.1)] at alO
 have hyO := range_same alO
 subst hyO
 clear alO
 dsimp only [List.cons_append] at N16
 try dsimp only
 clear hmS off15
 rename_i zc1_20 zc2_20 zc3_20 zc4_20
 revert N16; revert F15; revert hvl; revert NS7; revert FS7; revert zc4_20; revert zc3_20; revert zc2_20; revert hkS; revert hrl; revert hrs; revert hab10; revert hps2; revert zc1_20; revert hqk; revert keepG; revert T'; revert X'; revert B'; revert hret; revert nwO DO h15 tk15; exact hQ.h
noncomputable def X20 := xOf (kS yL <| kS yN <| kS yH <| kO yN) 20 (Q := q20.1) rfl
@[irreducible] noncomputable def nwO := X20.1
@[irreducible] noncomputable def DO := X20.2.1
@[irreducible] noncomputable def h15 := X20.2.2.1
@[irreducible] noncomputable def tk15 := X20.2.2.2
set_option maxRecDepth 100000 in
set_option maxHeartbeats 8000000 in
theorem ql : q20.1 := by
 refine no_implicit_lambda% (hzX (kS yL <| kS yN <| kS yH <| kO yN) 20 X20 rfl rfl ?_); show Cu.un ?C ?Z ?z; with_unfolding_all show ?Z nwO DO h15 tk15
 intro hret B' X' T' keepG hqk _ hps2 hab10 hrs hrl hkS _ _ _ FS7 NS7 hvl F15 N16
 walk_at "ws"
 show wpAny _ _ _ _ _ _
 rename News _ _ _ _ => N17
 rename Fr _ _ _ _ => F17
 refine eq_lists (xs := refsR (orderR col rs)) (ys := refsR (orderR col rs)) (News.isList N17 (.tail _ (.head _))) (News.isList N17 (.head _)) (by ktr_units) (same_all _) ?_
 walk_at "ws"
 exact hret h15 tk15 gs10 ps2 (fun b o h1 h2 => F17.keep _ _ (keepG.h b o h1 h2)) hps2 (N17 (186, tabO ps2) (by walk_at "ms")).1 hab10
theorem main : ∀ (X0 : (hd.heap_39 w.params).In s.heap) (T0 : Top EP LS0 mean mg mb s.heap) (h6 : s.heap.get? 186 = some (tabO #[])) (hab : AllBare s.gens) (hl : s.heap.IsList ls vs.toArray) (hi : IntsAre vs ns) (hlen : ns.length ≤ 63) (hret : ∀ h' tk' gs' ps', (∀ b o, b ≠ 186 → s.heap.get? b = some o → h'.get? b = some o) → TabOk ps' → h'.get? 186 = some (tabO ps') → AllBare gs' → R (.ok (.ret (.bool true))) { s with heap := h', toks := tk', gens := gs' }), codeAny (model PG w) callerA (.call (.ref 274) ⟨[.ref ls], []⟩) R s := q1.2 <| q2.2 <| q3.2 <| q4.2 <| q5.2 <| q6.2 <| q7.2 <| q8.2 <| q10.2 <| q11.2 <| q13.2 <| q14.2 <| q16.2 <| q17.2 <| q18.2 <| q19.2 <| q20.2 ql
end c_law
theorem law_code (w : World) (mean : ExcName → Option Value) (mg mb : Str → Option Value) {s : Shared} {R : Result → Shared → Prop} {ls : Addr} {vs : List Value} {ns : List Int} (X0 : (hd.heap_39 w.params).In s.heap) (T0 : Top EP LS0 mean mg mb s.heap) (h6 : s.heap.get? 186 = some (tabO #[])) (hab : AllBare s.gens) (hl : s.heap.IsList ls vs.toArray) (hi : IntsAre vs ns) (hlen : ns.length ≤ 63)
  (hret : ∀ h' tk' gs' ps', (∀ b o, b ≠ 186 → s.heap.get? b = some o → h'.get? b = some o) → TabOk ps' → h'.get? 186 = some (tabO ps') → AllBare gs' → R (.ok (.ret (.bool true))) { s with heap := h', toks := tk', gens := gs' }) : codeAny (model PG w) callerA (.call (.ref 274) ⟨[.ref ls], []⟩) R s :=
 @cst_all _ c_law.ne c_law.P (by with_unfolding_all exact c_law.main) (w, mean, mg, mb, s, R, ls, vs, ns) X0 T0 h6 hab hl hi hlen hret
end
section
set_option maxRecDepth 100000
set_option maxHeartbeats 4000000 in
theorem law_holds : PySem.Challenge.rw_mj0200_01.Holds := by
 refine holds_law (by kernel_rfl) fun said => ?_
 refine PySem.W.holds_open (q := hd.view_39) (loose := [Str.ofString "Whitespace"]) (Xt := XB) (XP := XL hd.view_39 []) (Yf := Hook.obs HK) (Ya := Hook.val HK) (YP := Hook.says HK) (N := 3524) left_here (Hook.of HK) (Hook.keeps HK) (fun s e => xl_of s (Bool.and_eq_true_iff.mp e).1) XL.keeps (by rfl) (by rfl) (by rfl) (fun s e => recFacts_of (Bool.and_eq_true_iff.mp e).2) (by rfl) (by assumption) (by decide +kernel) ⟨rfl, rfl, rfl, rfl, rfl, by decide +kernel⟩ ?hw ?hc
 case hw => exact ⟨[WData.list []], by decide +kernel, by decide +kernel⟩
 delta HK RR
 k_fill
 intro w s₀ s₁ mg mb G Y fa o pm cd doc dV kV ho hd' hcd hD hmg hg args vals as hpre hlay hrd hwl hlo
 have KX := kIn_of Y
 refine Ground.open G ?_
 intro T B D TE TW
 wrow_args hpre hlay hrd hwl hlo
 refine enter_call ?_
 have hfa : fa = 274 := by
  have e : mg (Str.ofString "law") = some (.ref 274) := ns_some_of KX T.g (by k_is)
  have e2 := Option.some.inj (hmg.symm.trans e)
  injection e2
 subst hfa
 rename IntsAre _ _ => hI
 rename Heap.IsList _ _ _ => hL
 rename ¬ ((63 : Int) < _) => hlen
 have htab : s₁.heap.TableAt 190 186 #[] := by
  obtain ⟨d, hdm, hdn⟩ : ∃ d ∈ recsOf hd.view_39, d.name = Str.ofString "format_witnesses" := by decide +kernel
  obtain ⟨a, o, fd, c, P, h1, h2, h3, h4, _, h5⟩ := T.tab d hdm
  have e : mg d.name = some (.ref 191) := by rw [hdn]; exact ns_some_of KX T.g (by k_is)
  rw [e] at h1
  have ea := Option.some.inj h1
  injection ea with ea
  subst ea
  have h191 := KX 191 _ (by k_is)
  have h190 := KX 190 _ (by k_is)
  rw [h191] at h2
  obtain rfl := Option.some.inj h2
  injection h3 with h3
  subst h3
  injection h4 with h4
  subst h4
  obtain ⟨⟨o', vs', q1, q2, q3, q4⟩, q5⟩ := h5
  rw [h190] at q1
  obtain rfl := Option.some.inj q1
  injection q3 with q3
  subst q3
  have q6 := Option.some.inj q4
  injection q6 with q6
  subst q6
  exact ⟨⟨_, _, h190, rfl, rfl, rfl⟩, q5⟩
 refine law_code w (ExcName.means s₀.heap) mg mb KX (top_less T) htab.2 (.of_eq hg) hL hI (by exact oz111 hlen) ?_
 intro h' tk' gs' ps' keep hps h6' hab'
 refine ⟨.inl ⟨.bool true, .bool true, [], rfl, ?_, ?_, ?_, ?_⟩, ?_, rfl, hab'⟩
 ·exact raisesW_false (by wrow_none_raised)
 ·exact .bool true
 ·exact postW_of (by wrow_shape) (by wtm_val) rfl
 ·exact unshared_nil
 ·refine ⟨fun b o hb => ?_, fun b o hb => ?_⟩
  ·by_cases q : b = 186
   ·subst q
    rw [htab.2] at hb
    obtain rfl := Option.some.inj hb
    exact .inr (.inl ⟨htab.isCodeTable, rfl, #[], ps', rfl, by rw [h6']; simp⟩)
   ·exact .inl (keep b o q hb)
  ·by_cases q : b = 186
   ·subst q; exact ⟨_, h6'⟩
   ·exact ⟨o, keep b o q hb⟩
end
end Mine
set_option maxRecDepth 100000 in
theorem PySem.Challenge.cw_mj0200_01_holds : PySem.Challenge.rw_mj0200_01.Holds := by
 exact Mine.law_holds
