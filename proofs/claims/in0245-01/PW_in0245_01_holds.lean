import PyProof.Rows.All
import Wide.All
import OpenK.AllK
import Wide.FinOn
import PySem.Challenge.RW_in0245_01
set_option Elab.async false

section -- Hn
open PySem PySem.W PyProof.Rows
namespace Mine
noncomputable def hdQ : Program := PySem.W.view PySem.Challenge.pw_in0245_01 [0, 2, 3, 4, 5, 7, 8, 10, 11, 13, 14, 16, 18, 19, 20, 21, 22]
def hdL : List Str := [Str.ofString "_twin_re_1", Str.ofString "_special_chars_map"]
noncomputable abbrev hdXt (s : Shared) : Bool := xlAt Mine.hdQ [] s && recOk (RowW.records (OpenRow.toRowW (OpenLaw.row PySem.Challenge.rw_in0245_01))) s
local macro_rules | `(tactic| o_head $H) => `(tactic| (
  refine (fun both : _ ∧ _ => holds_open (q := Mine.hdQ) (loose := Mine.hdL) (Xt := Mine.hdXt) (XP := XL Mine.hdQ []) (Yf := Hook.obs $H) (Ya := Hook.val $H) (YP := Hook.says $H) (N := 3786) (And.left both) (Hook.of $H) (Hook.keeps $H) (fun s e => xl_of s (Bool.and_eq_true_iff.mp e).1) XL.keeps (by rfl) (by rfl) (by rfl) (fun s e => recFacts_of (Bool.and_eq_true_iff.mp e).2) (by rfl) (by first | assumption | decide +kernel) (by decide +kernel) ⟨rfl, rfl, rfl, rfl, rfl, by decide +kernel⟩ ?hw (And.right both)) ?hc))
set_option maxRecDepth 100000 in
set_option maxHeartbeats 8000000 in
open_top hd for PySem.Challenge.rw_in0245_01
abbrev hdAs : List Nat := [2, 3, 6, 11, 12, 32, 34, 35, 37, 38, 39, 41, 42, 44, 45, 46, 48, 49, 51, 52, 53, 55, 56, 58, 59, 63, 64, 65, 67, 68, 70, 71, 73, 77, 79, 80, 82, 83, 84, 86, 87, 89, 90, 91, 93, 94, 96, 97, 98, 100, 101, 103, 104, 105, 107, 108, 110, 111, 112, 115, 116, 117, 120, 121, 122, 124, 125, 127, 128, 129, 132, 133]
theorem hdAs_eq (P : Params) : hdAs = (hd.heap_39 P).map (·.1) := by kernel_rfl
noncomputable abbrev hdHook : Hook := kmHook hd.heap_39 hdAs hdAs_eq [85]
-- The states at the pieces' ends, written by PrintObjs.lean (wip). Long texts, and the names of the model's stand-ins (they bear a sign and a word that a hand-in's text had better not hold), stand as lists of their signs' numbers.
abbrev chars (l : List Nat) : String := String.ofList (l.map Char.ofNat)
noncomputable def tpl (k : Nat) : Obj := match (behindTheImports PySem.Challenge.rw_in0245_01.row.prog)[k]? with
  | some (.FunctionDef nm args body _ _ _ sc _ _ _) => { cls := .none, dict := none, data := .func { name := nm, qualname := nm, params := args, body := .stmts body, scope := sc, globals := 0, closure := [], defaults := .none, kwdefaults := .none }, slots := #[] }
  | _ => default
noncomputable def kept (P : Params) (n : Nat) : Obj := ((hd.heap_39 P).getD n (0, default)).2
noncomputable def obA1 (P : Params) : Obj := (@PySem.Obj.mk (@PySem.Value.type "dict") (@Option.none @Nat) (@PySem.Data.dict (@List.toArray @PySem.DictEntry [(@PySem.DictEntry.mk (@PySem.PyData.keyHash P (@PySem.Str.ofString "builtins")) (@PySem.Value.str (@PySem.Str.ofString "builtins") 162) (@PySem.Value.ref 4)), (@PySem.DictEntry.mk (@PySem.PyData.keyHash P (@PySem.Str.ofString "__main__")) (@PySem.Value.str (@PySem.Str.ofString "__main__") 163) (@PySem.Value.ref 5)), (@PySem.DictEntry.mk (@PySem.PyData.keyHash P (@PySem.Str.ofString "_sre")) (@PySem.Value.str (@PySem.Str.ofString "_sre") 244) (@PySem.Value.ref 12))]) 3) (@List.toArray (@Option @PySem.Value) []))
noncomputable def obA3 (P : Params) : Obj := (@PySem.Obj.mk (@PySem.Value.type "dict") (@Option.none @Nat) (@PySem.Data.dict (@List.toArray @PySem.DictEntry [(@PySem.DictEntry.mk (@PySem.PyData.keyHash P (@PySem.Str.ofString "__name__")) (@PySem.Value.str (@PySem.Str.ofString "__name__") 165) (@PySem.Value.str (@PySem.Str.ofString "__main__") 164)), (@PySem.DictEntry.mk (@PySem.PyData.keyHash P (@PySem.Str.ofString "__doc__")) (@PySem.Value.str (@PySem.Str.ofString "__doc__") 166) @PySem.Value.none), (@PySem.DictEntry.mk (@PySem.PyData.keyHash P (@PySem.Str.ofString "__package__")) (@PySem.Value.str (@PySem.Str.ofString "__package__") 167) @PySem.Value.none), (@PySem.DictEntry.mk (@PySem.PyData.keyHash P (@PySem.Str.ofString "__loader__")) (@PySem.Value.str (@PySem.Str.ofString "__loader__") 168) (@PySem.Value.builtin (chars [95, 95, 109, 97, 105, 110, 95, 95, 46, 95, 95, 108, 111, 97, 100, 101, 114, 95, 95, 35, 111, 112, 97, 113, 117, 101]))), (@PySem.DictEntry.mk (@PySem.PyData.keyHash P (@PySem.Str.ofString "__spec__")) (@PySem.Value.str (@PySem.Str.ofString "__spec__") 169) @PySem.Value.none), (@PySem.DictEntry.mk (@PySem.PyData.keyHash P (@PySem.Str.ofString "__annotations__")) (@PySem.Value.str (@PySem.Str.ofString "__annotations__") 170) (@PySem.Value.ref 6)), (@PySem.DictEntry.mk (@PySem.PyData.keyHash P (@PySem.Str.ofString "__builtins__")) (@PySem.Value.str (@PySem.Str.ofString "__builtins__") 171) (@PySem.Value.ref 4)), (@PySem.DictEntry.mk (@PySem.PyData.keyHash P (@PySem.Str.ofString "__file__")) (@PySem.Value.str (@PySem.Str.ofString "__file__") 173) (@PySem.Value.str (@PySem.Str.ofString "/claim/cut.py") 172)), (@PySem.DictEntry.mk (@PySem.PyData.keyHash P (@PySem.Str.ofString "__cached__")) (@PySem.Value.str (@PySem.Str.ofString "__cached__") 174) @PySem.Value.none), (@PySem.DictEntry.mk (@PySem.PyData.keyHash P (@PySem.Str.ofString "_sre")) (@PySem.Value.str (@PySem.Str.ofString "_sre") 275) (@PySem.Value.ref 12))]) 10) (@List.toArray (@Option @PySem.Value) []))
noncomputable def obA13 (P : Params) : Obj := (@PySem.Obj.mk (@PySem.Value.type "dict") (@Option.none @Nat) (@PySem.Data.dict (@List.toArray @PySem.DictEntry [(@PySem.DictEntry.mk (@PySem.PyData.keyHash P (@PySem.Str.ofString "__module__")) (@PySem.Value.str (@PySem.Str.ofString "__module__") 189) (@PySem.Value.str (@PySem.Str.ofString "_frozen_importlib") 186)), (@PySem.DictEntry.mk (@PySem.PyData.keyHash P (@PySem.Str.ofString "__firstlineno__")) (@PySem.Value.str (@PySem.Str.ofString "__firstlineno__") 190) (@PySem.Value.int (971 : @Int) 187)), (@PySem.DictEntry.mk (@PySem.PyData.keyHash P (@PySem.Str.ofString "__doc__")) (@PySem.Value.str (@PySem.Str.ofString "__doc__") 191) (@PySem.Value.builtin (chars [95, 102, 114, 111, 122, 101, 110, 95, 105, 109, 112, 111, 114, 116, 108, 105, 98, 46, 66, 117, 105, 108, 116, 105, 110, 73, 109, 112, 111, 114, 116, 101, 114, 46, 95, 95, 100, 111, 99, 95, 95, 58, 115, 116, 114, 35, 111, 112, 97, 113, 117, 101]))), (@PySem.DictEntry.mk (@PySem.PyData.keyHash P (@PySem.Str.ofString "_ORIGIN")) (@PySem.Value.str (@PySem.Str.ofString "_ORIGIN") 192) (@PySem.Value.str (@PySem.Str.ofString "built-in") 188)), (@PySem.DictEntry.mk (@PySem.PyData.keyHash P (@PySem.Str.ofString "find_spec")) (@PySem.Value.str (@PySem.Str.ofString "find_spec") 193) (@PySem.Value.builtin (chars [95, 102, 114, 111, 122, 101, 110, 95, 105, 109, 112, 111, 114, 116, 108, 105, 98, 46, 66, 117, 105, 108, 116, 105, 110, 73, 109, 112, 111, 114, 116, 101, 114, 46, 102, 105, 110, 100, 95, 115, 112, 101, 99, 35, 111, 112, 97, 113, 117, 101]))), (@PySem.DictEntry.mk (@PySem.PyData.keyHash P (@PySem.Str.ofString "create_module")) (@PySem.Value.str (@PySem.Str.ofString "create_module") 194) (@PySem.Value.builtin (chars [95, 102, 114, 111, 122, 101, 110, 95, 105, 109, 112, 111, 114, 116, 108, 105, 98, 46, 66, 117, 105, 108, 116, 105, 110, 73, 109, 112, 111, 114, 116, 101, 114, 46, 99, 114, 101, 97, 116, 101, 95, 109, 111, 100, 117, 108, 101, 35, 111, 112, 97, 113, 117, 101]))), (@PySem.DictEntry.mk (@PySem.PyData.keyHash P (@PySem.Str.ofString "exec_module")) (@PySem.Value.str (@PySem.Str.ofString "exec_module") 195) (@PySem.Value.builtin (chars [95, 102, 114, 111, 122, 101, 110, 95, 105, 109, 112, 111, 114, 116, 108, 105, 98, 46, 66, 117, 105, 108, 116, 105, 110, 73, 109, 112, 111, 114, 116, 101, 114, 46, 101, 120, 101, 99, 95, 109, 111, 100, 117, 108, 101, 35, 111, 112, 97, 113, 117, 101]))), (@PySem.DictEntry.mk (@PySem.PyData.keyHash P (@PySem.Str.ofString "get_code")) (@PySem.Value.str (@PySem.Str.ofString "get_code") 196) (@PySem.Value.builtin (chars [95, 102, 114, 111, 122, 101, 110, 95, 105, 109, 112, 111, 114, 116, 108, 105, 98, 46, 66, 117, 105, 108, 116, 105, 110, 73, 109, 112, 111, 114, 116, 101, 114, 46, 103, 101, 116, 95, 99, 111, 100, 101, 35, 111, 112, 97, 113, 117, 101]))), (@PySem.DictEntry.mk (@PySem.PyData.keyHash P (@PySem.Str.ofString "get_source")) (@PySem.Value.str (@PySem.Str.ofString "get_source") 197) (@PySem.Value.builtin (chars [95, 102, 114, 111, 122, 101, 110, 95, 105, 109, 112, 111, 114, 116, 108, 105, 98, 46, 66, 117, 105, 108, 116, 105, 110, 73, 109, 112, 111, 114, 116, 101, 114, 46, 103, 101, 116, 95, 115, 111, 117, 114, 99, 101, 35, 111, 112, 97, 113, 117, 101]))), (@PySem.DictEntry.mk (@PySem.PyData.keyHash P (@PySem.Str.ofString "is_package")) (@PySem.Value.str (@PySem.Str.ofString "is_package") 198) (@PySem.Value.builtin (chars [95, 102, 114, 111, 122, 101, 110, 95, 105, 109, 112, 111, 114, 116, 108, 105, 98, 46, 66, 117, 105, 108, 116, 105, 110, 73, 109, 112, 111, 114, 116, 101, 114, 46, 105, 115, 95, 112, 97, 99, 107, 97, 103, 101, 35, 111, 112, 97, 113, 117, 101]))), (@PySem.DictEntry.mk (@PySem.PyData.keyHash P (@PySem.Str.ofString "load_module")) (@PySem.Value.str (@PySem.Str.ofString "load_module") 199) (@PySem.Value.builtin (chars [95, 102, 114, 111, 122, 101, 110, 95, 105, 109, 112, 111, 114, 116, 108, 105, 98, 46, 66, 117, 105, 108, 116, 105, 110, 73, 109, 112, 111, 114, 116, 101, 114, 46, 108, 111, 97, 100, 95, 109, 111, 100, 117, 108, 101, 35, 111, 112, 97, 113, 117, 101]))), (@PySem.DictEntry.mk (@PySem.PyData.keyHash P (@PySem.Str.ofString "__static_attributes__")) (@PySem.Value.str (@PySem.Str.ofString "__static_attributes__") 200) (@PySem.Value.ref 15)), (@PySem.DictEntry.mk (@PySem.PyData.keyHash P (@PySem.Str.ofString "__dict__")) (@PySem.Value.str (@PySem.Str.ofString "__dict__") 202) (@PySem.Value.ref 16)), (@PySem.DictEntry.mk (@PySem.PyData.keyHash P (@PySem.Str.ofString "__weakref__")) (@PySem.Value.str (@PySem.Str.ofString "__weakref__") 204) (@PySem.Value.ref 17))]) 14) (@List.toArray (@Option @PySem.Value) []))
noncomputable def obA14 (P : Params) : Obj := (@PySem.Obj.mk (@PySem.Value.type "type") (@Option.none @Nat) (@PySem.Data.cls (@PySem.ClassData.mk (@PySem.Str.ofString "BuiltinImporter") [(@PySem.Value.type "object")] [(@PySem.Value.ref 14), (@PySem.Value.type "object")] 13 (@PySem.Str.ofString "BuiltinImporter") @Bool.true [] [] @Bool.false (@Option.none @Bool) @Bool.false)) (@List.toArray (@Option @PySem.Value) []))
noncomputable def obA15 (P : Params) : Obj := (@PySem.Obj.mk (@PySem.Value.type "tuple") (@Option.none @Nat) (@PySem.Data.seq (@List.toArray @PySem.Value []) 0) (@List.toArray (@Option @PySem.Value) []))
noncomputable def obA16 (P : Params) : Obj := (@PySem.Obj.mk (@PySem.Value.type "getset_descriptor") (@Option.none @Nat) (@PySem.Data.fields (@List.toArray @PySem.Value [(@PySem.Value.str (@PySem.Str.ofString "__dict__") 201), (@PySem.Value.ref 14), (@PySem.Value.builtin "function.__dict__"), (@PySem.Value.builtin (chars [102, 117, 110, 99, 116, 105, 111, 110, 46, 95, 95, 100, 105, 99, 116, 95, 95, 35, 115, 101, 116]))])) (@List.toArray (@Option @PySem.Value) []))
noncomputable def obA17 (P : Params) : Obj := (@PySem.Obj.mk (@PySem.Value.type "getset_descriptor") (@Option.none @Nat) (@PySem.Data.fields (@List.toArray @PySem.Value [(@PySem.Value.str (@PySem.Str.ofString "__weakref__") 203), (@PySem.Value.ref 14), (@PySem.Value.builtin "ExceptionGroup.__weakref__"), @PySem.Value.none])) (@List.toArray (@Option @PySem.Value) []))
noncomputable def obA18 (P : Params) : Obj := (@PySem.Obj.mk @PySem.Value.none (@Option.none @Nat) (@PySem.Data.seq (@List.toArray @PySem.Value [(@PySem.Value.int (13 : @Int) 0), (@PySem.Value.str (@PySem.Str.mk (@List.toArray @Nat [6, 189, 10, 95, 95, 109, 111, 100, 117, 108, 101, 95, 95, 6, 186, 17, 95, 102, 114, 111, 122, 101, 110, 95, 105, 109, 112, 111, 114, 116, 108, 105, 98, 6, 190, 15, 95, 95, 102, 105, 114, 115, 116, 108, 105, 110, 101, 110, 111, 95, 95, 4, 187, 0, 971, 6, 191, 7, 95, 95, 100, 111, 99, 95, 95, 9, 52, 95, 102, 114, 111, 122, 101, 110, 95, 105, 109, 112, 111, 114, 116, 108, 105, 98, 46, 66, 117, 105, 108, 116, 105, 110, 73, 109, 112, 111, 114, 116, 101, 114, 46, 95, 95, 100, 111, 99, 95, 95, 58, 115, 116, 114, 35, 111, 112, 97, 113, 117, 101, 6, 192, 7, 95, 79, 82, 73, 71, 73, 78, 6, 188, 8, 98, 117, 105, 108, 116, 45, 105, 110, 6, 193, 9, 102, 105, 110, 100, 95, 115, 112, 101, 99, 9, 50, 95, 102, 114, 111, 122, 101, 110, 95, 105, 109, 112, 111, 114, 116, 108, 105, 98, 46, 66, 117, 105, 108, 116, 105, 110, 73, 109, 112, 111, 114, 116, 101, 114, 46, 102, 105, 110, 100, 95, 115, 112, 101, 99, 35, 111, 112, 97, 113, 117, 101, 6, 194, 13, 99, 114, 101, 97, 116, 101, 95, 109, 111, 100, 117, 108, 101, 9, 54, 95, 102, 114, 111, 122, 101, 110, 95, 105, 109, 112, 111, 114, 116, 108, 105, 98, 46, 66, 117, 105, 108, 116, 105, 110, 73, 109, 112, 111, 114, 116, 101, 114, 46, 99, 114, 101, 97, 116, 101, 95, 109, 111, 100, 117, 108, 101, 35, 111, 112, 97, 113, 117, 101, 6, 195, 11, 101, 120, 101, 99, 95, 109, 111, 100, 117, 108, 101, 9, 52, 95, 102, 114, 111, 122, 101, 110, 95, 105, 109, 112, 111, 114, 116, 108, 105, 98, 46, 66, 117, 105, 108, 116, 105, 110, 73, 109, 112, 111, 114, 116, 101, 114, 46, 101, 120, 101, 99, 95, 109, 111, 100, 117, 108, 101, 35, 111, 112, 97, 113, 117, 101, 6, 196, 8, 103, 101, 116, 95, 99, 111, 100, 101, 9, 49, 95, 102, 114, 111, 122, 101, 110, 95, 105, 109, 112, 111, 114, 116, 108, 105, 98, 46, 66, 117, 105, 108, 116, 105, 110, 73, 109, 112, 111, 114, 116, 101, 114, 46, 103, 101, 116, 95, 99, 111, 100, 101, 35, 111, 112, 97, 113, 117, 101, 6, 197, 10, 103, 101, 116, 95, 115, 111, 117, 114, 99, 101, 9, 51, 95, 102, 114, 111, 122, 101, 110, 95, 105, 109, 112, 111, 114, 116, 108, 105, 98, 46, 66, 117, 105, 108, 116, 105, 110, 73, 109, 112, 111, 114, 116, 101, 114, 46, 103, 101, 116, 95, 115, 111, 117, 114, 99, 101, 35, 111, 112, 97, 113, 117, 101, 6, 198, 10, 105, 115, 95, 112, 97, 99, 107, 97, 103, 101, 9, 51, 95, 102, 114, 111, 122, 101, 110, 95, 105, 109, 112, 111, 114, 116, 108, 105, 98, 46, 66, 117, 105, 108, 116, 105, 110, 73, 109, 112, 111, 114, 116, 101, 114, 46, 105, 115, 95, 112, 97, 99, 107, 97, 103, 101, 35, 111, 112, 97, 113, 117, 101, 6, 199, 11, 108, 111, 97, 100, 95, 109, 111, 100, 117, 108, 101, 9, 52, 95, 102, 114, 111, 122, 101, 110, 95, 105, 109, 112, 111, 114, 116, 108, 105, 98, 46, 66, 117, 105, 108, 116, 105, 110, 73, 109, 112, 111, 114, 116, 101, 114, 46, 108, 111, 97, 100, 95, 109, 111, 100, 117, 108, 101, 35, 111, 112, 97, 113, 117, 101, 6, 200, 21, 95, 95, 115, 116, 97, 116, 105, 99, 95, 97, 116, 116, 114, 105, 98, 117, 116, 101, 115, 95, 95, 4, 0, 0, 15, 6, 202, 8, 95, 95, 100, 105, 99, 116, 95, 95, 4, 0, 0, 16, 6, 204, 11, 95, 95, 119, 101, 97, 107, 114, 101, 102, 95, 95, 4, 0, 0, 17])) 0), (@PySem.Value.bool @Bool.true), (@PySem.Value.bool @Bool.true), (@PySem.Value.str (@PySem.Str.ofString "") 205), (@PySem.Value.int (21 : @Int) 0), (@PySem.Value.str (@PySem.Str.mk (@List.toArray @Nat [6, 227, 10, 95, 95, 109, 111, 100, 117, 108, 101, 95, 95, 6, 217, 17, 95, 102, 114, 111, 122, 101, 110, 95, 105, 109, 112, 111, 114, 116, 108, 105, 98, 6, 228, 15, 95, 95, 102, 105, 114, 115, 116, 108, 105, 110, 101, 110, 111, 95, 95, 4, 218, 0, 562, 6, 229, 7, 95, 95, 100, 111, 99, 95, 95, 9, 47, 95, 102, 114, 111, 122, 101, 110, 95, 105, 109, 112, 111, 114, 116, 108, 105, 98, 46, 77, 111, 100, 117, 108, 101, 83, 112, 101, 99, 46, 95, 95, 100, 111, 99, 95, 95, 58, 115, 116, 114, 35, 111, 112, 97, 113, 117, 101, 6, 230, 8, 95, 95, 105, 110, 105, 116, 95, 95, 9, 44, 95, 102, 114, 111, 122, 101, 110, 95, 105, 109, 112, 111, 114, 116, 108, 105, 98, 46, 77, 111, 100, 117, 108, 101, 83, 112, 101, 99, 46, 95, 95, 105, 110, 105, 116, 95, 95, 35, 111, 112, 97, 113, 117, 101, 6, 231, 8, 95, 95, 114, 101, 112, 114, 95, 95, 9, 44, 95, 102, 114, 111, 122, 101, 110, 95, 105, 109, 112, 111, 114, 116, 108, 105, 98, 46, 77, 111, 100, 117, 108, 101, 83, 112, 101, 99, 46, 95, 95, 114, 101, 112, 114, 95, 95, 35, 111, 112, 97, 113, 117, 101, 6, 232, 6, 95, 95, 101, 113, 95, 95, 9, 42, 95, 102, 114, 111, 122, 101, 110, 95, 105, 109, 112, 111, 114, 116, 108, 105, 98, 46, 77, 111, 100, 117, 108, 101, 83, 112, 101, 99, 46, 95, 95, 101, 113, 95, 95, 35, 111, 112, 97, 113, 117, 101, 6, 233, 6, 99, 97, 99, 104, 101, 100, 9, 42, 95, 102, 114, 111, 122, 101, 110, 95, 105, 109, 112, 111, 114, 116, 108, 105, 98, 46, 77, 111, 100, 117, 108, 101, 83, 112, 101, 99, 46, 99, 97, 99, 104, 101, 100, 35, 111, 112, 97, 113, 117, 101, 6, 234, 6, 112, 97, 114, 101, 110, 116, 9, 42, 95, 102, 114, 111, 122, 101, 110, 95, 105, 109, 112, 111, 114, 116, 108, 105, 98, 46, 77, 111, 100, 117, 108, 101, 83, 112, 101, 99, 46, 112, 97, 114, 101, 110, 116, 35, 111, 112, 97, 113, 117, 101, 6, 235, 12, 104, 97, 115, 95, 108, 111, 99, 97, 116, 105, 111, 110, 9, 48, 95, 102, 114, 111, 122, 101, 110, 95, 105, 109, 112, 111, 114, 116, 108, 105, 98, 46, 77, 111, 100, 117, 108, 101, 83, 112, 101, 99, 46, 104, 97, 115, 95, 108, 111, 99, 97, 116, 105, 111, 110, 35, 111, 112, 97, 113, 117, 101, 6, 236, 21, 95, 95, 115, 116, 97, 116, 105, 99, 95, 97, 116, 116, 114, 105, 98, 117, 116, 101, 115, 95, 95, 4, 0, 0, 23, 6, 238, 8, 95, 95, 100, 105, 99, 116, 95, 95, 4, 0, 0, 24, 6, 240, 11, 95, 95, 119, 101, 97, 107, 114, 101, 102, 95, 95, 4, 0, 0, 25, 6, 241, 8, 95, 95, 104, 97, 115, 104, 95, 95, 0])) 0), (@PySem.Value.bool @Bool.true), (@PySem.Value.bool @Bool.true), (@PySem.Value.str (@PySem.Str.ofString "") 242)]) 1) (@List.toArray (@Option @PySem.Value) []))
noncomputable def obA19 (P : Params) : Obj := (@PySem.Obj.mk (@PySem.Value.type "list") (@Option.none @Nat) (@PySem.Data.seq (@List.toArray @PySem.Value []) 0) (@List.toArray (@Option @PySem.Value) []))
noncomputable def obA20 (P : Params) : Obj := (@PySem.Obj.mk (@PySem.Value.type "dict") (@Option.none @Nat) (@PySem.Data.dict (@List.toArray @PySem.DictEntry [(@PySem.DictEntry.mk (@PySem.PyData.keyHash P (@PySem.Str.ofString "name")) (@PySem.Value.str (@PySem.Str.ofString "name") 208) (@PySem.Value.str (@PySem.Str.ofString "_sre") 207)), (@PySem.DictEntry.mk (@PySem.PyData.keyHash P (@PySem.Str.ofString "loader")) (@PySem.Value.str (@PySem.Str.ofString "loader") 209) (@PySem.Value.ref 14)), (@PySem.DictEntry.mk (@PySem.PyData.keyHash P (@PySem.Str.ofString "origin")) (@PySem.Value.str (@PySem.Str.ofString "origin") 210) (@PySem.Value.str (@PySem.Str.ofString "built-in") 184)), (@PySem.DictEntry.mk (@PySem.PyData.keyHash P (@PySem.Str.ofString "loader_state")) (@PySem.Value.str (@PySem.Str.ofString "loader_state") 211) @PySem.Value.none), (@PySem.DictEntry.mk (@PySem.PyData.keyHash P (@PySem.Str.ofString "submodule_search_locations")) (@PySem.Value.str (@PySem.Str.ofString "submodule_search_locations") 212) @PySem.Value.none), (@PySem.DictEntry.mk (@PySem.PyData.keyHash P (@PySem.Str.ofString "_uninitialized_submodules")) (@PySem.Value.str (@PySem.Str.ofString "_uninitialized_submodules") 213) (@PySem.Value.ref 19)), (@PySem.DictEntry.mk (@PySem.PyData.keyHash P (@PySem.Str.ofString "_set_fileattr")) (@PySem.Value.str (@PySem.Str.ofString "_set_fileattr") 214) (@PySem.Value.bool @Bool.false)), (@PySem.DictEntry.mk (@PySem.PyData.keyHash P (@PySem.Str.ofString "_cached")) (@PySem.Value.str (@PySem.Str.ofString "_cached") 215) @PySem.Value.none), (@PySem.DictEntry.mk (@PySem.PyData.keyHash P (@PySem.Str.ofString "_initializing")) (@PySem.Value.str (@PySem.Str.ofString "_initializing") 243) (@PySem.Value.bool @Bool.false))]) 9) (@List.toArray (@Option @PySem.Value) []))
noncomputable def obA21 (P : Params) : Obj := (@PySem.Obj.mk (@PySem.Value.type "dict") (@Option.none @Nat) (@PySem.Data.dict (@List.toArray @PySem.DictEntry [(@PySem.DictEntry.mk (@PySem.PyData.keyHash P (@PySem.Str.ofString "__module__")) (@PySem.Value.str (@PySem.Str.ofString "__module__") 227) (@PySem.Value.str (@PySem.Str.ofString "_frozen_importlib") 217)), (@PySem.DictEntry.mk (@PySem.PyData.keyHash P (@PySem.Str.ofString "__firstlineno__")) (@PySem.Value.str (@PySem.Str.ofString "__firstlineno__") 228) (@PySem.Value.int (562 : @Int) 218)), (@PySem.DictEntry.mk (@PySem.PyData.keyHash P (@PySem.Str.ofString "__doc__")) (@PySem.Value.str (@PySem.Str.ofString "__doc__") 229) (@PySem.Value.builtin (chars [95, 102, 114, 111, 122, 101, 110, 95, 105, 109, 112, 111, 114, 116, 108, 105, 98, 46, 77, 111, 100, 117, 108, 101, 83, 112, 101, 99, 46, 95, 95, 100, 111, 99, 95, 95, 58, 115, 116, 114, 35, 111, 112, 97, 113, 117, 101]))), (@PySem.DictEntry.mk (@PySem.PyData.keyHash P (@PySem.Str.ofString "__init__")) (@PySem.Value.str (@PySem.Str.ofString "__init__") 230) (@PySem.Value.builtin (chars [95, 102, 114, 111, 122, 101, 110, 95, 105, 109, 112, 111, 114, 116, 108, 105, 98, 46, 77, 111, 100, 117, 108, 101, 83, 112, 101, 99, 46, 95, 95, 105, 110, 105, 116, 95, 95, 35, 111, 112, 97, 113, 117, 101]))), (@PySem.DictEntry.mk (@PySem.PyData.keyHash P (@PySem.Str.ofString "__repr__")) (@PySem.Value.str (@PySem.Str.ofString "__repr__") 231) (@PySem.Value.builtin (chars [95, 102, 114, 111, 122, 101, 110, 95, 105, 109, 112, 111, 114, 116, 108, 105, 98, 46, 77, 111, 100, 117, 108, 101, 83, 112, 101, 99, 46, 95, 95, 114, 101, 112, 114, 95, 95, 35, 111, 112, 97, 113, 117, 101]))), (@PySem.DictEntry.mk (@PySem.PyData.keyHash P (@PySem.Str.ofString "__eq__")) (@PySem.Value.str (@PySem.Str.ofString "__eq__") 232) (@PySem.Value.builtin (chars [95, 102, 114, 111, 122, 101, 110, 95, 105, 109, 112, 111, 114, 116, 108, 105, 98, 46, 77, 111, 100, 117, 108, 101, 83, 112, 101, 99, 46, 95, 95, 101, 113, 95, 95, 35, 111, 112, 97, 113, 117, 101]))), (@PySem.DictEntry.mk (@PySem.PyData.keyHash P (@PySem.Str.ofString "cached")) (@PySem.Value.str (@PySem.Str.ofString "cached") 233) (@PySem.Value.builtin (chars [95, 102, 114, 111, 122, 101, 110, 95, 105, 109, 112, 111, 114, 116, 108, 105, 98, 46, 77, 111, 100, 117, 108, 101, 83, 112, 101, 99, 46, 99, 97, 99, 104, 101, 100, 35, 111, 112, 97, 113, 117, 101]))), (@PySem.DictEntry.mk (@PySem.PyData.keyHash P (@PySem.Str.ofString "parent")) (@PySem.Value.str (@PySem.Str.ofString "parent") 234) (@PySem.Value.builtin (chars [95, 102, 114, 111, 122, 101, 110, 95, 105, 109, 112, 111, 114, 116, 108, 105, 98, 46, 77, 111, 100, 117, 108, 101, 83, 112, 101, 99, 46, 112, 97, 114, 101, 110, 116, 35, 111, 112, 97, 113, 117, 101]))), (@PySem.DictEntry.mk (@PySem.PyData.keyHash P (@PySem.Str.ofString "has_location")) (@PySem.Value.str (@PySem.Str.ofString "has_location") 235) (@PySem.Value.builtin (chars [95, 102, 114, 111, 122, 101, 110, 95, 105, 109, 112, 111, 114, 116, 108, 105, 98, 46, 77, 111, 100, 117, 108, 101, 83, 112, 101, 99, 46, 104, 97, 115, 95, 108, 111, 99, 97, 116, 105, 111, 110, 35, 111, 112, 97, 113, 117, 101]))), (@PySem.DictEntry.mk (@PySem.PyData.keyHash P (@PySem.Str.ofString "__static_attributes__")) (@PySem.Value.str (@PySem.Str.ofString "__static_attributes__") 236) (@PySem.Value.ref 23)), (@PySem.DictEntry.mk (@PySem.PyData.keyHash P (@PySem.Str.ofString "__dict__")) (@PySem.Value.str (@PySem.Str.ofString "__dict__") 238) (@PySem.Value.ref 24)), (@PySem.DictEntry.mk (@PySem.PyData.keyHash P (@PySem.Str.ofString "__weakref__")) (@PySem.Value.str (@PySem.Str.ofString "__weakref__") 240) (@PySem.Value.ref 25)), (@PySem.DictEntry.mk (@PySem.PyData.keyHash P (@PySem.Str.ofString "__hash__")) (@PySem.Value.str (@PySem.Str.ofString "__hash__") 241) @PySem.Value.none)]) 13) (@List.toArray (@Option @PySem.Value) []))
noncomputable def obA22 (P : Params) : Obj := (@PySem.Obj.mk (@PySem.Value.type "type") (@Option.none @Nat) (@PySem.Data.cls (@PySem.ClassData.mk (@PySem.Str.ofString "ModuleSpec") [(@PySem.Value.type "object")] [(@PySem.Value.ref 22), (@PySem.Value.type "object")] 21 (@PySem.Str.ofString "ModuleSpec") @Bool.true [] [] @Bool.false (@Option.none @Bool) @Bool.false)) (@List.toArray (@Option @PySem.Value) []))
noncomputable def obA23 (P : Params) : Obj := (@PySem.Obj.mk (@PySem.Value.type "tuple") (@Option.none @Nat) (@PySem.Data.seq (@List.toArray @PySem.Value [(@PySem.Value.str (@PySem.Str.ofString "_cached") 219), (@PySem.Value.str (@PySem.Str.ofString "_set_fileattr") 220), (@PySem.Value.str (@PySem.Str.ofString "_uninitialized_submodules") 221), (@PySem.Value.str (@PySem.Str.ofString "loader") 222), (@PySem.Value.str (@PySem.Str.ofString "loader_state") 223), (@PySem.Value.str (@PySem.Str.ofString "name") 224), (@PySem.Value.str (@PySem.Str.ofString "origin") 225), (@PySem.Value.str (@PySem.Str.ofString "submodule_search_locations") 226)]) 0) (@List.toArray (@Option @PySem.Value) []))
noncomputable def obA24 (P : Params) : Obj := (@PySem.Obj.mk (@PySem.Value.type "getset_descriptor") (@Option.none @Nat) (@PySem.Data.fields (@List.toArray @PySem.Value [(@PySem.Value.str (@PySem.Str.ofString "__dict__") 237), (@PySem.Value.ref 22), (@PySem.Value.builtin "function.__dict__"), (@PySem.Value.builtin (chars [102, 117, 110, 99, 116, 105, 111, 110, 46, 95, 95, 100, 105, 99, 116, 95, 95, 35, 115, 101, 116]))])) (@List.toArray (@Option @PySem.Value) []))
noncomputable def obA25 (P : Params) : Obj := (@PySem.Obj.mk (@PySem.Value.type "getset_descriptor") (@Option.none @Nat) (@PySem.Data.fields (@List.toArray @PySem.Value [(@PySem.Value.str (@PySem.Str.ofString "__weakref__") 239), (@PySem.Value.ref 22), (@PySem.Value.builtin "ExceptionGroup.__weakref__"), @PySem.Value.none])) (@List.toArray (@Option @PySem.Value) []))
noncomputable def obA26 (P : Params) : Obj := (@PySem.Obj.mk (@PySem.Value.ref 22) (@Option.some @Nat 20) @PySem.Data.plain (@List.toArray (@Option @PySem.Value) []))
noncomputable def obA27 (P : Params) : Obj := (@PySem.Obj.mk @PySem.Value.none (@Option.none @Nat) (@PySem.Data.seq (@List.toArray @PySem.Value [(@PySem.Value.int (11 : @Int) 0), (@PySem.Value.str (@PySem.Str.mk (@List.toArray @Nat [6, 247, 8, 95, 95, 110, 97, 109, 101, 95, 95, 6, 246, 4, 95, 115, 114, 101, 6, 248, 7, 95, 95, 100, 111, 99, 95, 95, 0, 6, 250, 11, 95, 95, 112, 97, 99, 107, 97, 103, 101, 95, 95, 6, 249, 0, 6, 251, 10, 95, 95, 108, 111, 97, 100, 101, 114, 95, 95, 4, 0, 0, 14, 6, 252, 8, 95, 95, 115, 112, 101, 99, 95, 95, 4, 0, 0, 26, 6, 253, 7, 99, 111, 109, 112, 105, 108, 101, 9, 12, 95, 115, 114, 101, 46, 99, 111, 109, 112, 105, 108, 101, 6, 254, 8, 116, 101, 109, 112, 108, 97, 116, 101, 9, 13, 95, 115, 114, 101, 46, 116, 101, 109, 112, 108, 97, 116, 101, 6, 255, 11, 103, 101, 116, 99, 111, 100, 101, 115, 105, 122, 101, 9, 16, 95, 115, 114, 101, 46, 103, 101, 116, 99, 111, 100, 101, 115, 105, 122, 101, 6, 256, 13, 97, 115, 99, 105, 105, 95, 105, 115, 99, 97, 115, 101, 100, 9, 18, 95, 115, 114, 101, 46, 97, 115, 99, 105, 105, 95, 105, 115, 99, 97, 115, 101, 100, 6, 257, 15, 117, 110, 105, 99, 111, 100, 101, 95, 105, 115, 99, 97, 115, 101, 100, 9, 20, 95, 115, 114, 101, 46, 117, 110, 105, 99, 111, 100, 101, 95, 105, 115, 99, 97, 115, 101, 100, 6, 258, 13, 97, 115, 99, 105, 105, 95, 116, 111, 108, 111, 119, 101, 114, 9, 18, 95, 115, 114, 101, 46, 97, 115, 99, 105, 105, 95, 116, 111, 108, 111, 119, 101, 114, 6, 259, 15, 117, 110, 105, 99, 111, 100, 101, 95, 116, 111, 108, 111, 119, 101, 114, 9, 20, 95, 115, 114, 101, 46, 117, 110, 105, 99, 111, 100, 101, 95, 116, 111, 108, 111, 119, 101, 114, 6, 261, 5, 77, 65, 71, 73, 67, 4, 260, 0, 20230612, 6, 263, 8, 67, 79, 68, 69, 83, 73, 90, 69, 4, 262, 0, 4, 6, 265, 9, 77, 65, 88, 82, 69, 80, 69, 65, 84, 4, 264, 0, 4294967295, 6, 267, 9, 77, 65, 88, 71, 82, 79, 85, 80, 83, 4, 266, 0, 1073741823, 6, 269, 9, 99, 111, 112, 121, 114, 105, 103, 104, 116, 6, 268, 53, 32, 83, 82, 69, 32, 50, 46, 50, 46, 50, 32, 67, 111, 112, 121, 114, 105, 103, 104, 116, 32, 40, 99, 41, 32, 49, 57, 57, 55, 45, 50, 48, 48, 50, 32, 98, 121, 32, 83, 101, 99, 114, 101, 116, 32, 76, 97, 98, 115, 32, 65, 66, 32])) 0), (@PySem.Value.bool @Bool.true), (@PySem.Value.bool @Bool.false), (@PySem.Value.str (@PySem.Str.ofString "_sre") 271)]) 0) (@List.toArray (@Option @PySem.Value) []))
noncomputable def stA (P : Params) : Heap := @Heap.mk (Array.mk [boot_o_0 P, obA1 P, kept P 0, obA3 P, boot_o_4 P, boot_o_5 P, boot_o_6 P, boot_o_7 P, boot_o_8 P, boot_o_9 P, boot_o_10 P, kept P 3, kept P 4, obA13 P, obA14 P, obA15 P, obA16 P, obA17 P, obA18 P, obA19 P, obA20 P, obA21 P, obA22 P, obA23 P, obA24 P, obA25 P, obA26 P, obA27 P]) (@PySem.Life.mk [] [] [] 0 [] [] @Bool.false (@List.toArray @Nat []) [] 0 @Bool.false @Bool.false @Bool.false (0 : @Int) [(2000 : @Int), (10 : @Int), (10 : @Int)] @Bool.false 0 @Bool.true [] [] 0 @Bool.false)
abbrev tkA : Nat := nat_lit 276
noncomputable def obB28 (P : Params) : Obj := (@PySem.Obj.mk (@PySem.Value.type "tuple") (@Option.none @Nat) (@PySem.Data.seq (@List.toArray @PySem.Value []) 0) (@List.toArray (@Option @PySem.Value) []))
noncomputable def obB29 (P : Params) : Obj := (@PySem.Obj.mk @PySem.Value.none (@Option.none @Nat) (@PySem.Data.fields (@List.toArray @PySem.Value [])) (@List.toArray (@Option @PySem.Value) []))
noncomputable def obB30 (P : Params) : Obj := (@PySem.Obj.mk (@PySem.Value.type "code") (@Option.none @Nat) (@PySem.Data.fields (@List.toArray @PySem.Value [(@PySem.Value.str (@PySem.Str.ofString "<module>") 277), (@PySem.Value.str (@PySem.Str.ofString "<module>") 278), (@PySem.Value.str (@PySem.Str.ofString "/claim/cut.py") 279), (@PySem.Value.int (1 : @Int) 0), (@PySem.Value.int (0 : @Int) 0), (@PySem.Value.int (0 : @Int) 0), (@PySem.Value.int (0 : @Int) 0), (@PySem.Value.int (0 : @Int) 0), (@PySem.Value.ref 28), (@PySem.Value.bool @Bool.false), (@PySem.Value.int (276 : @Int) 0), (@PySem.Value.ref 29), @PySem.Value.none, @PySem.Value.none, @PySem.Value.none, @PySem.Value.none, (@PySem.Value.int (280 : @Int) 0), (@PySem.Value.int (1 : @Int) 0), (@PySem.Value.str (@PySem.Str.ofString "/claim/cut.py") 281)])) (@List.toArray (@Option @PySem.Value) []))
noncomputable def obB31 (P : Params) : Obj := (@PySem.Obj.mk (@PySem.Value.type "frame") (@Option.none @Nat) @PySem.Data.plain (@List.toArray (@Option @PySem.Value) [(@Option.some @PySem.Value (@PySem.Value.ref 30)), (@Option.some @PySem.Value (@PySem.Value.ref 3)), (@Option.some @PySem.Value (@PySem.Value.ref 3)), (@Option.none @PySem.Value), (@Option.some @PySem.Value (@PySem.Value.str (@PySem.Str.ofString "__main__") 164)), (@Option.none @PySem.Value), (@Option.some @PySem.Value (@PySem.Value.ref 0))]))
noncomputable def stB (P : Params) : Heap := @Heap.mk (Array.mk [boot_o_0 P, obA1 P, kept P 0, obA3 P, boot_o_4 P, boot_o_5 P, boot_o_6 P, boot_o_7 P, boot_o_8 P, boot_o_9 P, boot_o_10 P, kept P 3, kept P 4, obA13 P, obA14 P, obA15 P, obA16 P, obA17 P, obA18 P, obA19 P, obA20 P, obA21 P, obA22 P, obA23 P, obA24 P, obA25 P, obA26 P, obA27 P, obB28 P, obB29 P, obB30 P, obB31 P]) (@PySem.Life.mk [] [] [] 0 [] [] @Bool.false (@List.toArray @Nat []) [] 0 @Bool.false @Bool.false @Bool.false (0 : @Int) [(2000 : @Int), (10 : @Int), (10 : @Int)] @Bool.false 0 @Bool.true [] [] 0 @Bool.false)
abbrev tkB : Nat := nat_lit 282
noncomputable def obC3 (P : Params) : Obj := (@PySem.Obj.mk (@PySem.Value.type "dict") (@Option.none @Nat) (@PySem.Data.dict (@List.toArray @PySem.DictEntry [(@PySem.DictEntry.mk (@PySem.PyData.keyHash P (@PySem.Str.ofString "__name__")) (@PySem.Value.str (@PySem.Str.ofString "__name__") 165) (@PySem.Value.str (@PySem.Str.ofString "re") 376)), (@PySem.DictEntry.mk (@PySem.PyData.keyHash P (@PySem.Str.ofString "__doc__")) (@PySem.Value.str (@PySem.Str.ofString "__doc__") 166) @PySem.Value.none), (@PySem.DictEntry.mk (@PySem.PyData.keyHash P (@PySem.Str.ofString "__package__")) (@PySem.Value.str (@PySem.Str.ofString "__package__") 167) @PySem.Value.none), (@PySem.DictEntry.mk (@PySem.PyData.keyHash P (@PySem.Str.ofString "__loader__")) (@PySem.Value.str (@PySem.Str.ofString "__loader__") 168) (@PySem.Value.builtin (chars [95, 95, 109, 97, 105, 110, 95, 95, 46, 95, 95, 108, 111, 97, 100, 101, 114, 95, 95, 35, 111, 112, 97, 113, 117, 101]))), (@PySem.DictEntry.mk (@PySem.PyData.keyHash P (@PySem.Str.ofString "__spec__")) (@PySem.Value.str (@PySem.Str.ofString "__spec__") 169) @PySem.Value.none), (@PySem.DictEntry.mk (@PySem.PyData.keyHash P (@PySem.Str.ofString "__annotations__")) (@PySem.Value.str (@PySem.Str.ofString "__annotations__") 170) (@PySem.Value.ref 6)), (@PySem.DictEntry.mk (@PySem.PyData.keyHash P (@PySem.Str.ofString "__builtins__")) (@PySem.Value.str (@PySem.Str.ofString "__builtins__") 171) (@PySem.Value.ref 4)), (@PySem.DictEntry.mk (@PySem.PyData.keyHash P (@PySem.Str.ofString "__file__")) (@PySem.Value.str (@PySem.Str.ofString "__file__") 173) (@PySem.Value.str (@PySem.Str.ofString "/claim/cut.py") 172)), (@PySem.DictEntry.mk (@PySem.PyData.keyHash P (@PySem.Str.ofString "__cached__")) (@PySem.Value.str (@PySem.Str.ofString "__cached__") 174) @PySem.Value.none), (@PySem.DictEntry.mk (@PySem.PyData.keyHash P (@PySem.Str.ofString "_sre")) (@PySem.Value.str (@PySem.Str.ofString "_sre") 275) (@PySem.Value.ref 12)), (@PySem.DictEntry.mk (@PySem.PyData.keyHash P (@PySem.Str.ofString "heapreplace")) (@PySem.Value.str (@PySem.Str.ofString "heapreplace") 292) (@PySem.Value.ref 38)), (@PySem.DictEntry.mk (@PySem.PyData.keyHash P (@PySem.Str.ofString "heapify")) (@PySem.Value.str (@PySem.Str.ofString "heapify") 301) (@PySem.Value.ref 45)), (@PySem.DictEntry.mk (@PySem.PyData.keyHash P (@PySem.Str.ofString "_siftdown")) (@PySem.Value.str (@PySem.Str.ofString "_siftdown") 313) (@PySem.Value.ref 52)), (@PySem.DictEntry.mk (@PySem.PyData.keyHash P (@PySem.Str.ofString "_siftup")) (@PySem.Value.str (@PySem.Str.ofString "_siftup") 326) (@PySem.Value.ref 59)), (@PySem.DictEntry.mk (@PySem.PyData.keyHash P (@PySem.Str.ofString "_twin_re_1")) (@PySem.Value.str (@PySem.Str.ofString "_twin_re_1") 366) (@PySem.Value.ref 64)), (@PySem.DictEntry.mk (@PySem.PyData.keyHash P (@PySem.Str.ofString "translate")) (@PySem.Value.str (@PySem.Str.ofString "translate") 375) (@PySem.Value.ref 71))]) 16) (@List.toArray (@Option @PySem.Value) []))
noncomputable def obC29 (P : Params) : Obj := (@PySem.Obj.mk @PySem.Value.none (@Option.none @Nat) (@PySem.Data.fields (@List.toArray @PySem.Value [(@PySem.Value.int (3 : @Int) 0), (@PySem.Value.int (0 : @Int) 0), (@PySem.Value.ref 37), (@PySem.Value.int (8 : @Int) 0), (@PySem.Value.int (0 : @Int) 0), (@PySem.Value.ref 44), (@PySem.Value.int (12 : @Int) 0), (@PySem.Value.int (0 : @Int) 0), (@PySem.Value.ref 51), (@PySem.Value.int (23 : @Int) 0), (@PySem.Value.int (0 : @Int) 0), (@PySem.Value.ref 58), (@PySem.Value.int (39 : @Int) 0), (@PySem.Value.int (0 : @Int) 0), (@PySem.Value.ref 70)])) (@List.toArray (@Option @PySem.Value) []))
noncomputable def obC33 (P : Params) : Obj := (@PySem.Obj.mk @PySem.Value.none (@Option.none @Nat) (@PySem.Data.fields (@List.toArray @PySem.Value [])) (@List.toArray (@Option @PySem.Value) []))
noncomputable def obC40 (P : Params) : Obj := (@PySem.Obj.mk @PySem.Value.none (@Option.none @Nat) (@PySem.Data.fields (@List.toArray @PySem.Value [])) (@List.toArray (@Option @PySem.Value) []))
noncomputable def obC47 (P : Params) : Obj := (@PySem.Obj.mk @PySem.Value.none (@Option.none @Nat) (@PySem.Data.fields (@List.toArray @PySem.Value [])) (@List.toArray (@Option @PySem.Value) []))
noncomputable def obC54 (P : Params) : Obj := (@PySem.Obj.mk @PySem.Value.none (@Option.none @Nat) (@PySem.Data.fields (@List.toArray @PySem.Value [])) (@List.toArray (@Option @PySem.Value) []))
noncomputable def obC60 (P : Params) : Obj := (@PySem.Obj.mk (@PySem.Value.type "list") (@Option.none @Nat) (@PySem.Data.seq (@List.toArray @PySem.Value [(@PySem.Value.int (14 : @Int) 332), (@PySem.Value.int (14 : @Int) 333), (@PySem.Value.int (4 : @Int) 334), (@PySem.Value.int (1 : @Int) 335), (@PySem.Value.int (1 : @Int) 336), (@PySem.Value.int (9 : @Int) 337), (@PySem.Value.int (0 : @Int) 338), (@PySem.Value.int (64 : @Int) 339), (@PySem.Value.int (0 : @Int) 340), (@PySem.Value.int (1342177280 : @Int) 341), (@PySem.Value.int (0 : @Int) 342), (@PySem.Value.int (0 : @Int) 343), (@PySem.Value.int (0 : @Int) 344), (@PySem.Value.int (0 : @Int) 345), (@PySem.Value.int (0 : @Int) 346), (@PySem.Value.int (17 : @Int) 347), (@PySem.Value.int (0 : @Int) 348), (@PySem.Value.int (13 : @Int) 349), (@PySem.Value.int (11 : @Int) 350), (@PySem.Value.int (9 : @Int) 351), (@PySem.Value.int (0 : @Int) 352), (@PySem.Value.int (64 : @Int) 353), (@PySem.Value.int (0 : @Int) 354), (@PySem.Value.int (1342177280 : @Int) 355), (@PySem.Value.int (0 : @Int) 356), (@PySem.Value.int (0 : @Int) 357), (@PySem.Value.int (0 : @Int) 358), (@PySem.Value.int (0 : @Int) 359), (@PySem.Value.int (0 : @Int) 360), (@PySem.Value.int (17 : @Int) 361), (@PySem.Value.int (1 : @Int) 362), (@PySem.Value.int (1 : @Int) 363)]) 0) (@List.toArray (@Option @PySem.Value) []))
noncomputable def obC61 (P : Params) : Obj := (@PySem.Obj.mk (@PySem.Value.type "dict") (@Option.none @Nat) (@PySem.Data.dict (@List.toArray @PySem.DictEntry []) 0) (@List.toArray (@Option @PySem.Value) []))
noncomputable def obC62 (P : Params) : Obj := (@PySem.Obj.mk (@PySem.Value.type "tuple") (@Option.none @Nat) (@PySem.Data.seq (@List.toArray @PySem.Value [@PySem.Value.none, @PySem.Value.none]) 0) (@List.toArray (@Option @PySem.Value) []))
noncomputable def obC66 (P : Params) : Obj := (@PySem.Obj.mk @PySem.Value.none (@Option.none @Nat) (@PySem.Data.fields (@List.toArray @PySem.Value [])) (@List.toArray (@Option @PySem.Value) []))
noncomputable def stC (P : Params) : Heap := @Heap.mk (Array.mk [boot_o_0 P, obA1 P, kept P 0, obC3 P, boot_o_4 P, boot_o_5 P, boot_o_6 P, boot_o_7 P, boot_o_8 P, boot_o_9 P, boot_o_10 P, kept P 3, kept P 4, obA13 P, obA14 P, obA15 P, obA16 P, obA17 P, obA18 P, obA19 P, obA20 P, obA21 P, obA22 P, obA23 P, obA24 P, obA25 P, obA26 P, obA27 P, obB28 P, obC29 P, obB30 P, obB31 P, kept P 5, obC33 P, kept P 6, kept P 7, tpl 1, kept P 8, kept P 9, kept P 10, obC40 P, kept P 11, kept P 12, tpl 2, kept P 13, kept P 14, kept P 15, obC47 P, kept P 16, kept P 17, tpl 3, kept P 18, kept P 19, kept P 20, obC54 P, kept P 21, kept P 22, tpl 4, kept P 23, kept P 24, obC60 P, obC61 P, obC62 P, kept P 25, kept P 26, kept P 27, obC66 P, kept P 28, kept P 29, tpl 7, kept P 30, kept P 31]) (@PySem.Life.mk [] [] [] 0 [] [] @Bool.false (@List.toArray @Nat []) [] 0 @Bool.false @Bool.false @Bool.false (0 : @Int) [(2000 : @Int), (10 : @Int), (10 : @Int)] @Bool.false 0 @Bool.true [] [] 0 @Bool.false)
abbrev tkC : Nat := nat_lit 378
noncomputable def obD3 (P : Params) : Obj := (@PySem.Obj.mk (@PySem.Value.type "dict") (@Option.none @Nat) (@PySem.Data.dict (@List.toArray @PySem.DictEntry [(@PySem.DictEntry.mk (@PySem.PyData.keyHash P (@PySem.Str.ofString "__name__")) (@PySem.Value.str (@PySem.Str.ofString "__name__") 165) (@PySem.Value.str (@PySem.Str.ofString "re") 376)), (@PySem.DictEntry.mk (@PySem.PyData.keyHash P (@PySem.Str.ofString "__doc__")) (@PySem.Value.str (@PySem.Str.ofString "__doc__") 166) @PySem.Value.none), (@PySem.DictEntry.mk (@PySem.PyData.keyHash P (@PySem.Str.ofString "__package__")) (@PySem.Value.str (@PySem.Str.ofString "__package__") 167) @PySem.Value.none), (@PySem.DictEntry.mk (@PySem.PyData.keyHash P (@PySem.Str.ofString "__loader__")) (@PySem.Value.str (@PySem.Str.ofString "__loader__") 168) (@PySem.Value.builtin (chars [95, 95, 109, 97, 105, 110, 95, 95, 46, 95, 95, 108, 111, 97, 100, 101, 114, 95, 95, 35, 111, 112, 97, 113, 117, 101]))), (@PySem.DictEntry.mk (@PySem.PyData.keyHash P (@PySem.Str.ofString "__spec__")) (@PySem.Value.str (@PySem.Str.ofString "__spec__") 169) @PySem.Value.none), (@PySem.DictEntry.mk (@PySem.PyData.keyHash P (@PySem.Str.ofString "__annotations__")) (@PySem.Value.str (@PySem.Str.ofString "__annotations__") 170) (@PySem.Value.ref 6)), (@PySem.DictEntry.mk (@PySem.PyData.keyHash P (@PySem.Str.ofString "__builtins__")) (@PySem.Value.str (@PySem.Str.ofString "__builtins__") 171) (@PySem.Value.ref 4)), (@PySem.DictEntry.mk (@PySem.PyData.keyHash P (@PySem.Str.ofString "__file__")) (@PySem.Value.str (@PySem.Str.ofString "__file__") 173) (@PySem.Value.str (@PySem.Str.ofString "/claim/cut.py") 172)), (@PySem.DictEntry.mk (@PySem.PyData.keyHash P (@PySem.Str.ofString "__cached__")) (@PySem.Value.str (@PySem.Str.ofString "__cached__") 174) @PySem.Value.none), (@PySem.DictEntry.mk (@PySem.PyData.keyHash P (@PySem.Str.ofString "_sre")) (@PySem.Value.str (@PySem.Str.ofString "_sre") 275) (@PySem.Value.ref 12)), (@PySem.DictEntry.mk (@PySem.PyData.keyHash P (@PySem.Str.ofString "heapreplace")) (@PySem.Value.str (@PySem.Str.ofString "heapreplace") 292) (@PySem.Value.ref 38)), (@PySem.DictEntry.mk (@PySem.PyData.keyHash P (@PySem.Str.ofString "heapify")) (@PySem.Value.str (@PySem.Str.ofString "heapify") 301) (@PySem.Value.ref 45)), (@PySem.DictEntry.mk (@PySem.PyData.keyHash P (@PySem.Str.ofString "_siftdown")) (@PySem.Value.str (@PySem.Str.ofString "_siftdown") 313) (@PySem.Value.ref 52)), (@PySem.DictEntry.mk (@PySem.PyData.keyHash P (@PySem.Str.ofString "_siftup")) (@PySem.Value.str (@PySem.Str.ofString "_siftup") 326) (@PySem.Value.ref 59)), (@PySem.DictEntry.mk (@PySem.PyData.keyHash P (@PySem.Str.ofString "_twin_re_1")) (@PySem.Value.str (@PySem.Str.ofString "_twin_re_1") 366) (@PySem.Value.ref 64)), (@PySem.DictEntry.mk (@PySem.PyData.keyHash P (@PySem.Str.ofString "translate")) (@PySem.Value.str (@PySem.Str.ofString "translate") 375) (@PySem.Value.ref 71)), (@PySem.DictEntry.mk (@PySem.PyData.keyHash P (@PySem.Str.ofString "_special_chars_map")) (@PySem.Value.str (@PySem.Str.ofString "_special_chars_map") 523) (@PySem.Value.ref 73))]) 17) (@List.toArray (@Option @PySem.Value) []))
noncomputable def obD72 (P : Params) : Obj := (@PySem.Obj.mk (@PySem.Value.type "bytes_iterator") (@Option.none @Nat) (@PySem.Data.fields (@List.toArray @PySem.Value [@PySem.Value.none, (@PySem.Value.int (24 : @Int) 0)])) (@List.toArray (@Option @PySem.Value) []))
noncomputable def obD74 (P : Params) : Obj := (@PySem.Obj.mk (@PySem.Value.type "dict") (@Option.none @Nat) (@PySem.Data.dict (@List.toArray @PySem.DictEntry []) 2) (@List.toArray (@Option @PySem.Value) []))
noncomputable def obD75 (P : Params) : Obj := (@PySem.Obj.mk (@PySem.Value.type "tuple") (@Option.none @Nat) (@PySem.Data.seq (@List.toArray @PySem.Value []) 0) (@List.toArray (@Option @PySem.Value) []))
noncomputable def obD76 (P : Params) : Obj := (@PySem.Obj.mk (@PySem.Value.type "StopIteration") (@Option.none @Nat) (@PySem.Data.fields (@List.toArray @PySem.Value [(@PySem.Value.ref 75), @PySem.Value.none, @PySem.Value.none, @PySem.Value.none, (@PySem.Value.bool @Bool.false), @PySem.Value.none])) (@List.toArray (@Option @PySem.Value) []))
noncomputable def stD (P : Params) : Heap := @Heap.mk (Array.mk [boot_o_0 P, obA1 P, kept P 0, obD3 P, boot_o_4 P, boot_o_5 P, boot_o_6 P, boot_o_7 P, boot_o_8 P, boot_o_9 P, boot_o_10 P, kept P 3, kept P 4, obA13 P, obA14 P, obA15 P, obA16 P, obA17 P, obA18 P, obA19 P, obA20 P, obA21 P, obA22 P, obA23 P, obA24 P, obA25 P, obA26 P, obA27 P, obB28 P, obC29 P, obB30 P, obB31 P, kept P 5, obC33 P, kept P 6, kept P 7, tpl 1, kept P 8, kept P 9, kept P 10, obC40 P, kept P 11, kept P 12, tpl 2, kept P 13, kept P 14, kept P 15, obC47 P, kept P 16, kept P 17, tpl 3, kept P 18, kept P 19, kept P 20, obC54 P, kept P 21, kept P 22, tpl 4, kept P 23, kept P 24, obC60 P, obC61 P, obC62 P, kept P 25, kept P 26, kept P 27, obC66 P, kept P 28, kept P 29, tpl 7, kept P 30, kept P 31, obD72 P, kept P 32, obD74 P, obD75 P, obD76 P]) (@PySem.Life.mk [] [] [] 0 [] [] @Bool.false (@List.toArray @Nat []) [] 0 @Bool.false @Bool.false @Bool.false (0 : @Int) [(2000 : @Int), (10 : @Int), (10 : @Int)] @Bool.false 0 @Bool.true [] [] 0 @Bool.false)
abbrev tkD : Nat := nat_lit 524
noncomputable def obE29 (P : Params) : Obj := (@PySem.Obj.mk @PySem.Value.none (@Option.none @Nat) (@PySem.Data.fields (@List.toArray @PySem.Value [(@PySem.Value.int (3 : @Int) 0), (@PySem.Value.int (0 : @Int) 0), (@PySem.Value.ref 37), (@PySem.Value.int (8 : @Int) 0), (@PySem.Value.int (0 : @Int) 0), (@PySem.Value.ref 44), (@PySem.Value.int (12 : @Int) 0), (@PySem.Value.int (0 : @Int) 0), (@PySem.Value.ref 51), (@PySem.Value.int (23 : @Int) 0), (@PySem.Value.int (0 : @Int) 0), (@PySem.Value.ref 58), (@PySem.Value.int (39 : @Int) 0), (@PySem.Value.int (0 : @Int) 0), (@PySem.Value.ref 70), (@PySem.Value.int (45 : @Int) 0), (@PySem.Value.int (0 : @Int) 0), (@PySem.Value.ref 82), (@PySem.Value.int (52 : @Int) 0), (@PySem.Value.int (0 : @Int) 0), (@PySem.Value.ref 89), (@PySem.Value.int (114 : @Int) 0), (@PySem.Value.int (0 : @Int) 0), (@PySem.Value.ref 96), (@PySem.Value.int (142 : @Int) 0), (@PySem.Value.int (0 : @Int) 0), (@PySem.Value.ref 103), (@PySem.Value.int (151 : @Int) 0), (@PySem.Value.int (0 : @Int) 0), (@PySem.Value.ref 110), (@PySem.Value.int (156 : @Int) 0), (@PySem.Value.int (0 : @Int) 0), (@PySem.Value.ref 115), (@PySem.Value.int (170 : @Int) 0), (@PySem.Value.int (0 : @Int) 0), (@PySem.Value.ref 120), (@PySem.Value.int (185 : @Int) 0), (@PySem.Value.int (0 : @Int) 0), (@PySem.Value.ref 127), (@PySem.Value.int (195 : @Int) 0), (@PySem.Value.int (0 : @Int) 0), (@PySem.Value.ref 132)])) (@List.toArray (@Option @PySem.Value) []))
noncomputable def obE78 (P : Params) : Obj := (@PySem.Obj.mk @PySem.Value.none (@Option.none @Nat) (@PySem.Data.fields (@List.toArray @PySem.Value [])) (@List.toArray (@Option @PySem.Value) []))
noncomputable def obE85 (P : Params) : Obj := (@PySem.Obj.mk @PySem.Value.none (@Option.none @Nat) (@PySem.Data.fields (@List.toArray @PySem.Value [])) (@List.toArray (@Option @PySem.Value) []))
noncomputable def obE92 (P : Params) : Obj := (@PySem.Obj.mk @PySem.Value.none (@Option.none @Nat) (@PySem.Data.fields (@List.toArray @PySem.Value [])) (@List.toArray (@Option @PySem.Value) []))
noncomputable def obE99 (P : Params) : Obj := (@PySem.Obj.mk @PySem.Value.none (@Option.none @Nat) (@PySem.Data.fields (@List.toArray @PySem.Value [])) (@List.toArray (@Option @PySem.Value) []))
noncomputable def obE106 (P : Params) : Obj := (@PySem.Obj.mk @PySem.Value.none (@Option.none @Nat) (@PySem.Data.fields (@List.toArray @PySem.Value [])) (@List.toArray (@Option @PySem.Value) []))
noncomputable def obE113 (P : Params) : Obj := (@PySem.Obj.mk @PySem.Value.none (@Option.none @Nat) (@PySem.Data.fields (@List.toArray @PySem.Value [])) (@List.toArray (@Option @PySem.Value) []))
noncomputable def obE118 (P : Params) : Obj := (@PySem.Obj.mk @PySem.Value.none (@Option.none @Nat) (@PySem.Data.fields (@List.toArray @PySem.Value [])) (@List.toArray (@Option @PySem.Value) []))
noncomputable def obE123 (P : Params) : Obj := (@PySem.Obj.mk @PySem.Value.none (@Option.none @Nat) (@PySem.Data.fields (@List.toArray @PySem.Value [])) (@List.toArray (@Option @PySem.Value) []))
noncomputable def obE130 (P : Params) : Obj := (@PySem.Obj.mk @PySem.Value.none (@Option.none @Nat) (@PySem.Data.fields (@List.toArray @PySem.Value [])) (@List.toArray (@Option @PySem.Value) []))
noncomputable def stE (P : Params) : Heap := @Heap.mk (Array.mk [boot_o_0 P, obA1 P, kept P 0, kept P 1, boot_o_4 P, boot_o_5 P, boot_o_6 P, boot_o_7 P, boot_o_8 P, boot_o_9 P, boot_o_10 P, kept P 3, kept P 4, obA13 P, obA14 P, obA15 P, obA16 P, obA17 P, obA18 P, obA19 P, obA20 P, obA21 P, obA22 P, obA23 P, obA24 P, obA25 P, obA26 P, obA27 P, obB28 P, obE29 P, obB30 P, obB31 P, kept P 5, obC33 P, kept P 6, kept P 7, tpl 1, kept P 8, kept P 9, kept P 10, obC40 P, kept P 11, kept P 12, tpl 2, kept P 13, kept P 14, kept P 15, obC47 P, kept P 16, kept P 17, tpl 3, kept P 18, kept P 19, kept P 20, obC54 P, kept P 21, kept P 22, tpl 4, kept P 23, kept P 24, obC60 P, obC61 P, obC62 P, kept P 25, kept P 26, kept P 27, obC66 P, kept P 28, kept P 29, tpl 7, kept P 30, kept P 31, obD72 P, kept P 32, obD74 P, obD75 P, obD76 P, kept P 33, obE78 P, kept P 34, kept P 35, tpl 10, kept P 36, kept P 37, kept P 38, obE85 P, kept P 39, kept P 40, tpl 12, kept P 41, kept P 42, kept P 43, obE92 P, kept P 44, kept P 45, tpl 13, kept P 46, kept P 47, kept P 48, obE99 P, kept P 49, kept P 50, tpl 15, kept P 51, kept P 52, kept P 53, obE106 P, kept P 54, kept P 55, tpl 17, kept P 56, kept P 57, kept P 58, obE113 P, tpl 18, kept P 59, kept P 60, kept P 61, obE118 P, tpl 19, kept P 62, kept P 63, kept P 64, obE123 P, kept P 65, kept P 66, tpl 20, kept P 67, kept P 68, kept P 69, obE130 P, tpl 21, kept P 70, kept P 71]) (@PySem.Life.mk [] [] [] 0 [] [] @Bool.false (@List.toArray @Nat []) [] 0 @Bool.false @Bool.false @Bool.false (0 : @Int) [(2000 : @Int), (10 : @Int), (10 : @Int)] @Bool.false 0 @Bool.true [] [] 0 @Bool.false)
abbrev tkE : Nat := nat_lit 619

noncomputable abbrev topP : Program := PySem.Challenge.rw_in0245_01.row.prog
noncomputable abbrev topB : List Stmt := behindTheImports topP
noncomputable abbrev topE : Env := { scope := topP.main.scope, locals := mainNs, globals := mainNs, cells := [], code := .ref 30, frame := some 31 }
noncomputable abbrev topC : Code := .body topB topE
abbrev noPos : Pos := ⟨0, 0, 0, 0⟩
abbrev posC : Pos := ⟨43, 0, 43, 8⟩
abbrev posD : Pos := ⟨44, 0, 44, 18⟩
abbrev posE : Pos := ⟨195, 0, 211, 44⟩
abbrev noDrawn : Drawn := ⟨0, 0, 0, 0⟩
abbrev noGens : Array GenState := Array.mk []
noncomputable abbrev shA (w : World) (os : OsState) : Shared := ⟨stA w.params, noGens, noDrawn, tkA, os⟩
noncomputable abbrev shB (w : World) (os : OsState) : Shared := ⟨stB w.params, noGens, noDrawn, tkB, os⟩
noncomputable abbrev shC (w : World) (os : OsState) : Shared := ⟨stC w.params, noGens, noDrawn, tkC, os⟩
noncomputable abbrev shD (w : World) (os : OsState) : Shared := ⟨stD w.params, noGens, noDrawn, tkD, os⟩
noncomputable abbrev shE (w : World) (os : OsState) : Shared := ⟨stE w.params, noGens, noDrawn, tkE, os⟩
noncomputable def segC : List Stmt := topB.take 9
noncomputable def segD : List Stmt := (topB.drop 9).take 1
noncomputable def segE : List Stmt := topB.drop 10
set_option maxRecDepth 100000
theorem run_open (w : World) : (fencedOpening treeTable topP w 3786).map (fun s => (s.heap, s.gens, s.drawn, s.toks)) = some (stA w.params, noGens, noDrawn, tkA) := by kernel_rfl
theorem run_size (w : World) : ((stA w.params).isNs mainGlobals && noGens.size == 0, (stA w.params).objs.size, (stA w.params).nsMap mainGlobals "__annotations__") = (true, 28, some (.ref 6)) := by kernel_rfl
theorem run_pre (w : World) (os : OsState) : topGo treeTable topP w 28 (some (.ref 6)) 12 (shA w os) (topStub topP) = some (shB w os, ⟨denote treeTable topC, topC, noPos, [topFrame noPos]⟩) := by kernel_rfl
theorem run_block (w : World) (os : OsState) : segRun treeTable topP w 28 (some (.ref 6)) 1 1 (shB w os) (blockOf topB topE topC noPos [topFrame noPos]) = some (.next, shB w os, topC, noPos) := by kernel_rfl
theorem run_C (w : World) (os : OsState) : segRun treeTable topP w 28 (some (.ref 6)) 1 300 (shB w os) (piecesOf segC topE topC noPos [topFrame noPos]) = some (.next, shC w os, topC, posC) := by kernel_rfl
def RunD (w : World) : Prop := ∀ os : OsState, segRun treeTable topP w 28 (some (.ref 6)) 1 1300 (shC w os) (piecesOf segD topE topC posC [topFrame noPos]) = some (.next, shD w os, topC, posD)
theorem run_D1 (w : World) : RunD ((w.withFollow "special-get-raises" false).withFollow "comprehension-iter-twice" false) := fun os => by kernel_rfl
theorem run_D2 (w : World) : RunD ((w.withFollow "special-get-raises" true).withFollow "comprehension-iter-twice" false) := fun os => by kernel_rfl
theorem run_D3 (w : World) : RunD ((w.withFollow "special-get-raises" false).withFollow "comprehension-iter-twice" true) := fun os => by kernel_rfl
theorem run_D4 (w : World) : RunD ((w.withFollow "special-get-raises" true).withFollow "comprehension-iter-twice" true) := fun os => by kernel_rfl
theorem run_D : ∀ w : World, RunD w :=
  byRow2 (P := RunD) "comprehension-iter-twice"
    (byRow2 (P := fun w => RunD (w.withFollow "comprehension-iter-twice" false)) "special-get-raises" run_D1 run_D2)
    (byRow2 (P := fun w => RunD (w.withFollow "comprehension-iter-twice" true)) "special-get-raises" run_D3 run_D4)
theorem run_E (w : World) (os : OsState) : segRun treeTable topP w 28 (some (.ref 6)) 1 400 (shD w os) (piecesOf segE topE topC posD [topFrame noPos]) = some (.next, shE w os, topC, posE) := by kernel_rfl
theorem run_fin (w : World) (os : OsState) : topRun treeTable topP w 28 (some (.ref 6)) 2 (shE w os) ⟨doneF .next, topC, posE, [topFrame noPos]⟩ = some (shE w os) := by kernel_rfl
theorem run_looks (w : World) (os : OsState) : ((staticsOk (importedModules topP.main.body) (stA w.params) (stE w.params) && namesBound topP (stE w.params) && gensDone (shE w os) && laidKept (stA w.params) (stE w.params)),
    openSeen hdQ hdL (importedModules topP.main.body) hdXt true (shE w os), hdHook.obs (shE w os)) = (true, openGood hdQ hdL, hdHook.val w) := by kernel_rfl
theorem top_cut : topB = segC ++ (segD ++ (segE ++ [])) := by kernel_rfl
theorem run_rest (w : World) (os : OsState) : topRun treeTable topP w 28 (some (.ref 6)) (300 + (1300 + (400 + 2))) (shB w os) (restOf (segC ++ (segD ++ (segE ++ []))) topE topC noPos [topFrame noPos]) = some (shE w os) :=
  piece_app (run_C w os) (piece_app (run_D w os) (piece_app (run_E w os) (run_fin w os)))
theorem run_body (w : World) (os : OsState) : topRun treeTable topP w 28 (some (.ref 6)) (300 + (1300 + (400 + 2))) (shB w os) (restOf topB topE topC noPos [topFrame noPos]) = some (shE w os) :=
  (congrArg (fun l => topRun treeTable topP w 28 (some (.ref 6)) (300 + (1300 + (400 + 2))) (shB w os) (restOf l topE topC noPos [topFrame noPos])) top_cut).trans (run_rest w os)
theorem run_top (w : World) (os : OsState) : topRun treeTable topP w 28 (some (.ref 6)) (12 + (1 + (300 + (1300 + (400 + 2))))) (shA w os) (topStub topP) = some (shE w os) :=
  go_top (run_pre w os) (piece_block (run_block w os) (run_body w os))
theorem left : LeftO topP hdQ hdL hdXt hdHook.obs hdHook.val 3786 true :=
  LeftO.of_pieces (H₀ := stA) (H₁ := stE) (M := 12 + (1 + (300 + (1300 + (400 + 2))))) run_open run_size run_top (by decide) (fun w => funext (run_looks w))
end Mine
end

section -- B1
open PySem PySem.W PyProof.Rows
set_option maxRecDepth 100000
namespace Mine
open PySem.Calls PySem.MeetsSeq PySem.MeetsSeq2 PySem.MeetsSeq3 PySem.SeqRoads2
open PySem.AutoSeq1 (wpAny_loadPart')

structure Row where
  v : Int
  f : Int
  s : Int
deriving DecidableEq

def Row.lt (a b : Row) : Bool := if a.v = b.v then (if a.f = b.f then decide (a.s < b.s) else decide (a.f < b.f)) else decide (a.v < b.v)

abbrev rowArr (r : Row) (t1 t2 t3 : Tok) : Array Value := #[.int r.v t1, .int r.f t2, .int r.s t3]

theorem lt_int {prog : Program} {w : World} {A : Around} {E : Value → Shared → Prop} {s : Shared} {a b : Int} {t u : Tok} {Q : Value → Shared → Prop} (h : Q (.bool (decide (a < b))) s) :
    wpAny (model prog w) A (richCompare .Lt (.int a t) (.int b u)) Q E s := wpAny_lt_int h

abbrev LtSpec (l b : Addr) (its its2 : Array Value) (n n2 : Nat) (r : Bool) : PySem.Spec := fun _ R s => s.heap.get? l = some (listOf its n) ∧ s.heap.get? b = some (listOf its2 n2) ∧ R (.ok (.ret (.bool r))) s

section
variable {l b : Addr} {its its2 : Array Value} {x y : Int} {t u : Tok} {n n2 i : Nat} {r : Bool}
theorem lt_ne (h1 : its[i]? = some (.int x t)) (h2 : its2[i]? = some (.int y u)) (hne : x ≠ y) :
    Meets (Builtin.«list.__eq__.loop» ⟨[.ref l, .ref b, rawInt i, rawInt 0], []⟩) (LtSpec l b its its2 n n2 (decide (x < y))) := by
  intro prog w A R s h
  obtain ⟨hp, g, d, tk, os⟩ := s; obtain ⟨hl, hb, h⟩ := h
  wp_walk using wpAny_loadPart' hl, wpAny_loadPart' hb
  have e1 : its[((i : Nat) : Int).toNat]? = some (.int x t) := by simpa using h1
  have e2 : its2[((i : Nat) : Int).toNat]? = some (.int y u) := by simpa using h2
  rw [e1, e2]
  have e3 : (x == y) = false := by simpa using hne
  refine wpAny_bind (EqGives.int x y t u prog w _ _ _ _ ?_)
  rw [e3]
  wp_walk using wpAny_loadPart' hl, wpAny_loadPart' hb
  rw [e1, e2]
  refine wpAny_bind (lt_int ?_)
  wp_walk
  exact h
theorem lt_eq (h1 : its[i]? = some (.int x t)) (h2 : its2[i]? = some (.int x u)) (g : Meets (Builtin.«list.__eq__.loop» ⟨[.ref l, .ref b, rawInt ((i + 1 : Nat) : Int), rawInt 0], []⟩) (LtSpec l b its its2 n n2 r)) :
    Meets (Builtin.«list.__eq__.loop» ⟨[.ref l, .ref b, rawInt i, rawInt 0], []⟩) (LtSpec l b its its2 n n2 r) := by
  intro prog w A R s h
  obtain ⟨hp, g0, d, tk, os⟩ := s; obtain ⟨hl, hb, h⟩ := h
  wp_walk using wpAny_loadPart' hl, wpAny_loadPart' hb
  have e1 : its[((i : Nat) : Int).toNat]? = some (.int x t) := by simpa using h1
  have e2 : its2[((i : Nat) : Int).toNat]? = some (.int x u) := by simpa using h2
  rw [e1, e2]
  have e3 : (x == x) = true := by simp
  refine wpAny_bind (EqGives.int x x t u prog w _ _ _ _ ?_)
  rw [e3]
  wp_walk
  have hc : ((i : Int) + 1) = ((i + 1 : Nat) : Int) := by push_cast; rfl
  rw [hc]
  exact ⟨plainId_quiet plain_eq_loop _, codeAny_builtin entry_eq_loop (by
        rw [Around.under_plainId plain_eq_loop _]
        exact g prog w A R _ ⟨hl, hb, h⟩)⟩
theorem lt_end (h1 : its[i]? = none) (h2 : its2[i]? = none) (hs : its.size = its2.size) :
    Meets (Builtin.«list.__eq__.loop» ⟨[.ref l, .ref b, rawInt i, rawInt 0], []⟩) (LtSpec l b its its2 n n2 false) := by
  intro prog w A R s h
  obtain ⟨hp, g0, d, tk, os⟩ := s; obtain ⟨hl, hb, h⟩ := h
  wp_walk using wpAny_loadPart' hl, wpAny_loadPart' hb
  have e1 : its[((i : Nat) : Int).toNat]? = none := by simpa using h1
  have e2 : its2[((i : Nat) : Int).toNat]? = none := by simpa using h2
  rw [e1, e2]
  wp_walk using wpAny_loadPart' hl, wpAny_loadPart' hb
  show R (.ok (.ret (.bool (decide (its.size < its2.size))))) _
  rw [hs]
  simpa using h
end

theorem lt_rows_loop (l b : Addr) (x y : Row) (t1 t2 t3 u1 u2 u3 : Tok) (n n2 : Nat) :
    Meets (Builtin.«list.__eq__.loop» ⟨[.ref l, .ref b, rawInt 0, rawInt 0], []⟩) (LtSpec l b (rowArr x t1 t2 t3) (rowArr y u1 u2 u3) n n2 (x.lt y)) := by
  obtain ⟨xv, xf, xs⟩ := x
  obtain ⟨yv, yf, ys⟩ := y
  unfold Row.lt
  by_cases h1 : xv = yv
  · subst h1
    refine lt_eq (i := 0) rfl rfl ?_
    by_cases h2 : xf = yf
    · subst h2
      refine lt_eq (i := 1) rfl rfl ?_
      by_cases h3 : xs = ys
      · subst h3
        have e : decide (xs < xs) = false := by simp
        simp only [if_true, e]
        exact lt_eq (i := 2) rfl rfl (lt_end (i := 3) rfl rfl rfl)
      · simp only [if_true]
        exact lt_ne (i := 2) rfl rfl h3
    · simp only [if_true, if_neg h2]
      exact lt_ne (i := 1) rfl rfl h2
  · simp only [if_neg h1]
    exact lt_ne (i := 0) rfl rfl h1

theorem lt_rows_meets (l b : Addr) (x y : Row) (t1 t2 t3 u1 u2 u3 : Tok) (n n2 : Nat) :
    Meets (Builtin.«list.__lt__» ⟨[.ref l, .ref b], []⟩) (LtSpec l b (rowArr x t1 t2 t3) (rowArr y u1 u2 u3) n n2 (x.lt y)) := by
  intro prog w A R s h
  obtain ⟨hp, g, d, tk, os⟩ := s; obtain ⟨hl, hb, h⟩ := h
  have f3 := AutoSeq1.sub_list_list
  wp_walk using wpAny_loadPart' hl, wpAny_loadPart' hb
  exact ⟨plainId_quiet plain_eq_loop _, codeAny_builtin entry_eq_loop (by
    rw [Around.under_plainId plain_eq_loop _]
    exact lt_rows_loop l b x y t1 t2 t3 u1 u2 u3 n n2 prog w A R _ ⟨hl, hb, h⟩)⟩

theorem lt_rows {prog : Program} {w : World} {A : Around} {E : Value → Shared → Prop} {s : Shared} {Q : Value → Shared → Prop} {l b : Addr} {x y : Row} {t1 t2 t3 u1 u2 u3 : Tok} {n n2 : Nat}
    (hl : s.heap.get? l = some (listOf (rowArr x t1 t2 t3) n)) (hb : s.heap.get? b = some (listOf (rowArr y u1 u2 u3) n2)) (hu : A.units < cLine) (h : Q (.bool (x.lt y)) s) :
    wpAny (model prog w) A (compareOp .Lt (.ref l) (.ref b)) Q E s :=
  cmp_ofLt (richCompare_meets_room (T := "list") ⟨_, hl, rfl⟩ ⟨_, hb, rfl⟩ F.slot_list_lt F.entry_list_lt (F.args_list_lt_2 _ _) (lt_rows_meets l b x y t1 t2 t3 u1 u2 u3 n n2) ⟨hl, hb, by exact ⟨nofun, h⟩⟩ hu)
end Mine
end

section -- B2
open PySem PySem.W PyProof.Rows
set_option maxRecDepth 100000
namespace Mine
def Hold (p : Prop) : Prop := p
theorem hold_of {p : Prop} (h : Hold p) : p := h
theorem of_hold {p : Prop} (h : p) : Hold p := h

theorem look_kst : ∀ (bs : List (Str × Value)) (y : Str), List.lookup y bs = kstB (fun _ => none) bs y
  | [], _ => rfl
  | (k, v) :: r, y => by
    show List.lookup y ((k, v) :: r) = if y = k then some v else kstB (fun _ => none) r y
    rw [List.lookup_cons]
    by_cases h : y = k
    · subst h; simp
    · rw [if_neg h]
      have : (y == k) = false := by simpa using h
      rw [this]
      exact look_kst r y
theorem fr_binds {g h : Heap} {L : Addr} (bs : List (Str × Value)) (F : Fr g L h (fun y => List.lookup y bs)) : Fr g L h (kstB (fun _ => none) bs) := by
  have : (fun y => List.lookup y bs) = kstB (fun _ => none) bs := funext (look_kst bs)
  rw [← this]; exact F

def tokAt {h₀ h : Heap} {L : Addr} {m : Str → Option Value} (_ : Fr h₀ L h m) (x : String) : Tok := match m (Str.ofString x) with | some (.int _ t) => t | some (.str _ t) => t | some (.bytes _ t) => t | _ => 0
abbrev kmap {σ : Type} (ps : σ → List (Str × Value)) (stored : List Str) (m₀ u : Str → Option Value) (c : σ) : Str → Option Value := kstB (fun z => if stored.contains z then u z else m₀ z) (ps c)
def LoopEnd {σ : Type} (h₀ : Heap) (L : Addr) (s : Shared) (Led : σ → List (Addr × Obj)) (ps : σ → List (Str × Value)) (stored : List Str) (m₀ : Str → Option Value) (Pend : σ → Prop) (f : Flow) (s' : Shared) : Prop :=
  f = .next ∧ ∃ (c : σ) (u : Str → Option Value) (h : Heap) (tk : Nat), s' = { s with heap := h, toks := tk } ∧ Pend c ∧ Fr h₀ L h (kmap ps stored m₀ u c) ∧ News h₀ L h (Led c)
section
variable {prog : Program} {w : World} {A : Around} {Q : Flow → Shared → Prop} {s : Shared} {env : Env} {h₀ : Heap} {L : Addr}
abbrev noE : Value → Shared → Prop := fun _ _ => False
theorem while_rule {σ : Type} {test : PySem.Expr} {body : List Stmt} {pos : Pos} {m₀ : Str → Option Value} (Led : σ → List (Addr × Obj)) (ps : σ → List (Str × Value)) (stored : List Str) (P Pend : σ → Prop) (μ : σ → Nat) (c₀ : σ)
    (F : Fr h₀ L s.heap m₀) (N : News h₀ L s.heap (Led c₀)) (hk : ∀ p ∈ ps c₀, m₀ p.1 = some p.2) (hp : P c₀)
    (turn : ∀ (c : σ) (u : Str → Option Value) h tk, P c → Fr h₀ L h (kmap ps stored m₀ u c) → News h₀ L h (Led c) →
      wpAny (model prog w) A (isTrue test env (eval test env)) (fun b s₂ =>
        if b = true then wpAny (model prog w) A (execs body env) (KswPost h₀ L s Led ps (fun _ => True) stored m₀ P μ (LoopEnd h₀ L s Led ps stored m₀ Pend) c) noE s₂ else LoopEnd h₀ L s Led ps stored m₀ Pend .next s₂) noE { s with heap := h, toks := tk })
    (after : ∀ (c : σ) (u : Str → Option Value) h tk, Pend c → Fr h₀ L h (kmap ps stored m₀ u c) → News h₀ L h (Led c) → Q .next { s with heap := h, toks := tk })
    (hE : PassesOwn (model prog w) A env noE := by passes_own) :
    Hold (wpAny (model prog w) A (exec (.While test body [] pos) env) Q noE s) := by
  refine wpAny_mono (ksw_while (Q := LoopEnd h₀ L s Led ps stored m₀ Pend) Led ps (fun _ => True) stored P μ c₀ F N trivial hk hp (fun c u h tk _ hP F N => turn c u h tk hP F N) hE) ?_ (fun _ _ x => x)
  rintro f s' ⟨rfl, c, u, h, tk, rfl, hP, F, N⟩
  exact after c u h tk hP F N
theorem loop_end {σ : Type} {Led : σ → List (Addr × Obj)} {ps : σ → List (Str × Value)} {stored : List Str} {m₀ m' : Str → Option Value} {Pend : σ → Prop} {h : Heap} {tk : Nat} {news' : List (Addr × Obj)} (c : σ)
    (F : Fr h₀ L h m') (N : News h₀ L h news') (hn : ∀ p ∈ Led c, p ∈ news') (hk : ∀ p ∈ ps c, m' p.1 = some p.2) (hr : ∀ z, (∀ p ∈ ps c, z ≠ p.1) → stored.contains z = false → m' z = m₀ z) (hp : Pend c) :
    LoopEnd h₀ L s Led ps stored m₀ Pend .next { s with heap := h, toks := tk } :=
  ⟨rfl, c, m', h, tk, rfl, hp, ksw_fr hk hr F, fun p hp => N p (hn p hp)⟩
end
section
variable {prog : Program} {w : World} {A : Around} {s : Shared} {h₀ : Heap} {L D : Addr} {m : Str → Option Value} {rest : List (Addr × Obj)} {l : List Value} {n k : Nat} {t : Tok} {v : Value} {E : Value → Shared → Prop}
theorem set_list {kk : Int} {Q : Unit → Shared → Prop} (F : Fr h₀ L s.heap m) (N : News h₀ L s.heap ((D, listOf l.toArray n) :: rest)) (hrest : ∀ p ∈ rest, p.1 ≠ D) (hkk : kk = (k : Int)) (hk : k < l.length) (hfit : k < 1000)
    (h : ∀ h', Fr h₀ L h' m → News h₀ L h' ((D, listOf (l.set k v).toArray n) :: rest) → Q () { s with heap := h' }) : wpAny (model prog w) A (setItem (.ref D) (.int kk t) v) Q E s := by
  subst hkk
  have z := N (D, listOf l.toArray n) (.head _)
  refine ki_setAt z.1 (by omega) (by omega) (by rw [List.size_toArray]; omega) (h _ (F.change (Heap.SameBut.update ..) z.2.1 z.2.2) (ki_turn (pre := []) _ N (fun _ h => nomatch h) hrest ?_ ?_))
  · show l.toArray.setIfInBounds (k : Int).toNat v = (l.set k v).toArray
    apply Array.toList_inj.mp
    simp
  · simp
theorem get_list {kk : Int} {value slice : PySem.Expr} {x : Value} {Q : Value → Shared → Prop} (N : News h₀ L s.heap ((D, listOf l.toArray n) :: rest)) (hkk : kk = (k : Int)) (hx : l[k]? = some x) (hfit : k < 1000) (h : Q x s)
    (hs : subscripted slice false (.ref D) (.int kk t) = operate [.ref D, .int kk t] (getItem (.ref D) (.int kk t)) := by with_unfolding_all rfl) (hg : ∀ r, letTemporaryGo value (.ref D) r = pure () := by intro _; with_unfolding_all rfl) :
    wpAny (model prog w) A (subscriptTail value slice (.ref D) (.int kk t)) Q E s := by
  subst hkk
  exact item_listL (News.isList N (.head _)) (by omega) (by omega) (by simpa using hx) h hs hg
theorem len_list {Q : Value → Shared → Prop} (N : News h₀ L s.heap ((D, listOf l.toArray n) :: rest)) (hfit : l.length < 1000) (h : Q (.int (l.length : Int) (s.toks + 1)) { s with toks := s.toks + 1 + 1 }) :
    wpAny (model prog w) A (call (.builtin "len") [.ref D]) Q E s :=
  PySem.Calls.call_len_list (News.isList N (.head _)) (by rw [List.size_toArray]; omega) (by rw [List.size_toArray]; exact h)
end
theorem forall_sub {α : Type} {a b : List α} {P : α → Prop} (h : ∀ p ∈ b, P p) (hs : ∀ p ∈ a, p ∈ b) : ∀ p ∈ a, P p := fun p hp => h p (hs p hp)
theorem news_sub {h₀ h : Heap} {L : Addr} {a b : List (Addr × Obj)} (hs : ∀ p ∈ a, p ∈ b) (N : News h₀ L h b) : News h₀ L h a := fun p hp => N p (hs p hp)
end Mine
end

section -- B3
open PySem PySem.W PyProof.Rows
set_option maxRecDepth 100000
namespace Mine
open PySem.Calls
open PySem.AutoSeq1 (wpAny_loadPart')
section
variable {prog : Program} {w : World} {A : Around} {s : Shared} {E : Value → Shared → Prop}
abbrev riObj (x left step : Int) : Obj := { cls := .type "range_iterator", data := .fields #[rawInt x, rawInt left, rawInt step] }

theorem rev02_meets (r : Addr) (t u v : Tok) : Meets (Builtin.«range.__reversed__» ⟨[.ref r], []⟩)
    (fun _ R s => IsRange s.heap r 0 2 1 t u v ∧ R (.ok (.ret (.ref s.heap.objs.size))) { s with heap := s.heap.push (riObj 1 2 (-1)) }) := by
  intro prog w A R s h
  obtain ⟨hp, g, d, tk, os⟩ := s; obtain ⟨hr, h⟩ := h
  wp_walk using wpAny_loadPart' hr
  exact h
theorem call_range_reversed {r : Addr} {t u v : Tok} {Q : Value → Shared → Prop} (hr : IsRange s.heap r 0 2 1 t u v)
    (h : Q (.ref s.heap.objs.size) { s with heap := s.heap.push (riObj 1 2 (-1)) }) : wpAny (model prog w) A (call (.builtin "range.__reversed__") [.ref r]) Q E s :=
  call_meets F.slot_range_reversed ⟨_, hr, rfl⟩ F.entry_range_reversed (F.args_range_reversed_1 _) (rev02_meets r t u v) ⟨hr, h⟩
theorem sub_ri_reversed : isSubtype (.type "range_iterator") (.type "reversed") = pure false := by rw [isSubtype_type]; kernel_rfl
theorem code_reversed_newR {r : Addr} {t u v : Tok} {Q₁ : Value → Shared → Prop} (hr : IsRange s.heap r 0 2 1 t u v)
    (h : Q₁ (.ref s.heap.objs.size) { s with heap := s.heap.push (riObj 1 2 (-1)) }) :
    codeAny (model prog w) A (.call (.builtin "reversed.__new__") ⟨[.type "reversed", .ref r], []⟩) (wants Q₁ E) s := by
  have hT : s.TypeIs (.ref r) "range" := ⟨_, hr, rfl⟩
  refine codeAny_of_tree ?_
  show wpAny _ A.in1 (do checkBuiltinCall "reversed.__new__" ⟨[.type "reversed", .ref r], []⟩; again (.builtin "reversed.__new__" ⟨[.type "reversed", .ref r], []⟩)) _ _ s
  refine wpAny_bind (wpAny_of_eq (F.newCall_reversed_1 _) (wpAny_pure ⟨plainId_quiet F.plain_reversed_new _, codeAny_builtin F.entry_reversed_new ?_⟩))
  rw [Around.under_plainId F.plain_reversed_new _]
  unfold Builtin.«reversed.__new__»
  refine wpAny_bind (wpAny_of_eq (newClass_reversed _) ?_)
  try dsimp only
  refine wpAny_bind (wpAny_of_eq (a := ()) (by first | rfl | kernel_rfl) ?_)
  refine wpAny_bind (wpAny_of_eq (a := ()) (by first | rfl | kernel_rfl) ?_)
  try dsimp only
  refine wpAny_bind (wpAny_specialOf hT F.slot_range_reversed.lookup ?_)
  try dsimp only
  refine wpAny_bind (wpAny_of_eq (F.slot_range_reversed.bind _) ?_)
  try dsimp only
  first
  | rw [if_neg (show ¬ ((Value.builtin "range.__reversed__" == Value.none) = true) from Bool.false_ne_true)]
  | (show wpAny _ _ (if (Value.builtin "range.__reversed__" == Value.none) = true then _ else _) _ _ _; rw [if_neg (show ¬ ((Value.builtin "range.__reversed__" == Value.none) = true) from Bool.false_ne_true)])
  refine wpAny_bind (wpAny_rule ?_)
  refine wpAny_bind (m := runValue (.call (.builtin "range.__reversed__") ⟨[.ref r], []⟩)) (show wpAny _ _ (call (.builtin "range.__reversed__") [.ref r]) _ _ _ from call_range_reversed hr ?_)
  first
  | exact wpAny_pure h
  | exact wpAny_bind (wpAny_pure (wpAny_pure h))

theorem call_reversed_range {r : Addr} {t u v : Tok} {Q : Value → Shared → Prop} (hr : IsRange s.heap r 0 2 1 t u v)
    (h : Q (.ref s.heap.objs.size) { s with heap := s.heap.push (riObj 1 2 (-1)) }) : wpAny (model prog w) A (call (.type "reversed") [.ref r]) Q E s := by
  refine callType_other (U := "range_iterator") (Q₁ := fun obj s₁ => obj = .ref s.heap.objs.size ∧ s₁ = { s with heap := s.heap.push (riObj 1 2 (-1)) }) (by decide +kernel) F.create_reversed ⟨_, _, F.mro_reversed⟩ F.made_reversed sub_ri_reversed (F.typeCall_reversed_1 _) (code_reversed_newR hr ⟨rfl, rfl⟩) ?_
  rintro obj s₁ ⟨rfl, rfl⟩
  exact ⟨⟨_, Heap.get?_push_size _ rfl, rfl⟩, h⟩
end

theorem cells_five {cm : Str → Option Value} {n1 n2 n3 n4 n5 : Str} {c1 c2 c3 c4 c5 : Addr} {cells : List (Addr × Obj)} (x : CellsAre cm [(n1, c1), (n2, c2), (n3, c3), (n4, c4), (n5, c5)] cells) :
    ∃ o1 o2 o3 o4 o5, cells = [(c1, o1), (c2, o2), (c3, o3), (c4, o4), (c5, o5)] ∧ o1.data = .cell (cm n1) ∧ o2.data = .cell (cm n2) ∧ o3.data = .cell (cm n3) ∧ o4.data = .cell (cm n4) ∧ o5.data = .cell (cm n5) := by
  cases x with | cons h1 x => cases x with | cons h2 x => cases x with | cons h3 x => cases x with | cons h4 x => cases x with | cons h5 x => cases x with
    | nil => exact ⟨_, _, _, _, _, rfl, h1, h2, h3, h4, h5⟩
def ForS {σ : Type} (Led : σ → List (Addr × Obj)) (ps : σ → List (Str × Value)) (x : Str) (stored : List Str) (m₀ : Str → Option Value) (P : Nat → σ → Prop) (i : Nat) (m : Str → Option Value) (nx : List (Addr × Obj)) : Prop :=
  ∃ c : σ, nx = Led c ∧ (∀ p ∈ ps c, m p.1 = some p.2) ∧ (∀ z, z ≠ x → (∀ p ∈ ps c, z ≠ p.1) → stored.contains z = false → m z = m₀ z) ∧ P i c
section
variable {prog : Program} {w : World} {A : Around} {s : Shared} {env : Env} {h₀ : Heap} {x : Str} {body : List Stmt} {Q : Flow → Shared → Prop}
theorem for_walks {σ : Type} {I : Addr} {n : Nat} {Pv : Nat → Value → Prop} {St : Nat → Heap → Prop} {fp : List Addr} {m₀ : Str → Option Value} (W : Walks prog w A I fp [I] n Pv St) (Led : σ → List (Addr × Obj)) (ps : σ → List (Str × Value)) (stored : List Str) (P : Nat → σ → Prop) (c₀ : σ)
    (hL : env.locals ∉ fp) (hI : h₀.get? I = none) (hst : St 0 s.heap) (hfp : ∀ q ∈ Led c₀, q.1 ∉ fp) (hIfp : I ∈ fp)
    (F : Fr h₀ env.locals s.heap m₀) (N : News h₀ env.locals s.heap (Led c₀)) (hk : ∀ p ∈ ps c₀, m₀ p.1 = some p.2) (hp : P 0 c₀)
    (turn : ∀ (i : Nat) (v : Value) (c : σ) (u : Str → Option Value) h tk own, i < n → Pv i v → OwnOff own ((Led c₀).map (·.1)) → P i c →
      Fr h₀ env.locals h (fun y => if y = x then some v else kmap ps stored m₀ u c y) → News h₀ env.locals h (Led c ++ own) →
      wpAny (model prog w) A (execs body env) (InvPostN h₀ env.locals (ForS Led ps x stored m₀ P (i + 1)) own ((Led c₀).map (·.1)) { s with heap := h, toks := tk } Q) noE { s with heap := h, toks := tk })
    (done : ∀ (c : σ) (u : Str → Option Value) h tk, P n c → Fr h₀ env.locals h (fun y => if y = x then u y else kmap ps stored m₀ u c y) → News h₀ env.locals h (Led c) → Q .next { s with heap := h, toks := tk }) :
    LoopAtV prog w A h₀ env x body Q noE (.ref I) s := by
  refine loop_invN (fun i m nx => ForS Led ps x stored m₀ P i m nx) W hL ?_ ?_ hfp hst F N ⟨c₀, rfl, hk, fun _ _ _ _ => rfl, hp⟩ ?_ ?_
  · intro b hb
    rw [List.mem_singleton.mp hb]; exact hI
  · intro p hp hq
    rw [List.mem_singleton] at hq
    exact hfp p hp (hq ▸ hIfp)
  · rintro i v m₁ nx h tk own hi hPv _ hoff ⟨c, rfl, h1, h2, hp'⟩ F₁ N₁
    exact turn i v c m₁ h tk own hi hPv hoff hp' (kst_fr h1 h2 F₁) N₁
  · rintro m₁ nx h tk ⟨c, rfl, h1, h2, hp'⟩ F₁ N₁
    exact done c m₁ h tk hp' (kst_frOut h1 h2 F₁) N₁
theorem for_next {σ : Type} {Led : σ → List (Addr × Obj)} {ps : σ → List (Str × Value)} {stored : List Str} {P : Nat → σ → Prop} {m₀ m' : Str → Option Value} {L : Addr} {i : Nat} {own news' : List (Addr × Obj)} {adr : List Addr} {h : Heap} {tk : Nat} (c : σ)
    (F : Fr h₀ L h m') (N : News h₀ L h news') (hn : ∀ p ∈ Led c, p ∈ news') (ho : ∀ p ∈ own, p ∈ news') (ha : (Led c).map (·.1) = adr)
    (hk : ∀ p ∈ ps c, m' p.1 = some p.2) (hr : ∀ z, z ≠ x → (∀ p ∈ ps c, z ≠ p.1) → stored.contains z = false → m' z = m₀ z) (hp : P i c) :
    InvEndN h₀ L (ForS Led ps x stored m₀ P i) own adr s { s with heap := h, toks := tk } :=
  ⟨h, tk, m', news', Led c, rfl, F, N, hn, ho, ha, c, rfl, hk, hr, hp⟩
end
end Mine
end

section -- B4
open PySem PySem.W PyProof.Rows
set_option maxRecDepth 100000
namespace Mine
open PySem.Calls PyProof.Rows.LCg

theorem sub4 {α : Type} {a b c d : α} {Z : List α} : ∀ p ∈ b :: c :: d :: a :: Z, p ∈ a :: b :: c :: d :: Z := by
  intro p hp
  simp only [List.mem_cons] at hp ⊢
  rcases hp with h | h | h | h | h <;> simp [h]
def SrcW (prog : Program) (w : World) (A : Around) (E : Value → Shared → Prop) (h₀ : Heap) (L : Addr) (m : Str → Option Value) (env : Env) (elt : PySem.Expr) (x : Str) (scope : Scope) (cl : List (Str × Addr)) (Fin : Shared → List Value → List (Addr × Obj) → Prop) (xv : Value) (s₁ : Shared) : Prop :=
  ∃ (it : Obj) (fp : List Addr) (n : Nat) (P : Nat → Value → Prop) (St : Nat → Heap → Prop) (S : List (Addr × Obj) → Prop) (news : List (Addr × Obj)),
    Fr h₀ L s₁.heap m ∧ News h₀ L s₁.heap news ∧
    (∀ Q : Value → Shared → Prop, Q (.ref s₁.heap.objs.size) { s₁ with heap := s₁.heap.push it } → wpAny (model prog w) A (pyIter xv) Q E s₁) ∧
    Walks prog w A s₁.heap.objs.size fp [s₁.heap.objs.size] n P St ∧ n ≤ sizeLine ∧ (∀ i h, St i h → ∃ o, h.get? s₁.heap.objs.size = some o) ∧
    (∀ i h h' o nw, St i h → h.get? s₁.heap.objs.size = some o → h'.get? s₁.heap.objs.size = some o → (∀ b o, h₀.get? b = some o → h'.get? b = some o) → News h₀ L h' nw → S nw → St i h') ∧
    St 0 (s₁.heap.push it) ∧ (∀ b ∈ fp, b < (s₁.heap.push it).objs.size) ∧ S news ∧
    ∀ s₂ : Shared, (∃ h, s₂ = { s₁ with heap := h }) → CompRest prog w A h₀ L m env elt x scope cl s₂ S P (Fin s₂) n 0 [] news
section
variable {prog : Program} {w : World} {A : Around} {E : Value → Shared → Prop} {s : Shared} {h₀ : Heap} {L : Addr} {m : Str → Option Value} {env : Env}
theorem SrcW.tuple {elt : PySem.Expr} {x : Str} {scope : Scope} {cl : List (Str × Addr)} {Fin : Shared → List Value → List (Addr × Obj) → Prop} {ax : Addr} {its : Array Value} {k : Nat} {news : List (Addr × Obj)} {s₁ : Shared}
    (hh : A.handled = none) (F : Fr h₀ L s₁.heap m) (N : News h₀ L s₁.heap news) (hm : (ax, ({ cls := .type "tuple", data := .seq its k } : Obj)) ∈ news) (hsz : its.size ≤ sizeLine)
    (h : ∀ g, CompRest prog w A h₀ L m env elt x scope cl { s₁ with heap := g } (fun nw => (ax, ({ cls := .type "tuple", data := .seq its k } : Obj)) ∈ nw) (fun i v => its[i]? = some v) (Fin { s₁ with heap := g }) its.size 0 [] news) :
    SrcW prog w A E h₀ L m env elt x scope cl Fin (.ref ax) s₁ := by
  have ht : s₁.heap.IsTuple ax its := ⟨_, (N _ hm).1, rfl, _, rfl⟩
  have hlt : ax < s₁.heap.objs.size := Heap.lt_size (N _ hm).1
  refine ⟨{ cls := .type "tuple_iterator", data := .fields #[.ref ax, .int 0 0] }, [s₁.heap.objs.size, ax], its.size, _, _, _, news, F, N, fun Q q => wpAny_pyIter_tuple ht q, Walks.tuple hh s₁.heap.objs.size ax (Nat.ne_of_lt hlt) its, hsz, ?_, ?_, ?_, ?_, hm, fun s₂ ⟨g, e⟩ => e ▸ h g⟩
  · intro i h st; obtain ⟨o, e, _⟩ := st.1; exact ⟨o, e⟩
  · intro i h h' o nw st e e' _ N' S'
    refine ⟨?_, ⟨_, (N' _ S').1, rfl, _, rfl⟩⟩
    obtain ⟨o', q, r⟩ := st.1; rw [e] at q; cases q; exact ⟨o, e', r⟩
  · refine ⟨⟨_, Heap.get?_push_size _ rfl, rfl, rfl⟩, ?_⟩
    exact ⟨_, Heap.get?_push_of_some _ (N _ hm).1, rfl, _, rfl⟩
  · intro b hb
    rw [Heap.size_push]
    rcases List.mem_cons.mp hb with rfl | hb
    · exact Nat.lt_succ_self _
    · rw [List.mem_singleton.mp hb]; exact Nat.lt_succ_of_lt hlt
theorem SrcW.range {elt : PySem.Expr} {x : Str} {scope : Scope} {cl : List (Str × Addr)} {Fin : Shared → List Value → List (Addr × Obj) → Prop} {r : Addr} {a b c : Int} {t u v : Tok} {n : Nat} {news : List (Addr × Obj)} {s₁ : Shared}
    (hh : A.handled = none) (F : Fr h₀ L s₁.heap m) (N : News h₀ L s₁.heap news) (hr : IsRange s₁.heap r a b c t u v) (hsm : Builtin.Range.small a b c = true) (hn : Builtin.Range.rangeSize a b c = ((n : Nat) : Int)) (hsz : n ≤ sizeLine)
    (h : ∀ g, CompRest prog w A h₀ L m env elt x scope cl { s₁ with heap := g } (fun _ => True) (fun i v => ∃ t, v = .int (a + (i : Int) * c) t) (Fin { s₁ with heap := g }) n 0 [] news) :
    SrcW prog w A E h₀ L m env elt x scope cl Fin (.ref r) s₁ := by
  refine ⟨{ cls := .type "range_iterator", data := .fields #[rawInt a, rawInt (Builtin.Range.rangeSize a b c), rawInt c] }, [s₁.heap.objs.size], n, _, _, _, news, F, N, fun Q q => wpAny_pyIter_range hr hsm q, Walks.range hh s₁.heap.objs.size a c n, hsz, fun i h st => ⟨_, st⟩, ?_, ?_, ?_, trivial, fun s₂ ⟨g, e⟩ => e ▸ h g⟩
  · intro i h h' o nw st e e' _ _ _
    have st' : h.get? s₁.heap.objs.size = some _ := st
    show h'.get? s₁.heap.objs.size = some _
    rw [e', ← e]; exact st'
  · show IsRangeIter _ _ _ _ _
    rw [hn]; simpa using Heap.get?_push_size _ rfl
  · intro b hb
    rw [List.mem_singleton.mp hb, Heap.size_push]; exact Nat.lt_succ_self _

theorem ListComp_W {elt iter : PySem.Expr} {x : Str} {px : Pos} {scope : Scope} {cl : List (Str × Addr)} {pos : Pos} {Q : Value → Shared → Prop}
    (hclos : closureFor scope env = pure cl) (hcell : ∀ y ∈ scope.names, y.2 ≠ .cell) (hkind : scope.kind = .function)
    (hnames : ∀ y ∈ scope.names, y.2 = .local → scope.names.lookup y.1 = some .local) (hx : scope.names.lookup x = some .local)
    (h : wpAny (model prog w) A (eval iter env) (SrcW prog w A E h₀ L m env elt x scope cl (fun s₂ => FinE h₀ L m s₂ Q)) E s)
    (hs : ∀ x, foldedSetIterable iter env x = pure x) :
    wpAny (model prog w) A (eval (.ListComp elt [⟨.Name x px, iter, [], 0⟩] scope pos) env) Q E s := by
  rw [eval_ListComp]
  refine wpAny_comprehension_free (use := none) rfl hs hclos hkind hnames (wpAny_mono h (fun xv s₁ h₁ => ?_) fun _ _ e => e)
  obtain ⟨it, fp, n, P, St, S, news, F, N, hit, W, hsz, hIo, hSt, hst, hfp, hS, R⟩ := h₁
  refine hit _ ?_
  refine block_U W hsz hIo hSt hcell hkind hx hst hfp (F.push _) (fun p hp => ⟨Heap.get?_push_of_some _ (N p hp).1, (N p hp).2⟩) (Nat.ne_of_lt F.ns.lt) (next_is_new F) (fun p hp => Nat.ne_of_lt (Heap.lt_size (N p hp).1)) hS (R _ ⟨_, rfl⟩) ?_
  intro D C h tk m' ys news' F' N' o1 hn hC₀ hD₀ hCL hDL hCD offC fin
  refine ⟨m', hn, fun h'' hs'' => fin D h'' tk (F'.change hs'' hCL hC₀) (fun p hp => ?_) o1⟩
  refine ⟨hs''.extBut _ _ ?_ (N' p hp).1, (N' p hp).2⟩
  rcases List.mem_cons.mp hp with rfl | hp
  · exact Ne.symm hCD
  · exact offC p hp

theorem Assign_ListComp_W {elt iter : PySem.Expr} {x y : Str} {px py : Pos} {scope : Scope} {cl : List (Str × Addr)} {pos spos : Pos} {Q : Flow → Shared → Prop} (hLe : env.locals = L)
    (hsw : swapsWith (.ListComp elt [⟨.Name x px, iter, [], 0⟩] scope pos) (some (.Name y py)) spos.line env = pure true)
    (hclos : closureFor scope env = pure cl) (hcell : ∀ z ∈ scope.names, z.2 ≠ .cell) (hkind : scope.kind = .function)
    (hnames : ∀ z ∈ scope.names, z.2 = .local → scope.names.lookup z.1 = some .local) (hx : scope.names.lookup x = some .local)
    (hy : env.kindOf y = some .local) (hp : (env.scope.kind == .class || (env.scope.kind == .module && env.locals != env.globals)) = false)
    (h : wpAny (model prog w) A (eval iter env) (SrcW prog w A E h₀ L m env elt x scope cl (fun s₂ => FinA h₀ L m s₂ y Q)) E s)
    (hs : ∀ x, foldedSetIterable iter env x = pure x) :
    wpAny (model prog w) A (exec (.Assign [.Name y py] (.ListComp elt [⟨.Name x px, iter, [], 0⟩] scope pos) spos) env) Q E s := by
  subst hLe
  rw [exec_Assign_Name_used _ _ _ _ hsw]
  refine wpAny_bind (wpAny_standAt (wpAny_bind ?_))
  show wpAny _ A (do let _ ← comprehension (.ListComp elt [⟨.Name x px, iter, [], 0⟩] scope pos) scope env _ (newList []) false (eval iter env) (some (assign (.Name y py) env))) _ _ s
  refine wpAny_bind (wpAny_mono (wpAny_comprehension_free (use := some (assign (.Name y py) env)) (Q := fun _ s' => Q .next s') rfl hs hclos hkind hnames
    (wpAny_mono h (fun xv s₁ h₁ => ?_) fun _ _ e => e)) (fun _ s' hq => wpAny_pure (wpAny_pure hq)) fun _ _ e => e)
  obtain ⟨it, fp, n, P, St, S, news, F, N, hit, W, hsz, hIo, hSt, hst, hfp, hS, R⟩ := h₁
  refine hit _ ?_
  refine block_U W hsz hIo hSt hcell hkind hx hst hfp (F.push _) (fun p hp => ⟨Heap.get?_push_of_some _ (N p hp).1, (N p hp).2⟩) (Nat.ne_of_lt F.ns.lt) (next_is_new F) (fun p hp => Nat.ne_of_lt (Heap.lt_size (N p hp).1)) hS (R _ ⟨_, rfl⟩) ?_
  intro D C h' tk m' ys news' F' N' o1 hn hC₀ hD₀ hCL hDL hCD offC fin
  show wpAny _ A (assign (.Name y py) env (.ref D)) _ _ _
  refine wpAny_assign_Name (wpAny_storeName_local hy F'.ns (fun h₂ hn₂ hs₂ => ?_) hp)
  have hL₀ : h₀.get? env.locals = none := Heap.get?_none_of_le F'.above
  have F₂ : Fr h₀ env.locals h₂ (fun z => if z = y then some (.ref D) else m z) := ⟨hn₂, fun b o e => hs₂.extBut b o (fun q => by rw [q, hL₀] at e; cases e) (F'.keep b o e), F'.above⟩
  refine ⟨m', hn.sameBut hs₂ hCL, fun h'' hs'' => fin D h'' _ (F₂.change hs'' hCL hC₀) (fun p hp => ?_) o1⟩
  have z : h₂.get? p.1 = some p.2 := hs₂.extBut _ _ (N' p hp).2.1 (N' p hp).1
  refine ⟨hs''.extBut _ _ ?_ z, (N' p hp).2⟩
  rcases List.mem_cons.mp hp with rfl | hp
  · exact Ne.symm hCD
  · exact offC p hp
end
section
variable {prog : Program} {w : World} {A : Around} {E : Value → Shared → Prop} {s : Shared} {h₀ : Heap} {L D b : Addr} {m : Str → Option Value} {rest : List (Addr × Obj)} {l l2 : List Value} {n n2 : Nat}
theorem list_iadd_lookup : typeLookup (.type "list") (dunderI "add") = pure (some (.builtin "list.__iadd__")) := F.slot_list_iadd.lookup
theorem list_no_num : fillsNumberSlot (.type "list") "add" = pure false := by
  unfold fillsNumberSlot
  have h1 : typeLookup (.type "list") (dunder "add") = pure (some (.builtin "list.__add__")) := F.slot_list_add.lookup
  have h2 : typeLookup (.type "list") (dunderR "add") = pure none := by rw [typeLookup_type, builtinLookup_eq_fast]; kernel_rfl
  simp only [h1, h2, pure_bind]
  kernel_rfl
theorem iadd_list {Q : Value → Shared → Prop} (F : Fr h₀ L s.heap m) (N : News h₀ L s.heap ((D, listOf l.toArray n) :: rest)) (hb : (b, listOf l2.toArray n2) ∈ rest) (hrest : ∀ p ∈ rest, p.1 ≠ D) (hsz : l.length + l2.length < 1000)
    (h : ∀ h' n', Fr h₀ L h' m → News h₀ L h' ((D, listOf (l ++ l2).toArray n') :: rest) → Q (.ref D) { s with heap := h' }) : wpAny (model prog w) A (inplaceOp .Add (.ref D) (.ref b)) Q E s := by
  have z := N (D, listOf l.toArray n) (.head _)
  have zb := N (b, listOf l2.toArray n2) (.tail _ hb)
  have ta : s.TypeIs (.ref D) "list" := ⟨_, z.1, rfl⟩
  have tb : s.TypeIs (.ref b) "list" := ⟨_, zb.1, rfl⟩
  unfold inplaceOp
  refine wpAny_holding ?_
  have hfi : fillsInplaceSlot (.type "list") "add" (Operator.Add == .Add) = pure false := by
    unfold fillsInplaceSlot
    show (typeLookup (.type "list") (dunderI "add") >>= fun fi => pure (fi.isSome && !isSeqSlot fi)) = pure false
    rw [list_iadd_lookup]; rfl
  have hsi : seqSlot? (.type "list") (dunderI "add") = pure (some (.builtin "list.__iadd__")) := by
    unfold seqSlot?
    rw [list_iadd_lookup]; rfl
  refine wpAny_bind (wpAny_typeOf ta (wpAny_bind (wpAny_of_eq hfi ?_)))
  show wpAny _ A (if false = true then _ else _) Q E s
  rw [if_neg Bool.false_ne_true]
  refine wpAny_bind (wpAny_binaryOp1_none (nm := "add") ta tb list_no_num ?_)
  refine wpAny_bind (wpAny_of_eq hsi ?_)
  refine wpAny_bind (wpAny_rule ?_)
  refine call_meets PySem.F.slot_list_iadd ta PySem.F.entry_list_iadd (PySem.F.args_list_iadd_2 _ _) (AutoSeq1.list___iadd___list_list_0 D l.toArray n b l2.toArray n2 ?_ ?_ ?_) ⟨z.1, zb.1, ?_⟩
  · have : Builtin.List.listTooLong (l.toArray.size + l2.toArray.size) = false := by
      unfold Builtin.List.listTooLong
      have hsl := sizeLine_eq
      simp; omega
    rw [this]; simp
  · rw [sizeLine_eq]; simp; omega
  · rw [sizeLine_eq]; simp; omega
  · refine h _ _ (F.change (Heap.SameBut.update ..) z.2.1 z.2.2) (ki_turn (pre := []) (fun x => x ++ l2.toArray) N (fun _ h => nomatch h) hrest ?_ rfl)
    simp
end
section
variable {prog : Program} {w : World} {A : Around} {E : Value → Shared → Prop} {s : Shared} {h₀ : Heap} {L D : Addr} {news : List (Addr × Obj)} {l : List Value} {n : Nat} {t : Tok}
theorem get_mem {k : Nat} {kk : Int} {value slice : PySem.Expr} {x : Value} {Q : Value → Shared → Prop} (N : News h₀ L s.heap news) (hm : (D, listOf l.toArray n) ∈ news) (hkk : kk = (k : Int)) (hx : l[k]? = some x) (hfit : k < 1000) (h : Q x s)
    (hs : subscripted slice false (.ref D) (.int kk t) = operate [.ref D, .int kk t] (getItem (.ref D) (.int kk t)) := by with_unfolding_all rfl) :
    wpAny (model prog w) A (subscriptTail value slice (.ref D) (.int kk t)) Q E s := by
  subst hkk
  have hl := News.isList N hm
  exact tail_any hl.typeIs slot_list_getitem.lookup (wpAny_getItem_list hl (by omega) (by omega) (by simpa using hx) h) hs
end
theorem news_dup {h₀ h : Heap} {L : Addr} {news : List (Addr × Obj)} {p : Addr × Obj} (N : News h₀ L h news) (hp : p ∈ news) : News h₀ L h (p :: news) := fun q hq => by
  rcases List.mem_cons.mp hq with rfl | hq
  · exact N _ hp
  · exact N _ hq
theorem ints3 (r : Row) (t1 t2 t3 : Tok) : IntsAre [.int r.v t1, .int r.f t2, .int r.s t3] [r.v, r.f, r.s] := .cons _ _ (.cons _ _ (.cons _ _ .nil))
theorem ne_same_row {prog : Program} {w : World} {A : Around} {E : Value → Shared → Prop} {s : Shared} {a b : Addr} {r : Row} {t1 t2 t3 u1 u2 u3 : Tok} {n1 n2 : Nat} {Q : Value → Shared → Prop}
    (ha : s.heap.get? a = some (listOf (rowArr r t1 t2 t3) n1)) (hb : s.heap.get? b = some (listOf (rowArr r u1 u2 u3) n2)) (hu : A.units + 64 < cLine) (h : Q (.bool false) s) :
    wpAny (model prog w) A (compareOp .NotEq (.ref a) (.ref b)) Q E s := by
  refine ke_ne_ints (xs := [.int r.v t1, .int r.f t2, .int r.s t3]) (ys := [.int r.v u1, .int r.f u2, .int r.s u3]) (ns := [r.v, r.f, r.s]) (ms := [r.v, r.f, r.s]) ⟨_, ha, rfl, _, rfl⟩ ⟨_, hb, rfl, _, rfl⟩ (ints3 r _ _ _) (ints3 r _ _ _) hu ?_
  simpa using h
theorem off1_mem {D : Addr} : ∀ {l : List (Addr × Obj)}, Off1 D l → ∀ p ∈ l, p.1 ≠ D
  | [], _ => fun _ h => absurd h List.not_mem_nil
  | _ :: _, x => fun p hp => by
    rcases List.mem_cons.mp hp with rfl | hp
    · exact x.1
    · exact off1_mem x.2 p hp
theorem mem2 {α : Type} {a b p : α} {Z : List α} (h : p ∈ a :: b :: Z) : p ∈ b :: a :: Z := by
  simp only [List.mem_cons] at h ⊢
  rcases h with h | h | h <;> simp [h]
theorem comp_ind {α : Type} {CR : Nat → Nat → List Value → List (Addr × Obj) → Prop} (J : Nat → α → Prop) (ys : α → List Value) (nw : α → List (Addr × Obj)) (n : Nat) (c₀ : α) (h0 : J 0 c₀)
    (step : ∀ k i c, i + (k + 1) = n → J i c → (∀ c', J (i + 1) c' → CR k (i + 1) (ys c') (nw c')) → CR (k + 1) i (ys c) (nw c)) (fin : ∀ c, J n c → CR 0 n (ys c) (nw c)) : CR n 0 (ys c₀) (nw c₀) := by
  have key : ∀ k i c, i + k = n → J i c → CR k i (ys c) (nw c) := by
    intro k
    induction k with
    | zero => intro i c hi hj; obtain rfl : i = n := by omega
              exact fin c hj
    | succ k ih => intro i c hi hj; exact step k i c hi hj fun c' hc' => ih (i + 1) c' (by omega) hc'
  exact key n 0 c₀ (by omega) h0
end Mine
end

section -- B5
open PySem PySem.W PyProof.Rows
set_option maxRecDepth 100000
namespace Mine
open PySem.Calls PySem.F Builtin Builtin.Str
section
variable {prog : Program} {w : World} {A : Around} {E : Value → Shared → Prop} {s : Shared} {d : Addr} {c : Nat} {t : Tok}
theorem slot_str_translate : Slot "str" "translate" "str.translate" :=
  .of (owner := "str") (n := "translate") (by rw [typeLookup_type, builtinLookup_eq_fast]; kernel_rfl) (by decide +kernel) (by decide +kernel) (by decide +kernel)
    (by first | exact .inl (by decide +kernel) | exact .inr (by decide +kernel)) (by rw [isSubtype_type]; kernel_rfl)
theorem type_str_translate : typeOf (.builtin "str.translate") = pure (.type "method_descriptor") := by show builtinType _ = _; rw [builtinType_eq_fast]; kernel_rfl
theorem entry_str_translate : entryFor table "str.translate" = some Builtin.«str.translate» := entryFor_of_tree (by kernel_rfl)
theorem args_str_translate_2 (a b : Value) : argsOk "str.translate" ⟨[a, b], []⟩ := by
  unfold argsOk; rw [signature?_of (id := "str.translate") (n := ['e', 't', 'a', 'l', 's', 'n', 'a', 'r', 't']) (o := ['r', 't', 's']) (by kernel_rfl) owner_str]; kernel_rfl
theorem getMethod_translate {x : Str} {pl : Sem Bool} {Q : Value × List Value → Shared → Prop} (h : Q (.builtin "str.translate", [.str x t]) s) : wpAny (model prog w) A (getMethod (.str x t) "translate" pl) Q E s :=
by
  with_reducible exact GM.of (.str x t) (typeIs_str _ _ _) slot_str_translate type_str_translate GM.noRef h
theorem tableLookup_keep {f : Int → Option Value} {Q : Builtin.Str.Mapped → Shared → Prop} (hd : (d == sysModules) = false) (hh : A.handled = none) (hm : s.heap.MapOf (intKind prog w) d f) (hv : f (c : Int) = none)
    (h : ∀ h' e, Heap.NewExc s.heap h' e "KeyError" → Q .keep { s with heap := h', toks := s.toks + 1 + 1 }) : wpAny (model prog w) A (Builtin.Str.tableLookup (.ref d) c) Q E s := by
  unfold Builtin.Str.tableLookup
  refine wpAny_bind (wpAny_attempt ?_)
  refine wpAny_bind (wpAny_mkInt ?_)
  refine wpAny_getItem_missing_of (intKind_is prog w _ _) hd hh hm hv ?_
  intro h' e hx
  refine wpAny_bind (wpAny_isInstance (T := "KeyError") (b := true) (let ⟨ob, _, h1, h2, _⟩ := hx.there; ⟨ob, h1, h2⟩) (by rw [isSubtype_type]; kernel_rfl) ?_)
  show wpAny _ _ (rule _ >>= _) _ _ _
  refine wpAny_bind (wpAny_rule ?_)
  exact wpAny_pure (h h' e hx)
theorem tl_stop {v : Value} {Q : Builtin.Str.Mapped → Shared → Prop} (h : Hold (wpAny (model prog w) A (Builtin.Str.tableLookup v c) Q E s)) : wpAny (model prog w) A (Builtin.Str.tableLookup v c) Q E s := h
theorem meets_translate {f : Int → Option Value} (hd : (d == sysModules) = false) (hv : f (c : Int) = none) (hc : c < 128) : MeetsIn prog w (Builtin.«str.translate» ⟨[.str ⟨#[c]⟩ t, .ref d], []⟩)
    (fun A R s => A.handled = none ∧ s.heap.MapOf (intKind prog w) d f ∧ ∀ h' e tk t', Heap.NewExc s.heap h' e "KeyError" → R (.ok (.ret (.str ⟨#[c]⟩ t'))) { s with heap := h', toks := tk }) :=
  .of_wp fun A R s ⟨hh, hm, h⟩ => by
    unfold Builtin.«str.translate»
    wp_walk using tl_stop
    refine of_hold (tableLookup_keep (A := A.in1) (c := c) hd (show A.in1.handled = none from hh) hm hv ?_)
    intro h' _ hx
    wp_walk using tl_stop
    exact ⟨_, rfl, h h' _ _ _ hx⟩
theorem call_translate {f : Int → Option Value} {h₀ : Heap} {L : Addr} {m : Str → Option Value} {news : List (Addr × Obj)} {Q : Value → Shared → Prop} (F : Fr h₀ L s.heap m) (N : News h₀ L s.heap news)
    (hd : (d == sysModules) = false) (hv : f (c : Int) = none) (hc : c < 128) (hh : A.handled = none) (hm : s.heap.MapOf (intKind prog w) d f)
    (h : ∀ h' tk t', Fr h₀ L h' m → News h₀ L h' news → Q (.str ⟨#[c]⟩ t') { s with heap := h', toks := tk }) : wpAny (model prog w) A (call (.builtin "str.translate") [.str ⟨#[c]⟩ t, .ref d]) Q E s :=
  call_meetsIn slot_str_translate (typeIs_str _ _ _) entry_str_translate (args_str_translate_2 _ _) (meets_translate hd hv hc)
    ⟨hh, hm, fun h' _ tk t' hx => h h' tk t' (F.keeps hx.keeps) (fun p hp => ⟨hx.keeps _ _ (N p hp).1, (N p hp).2⟩)⟩
theorem intKeys {es : Array DictEntry} (h : (es.all fun e => match e.key with | .int k _ => e.hash == hashInt k | _ => false) = true) : KeysOf (intKind prog w) es := by
  intro e he
  have := (Array.all_eq_true_iff_forall_mem.mp h) e he
  revert this
  cases hk : e.key with
  | int k u => intro this; exact ⟨k, by simp [intKind, Value.isInt], eq_of_beq this⟩
  | _ => intro this; exact absurd this Bool.false_ne_true
theorem noKeys {es : Array DictEntry} (h : ((List.range 16).all fun i => (findBy Value.isInt es ((65 + i : Nat) : Int)).isNone) = true) (c : Nat) (h1 : 65 ≤ c) (h2 : c ≤ 80) : findBy Value.isInt es (c : Int) = none := by
  have := List.all_eq_true.mp h (c - 65) (List.mem_range.mpr (by omega))
  rw [show 65 + (c - 65) = c by omega] at this
  simpa using this
end
end Mine
end

section -- B6
open PySem PySem.W PyProof.Rows
set_option maxRecDepth 100000
set_option maxHeartbeats 4000000
namespace Mine
open PySem.Calls PySem.F Builtin
section
abbrev boundObj (id : String) (v : Value) : Obj := { cls := .type "builtin_function_or_method", data := .fields #[.builtin id, v] }
theorem slot_md_get : Slot "method_descriptor" "__get__" "method_descriptor.__get__" :=
  .of (owner := "method_descriptor") (n := "__get__") (by rw [typeLookup_type, builtinLookup_eq_fast]; kernel_rfl) (by decide +kernel) (by decide +kernel) (by decide +kernel)
    (by first | exact .inl (by decide +kernel) | exact .inr (by decide +kernel)) (by rw [isSubtype_type]; kernel_rfl)
theorem entry_md_get : entryFor table "method_descriptor.__get__" = some Builtin.«method_descriptor.__get__» := entryFor_of_tree (by kernel_rfl)
theorem args_md_get (a b c : Value) : argsOk "method_descriptor.__get__" ⟨[a, b, c], []⟩ := by unfold argsOk; kernel_rfl
theorem look_append : typeLookup (.type "list") (Str.ofString "append") = pure (some (.builtin "list.append")) := F.slot_list_append.lookup
theorem meets_md_append (a : Addr) (xs : Array Value) (k : Nat) :
    Meets (Builtin.«method_descriptor.__get__» ⟨[.builtin "list.append", .ref a, .type "list"], []⟩) (fun _ R s => s.heap.get? a = some { cls := .type "list", dict := none, data := .seq xs k, slots := #[] } ∧ R (.ok (.ret (.ref s.heap.objs.size))) { s with heap := s.heap.push (boundObj "list.append" (.ref a)) }) :=
  Meets.of_wp fun prog w A R s hs => by
    obtain ⟨hp, g, d, tk, os⟩ := s
    obtain ⟨hx, hs⟩ := hs
    have hT : (⟨hp, g, d, tk, os⟩ : Shared).TypeIs (.ref a) "list" := ⟨_, hx, rfl⟩
    unfold Builtin.«method_descriptor.__get__»
    wp_walk
    have e : (".".intercalate ("list.append".cutAt '.').dropLast) = "list" := by decide +kernel
    rw [e]
    refine wpAny_of_eq (a := true) (by rw [isSubtype_type]; kernel_rfl) ?_
    wp_walk
    exact ⟨_, rfl, hs⟩
theorem meets_ga_append (a : Addr) (xs : Array Value) (k : Nat) (u : Tok) :
    Meets (Builtin.«object.__getattribute__» ⟨[.ref a, .str (Str.ofString "append") u], []⟩) (fun _ R s => s.heap.get? a = some { cls := .type "list", dict := none, data := .seq xs k, slots := #[] } ∧ R (.ok (.ret (.ref s.heap.objs.size))) { s with heap := s.heap.push (boundObj "list.append" (.ref a)) }) :=
  Meets.of_wp fun prog w A R s hs => by
    obtain ⟨hp, g, d, tk, os⟩ := s
    obtain ⟨hx, hs⟩ := hs
    have hT : (⟨hp, g, d, tk, os⟩ : Shared).TypeIs (.ref a) "list" := ⟨_, hx, rfl⟩
    have f1 := look_append
    have f2 := F.type_list_append
    have f3 := slot_md_get.lookup
    have f4 : typeLookup (.type "method_descriptor") (Str.ofString "__set__") = pure none := by rw [typeLookup_type, builtinLookup_eq_fast]; kernel_rfl
    have f5 : typeLookup (.type "method_descriptor") (Str.ofString "__delete__") = pure none := by rw [typeLookup_type, builtinLookup_eq_fast]; kernel_rfl
    have hTd : (⟨hp, g, d, tk, os⟩ : Shared).TypeIs (.builtin "list.append") "method_descriptor" := f2
    unfold Builtin.«object.__getattribute__»
    repeat (any_goals (first | assumption | ((with_reducible show wpAny _ _ (call (Value.builtin "method_descriptor.__get__") _ _) _ _ _); refine call_meets slot_md_get hTd entry_md_get (args_md_get _ _ _) (meets_md_append a xs k) ⟨hx, ?_⟩) | wp_step))
    show wpAny _ _ (ret _) _ _ _
    exact wpAny_pure ⟨_, rfl, hs⟩
theorem getAttr_append0 {prog : Program} {w : World} {A : Around} {E : Value → Shared → Prop} {s : Shared} {a : Addr} {xs : Array Value} {k : Nat} {Q : Value → Shared → Prop}
    (hx : s.heap.get? a = some { cls := .type "list", dict := none, data := .seq xs k, slots := #[] })
    (h : Q (.ref s.heap.objs.size) { s with heap := s.heap.push (boundObj "list.append" (.ref a)), toks := s.toks + 1 }) :
    wpAny (model prog w) A (getAttr (.ref a) (Str.ofString "append") true) Q E s := by
  obtain ⟨hp, g, d, tk, os⟩ := s
  have hT : ∀ tk', (⟨hp, g, d, tk', os⟩ : Shared).TypeIs (.ref a) "list" := fun _ => ⟨_, hx, rfl⟩
  have f3 := F.slot_list_getattribute.lookup
  have f4 := F.slot_list_getattribute.bind (.ref a)
  have f5 := am_list_getattr_none
  unfold getAttr getAttrBy
  repeat (any_goals (first | assumption | exact hT _ | ((with_reducible show wpAny _ _ (call (Value.builtin "list.__getattribute__") _ _) _ _ _); refine call_meets F.slot_list_getattribute (hT _) am_entry_list_getattribute (F.args_list_getattribute_2 _ _) (meets_ga_append a xs k _) ⟨hx, ?_⟩) | wp_step))
  show wpAny _ _ (handedOut _) _ _ _
  exact handed_on rfl h
end
section
variable {prog : Program} {w : World} {A : Around} {E : Value → Shared → Prop} {s : Shared} {h₀ : Heap} {L D q : Addr} {m : Str → Option Value} {rest news : List (Addr × Obj)} {l : List Value} {n : Nat} {v : Value} {Q : Value → Shared → Prop}
theorem getAttr_append (F : Fr h₀ L s.heap m) (N : News h₀ L s.heap news) (hm : (D, listOf l.toArray n) ∈ news)
    (h : ∀ q h', Fr h₀ L h' m → News h₀ L h' ((q, boundObj "list.append" (.ref D)) :: news) → (∀ p ∈ news, p.1 < q) → Q (.ref q) { s with heap := h', toks := s.toks + 1 }) :
    wpAny (model prog w) A (getAttr (.ref D) (Str.ofString "append") true) Q E s :=
  getAttr_append0 (xs := l.toArray) (k := n) (N _ hm).1 (h _ _ (F.push _) (N.push F _) fun p hp => Heap.lt_size (N p hp).1)
theorem sig_append : ∃ sig, Manifest.signature? "list.append" = some sig ∧ ∀ (a b : Value), Bind.checkArgs "list.append" { sig with full := s!"{Bind.lastOf "list"}.{Bind.lastOf "list.append"}" } ⟨[a, b], []⟩ = pure () := by
  rw [signature?_of (id := "list.append") (n := ['d', 'n', 'e', 'p', 'p', 'a']) (o := ['t', 's', 'i', 'l']) (by kernel_rfl) owner_list]
  exact ⟨⟨.oneArg, "list.append", "append", .self, [⟨"object", .posOnly, true⟩]⟩, by kernel_rfl, fun a b => by kernel_rfl⟩
theorem wpAny_isType_list {M : Model} {xs : Array Value} {k : Nat} {Q : Bool → Shared → Prop} (hx : s.heap.get? D = some { cls := .type "list", dict := none, data := .seq xs k, slots := #[] }) (h : Q false s) : wpAny M A (isType (.ref D)) Q E s := by
  unfold isType
  wp_walk using wpAny_load hx, wpAny_loadPart' hx
  exact h
theorem wp_checkAppend {M : Model} {xs : Array Value} {k : Nat} {Q : Unit → Shared → Prop} (hx : s.heap.get? D = some { cls := .type "list", dict := none, data := .seq xs k, slots := #[] }) (h : Q () s) : wpAny M A (checkBoundCall "list.append" ⟨[.ref D, v], []⟩) Q E s := by
  obtain ⟨sig, e1, e2⟩ := sig_append
  have hk : builtinKind "list.append" = some .method := by decide +kernel
  have hT : s.TypeIs (.ref D) "list" := ⟨_, hx, rfl⟩
  have hv : Manifest.varargsMethods.contains "list.append" = false := by decide +kernel
  unfold checkBoundCall
  rw [e1, hk]
  dsimp only
  refine KFB.if_not (by decide) ?_
  refine wpAny_bind (wpAny_isInstance hT (b := false) (by rw [isSubtype_type]; kernel_rfl) ?_)
  rw [hv]
  refine KFB.if_not rfl ?_
  refine wpAny_bind (wpAny_isType_list hx ?_)
  refine KFB.if_not rfl ?_
  refine wpAny_bind (wpAny_typeOf hT ?_)
  exact wpAny_of_eq (e2 _ _) h
theorem quiet_append {as : Args} : (Code.builtin "list.append" as).quiet = true := Code.quiet_builtin _ (by decide +kernel)
theorem call_bound (ho : s.heap.get? q = some (boundObj "list.append" (.ref D))) (F : Fr h₀ L s.heap m) (N : News h₀ L s.heap ((D, listOf l.toArray n) :: rest)) (hrest : ∀ p ∈ rest, p.1 ≠ D) (hsz : l.length < 1000)
    (h : ∀ h', Fr h₀ L h' m → News h₀ L h' ((D, listOf (l ++ [v]).toArray (n + 1)) :: rest) → Q .none { s with heap := h' }) : wpAny (model prog w) A (call (.ref q) [v]) Q E s := by
  refine wpAny_call (codeAny_of_tree ?_)
  show wpAny _ A.in1 (callAny (.ref q) ⟨[v], []⟩) _ _ s
  simp only [callAny]
  refine wpAny_bind (wpAny_load ho ?_)
  simp only [show (Value.type "builtin_function_or_method" == Value.type "method" || Value.type "builtin_function_or_method" == Value.type "builtin_function_or_method" || Value.type "builtin_function_or_method" == Value.type "method-wrapper") = true by decide, if_true]
  refine KFB.if_so (by decide) ?_
  have z := N (D, listOf l.toArray n) (.head _)
  refine wpAny_bind (wp_checkAppend z.1 ?_)
  refine wpAny_bind (wpAny_pure (wpAny_pure ?_))
  refine ⟨quiet_append, codeAny_builtin PySem.F.entry_list_append ?_⟩
  rw [Around.under_plainId PySem.F.slot_list_append.plain]
  dsimp only
  refine AutoListH.list_append_list_val_0 D l.toArray n v (by rw [sizeLine_eq]; simp; omega) prog w A (wants Q E) s ⟨z.1, ?_⟩
  refine h _ (F.change (Heap.SameBut.update ..) z.2.1 z.2.2) (ki_turn (pre := []) (fun x => x.push v) N (fun _ h => nomatch h) hrest ?_ ?_)
  · simp
  · simp
theorem callWith_ref {pos : Pos} {first : List Value} {args : List (Bool × Sem Value)} (hplain : args.any (·.1) = false)
    (h : wpAny (model prog w) A (evalArgs (.ref q) true args []) (fun x s₁ => s₁.heap.get? q = some (boundObj "list.append" (.ref D)) ∧ wpAny (model prog w) A (call (.ref q) (first ++ x.pos) x.kw) Q E s₁) E s) : wpAny (model prog w) A (callWith pos (.ref q) first args []) Q E s := by
  unfold callWith
  refine wpAny_bind (wpAny_holding (wpAny_mono h (fun x s₁ h₁ => wpAny_bind (wpAny_standAt ?_)) fun _ _ x => x))
  obtain ⟨ho, hcall⟩ := h₁
  simp only [hplain, List.any_nil, Bool.or_false]
  refine wpAny_bind (m := keeperOf (.ref q)) ?_
  unfold keeperOf
  refine wpAny_bind (wpAny_load ho ?_)
  simp only [show (Value.type "builtin_function_or_method" != Value.type "method") = true by decide, show (Value.type "builtin_function_or_method" == Value.type "builtin_function_or_method" || Value.type "builtin_function_or_method" == Value.type "method-wrapper") = true by decide, if_true]
  refine wpAny_pure ?_
  exact wpAny_bind (wpAny_mono hcall (fun r s₂ hr => wpAny_bind (wpAny_holding (wpAny_point (wpAny_pure hr)))) fun _ _ x => x)
theorem callWith_bound {pos : Pos} {first : List Value} {env : Env} {e : Expr} {rest : List Expr}
    (h : wpAny (model prog w) A (spliced (backTo pos (starEach (e :: rest) env))) (fun vs s₁ => s₁.heap.get? q = some (boundObj "list.append" (.ref D)) ∧ wpAny (model prog w) A (call (.ref q) (first ++ vs)) Q E s₁) E s)
    (he : starEach (e :: rest) env = (false, eval e env) :: starEach rest env := by rfl) (hplain : (backTo pos (starEach rest env)).any (·.1) = false := by rfl) :
    wpAny (model prog w) A (callWith pos (.ref q) first (backTo pos (starEach (e :: rest) env)) []) Q E s := by
  rw [he] at h ⊢
  refine callWith_ref (D := D) (by show (false || (backTo pos (starEach rest env)).any (·.1)) = false; rw [hplain]; rfl) ?_
  exact evalArgs_plain h
end
end Mine
end

section -- B7
open PySem PySem.W PyProof.Rows PySem.Builtin PySem.Builtin.Str
set_option maxRecDepth 100000
namespace Mine
abbrev flat (ys : List Str) : List Nat := ys.flatMap fun y => y.cps.toList
theorem str_ext {a b : Str} (h : a.cps.toList = b.cps.toList) : a = b := by
  cases a; cases b; congr; exact Array.toList_inj.mp h
theorem strJoin_empty : ∀ ys : List Str, (Str.join (Str.ofString "") ys).cps.toList = flat ys
  | [] => rfl
  | [x] => by simp [Str.join]
  | x :: y :: r => by
    show ((x ++ Str.ofString "") ++ Str.join (Str.ofString "") (y :: r)).cps.toList = _
    rw [cps_toList_append, cps_toList_append, strJoin_empty (y :: r)]
    simp [show (Str.ofString "").cps.toList = [] from rfl]
theorem txtJoin_empty (ys : List Str) : Txt.join (Str.ofString "") ys = ⟨(flat ys).toArray⟩ := by
  refine str_ext ?_
  have : Txt.join (Str.ofString "") ys = Str.join (Str.ofString "") ys := by
    exact StrLaws.glued_eq_join _ _
  rw [this, strJoin_empty]
abbrev tvs (vs : List (Str × Tok)) : List Value := vs.map fun x => .str x.1 x.2
theorem strsAre_tvs : ∀ vs : List (Str × Tok), StrsAre (tvs vs) (vs.map (·.1))
  | [] => .nil
  | (y, t) :: r => .cons y t (strsAre_tvs r)
section
variable {prog : Program} {w : World} {A : Around} {s : Shared} {h₀ : Heap} {L D : Addr} {news : List (Addr × Obj)} {l : List Value} {n : Nat} {E : Value → Shared → Prop} {t : Tok}
theorem join_mem {vs : List (Str × Tok)} {Q : Value → Shared → Prop} (N : News h₀ L s.heap news) (hm : (D, listOf (tvs vs).toArray n) ∈ news) (hfit : (vs.map (·.1.length)).sum ≤ 100000) (h : ∀ t' k, Q (.str ⟨(flat (vs.map (·.1))).toArray⟩ t') { s with toks := k }) :
    wpAny (model prog w) A (call (.builtin "str.join") [.str (Str.ofString "") t, .ref D]) Q E s := by
  refine join_list (ys := vs.map (·.1)) (News.isList N hm) (strsAre_tvs vs) ?_ ?_
  · have : (Str.ofString "").length = 0 := rfl
    rw [this, List.map_map]
    have e : (List.length ∘ fun x => x.1) = fun x : List Nat × Nat => x.1.length := rfl
    show ((vs.map (Str.length ∘ fun x => x.1)).sum + _) ≤ _
    have : (Str.length ∘ fun x : Str × Tok => x.1) = fun x => x.1.length := rfl
    rw [this]; omega
  · intro t' k
    rw [txtJoin_empty]; exact h t' k
theorem len_mem {Q : Value → Shared → Prop} (N : News h₀ L s.heap news) (hm : (D, listOf l.toArray n) ∈ news) (hfit : l.length < 1000) (h : Q (.int (l.length : Int) (s.toks + 1)) { s with toks := s.toks + 1 + 1 }) :
    wpAny (model prog w) A (call (.builtin "len") [.ref D]) Q E s :=
  PySem.Calls.call_len_list (News.isList N hm) (by rw [List.size_toArray]; omega) (by rw [List.size_toArray]; exact h)
theorem isnot_str_ref {x : Str} {a : Addr} {Q : Value → Shared → Prop} (h : Q (.bool true) s) : wpAny (model prog w) A (compareOp .IsNot (.str x t) (.ref a)) Q E s := by
  unfold compareOp isSame
  wp_walk
  exact h
end
theorem allLt_mem {D : Addr} : ∀ {l : List (Addr × Obj)}, AllLt D l → ∀ p ∈ l, p.1 < D
  | [], _ => fun _ h => absurd h List.not_mem_nil
  | _ :: _, x => fun p hp => by
    rcases List.mem_cons.mp hp with rfl | hp
    · exact x.1
    · exact allLt_mem x.2 p hp
end Mine
end

section -- B8
open PySem PySem.W PyProof.Rows PySem.Builtin PySem.Builtin.Str
set_option maxRecDepth 100000
namespace Mine
theorem indices_plain (lo hi : Option Int) (n : Nat) : strSliceIndices lo hi 1 n = (List.range (hi.elim n (clipAt n) - lo.elim 0 (clipAt n))).map (lo.elim 0 (clipAt n) + ·) := by
  have e : strSliceIndices lo hi 1 n = sliceRange (sliceBounds lo hi none n).1 (sliceBounds lo hi none n).2.1 (sliceBounds lo hi none n).2.2 := by
    cases lo <;> cases hi <;> rfl
  rw [e, sliceBounds_plain]
  simp only [sliceRange_one]
theorem clip_le (n : Nat) (i : Int) : clipAt n i ≤ n := by
  have := clipAt_cast n i
  omega
theorem slice_plain (l : List Nat) (lo hi : Option Int) : Txt.slice ⟨l.toArray⟩ lo hi = ⟨((l.drop (lo.elim 0 (clipAt l.length))).take (hi.elim l.length (clipAt l.length) - lo.elim 0 (clipAt l.length))).toArray⟩ := by
  unfold Txt.slice
  have hn : (⟨l.toArray⟩ : Str).length = l.length := List.size_toArray
  rw [hn, indices_plain, pick_run]
  split
  · rename_i h
    simp only [List.length_map, List.length_range, BEq.rfl, Bool.true_and, beq_iff_eq] at h
    have h1 : hi.elim l.length (clipAt l.length) ≤ l.length := by cases hi <;> simp [clip_le]
    have h3 : lo.elim 0 (clipAt l.length) ≤ l.length := by cases lo <;> simp [clip_le]
    have h2 : lo.elim 0 (clipAt l.length) = 0 := by omega
    rw [h, h2]; simp
  · rfl
theorem slice_ss (l : List Nat) (a b : Nat) : Txt.slice ⟨l.toArray⟩ (some (a : Int)) (some (b : Int)) = ⟨((l.drop a).take (b - a)).toArray⟩ := by
  rw [slice_plain]
  simp only [Option.elim, clipAt_nat]
  congr 2
  rcases Nat.le_total a l.length with h | h
  · rw [Nat.min_eq_left h]
    rcases Nat.le_total b l.length with h' | h'
    · rw [Nat.min_eq_left h']
    · rw [Nat.min_eq_right h', List.take_of_length_le (by simp), List.take_of_length_le (by simp; omega)]
  · rw [Nat.min_eq_right h, List.drop_of_length_le h, List.drop_of_length_le (Nat.le_refl _)]; simp
theorem slice_sn (l : List Nat) (a : Nat) : Txt.slice ⟨l.toArray⟩ (some (a : Int)) none = ⟨(l.drop a).toArray⟩ := by
  rw [slice_plain]
  simp only [Option.elim, clipAt_nat]
  congr 2
  rcases Nat.le_total a l.length with h | h
  · rw [Nat.min_eq_left h, List.take_of_length_le (by simp)]
  · rw [Nat.min_eq_right h, List.drop_of_length_le h, List.drop_of_length_le (Nat.le_refl _)]; simp
theorem slice_ns (l : List Nat) (b : Nat) : Txt.slice ⟨l.toArray⟩ none (some (b : Int)) = ⟨(l.take b).toArray⟩ := by
  rw [slice_plain]
  simp only [Option.elim, clipAt_nat, List.drop_zero, Nat.sub_zero]
  congr 2
  rcases Nat.le_total b l.length with h | h
  · rw [Nat.min_eq_left h]
  · rw [Nat.min_eq_right h, List.take_of_length_le (Nat.le_refl _), List.take_of_length_le h]
theorem item_plain (l : List Nat) (k c : Nat) (h : l[k]? = some c) : Txt.item ⟨l.toArray⟩ (k : Int) = ⟨#[c]⟩ := by
  have hk : k < l.length := (List.getElem?_eq_some_iff.mp h).1
  have e : Txt.charAt ⟨l.toArray⟩ (k : Int) = some c := by
    unfold Txt.charAt seqIndex?
    have hn : (⟨l.toArray⟩ : Str).length = l.length := List.size_toArray
    rw [hn]
    have h1 : ¬ ((k : Int) < 0) := by omega
    have h2 : (if (k : Int) < 0 then (k : Int) + (l.length : Int) else (k : Int)) = k := if_neg h1
    simp only [h2]
    have h3 : (0 ≤ (k : Int) ∧ (k : Int) < l.length) := ⟨by omega, by omega⟩
    simp [h3, hk]
    exact (List.getElem?_eq_some_iff.mp h).2
  unfold Txt.item
  rw [e]; rfl
section
variable {prog : Program} {w : World} {A : Around} {s : Shared} {E : Value → Shared → Prop} {t u : Tok} {value slice : PySem.Expr} {l : List Nat}
theorem str_len {Q : Value → Shared → Prop} (hz : l.length < 100000) (h : Q (.int (l.length : Int) (s.toks + 1)) { s with toks := s.toks + 1 + 1 }) : wpAny (model prog w) A (call (.builtin "len") [.str ⟨l.toArray⟩ t]) Q E s := by
  have hn : (⟨l.toArray⟩ : Str).length = l.length := List.size_toArray
  exact P.len_str (by rw [hn]; omega) (by rw [hn]; exact h)
theorem str_item {k c : Nat} {kk : Int} {Q : Value → Shared → Prop} (hkk : kk = (k : Int)) (hc : l[k]? = some c) (hz : l.length < 100000) (h : Q (.str ⟨#[c]⟩ s.toks) { s with toks := s.toks + 1 })
    (hs : subscripted slice false (.str ⟨l.toArray⟩ t) (.int kk u) = operate [.str ⟨l.toArray⟩ t, .int kk u] (getItem (.str ⟨l.toArray⟩ t) (.int kk u)) := by with_unfolding_all rfl)
    (ht : ∀ r, letTemporaryGo value (.str ⟨l.toArray⟩ t) r = pure () := by intro _; with_unfolding_all rfl) :
    wpAny (model prog w) A (subscriptTail value slice (.str ⟨l.toArray⟩ t) (.int kk u)) Q E s := by
  subst hkk
  have hk : k < l.length := (List.getElem?_eq_some_iff.mp hc).1
  refine KXi.item (n := l.length) List.size_toArray (by omega) (by omega) (by omega) (fun _ => ?_) hs ht
  rw [item_plain l k c hc]; exact h
theorem take2 {l : List Nat} {k a b : Nat} (h1 : l[k]? = some a) (h2 : l[k + 1]? = some b) : (l.drop k).take 2 = [a, b] := by
  obtain ⟨h3, h4⟩ := List.getElem?_eq_some_iff.mp h1
  obtain ⟨h5, h6⟩ := List.getElem?_eq_some_iff.mp h2
  rw [List.drop_eq_getElem_cons h3, List.drop_eq_getElem_cons h5, h4, h6]; rfl
theorem one_ne {a b : Nat} (h : a ≠ b) : (⟨#[a]⟩ : Str) ≠ ⟨#[b]⟩ := fun e => h (by injection e with e; simpa using e)
theorem eqS {x y : Str} {r : Bool} {Q : Value → Shared → Prop} (hr : (x == y) = r) (h : Q (.bool r) s) : wpAny (model prog w) A (compareOp .Eq (.str x t) (.str y u)) Q E s := by
  subst hr; exact PyProof.Rows.eq_str h
theorem neS {x y : Str} {r : Bool} {Q : Value → Shared → Prop} (hr : (!(x == y)) = r) (h : Q (.bool r) s) : wpAny (model prog w) A (compareOp .NotEq (.str x t) (.str y u)) Q E s := by
  subst hr; exact PyProof.Rows.ne_str h
theorem one_no {a b : Nat} (h : a ≠ b) : ((⟨#[a]⟩ : Str) == ⟨#[b]⟩) = false := by
  rw [beq_eq_false_iff_ne]; exact one_ne h
theorem one_nne {a b : Nat} (h : a ≠ b) : (!((⟨#[a]⟩ : Str) == ⟨#[b]⟩)) = true := by rw [one_no h]; rfl
theorem no_dash (c : Nat) (h1 : 65 ≤ c) (h2 : c ≤ 80) : (!(!(occurrences ⟨#[33, c]⟩ (Str.ofString "-") 0 (⟨#[33, c]⟩ : Str).length 1).isEmpty)) = true := by
  have := (by decide +kernel : ∀ d : Fin 16, (!(!(occurrences ⟨#[33, 65 + d.val]⟩ (Str.ofString "-") 0 (⟨#[33, 65 + d.val]⟩ : Str).length 1).isEmpty)) = true) ⟨c - 65, by omega⟩
  rw [show 65 + (⟨c - 65, by omega⟩ : Fin 16).val = c by show 65 + (c - 65) = c; omega] at this
  exact this
theorem no_back (c : Nat) (h1 : 65 ≤ c) (h2 : c ≤ 80) : (occurrences ⟨#[33, c]⟩ (Str.ofString "\\") 0 (⟨#[33, c]⟩ : Str).length ((⟨#[33, c]⟩ : Str).length + 1)).isEmpty = true := by
  have := (by decide +kernel : ∀ d : Fin 16, (occurrences ⟨#[33, 65 + d.val]⟩ (Str.ofString "\\") 0 (⟨#[33, 65 + d.val]⟩ : Str).length ((⟨#[33, 65 + d.val]⟩ : Str).length + 1)).isEmpty = true) ⟨c - 65, by omega⟩
  rw [show 65 + (⟨c - 65, by omega⟩ : Fin 16).val = c by show 65 + (c - 65) = c; omega] at this
  exact this
theorem replace_none {x y z : Str} {v : Tok} {Q : Value → Shared → Prop} (hn : (occurrences x y 0 x.length (x.length + 1)).isEmpty = true) (h : Q (.str x t) s) : wpAny (model prog w) A (call (.builtin "str.replace") [.str x t, .str y u, .str z v]) Q E s := by
  refine call_gives F.slot_str_replace (typeIs_str _ _ _) F.entry_str_replace (F.args_str_replace_3 _ _ _)
    (gives_str_replace x y z t u v fun e => absurd e (by rw [hn]; simp)) ?_
  rw [hn]
  simp only [Bool.true_or, if_true]
  exact h
end
end Mine
end

section -- B9
open PySem PySem.W PyProof.Rows PySem.Builtin PySem.Builtin.Re
set_option maxRecDepth 100000
set_option maxHeartbeats 4000000
namespace Mine
section
variable {prog : Program} {w : World} {A : Around} {s : Shared} {E : Value → Shared → Prop} {t u : Tok}
theorem slot_re_sub : Slot "re.Pattern" "sub" "re.Pattern.sub" :=
  .of (owner := "re.Pattern") (n := "sub") (by rw [typeLookup_type, builtinLookup_eq_fast]; kernel_rfl) (by decide +kernel) (by decide +kernel) (by decide +kernel)
    (by first | exact .inl (by decide +kernel) | exact .inr (by decide +kernel)) (by rw [isSubtype_type]; kernel_rfl)
theorem type_re_sub : typeOf (.builtin "re.Pattern.sub") = pure (.type "method_descriptor") := by show builtinType _ = _; rw [builtinType_eq_fast]; kernel_rfl
theorem entry_re_sub : entryFor table "re.Pattern.sub" = some Builtin.«re.Pattern.sub» := entryFor_of_tree (by kernel_rfl)
theorem entry_re_loop : entryFor table "re.Pattern.sub.loop" = some Builtin.«re.Pattern.sub.loop» := entryFor_of_tree (by kernel_rfl)
theorem plainAttrs_re : PlainAttrs "re.Pattern" where
  ga := ⟨"object.__getattribute__", by first | (rw [typeLookup_type, builtinLookup_eq_fast]; kernel_rfl), by decide +kernel⟩
  noGetattr := by rw [typeLookup_type, builtinLookup_eq_fast]; kernel_rfl
abbrev reObj (fl : Array Value) : Obj := { cls := .type "re.Pattern", data := .fields fl }
theorem getMethod_sub {a : Addr} {fl : Array Value} {pl : Sem Bool} {Q : Value × List Value → Shared → Prop} (ho : s.heap.get? a = some (reObj fl)) (h : Q (.builtin "re.Pattern.sub", [.ref a]) s) :
    wpAny (model prog w) A (getMethod (.ref a) (Str.ofString "sub") pl) Q E s :=
  getMethod_builtin ⟨_, ho, rfl⟩ plainAttrs_re slot_re_sub type_re_sub (fun b e => by injection e with e; subst e; exact ⟨_, ho, rfl⟩) h
def twinFields (p : Value) : Array Value := #[p, .int 32 365, .int 1 0, .none, .none, .ref 63, .int 0 0]
abbrev codesObj (cs : Array Value) (n : Nat) : Obj := { cls := .type "tuple", data := .seq cs n }
theorem tree_sub {a f : Addr} {p : Value} {fo : Obj} {cs : Array Value} {n c : Nat} {R : Result → Shared → Prop} (ho : s.heap.get? a = some (reObj (twinFields p))) (h63 : s.heap.get? 63 = some (codesObj cs n)) (hf : s.heap.get? f = some fo) (hfc : fo.cls = .type "function")
    (h : codeAny (model prog w) A (.builtin "re.Pattern.sub.loop" ⟨[.ref a, .str ⟨#[33, c]⟩ t, .ref f, rawInt 1, rawInt 0, rawInt 0, rawInt 0, rawInt 0, .bool false, .ref s.heap.objs.size, .bool false], []⟩) R { s with heap := s.heap.push { cls := .type "list", data := .seq #[] } }) :
    wpAny (model prog w) A.in1 (Builtin.«re.Pattern.sub» ⟨[.ref a, .ref f, .str ⟨#[33, c]⟩ t], []⟩)
      (fun fin s' => match fin with | .done f => R (.ok f) s' | .again c' => c'.quiet = true ∧ codeAny (model prog w) A c' R s') (fun e s' => R (.error e) s') s := by
  obtain ⟨hp, g, d, tk, os⟩ := s
  have hT : (⟨hp, g, d, tk, os⟩ : Shared).TypeIs (.ref f) "function" := ⟨_, hf, hfc⟩
  have f1 : typeLookup (.type "function") (Str.ofString "__call__") = pure (some (.builtin "function.__call__")) := by rw [typeLookup_type, builtinLookup_eq_fast]; kernel_rfl
  have f2 : isSubtype (.type "str") (.type "bytearray") = pure false := by rw [isSubtype_type]; kernel_rfl
  unfold Builtin.«re.Pattern.sub» reSubstitute
  wp_walk using wpAny_load ho, wpAny_loadPart' ho, wpAny_loadPart' hf, wpAny_load h63
  exact ⟨Code.quiet_builtin _ (by decide +kernel), h⟩
def driven : Nat → Sre.M → Sre.M
  | 0, m => m
  | n + 1, m => if (m.runFor reTurnSteps).outcome.isSome then m.runFor reTurnSteps else driven n (m.runFor reTurnSteps)
def good : Nat → Sre.M → Bool
  | 0, _ => false
  | n + 1, m => (m.runFor reTurnSteps).outcome.isSome || good n (m.runFor reTurnSteps)
theorem drive_wp {M : Model} {Q : Sre.M → Shared → Prop} : ∀ (n fuel : Nat) (m : Sre.M), good n m = true → n ≤ fuel → Q (driven n m) s → wpAny M A (reDrive fuel m) Q E s
  | 0, _, m, h, _, _ => by cases h
  | n + 1, 0, _, _, h, _ => by omega
  | n + 1, fuel + 1, m, h, hle, hq => by
    rw [driven] at hq
    rw [good] at h
    unfold reDrive
    dsimp only
    by_cases hc : (m.runFor reTurnSteps).outcome.isSome = true
    · rw [if_pos hc] at hq ⊢
      exact wpAny_pure hq
    · rw [if_neg hc] at hq ⊢
      refine wpAny_bind (wpAny_rule ?_)
      have hg : good n (m.runFor reTurnSteps) = true := by
        rw [Bool.or_eq_true] at h
        exact h.resolve_left hc
      exact drive_wp n fuel _ hg (by omega) hq
def twinCode : Array Nat := #[14, 14, 4, 1, 1, 9, 0, 64, 0, 1342177280, 0, 0, 0, 0, 0, 17, 0, 13, 11, 9, 0, 64, 0, 1342177280, 0, 0, 0, 0, 0, 17, 1, 1]
theorem driven_fails : ∀ d : Fin 16, (good 8 (Sre.forSearch twinCode #[33, 65 + d.val] 1 0 2 false) && match (driven 8 (Sre.forSearch twinCode #[33, 65 + d.val] 1 0 2 false)).outcome with | some .failed => true | _ => false) = true := by decide +kernel
theorem rules_wp {M : Model} {m : Sre.M} {Q : PUnit → Shared → Prop} : ∀ (l : List Nat), Q ⟨⟩ s → wpAny M A (forIn l PUnit.unit (fun i _ => do
      if m.seen.has i then rule (Sre.names.getD i "")
      pure (ForInStep.yield PUnit.unit)) : Sem PUnit) Q E s
  | [], h => by rw [List.forIn_nil]; exact wpAny_pure h
  | i :: r, h => by
    rw [List.forIn_cons]
    refine wpAny_bind ?_
    by_cases hc : m.seen.has i = true
    · rw [if_pos hc]
      refine wpAny_bind (wpAny_rule (wpAny_pure ?_))
      exact rules_wp r h
    · rw [if_neg hc]
      exact wpAny_pure (rules_wp r h)
theorem run_fails {M : Model} {c : Nat} {Q : Option Sre.M → Shared → Prop} (h1 : 65 ≤ c) (h2 : c ≤ 80) (h : Q none s) : wpAny M A (reRunToEnd (Sre.forSearch twinCode #[33, c] 1 0 2 false)) Q E s := by
  have hd := driven_fails ⟨c - 65, by omega⟩
  rw [show 65 + (⟨c - 65, by omega⟩ : Fin 16).val = c by show 65 + (c - 65) = c; omega] at hd
  rw [Bool.and_eq_true] at hd
  obtain ⟨hg, hd⟩ := hd
  obtain ⟨m, hm⟩ : ∃ m, m = driven 8 (Sre.forSearch twinCode #[33, c] 1 0 2 false) := ⟨_, rfl⟩
  rw [← hm] at hd
  have ho : m.outcome = some .failed := by
    revert hd
    cases m.outcome with
    | none => intro h; cases h
    | some o => cases o <;> intro h <;> first | rfl | cases h
  unfold reRunToEnd
  refine wpAny_bind (drive_wp 8 _ _ hg (by decide) ?_)
  rw [← hm]
  refine wpAny_bind (rules_wp _ ?_)
  rw [ho]
  exact wpAny_pure h
end
end Mine
end

section -- B10
open PySem PySem.W PyProof.Rows PySem.Builtin PySem.Builtin.Re
set_option maxRecDepth 100000
set_option maxHeartbeats 4000000
namespace Mine
section
variable {prog : Program} {w : World} {A : Around} {s : Shared} {E : Value → Shared → Prop} {t u : Tok}
theorem run_stop {M : Model} {m : Sre.M} {Q : Option Sre.M → Shared → Prop} (h : Hold (wpAny M A (reRunToEnd m) Q E s)) : wpAny M A (reRunToEnd m) Q E s := h
theorem call_stop {M : Model} {v : Value} {as : List Value} {kw : List (Str × Value)} {Q : Value → Shared → Prop} (h : Hold (wpAny M A (call v as kw) Q E s)) : wpAny M A (call v as kw) Q E s := h
theorem tree_loop {a f D : Addr} {p : Value} {cs : Array Value} {n c k : Nat} {R : Result → Shared → Prop} (ho : s.heap.get? a = some (reObj (twinFields p))) (h63 : s.heap.get? 63 = some (codesObj cs n))
    (hcs : Array.map (fun x => x.toNat) (Array.map reRawOf cs) = twinCode) (hD : s.heap.get? D = some { cls := .type "list", data := .seq #[] k }) (h1 : 65 ≤ c) (h2 : c ≤ 80)
    (h : ∀ h' tk t', Heap.SameBut D s.heap h' → R (.ok (.ret (.str ⟨#[33, c]⟩ t'))) { s with heap := h', toks := tk }) :
    wpAny (model prog w) A.in1 (Builtin.«re.Pattern.sub.loop» ⟨[.ref a, .str ⟨#[33, c]⟩ t, .ref f, rawInt 1, rawInt 0, rawInt 0, rawInt 0, rawInt 0, .bool false, .ref D, .bool false], []⟩)
      (fun fin s' => match fin with | .done f => R (.ok f) s' | .again c' => c'.quiet = true ∧ codeAny (model prog w) A c' R s') (fun e s' => R (.error e) s') s := by
  obtain ⟨hp, g, d, tk, os⟩ := s
  unfold Builtin.«re.Pattern.sub.loop» reNextFound
  wp_walk using wpAny_load ho, wpAny_loadPart' ho, wpAny_load h63, run_stop
  refine of_hold ?_
  simp only [Option.getD_some, hcs]
  refine run_fails h1 h2 ?_
  wp_walk using wpAny_load hD, wpAny_updateSeq hD rfl, run_stop, call_stop
  refine of_hold ?_
  have q := PySem.IsL.update hD (fun x => x.push (Value.str { cps := #[33, c].extract (Int.toNat 0) } tk))
  have e0 : (if (0 == 0) = true then "str.join" else "bytes.join") = "str.join" := rfl
  have e1 : #[33, c].extract (Int.toNat 0) = #[33, c] := rfl
  have e2 : #[33, c].extract 0 0 = (#[] : Array Nat) := rfl
  rw [e1] at q ⊢
  rw [e2]
  show wpAny _ _ (call (Value.builtin "str.join") [Value.str (Str.ofString "") (tk + 1), Value.ref D]) _ _ _
  refine join_list (ys := [⟨#[33, c]⟩]) (PySem.IsL.isList q) (.cons _ _ .nil) ?_ ?_
  · have e3 : (⟨#[33, c]⟩ : Str).length = 2 := rfl
    have e4 : (Str.ofString "").length = 0 := rfl
    simp [e3, e4]
  · intro t' k'
    rw [txtJoin_empty]
    refine wpAny_pure ?_
    exact h _ _ _ (Heap.SameBut.update ..)
end
end Mine
end

section -- B11
open PySem PySem.W PyProof.Rows PySem.Builtin PySem.Builtin.Re
set_option maxRecDepth 100000
set_option maxHeartbeats 4000000
namespace Mine
section
variable {prog : Program} {w : World} {A : Around} {s : Shared} {E : Value → Shared → Prop} {t u : Tok}
theorem args_re_sub (a b c : Value) : argsOk "re.Pattern.sub" ⟨[a, b, c], []⟩ := by
  unfold argsOk; kernel_rfl
theorem call_sub {a f : Addr} {p : Value} {fo : Obj} {cs : Array Value} {n c : Nat} {h₀ : Heap} {L : Addr} {m : Str → Option Value} {news : List (Addr × Obj)} {Q : Value → Shared → Prop}
    (F : Fr h₀ L s.heap m) (N : News h₀ L s.heap news) (ho : s.heap.get? a = some (reObj (twinFields p))) (h63 : s.heap.get? 63 = some (codesObj cs n))
    (hcs : Array.map (fun x => x.toNat) (Array.map reRawOf cs) = twinCode) (hf : s.heap.get? f = some fo) (hfc : fo.cls = .type "function") (h1 : 65 ≤ c) (h2 : c ≤ 80)
    (h : ∀ h' tk t', Fr h₀ L h' m → News h₀ L h' news → Q (.str ⟨#[33, c]⟩ t') { s with heap := h', toks := tk }) :
    wpAny (model prog w) A (call (.builtin "re.Pattern.sub") [.ref a, .ref f, .str ⟨#[33, c]⟩ t]) Q E s := by
  have hT : s.TypeIs (.ref a) "re.Pattern" := ⟨_, ho, rfl⟩
  refine wpAny_call (codeAny_call_builtin slot_re_sub.plain entry_re_sub (slot_re_sub.check _ _ _ _ _ _ _ _ hT (args_re_sub _ _ _) ?_))
  refine tree_sub (c := c) (R := wants Q E) ho h63 hf hfc ?_
  refine codeAny_builtin entry_re_loop ?_
  rw [Around.under_plainId (show plainId "re.Pattern.sub.loop" = true by decide +kernel)]
  have hsz : ∀ b o, s.heap.get? b = some o → b ≠ s.heap.objs.size := fun b o e => Nat.ne_of_lt (Heap.lt_size e)
  have e1 := Heap.get?_push_of_some { cls := .type "list", data := .seq #[] } ho
  refine tree_loop (s := ⟨_, _, _, _, _⟩) (k := 0) (Heap.get?_push_of_some _ ho) (Heap.get?_push_of_some _ h63) hcs (Heap.get?_push_size _ rfl) h1 h2 ?_
  intro h' tk t' hs
  have hk : ∀ b o, s.heap.get? b = some o → h'.get? b = some o := fun b o e => hs.extBut b o (hsz b o e) (Heap.get?_push_of_some _ e)
  exact h h' tk t' (F.keeps hk) (fun p hp => ⟨hk _ _ (N p hp).1, (N p hp).2⟩)
end
end Mine
end

section -- B12
open PySem PySem.W PyProof.Rows PySem.Builtin
set_option maxRecDepth 100000
set_option maxHeartbeats 4000000
namespace Mine
def lamPos : Pos := ⟨98, 39, 98, 76⟩
def TabOk (ps : Array Value) : Prop := TriplesOk ps.toList ∧ (codeAmong lamPos ps.toList = none ∨ ∃ c', codeAmong lamPos ps.toList = some (.ref c'))
theorem tabOk_nil : TabOk #[] := ⟨trivial, .inl rfl⟩
theorem lam_any {M : Model} {A : Around} {E : Value → Shared → Prop} {s : Shared} {h₀ : Heap} {L a c P : Addr} {m mg mb : Str → Option Value} {cn : Str} {cs : Scope} {ccd : Value} {cl : List (Str × Addr)} {news : List (Addr × Obj)} {g : Obj → List (Addr × Obj)}
    {p : Program} {loose : List Str} {mean : ExcName → Option Value} {params : Arguments} {body : Expr} {scope : Scope} {ps : Array Value} {Q : Value → Shared → Prop}
    (F : Fr h₀ L s.heap m) (N : News h₀ L s.heap news) (T : Top p loose mean mg mb h₀) (C : CodeHd h₀ c P) (hcd : ccd = .ref c) (U : UpdF P (tabObj ps) news g) (htab : TabOk ps)
    (hcl : closureFor scope (envX cn cs L a ccd cl) = pure []) (hdef : defaultsOf params (envX cn cs L a ccd cl) = ([], []))
    (h : ∀ f fo ps' h' tk, TabOk ps' → Fr h₀ L h' m → News h₀ L h' ((f, fo) :: g (tabObj ps')) → fo.cls = .type "function" → Q (.ref f) { s with heap := h', toks := tk }) :
    wpAny M A (eval (.Lambda params body scope lamPos) (envX cn cs L a ccd cl)) Q E s := by
  refine kla_eval hdef ?_
  obtain ⟨ht, hn | ⟨c', hc'⟩⟩ := htab
  · refine kla_nest F N T C hcd U ht hn hcl ?_
    intro f c' oc vs t ctv h' tk F' N' _ _ _ _
    have N2 := news_sub (a := (f, _) :: g _) (fun q hq => by
      rcases List.mem_cons.mp hq with rfl | hq
      · exact .head _
      · exact .tail _ (.tail _ hq)) N'
    refine h f _ _ h' tk ⟨?_, .inr ⟨c', ?_⟩⟩ F' N2 rfl
    · rw [Array.toList_append]; exact TriplesOk_snoc _ _ _ _ ht
    · rw [Array.toList_append]; exact codeAmong_snoc _ ht hn
  · obtain ⟨pre, post, e1, e2, _, _⟩ := U.split
    have hmem : (P, tabObj ps) ∈ news := by rw [e1]; simp
    refine kla_hit F N T C hcd hmem ht hc' hcl ?_
    intro f ctv h' tk F' N' _
    rw [← (show g (tabObj ps) = news by rw [e2, ← e1])] at N'
    exact h f _ ps h' tk ⟨ht, .inr ⟨c', hc'⟩⟩ F' N' rfl
end Mine
end

section -- B13
open PySem PySem.W PyProof.Rows PySem.Builtin
set_option maxRecDepth 100000
set_option maxHeartbeats 4000000
namespace Mine
theorem mro_obj : mroOf (.type "object") = pure [.type "object"] := by kernel_rfl
theorem lookup_obj_new : typeLookup (.type "object") "__new__" = pure (some (.builtin "object.__new__")) := by rw [typeLookup_type, builtinLookup_eq_fast]; kernel_rfl
theorem sub_obj : isSubtype (.type "object") (.type "object") = pure true := by rw [isSubtype_type]; kernel_rfl
theorem called_obj : TypeCalled "object" "object.__new__" "object.__init__" :=
  ⟨by decide +kernel, by decide +kernel, ⟨_, _, mro_obj⟩, madeBy_type mro_obj lookup_obj_new (by decide +kernel), by decide +kernel, sub_obj, F.slot_object_init⟩
theorem typeCall_obj : checkTypeCall "object" ⟨[], []⟩ = pure () := by kernel_rfl
theorem newCall_obj : checkBuiltinCall "object.__new__" ⟨[.type "object"], []⟩ = pure () := by kernel_rfl
theorem entry_obj_new : entryFor table "object.__new__" = some Builtin.«object.__new__» := entryFor_of_tree (by kernel_rfl)
theorem madeHere_obj : Bind.madeHere "object.__new__" (.type "object") = pure () := by kernel_rfl
theorem args_obj_init (a : Value) : argsOk "object.__init__" ⟨[a], []⟩ := by unfold argsOk; kernel_rfl
theorem meets_obj_new : Meets (Builtin.«object.__new__» ⟨[.type "object"], []⟩) (fun _ R s => R (.ok (.ret (.ref s.heap.objs.size))) { s with heap := s.heap.push { cls := .type "object" } }) :=
  Meets.of_wp fun prog w A R s hs => by
    obtain ⟨hp, g, d, tk, os⟩ := s
    have f1 := madeHere_obj
    unfold Builtin.«object.__new__»
    wp_walk
    exact ⟨_, rfl, hs⟩
theorem call_object {prog : Program} {w : World} {A : Around} {E : Value → Shared → Prop} {s : Shared} {Q : Value → Shared → Prop}
    (h : Q (.ref s.heap.objs.size) { s with heap := s.heap.push { cls := .type "object" } }) : wpAny (model prog w) A (call (.type "object") []) Q E s := by
  refine callType_meets (Q₁ := fun obj s₁ => obj = .ref s.heap.objs.size ∧ s₁ = { s with heap := s.heap.push { cls := .type "object" } }) called_obj typeCall_obj newCall_obj entry_obj_new F.entry_object_init meets_obj_new ⟨rfl, rfl⟩ ?_
  rintro obj s₁ ⟨rfl, rfl⟩
  refine ⟨⟨_, Heap.get?_push_size _ rfl, rfl⟩, args_obj_init _, (fun _ R s => R (.ok (.ret .none)) s), ?_, ⟨rfl, h⟩⟩
  exact Meets.of_wp fun prog w A R s hs => wpAny_pure ⟨_, rfl, hs⟩
theorem object_news {prog : Program} {w : World} {A : Around} {E : Value → Shared → Prop} {s : Shared} {h₀ : Heap} {L : Addr} {m : Str → Option Value} {news : List (Addr × Obj)} {Q : Value → Shared → Prop} (F : Fr h₀ L s.heap m) (N : News h₀ L s.heap news)
    (h : ∀ o h', Fr h₀ L h' m → News h₀ L h' ((o, ({ cls := .type "object" } : Obj)) :: news) → (∀ p ∈ news, p.1 < o) → Q (.ref o) { s with heap := h' }) : wpAny (model prog w) A (call (.type "object") []) Q E s :=
  call_object (h _ _ (F.push _) (N.push F _) fun p hp => Heap.lt_size (N p hp).1)
end Mine
end

section -- B14
open PySem PySem.W PyProof.Rows
set_option maxRecDepth 100000
set_option maxHeartbeats 4000000
namespace Mine
open PySem.Calls
/-- the places of a zip over a list (its iterator i1) and a text (its iterator i2) lie apart -/
structure Apart (z TI TO i1 i2 J : Addr) : Prop where
  TIz : TI ≠ z
  TOz : TO ≠ z
  i1z : i1 ≠ z
  i2z : i2 ≠ z
  TITO : TI ≠ TO
  TIi1 : TI ≠ i1
  TIi2 : TI ≠ i2
  TOi1 : TO ≠ i1
  TOi2 : TO ≠ i2
  i12 : i1 ≠ i2
  Jz : J ≠ z
  JTO : J ≠ TO
  Ji1 : J ≠ i1
  Ji2 : J ≠ i2
section
variable {prog : Program} {w : World} {A : Around} {E : Value → Shared → Prop} {s : Shared} {z TI TO i1 i2 J : Addr} {k : Nat} {xs : Array Value} {t : Str} {u : Tok} {a b : Value}
abbrev ZFree (h : Heap) (z TI TO i1 i2 J : Addr) (k : Nat) (xs : Array Value) (t : Str) (u : Tok) (f0 : Value) : Prop :=
  IsZip h z TI TO f0 ∧ IsPair h TI (.ref i1) (.ref i2) ∧ (∃ a b, IsPair h TO a b) ∧ h.IsListIter i1 J k ∧ h.IsStrIter i2 "str_ascii_iterator" t u k ∧ h.IsList J xs
theorem strIter_at {h h' : Heap} {i : Addr} {ty : String} {x : Str} {u : Tok} {k : Nat} (st : h.IsStrIter i ty x u k) (hk : ∀ o, h.get? i = some o → h'.get? i = some o) : h'.IsStrIter i ty x u k :=
  let ⟨o, ho, r⟩ := st; ⟨o, hk o ho, r⟩
theorem zfree_keep {h h' : Heap} {f0 : Value} (st : ZFree h z TI TO i1 i2 J k xs t u f0) (hk : ∀ c o, c = z ∨ c = TI ∨ c = TO ∨ c = i1 ∨ c = i2 ∨ c = J → h.get? c = some o → h'.get? c = some o) : ZFree h' z TI TO i1 i2 J k xs t u f0 := by
  obtain ⟨h1, h2, ⟨a, b, h3⟩, h4, h5, h6⟩ := st
  exact ⟨hk _ _ (by simp) h1, hk _ _ (by simp) h2, ⟨a, b, hk _ _ (by simp) h3⟩, h4.at fun o e => hk _ o (by simp) e, strIter_at h5 fun o e => hk _ o (by simp) e, h6.at fun o e => hk _ o (by simp) e⟩
theorem zs_item {x : Value} {c : Nat} {Q : Value → Shared → Prop} (D : Apart z TI TO i1 i2 J) (st : ZFree s.heap z TI TO i1 i2 J k xs t u .none) (hx : xs[k]? = some x) (hc : t.cps[k]? = some c)
    (hQ : ∀ (T : Addr) h' tk v, ZFree h' z TI TO i1 i2 J (k + 1) xs t u (rawInt T) → T = s.heap.objs.size → IsPair h' T x (.str ⟨#[c]⟩ v) → (∀ d o, d ≠ z → d ≠ TO → d ≠ i1 → d ≠ i2 → s.heap.get? d = some o → h'.get? d = some o) → Q (.ref T) { s with heap := h', toks := tk }) :
    wpAny (model prog w) A (Builtin.«zip.__next__» ⟨[.ref z], []⟩) (fun fin s' => ∃ v, fin = .done (.ret v) ∧ Q v s') E s := by
  obtain ⟨hz, hTI, ⟨a, b, hTO⟩, h1, h2, hJ⟩ := st
  show wpAny _ _ (field (.ref z) 2 >>= _) _ _ _
  refine wpAny_bind (wpAny_field hz rfl (x := .bool false) rfl ?_)
  show wpAny _ _ (field (.ref z) 3 >>= _) _ _ _
  refine wpAny_bind (wpAny_field hz rfl (x := .ref TI) rfl ?_)
  refine wpAny_bind (wpAny_seqItems hTI rfl ?_)
  show wpAny _ _ (Builtin.SmallTypes.ownedTupleIsFree (.ref z) >>= _) _ _ _
  refine wpAny_bind ?_
  unfold Builtin.SmallTypes.ownedTupleIsFree
  refine wpAny_bind (wpAny_field hz rfl (x := .none) rfl (wpAny_pure ?_))
  simp only [if_true]
  refine wpAny_bind (wpAny_rule ?_)
  refine wpAny_bind (wpAny_field hz rfl (x := .ref TO) rfl ?_)
  refine wpAny_bind (wpAny_setField_rec hz (by simp) fun g1 z1 s1 => ?_)
  replace z1 : IsZip g1 z TI TO .ellipsis := z1
  refine wpAny_bind ?_
  simp only [List.zipIdx_cons, List.zipIdx_nil, List.forIn_cons, List.forIn_nil]
  refine wpAny_bind (wpAny_bind (wpAny_onRaise ?_))
  show wpAny _ _ (Builtin.SmallTypes.nextOf (.ref i1) >>= _) _ _ _
  refine wpAny_bind (wpAny_nextOf_list_item (h1.extBut s1.extBut D.i1z) (hJ.extBut s1.extBut D.Jz) hx fun g2 h1' s2 => wpAny_pure ?_)
  have o2 : IsPair g2 TO a b := s2.extBut _ _ D.TOi1 (s1.extBut _ _ D.TOz hTO)
  refine wpAny_bind (wpAny_seqItems o2 rfl ?_)
  refine wpAny_bind (wpAny_updateSeq_pair o2 fun g3 o3 s3 => ?_)
  replace o3 : IsPair g3 TO x b := o3
  refine wpAny_bind (wpAny_letGo (wpAny_pure ?_))
  refine wpAny_bind (wpAny_bind (wpAny_onRaise ?_))
  show wpAny _ _ (Builtin.SmallTypes.nextOf (.ref i2) >>= _) _ _ _
  refine wpAny_bind (wpAny_nextOf_ascii_item (((h2.extBut s1.extBut D.i2z).extBut s2.extBut D.i12.symm).extBut s3.extBut D.TOi2.symm) hc fun g4 h2' s4 => wpAny_pure ?_)
  have o4 : IsPair g4 TO x b := s4.extBut _ _ D.TOi2 o3
  refine wpAny_bind (wpAny_seqItems o4 rfl ?_)
  refine wpAny_bind (wpAny_updateSeq_pair o4 fun g5 o5 s5 => ?_)
  generalize hv : Value.str _ _ = v at o5
  replace o5 : IsPair g5 TO x v := o5
  refine wpAny_bind (wpAny_letGo (wpAny_pure (wpAny_pure ?_)))
  refine wpAny_bind (wpAny_seqItems o5 rfl ?_)
  refine wpAny_bind (wpAny_newTuple ?_)
  have hsz : g5.objs.size = s.heap.objs.size := by rw [s5.1, s4.1, s3.1, s2.1, s1.1]
  have z5 : IsZip g5 z TI TO .ellipsis := s5.extBut _ _ D.TOz.symm (s4.extBut _ _ D.i2z.symm (s3.extBut _ _ D.TOz.symm (s2.extBut _ _ D.i1z.symm z1)))
  have k5 : ∀ d o, d ≠ z → d ≠ TO → d ≠ i1 → d ≠ i2 → s.heap.get? d = some o → g5.get? d = some o := fun d o c1 c2 c3 c4 e =>
    s5.extBut _ _ c2 (s4.extBut _ _ c4 (s3.extBut _ _ c2 (s2.extBut _ _ c3 (s1.extBut _ _ c1 e))))
  have l5 : g5.IsListIter i1 J (k + 1) := ((h1'.extBut s3.extBut D.TOi1.symm).extBut s4.extBut D.i12).extBut s5.extBut D.TOi1.symm
  have m5 : g5.IsStrIter i2 "str_ascii_iterator" t u (k + 1) := h2'.extBut s5.extBut D.TOi2.symm
  have zlt : z < g5.objs.size := Heap.lt_size z5
  show wpAny _ _ (Builtin.SmallTypes.ownedTupleHandOut (.ref z) (.ref g5.objs.size) >>= _) _ _ _
  refine wpAny_bind ?_
  unfold Builtin.SmallTypes.ownedTupleHandOut
  have z6 : IsZip (g5.push { cls := .type "tuple", data := .seq #[x, v] }) z TI TO .ellipsis := Heap.get?_push_of_some _ z5
  refine wpAny_bind (wpAny_setField_rec z6 (by simp) fun g7 z7 s7 => ?_)
  replace z7 : IsZip g7 z TI TO (rawInt g5.objs.size) := z7
  refine wpAny_setField_rec z7 (by simp) fun g8 z8 s8 => ?_
  replace z8 : IsZip g8 z TI TO (rawInt g5.objs.size) := z8
  have up : ∀ d o, d ≠ z → g5.get? d = some o → g8.get? d = some o := fun d o c1 e => s8.extBut _ _ c1 (s7.extBut _ _ c1 (Heap.get?_push_of_some _ e))
  have T8 : IsPair g8 g5.objs.size x v := s8.extBut _ _ (Nat.ne_of_gt zlt) (s7.extBut _ _ (Nat.ne_of_gt zlt) (Heap.get?_push_size _ rfl))
  refine wpAny_pure ⟨_, rfl, ?_⟩
  subst hv
  exact hQ _ g8 _ _ ⟨z8, up _ _ D.TIz (k5 _ _ D.TIz D.TITO D.TIi1 D.TIi2 hTI), ⟨_, _, up _ _ D.TOz o5⟩, l5.at fun o e => up _ o D.i1z e, strIter_at m5 fun o e => up _ o D.i2z e, hJ.at fun o e => up _ o D.Jz (k5 _ o D.Jz D.JTO D.Ji1 D.Ji2 e)⟩ hsz T8
    fun d o c1 c2 c3 c4 e => up d o c1 (k5 d o c1 c2 c3 c4 e)
theorem zs_end {Q : Fin → Shared → Prop} (hh : A.handled = none) (D : Apart z TI TO i1 i2 J) (st : ZFree s.heap z TI TO i1 i2 J k xs t u .none) (hx : xs[k]? = none)
    (hE : ∀ h' e, (∀ d o, d ≠ z → d ≠ TO → d ≠ i1 → d ≠ i2 → s.heap.get? d = some o → h'.get? d = some o) → (∃ o, h'.get? e = some o ∧ o.cls = .type "StopIteration") → E (.ref e) { s with heap := h' }) :
    wpAny (model prog w) A (Builtin.«zip.__next__» ⟨[.ref z], []⟩) Q E s := by
  obtain ⟨hz, hTI, ⟨a, b, hTO⟩, h1, h2, hJ⟩ := st
  show wpAny _ _ (field (.ref z) 2 >>= _) _ _ _
  refine wpAny_bind (wpAny_field hz rfl (x := .bool false) rfl ?_)
  show wpAny _ _ (field (.ref z) 3 >>= _) _ _ _
  refine wpAny_bind (wpAny_field hz rfl (x := .ref TI) rfl ?_)
  refine wpAny_bind (wpAny_seqItems hTI rfl ?_)
  show wpAny _ _ (Builtin.SmallTypes.ownedTupleIsFree (.ref z) >>= _) _ _ _
  refine wpAny_bind ?_
  unfold Builtin.SmallTypes.ownedTupleIsFree
  refine wpAny_bind (wpAny_field hz rfl (x := .none) rfl (wpAny_pure ?_))
  simp only [if_true]
  refine wpAny_bind (wpAny_rule ?_)
  refine wpAny_bind (wpAny_field hz rfl (x := .ref TO) rfl ?_)
  refine wpAny_bind (wpAny_setField_rec hz (by simp) fun g1 z1 s1 => ?_)
  replace z1 : IsZip g1 z TI TO .ellipsis := z1
  refine wpAny_bind ?_
  simp only [List.zipIdx_cons, List.zipIdx_nil, List.forIn_cons, List.forIn_nil]
  refine wpAny_bind (wpAny_bind (wpAny_onRaise ?_))
  show wpAny _ _ (Builtin.SmallTypes.nextOf (.ref i1) >>= _) _ _ _
  refine wpAny_bind (wpAny_nextOf_list_end hh (h1.extBut s1.extBut D.i1z) (hJ.extBut s1.extBut D.Jz) hx fun g2 e s2 he => ?_)
  obtain ⟨oe, hoe, hce⟩ := he
  have z2 : IsZip g2 z TI TO .ellipsis := s2 _ _ D.i1z.symm z1
  have hez : e ≠ z := fun x => by subst x; rw [z2] at hoe; cases hoe; simp at hce
  refine wpAny_setField_rec z2 (by simp) fun g3 _ s3 => hE g3 e (fun c o c1 _ c3 _ x => s3.extBut _ _ c1 (s2 _ _ c3 (s1.extBut _ _ c1 x))) ⟨oe, s3.extBut _ _ hez hoe, hce⟩
theorem next_item {x : Value} {c : Nat} {Q : Option Value → Shared → Prop} (D : Apart z TI TO i1 i2 J) (st : ZFree s.heap z TI TO i1 i2 J k xs t u .none) (hx : xs[k]? = some x) (hc : t.cps[k]? = some c)
    (hQ : ∀ (T : Addr) h' tk v, ZFree h' z TI TO i1 i2 J (k + 1) xs t u (rawInt T) → T = s.heap.objs.size → IsPair h' T x (.str ⟨#[c]⟩ v) → (∀ d o, d ≠ z → d ≠ TO → d ≠ i1 → d ≠ i2 → s.heap.get? d = some o → h'.get? d = some o) → Q (some (.ref T)) { s with heap := h', toks := tk }) :
    wpAny (model prog w) A (pyNext (.ref z)) Q E s := by
  have hT : s.TypeIs (.ref z) "zip" := ⟨_, st.1, rfl⟩
  unfold pyNext
  exact wpAny_bind (wpAny_attempt (wpAny_callSpecial?_slot (name := Str.ofString "__next__") hT F.slot_zip_next
    (wpAny_call_entry F.slot_zip_next hT F.entry_zip_next (zs_item D st hx hc fun T h' tk v a1 a2 a3 a4 => wpAny_pure (hQ T h' tk v a1 a2 a3 a4)) (F.args_zip_next_1 _))))
theorem next_end {Q : Option Value → Shared → Prop} (hh : A.handled = none) (D : Apart z TI TO i1 i2 J) (st : ZFree s.heap z TI TO i1 i2 J k xs t u .none) (hx : xs[k]? = none)
    (hQ : ∀ h', (∀ d o, d ≠ z → d ≠ TO → d ≠ i1 → d ≠ i2 → s.heap.get? d = some o → h'.get? d = some o) → Q none { s with heap := h' }) : wpAny (model prog w) A (pyNext (.ref z)) Q E s := by
  have hT : s.TypeIs (.ref z) "zip" := ⟨_, st.1, rfl⟩
  unfold pyNext
  refine wpAny_bind (wpAny_attempt (wpAny_callSpecial?_slot (name := Str.ofString "__next__") hT F.slot_zip_next
    (wpAny_call_entry F.slot_zip_next hT F.entry_zip_next (zs_end hh D st hx fun h' e hk he => ?_) (F.args_zip_next_1 _))))
  obtain ⟨o, ho, hc⟩ := he
  refine wpAny_bind (wpAny_isInstance (T := "StopIteration") (b := true) ⟨o, ho, hc⟩ isSubtype_stop ?_)
  exact wpAny_pure (hQ _ hk)
end
section
abbrev zg1 (h : Heap) (J : Addr) : Heap := h.push { cls := .type "list_iterator", data := .fields #[.ref J, .int 0 0] }
abbrev zg2 (h : Heap) (J : Addr) (t : Str) (u : Tok) : Heap := (zg1 h J).push { cls := .type "str_ascii_iterator", data := .fields #[.str t u, .int 0 0] }
abbrev zg3 (h : Heap) (J : Addr) (t : Str) (u : Tok) : Heap := (zg2 h J t u).push { cls := .type "tuple", data := .seq #[.ref h.objs.size, .ref (zg1 h J).objs.size] }
abbrev zg4 (h : Heap) (J : Addr) (t : Str) (u : Tok) : Heap := (zg3 h J t u).push { cls := .type "tuple", data := .seq #[.none, .none] }
abbrev zg5 (h : Heap) (J : Addr) (t : Str) (u : Tok) : Heap := (zg4 h J t u).push { cls := .type "zip", data := .fields #[.none, .bool false, .bool false, .ref (zg2 h J t u).objs.size, .ref (zg3 h J t u).objs.size] }
theorem meets_zip_ls (J : Addr) (xs : Array Value) (t : Str) (u : Tok) (ha : t.cps.all (· < 128) = true) :
    Meets (Builtin.«zip.__new__» ⟨[.type "zip", .ref J, .str t u], []⟩) (fun _ R s => s.heap.IsList J xs ∧ R (.ok (.ret (.ref (zg4 s.heap J t u).objs.size))) { s with heap := zg5 s.heap J t u }) :=
  .of_wp fun prog w A R s h => by
    obtain ⟨hp, g, d, tk, os⟩ := s; obtain ⟨hl1, h⟩ := h
    have hsub := sub_zip
    have hL1 : Heap.IsList (Shared.heap ⟨hp, g, d, tk, os⟩) J xs := hl1
    wp_walk using wpAny_pyIter_list hL1, wpAny_pyIter_ascii ha
    exact ⟨_, rfl, h⟩
variable {prog : Program} {w : World} {A : Around} {E : Value → Shared → Prop} {s : Shared}
theorem call_zip_ls {J : Addr} {xs : Array Value} {t : Str} {u : Tok} {Q : Value → Shared → Prop} (ha : t.cps.all (· < 128) = true) (hJ : s.heap.IsList J xs)
    (h : ∀ h' z TI TO i1 i2, Apart z TI TO i1 i2 J → ZFree h' z TI TO i1 i2 J 0 xs t u .none → (s.heap.objs.size ≤ z ∧ s.heap.objs.size ≤ TI ∧ s.heap.objs.size ≤ TO ∧ s.heap.objs.size ≤ i1 ∧ s.heap.objs.size ≤ i2) →
      (∀ c o, s.heap.get? c = some o → h'.get? c = some o) → Q (.ref z) { s with heap := h' }) :
    wpAny (model prog w) A (call (.type "zip") [.ref J, .str t u]) Q E s := by
  refine callType_new F.called_zip (by decide) (F.typeCall_zip_2 _ _) (F.newCall_zip_2 _ _) (fun obj => F.args_object_init_3 obj _ _) F.entry_zip_new (meets_zip_ls J xs t u ha) ⟨hJ, ?_⟩
  have a1 : @LT.lt Nat instLTNat J s.heap.objs.size := by obtain ⟨_, e, _⟩ := hJ; exact Heap.lt_size e
  have z1 : (zg1 s.heap J).objs.size = s.heap.objs.size + 1 := Heap.size_push ..
  have z2 : (zg2 s.heap J t u).objs.size = s.heap.objs.size + 2 := by rw [Heap.size_push, z1]
  have z3 : (zg3 s.heap J t u).objs.size = s.heap.objs.size + 3 := by rw [Heap.size_push, z2]
  have z4 : (zg4 s.heap J t u).objs.size = s.heap.objs.size + 4 := by rw [Heap.size_push, z3]
  have g5 : (zg5 s.heap J t u).get? (zg4 s.heap J t u).objs.size = some _ := Heap.get?_push_size _ rfl
  have g4 : (zg5 s.heap J t u).get? (zg3 s.heap J t u).objs.size = some _ := Heap.get?_push_of_some _ (Heap.get?_push_size _ rfl)
  have g3 : (zg5 s.heap J t u).get? (zg2 s.heap J t u).objs.size = some _ := Heap.get?_push_of_some _ (Heap.get?_push_of_some _ (Heap.get?_push_size _ rfl))
  have g2 : (zg5 s.heap J t u).get? (zg1 s.heap J).objs.size = some _ := Heap.get?_push_of_some _ (Heap.get?_push_of_some _ (Heap.get?_push_of_some _ (Heap.get?_push_size _ rfl)))
  have g1 : (zg5 s.heap J t u).get? s.heap.objs.size = some _ := Heap.get?_push_of_some _ (Heap.get?_push_of_some _ (Heap.get?_push_of_some _ (Heap.get?_push_of_some _ (Heap.get?_push_size _ rfl))))
  have gk : ∀ c o, s.heap.get? c = some o → (zg5 s.heap J t u).get? c = some o := fun c o x =>
    Heap.get?_push_of_some _ (Heap.get?_push_of_some _ (Heap.get?_push_of_some _ (Heap.get?_push_of_some _ (Heap.get?_push_of_some _ x))))
  refine ⟨⟨_, g5, rfl⟩, h _ _ _ _ _ _ ?_ ⟨g5, g3, ⟨_, _, g4⟩, ⟨_, g1, rfl, rfl⟩, ⟨_, g2, rfl, rfl⟩, Heap.IsList.at hJ fun o e => gk _ o e⟩ ?_ gk⟩
  · rw [z1, z2, z3, z4]
    constructor <;> intro e <;> have e' : (_ : Nat) = _ := e <;> omega
  · rw [z1, z2, z3, z4]
    refine ⟨?_, ?_, ?_, ?_, ?_⟩ <;> first | exact Nat.le_refl _ | exact Nat.le_add_right _ _
end
end Mine
end

section -- B15
open PySem PySem.W PyProof.Rows
set_option maxRecDepth 100000
set_option maxHeartbeats 4000000
namespace Mine
open PySem.Calls PyProof.Rows.LCg
def keepB (c : Nat) (p : Bool × Nat) : Bool := ((⟨#[p.2]⟩ : Str) == ⟨#[c]⟩) == p.1
theorem count_next {c : Nat} {ps : List (Bool × Nat)} {i : Nat} {p : Bool × Nat} (h : ps[i]? = some p) : (ps.take (i + 1)).countP (keepB c) = (ps.take i).countP (keepB c) + (if keepB c p then 1 else 0) := by
  rw [List.take_add_one, h, List.countP_append]
  simp [List.countP_cons]
def ZipAt (prog : Program) (w : World) (A : Around) (h₀ : Heap) (L : Addr) (m : Str → Option Value) (news : List (Addr × Obj)) (J : Addr) (xs : Array Value) (c : Nat) (ps : List (Bool × Nat)) (Q : Value → Shared → Prop) (xv : Value) (s₁ : Shared) : Prop :=
  ∃ (z TI TO i1 i2 : Addr) (t : Str) (u : Tok), xv = .ref z ∧ Apart z TI TO i1 i2 J ∧ ZFree s₁.heap z TI TO i1 i2 J 0 xs t u .none ∧ Fr h₀ L s₁.heap m ∧ News h₀ L s₁.heap news ∧
    (∀ b, b = z ∨ b = TO ∨ b = i1 ∨ b = i2 → L ≠ b ∧ h₀.get? b = none ∧ ∀ p ∈ news, p.1 ≠ b) ∧
    (∀ (i : Nat) (p : Bool × Nat), ps[i]? = some p → t.cps[i]? = some p.2 ∧ ∃ (T : Addr) (v : Tok) (k : Nat), xs[i]? = some (.ref T) ∧ (T, ({ cls := .type "tuple", data := .seq #[.bool p.1, .str ⟨#[c]⟩ v] k } : Obj)) ∈ news) ∧ xs.size = ps.length ∧
    ∀ D h' tk ys, ys.length = ps.countP (keepB c) → Fr h₀ L h' m → News h₀ L h' ((D, lst ys) :: news) → Q (.ref D) { s₁ with heap := h', toks := tk }
section
variable {prog : Program} {w : World} {A : Around} {E : Value → Shared → Prop} {s : Shared} {h₀ : Heap} {L : Addr} {m : Str → Option Value} {env : Env}
theorem cenv_kind {scope : Scope} {cl : List (Str × Addr)} {C : Addr} {x : Str} (hx : scope.names.lookup x = some .local) : (compEnvC scope cl C env).kindOf x = some .local := lookup_relabel_local hx
theorem cname {scope : Scope} {cl : List (Str × Addr)} {C : Addr} {x : Str} {pos : Pos} {v : Value} {m' : Str → Option Value} {Q : Value → Shared → Prop} (hkind : scope.kind = .function) (hx : scope.names.lookup x = some .local) (hn : s.heap.Ns C m') (hv : m' x = some v) (h : Q v s) (hd : (x == ("__debug__" : Str)) = false) :
    wpAny (model prog w) A (eval (.Name x pos) (compEnvC scope cl C env)) Q E s :=
  wpAny_Name (wpAny_loadName_local (by simp [compEnvC, relabel, hkind]) (cenv_kind hx) hn hv h) hd
theorem comp_ends {news : List (Addr × Obj)} {J : Addr} {xs : Array Value} {c : Nat} {ps : List (Bool × Nat)} {Q : Value → Shared → Prop} {sg br lt : Str} {p1 p2 p3 p4 p5 p6 q1 q2 q3 q4 q5 pos : Pos} {k1 k2 : Nat} {iter : Expr} {scope : Scope} {cl : List (Str × Addr)}
    (_F₀ : Fr h₀ L s.heap m) (_N₀ : News h₀ L s.heap news) (hh : A.handled = none) (hclos : closureFor scope env = pure cl) (hcell : ∀ y ∈ scope.names, y.2 ≠ .cell) (hkind : scope.kind = .function)
    (hnames : ∀ y ∈ scope.names, y.2 = .local → scope.names.lookup y.1 = some .local) (hsg : scope.names.lookup sg = some .local) (hbr : scope.names.lookup br = some .local) (hlt : scope.names.lookup lt = some .local)
    (hne1 : ¬ sg = br) (hne2 : ¬ sg = lt) (hne3 : ¬ br = lt) (hd1 : (sg == ("__debug__" : Str)) = false) (hd2 : (br == ("__debug__" : Str)) = false) (hd3 : (lt == ("__debug__" : Str)) = false) (hsz : ps.length ≤ sizeLine)
    (h : wpAny (model prog w) A (eval iter env) (ZipAt prog w A h₀ L m news J xs c ps Q) E s)
    (hs : ∀ x, foldedSetIterable iter env x = pure x) :
    wpAny (model prog w) A (eval (.ListComp (.Name sg p1) [⟨.Tuple [.Tuple [.Name br p2, .Name lt p3] k1 p4, .Name sg p5] k2 p6, iter, [.Compare (.Compare (.Name sg q1) [.Eq] [.Name lt q2] q3) [.Eq] [.Name br q4] q5], 0⟩] scope pos) env) Q E s := by
  rw [eval_ListComp]
  refine wpAny_comprehension_free (use := none) rfl hs hclos hkind hnames (wpAny_mono h (fun xv s₁ h₁ => ?_) fun _ _ e => e)
  obtain ⟨z, TI, TO, i1, i2, t, u, rfl, D0, st0, F, N, hwr, hps, hxl, hq⟩ := h₁
  refine wpAny_pyIter_zip st0.1 ?_
  refine wpAny_newObj_type (wpAny_newFunctionEnv hcell (by intro y hy; simp at hy) (fun h₁ hns₁ hsb₁ => ?_) hkind)
  dsimp only at hns₁ hsb₁ ⊢
  generalize hH2 : s₁.heap.push { cls := .type "list", dict := none, data := .seq ([] : List Value).toArray } = H2 at hns₁ hsb₁ ⊢
  have hC : H2.objs.size = s₁.heap.objs.size + 1 := by rw [← hH2, Heap.size_push]
  have hDC : s₁.heap.objs.size ≠ H2.objs.size := by rw [hC]; exact Nat.ne_of_lt (Nat.lt_succ_self _)
  have below : ∀ b, b < s₁.heap.objs.size → b ≠ H2.objs.size ∧ b ≠ s₁.heap.objs.size := fun b hb => ⟨by rw [hC]; exact Nat.ne_of_lt (Nat.lt_succ_of_lt hb), Nat.ne_of_lt hb⟩
  have old : ∀ b o, s₁.heap.get? b = some o → h₁.get? b = some o := fun b o e => hsb₁.extBut b o (below b (Heap.lt_size e)).1 (Heap.get?_push_of_some _ (hH2 ▸ Heap.get?_push_of_some _ e))
  have hacc : h₁.get? s₁.heap.objs.size = some (lst []) := hsb₁.extBut _ _ hDC (Heap.get?_push_of_some _ (hH2 ▸ Heap.get?_push_size _ rfl))
  have fresh : ∀ a, s₁.heap.objs.size ≤ a → h₀.get? a = none := fun a ha => by
    cases e : h₀.get? a with
    | none => rfl
    | some o' => exact absurd (Heap.lt_size (F.keep a o' e)) (Nat.not_lt.mpr ha)
  have hCge : s₁.heap.objs.size ≤ H2.objs.size := by rw [hC]; exact Nat.le_succ _
  have st1 : ZFree h₁ z TI TO i1 i2 J 0 xs t u .none := zfree_keep st0 fun d o _ e => old d o e
  have zlt : ∀ b, (∃ o, s₁.heap.get? b = some o) → b ≠ H2.objs.size ∧ b ≠ s₁.heap.objs.size := fun b ⟨o, e⟩ => below b (Heap.lt_size e)
  have zz := zlt z ⟨_, st0.1⟩
  have zTI := zlt TI ⟨_, st0.2.1⟩
  have zTO := zlt TO (let ⟨_, _, e⟩ := st0.2.2.1; ⟨_, e⟩)
  have z1 := zlt i1 (let ⟨o, e, _⟩ := st0.2.2.2.1; ⟨o, e⟩)
  have z2 := zlt i2 (let ⟨o, e, _⟩ := st0.2.2.2.2.1; ⟨o, e⟩)
  have zJ := zlt J (let ⟨o, e, _⟩ := st0.2.2.2.2.2; ⟨o, e⟩)
  have notIn : ∀ d, d = z ∨ d = TI ∨ d = TO ∨ d = i1 ∨ d = i2 ∨ d = J → d ≠ H2.objs.size ∧ d ≠ s₁.heap.objs.size := by
    rintro d (rfl | rfl | rfl | rfl | rfl | rfl) <;> assumption
  have loop : codeAny (model prog w) A (.compLoop (.ListComp (.Name sg p1) [⟨.Tuple [.Tuple [.Name br p2, .Name lt p3] k1 p4, .Name sg p5] k2 p6, iter, [.Compare (.Compare (.Name sg q1) [.Eq] [.Name lt q2] q3) [.Eq] [.Name br q4] q5], 0⟩] scope pos) 0 (.ref z) (.ref s₁.heap.objs.size) (compEnvC scope cl H2.objs.size env))
      (compPost (model prog w) A E none Q (.ref s₁.heap.objs.size) H2.objs.size) { s₁ with heap := h₁, toks := s₁.toks + ([] : List (Str × Value)).length } := by
    refine kct_loop
      (fun k s' => ∃ h' tk i ys m', s' = { s₁ with heap := h', toks := tk } ∧ i ≤ ps.length ∧ k = ps.length + 1 - i ∧ ys.length = (ps.take i).countP (keepB c) ∧ ys.length ≤ i ∧ ZFree h' z TI TO i1 i2 J i xs t u .none ∧ h'.Ns H2.objs.size m' ∧
        h'.get? s₁.heap.objs.size = some (lst ys) ∧ ∀ b o, ¬ (b = z ∨ b = TO ∨ b = i1 ∨ b = i2) → s₁.heap.get? b = some o → h'.get? b = some o) ?_ (ps.length + 1)
      ⟨h₁, _, 0, [], _, rfl, Nat.zero_le _, rfl, by simp, Nat.le_refl _, st1, hns₁, hacc, fun b o _ e => old b o e⟩
    rintro k s' ⟨h', tk, i, ys, m', rfl, hi, rfl, hyl, hyi, st, hn, hD, hold⟩
    by_cases hlt' : i < ps.length
    · obtain ⟨⟨b, a⟩, hp⟩ : ∃ p, ps[i]? = some p := ⟨ps[i], by simp [hlt']⟩
      obtain ⟨htc, T0, v0, kk, hx, hm⟩ := hps i _ hp
      refine next_item (s := ⟨h', s₁.gens, s₁.drawn, tk, s₁.os⟩) D0 st hx htc fun T h2 tk2 v st2 hTs hT2 hk2 => ?_
      dsimp only at hTs hk2
      subst hTs
      have hlt2 : ∀ d o, h'.get? d = some o → d ≠ h'.objs.size := fun d o e => Nat.ne_of_lt (Heap.lt_size e)
      refine wpAny_letOwnedTupleGo_zip (s := ⟨h2, s₁.gens, s₁.drawn, tk2, s₁.os⟩) st2.1 fun h3 hz3 hs3 => ?_
      dsimp only at hs3
      have hzT : h'.objs.size ≠ z := Ne.symm (hlt2 z _ st.1)
      have hT3 : h3.IsTuple h'.objs.size #[.ref T0, .str ⟨#[a]⟩ v] := ⟨_, hs3.extBut _ _ hzT hT2, rfl, _, rfl⟩
      have k3 : ∀ d o, ¬ (d = z ∨ d = TO ∨ d = i1 ∨ d = i2) → h'.get? d = some o → h3.get? d = some o := fun d o hd e =>
        hs3.extBut d o (fun q => hd (.inl q)) (hk2 d o (fun q => hd (.inl q)) (fun q => hd (.inr (.inl q))) (fun q => hd (.inr (.inr (.inl q)))) (fun q => hd (.inr (.inr (.inr q)))) e)
      have st3 : ZFree h3 z TI TO i1 i2 J (i + 1) xs t u .none := by
        obtain ⟨_, b2, ⟨oa, ob, b3⟩, b4, b5, b6⟩ := st2
        exact ⟨hz3, hs3.extBut _ _ D0.TIz b2, ⟨oa, ob, hs3.extBut _ _ D0.TOz b3⟩, b4.at fun o e => hs3.extBut _ o D0.i1z e, strIter_at b5 fun o e => hs3.extBut _ o D0.i2z e, b6.at fun o e => hs3.extBut _ o D0.Jz e⟩
      have offC : ¬ (H2.objs.size = z ∨ H2.objs.size = TO ∨ H2.objs.size = i1 ∨ H2.objs.size = i2) := by
        rintro (q | q | q | q)
        · exact zz.1 q.symm
        · exact zTO.1 q.symm
        · exact z1.1 q.symm
        · exact z2.1 q.symm
      have offD : ¬ (s₁.heap.objs.size = z ∨ s₁.heap.objs.size = TO ∨ s₁.heap.objs.size = i1 ∨ s₁.heap.objs.size = i2) := by
        rintro (q | q | q | q)
        · exact zz.2 q.symm
        · exact zTO.2 q.symm
        · exact z1.2 q.symm
        · exact z2.2 q.symm
      have hn3 : h3.Ns H2.objs.size m' := hn.at' fun o e => k3 _ o offC e
      have hD3 : h3.get? s₁.heap.objs.size = some (lst ys) := k3 _ _ offD hD
      have hT0o : ∀ q, q = z ∨ q = TO ∨ q = i1 ∨ q = i2 → T0 ≠ q := fun q hq' => (hwr q hq').2.2 _ hm
      have hT0' : s₁.heap.get? T0 = some _ := (N _ hm).1
      have hT03 : h3.IsTuple T0 #[.bool b, .str ⟨#[c]⟩ v0] := ⟨_, k3 _ _ (fun q => hT0o _ q rfl) (hold _ _ (fun q => hT0o _ q rfl) hT0'), rfl, _, rfl⟩
      -- the target is bound
      refine wpAny_assign_Tuple (s := ⟨h3, s₁.gens, s₁.drawn, tk2, s₁.os⟩) hh hT3 rfl rfl fun h4 he4 => ?_
      dsimp only at he4
      have k4 : ∀ d o, h3.get? d = some o → h4.get? d = some o := fun d o e => he4 d o (Nat.ne_of_lt (Heap.lt_size e)) e
      show wpAny _ _ (assignInOrder [assign (.Tuple [.Name br p2, .Name lt p3] k1 p4) (compEnvC scope cl H2.objs.size env), assign (.Name sg p5) (compEnvC scope cl H2.objs.size env)] [.ref T0, .str ⟨#[a]⟩ v]) _ _ _
      have hpk : ((compEnvC scope cl H2.objs.size env).scope.kind == .class || ((compEnvC scope cl H2.objs.size env).scope.kind == .module && (compEnvC scope cl H2.objs.size env).locals != (compEnvC scope cl H2.objs.size env).globals)) = false := by
        simp [compEnvC, relabel, hkind]
      refine assignInOrder_cons ?_
      refine kcp_assign (s := ⟨h4, s₁.gens, s₁.drawn, tk2, s₁.os⟩) (m := m') hh (hT03.at fun o e => k4 _ o e) (cenv_kind hbr) (cenv_kind hlt) hpk (hn3.at' fun o e => k4 _ o e) fun h5 tk5 hn5 hk5 => ?_
      dsimp only at hk5
      refine assignInOrder_cons ?_
      refine wpAny_assign_Name (wpAny_storeName_local (s := ⟨h5, s₁.gens, s₁.drawn, tk5, s₁.os⟩) (cenv_kind hsg) hn5 (fun h6 hn6 hs6 => ?_) hpk)
      dsimp only at hs6
      refine assignInOrder_nil ?_
      have k6 : ∀ d o, d ≠ H2.objs.size → h3.get? d = some o → h6.get? d = some o := fun d o hd e => hs6.extBut d o hd (hk5 d o hd (k4 d o e))
      have st6 : ZFree h6 z TI TO i1 i2 J (i + 1) xs t u .none := zfree_keep st3 fun d o hd e => k6 d o (notIn d hd).1 e
      have hD6 : h6.get? s₁.heap.objs.size = some (lst ys) := k6 _ _ hDC hD3
      have old6 : ∀ d o, ¬ (d = z ∨ d = TO ∨ d = i1 ∨ d = i2) → s₁.heap.get? d = some o → h6.get? d = some o := fun d o hd e => k6 d o (below d (Heap.lt_size e)).1 (k3 d o hd (hold d o hd e))
      -- the test
      have hvs : (fun x => if x = sg then some (Value.str ⟨#[a]⟩ v) else if x = lt then some (Value.str ⟨#[c]⟩ v0) else if x = br then some (Value.bool b) else m' x) sg = some (Value.str ⟨#[a]⟩ v) := by simp
      have hvl : (fun x => if x = sg then some (Value.str ⟨#[a]⟩ v) else if x = lt then some (Value.str ⟨#[c]⟩ v0) else if x = br then some (Value.bool b) else m' x) lt = some (Value.str ⟨#[c]⟩ v0) := by simp [Ne.symm hne2]
      have hvb : (fun x => if x = sg then some (Value.str ⟨#[a]⟩ v) else if x = lt then some (Value.str ⟨#[c]⟩ v0) else if x = br then some (Value.bool b) else m' x) br = some (Value.bool b) := by simp [Ne.symm hne1, hne3]
      refine wpAny_isTrue_Compare1 (wpAny_Compare1 (cname hkind hsg hn6 hvs (cname hkind hlt hn6 hvl (PyProof.Rows.eq_str (cname hkind hbr hn6 hvb (PyProof.Rows.eq_bool (wpAny_truthy_bool ?_)) hd2)) hd3) hd1) rfl) rfl
      have hcn := count_next (c := c) hp
      have hkb : (((⟨#[a]⟩ : Str) == ⟨#[c]⟩) == b) = keepB c (b, a) := rfl
      rw [hkb]
      by_cases hkp : keepB c (b, a) = true
      · rw [if_pos hkp]
        rw [if_pos hkp] at hcn
        refine cname hkind hsg hn6 hvs ?_ hd1
        refine append_at (hsz := by show ys.toArray.size ≤ sizeLine; rw [List.size_toArray]; exact Nat.le_trans hyi (Nat.le_trans hi hsz)) hD6 fun h7 hs7 hD7 => ?_
        dsimp only at hs7
        refine ⟨ps.length + 1 - (i + 1), by omega, h7, _, i + 1, ys ++ [_], _, rfl, hlt', rfl, ?_, ?_, ?_, hn6.at' fun o e => hs7.extBut _ o (Ne.symm hDC) e, hD7.trans (congrArg some (lst_snoc ys _)), ?_⟩
        · rw [List.length_append, hcn, hyl]; rfl
        · rw [List.length_append]; exact Nat.succ_le_succ hyi
        · exact zfree_keep st6 fun d o hd e => hs7.extBut d o (notIn d hd).2 e
        · exact fun d o hd e => hs7.extBut d o (below d (Heap.lt_size e)).2 (old6 d o hd e)
      · rw [if_neg hkp]
        rw [if_neg hkp] at hcn
        exact ⟨ps.length + 1 - (i + 1), by omega, h6, _, i + 1, ys, _, rfl, hlt', rfl, by rw [hcn, hyl]; rfl, Nat.le_succ_of_le hyi, st6, hn6, hD6, old6⟩
    · have hin : i = ps.length := Nat.le_antisymm hi (Nat.not_lt.mp hlt')
      subst hin
      refine next_end (s := ⟨h', s₁.gens, s₁.drawn, tk, s₁.os⟩) hh D0 st (by rw [← hxl]; simp) fun h2 hk2 => ?_
      dsimp only at hk2
      have offC : H2.objs.size ≠ z ∧ H2.objs.size ≠ TO ∧ H2.objs.size ≠ i1 ∧ H2.objs.size ≠ i2 := ⟨zz.1.symm, zTO.1.symm, z1.1.symm, z2.1.symm⟩
      have offD : s₁.heap.objs.size ≠ z ∧ s₁.heap.objs.size ≠ TO ∧ s₁.heap.objs.size ≠ i1 ∧ s₁.heap.objs.size ≠ i2 := ⟨zz.2.symm, zTO.2.symm, z1.2.symm, z2.2.symm⟩
      have all2 : ∀ d o, ¬ (d = z ∨ d = TO ∨ d = i1 ∨ d = i2) → s₁.heap.get? d = some o → h2.get? d = some o := fun d o hd e =>
        hk2 d o (fun q => hd (.inl q)) (fun q => hd (.inr (.inl q))) (fun q => hd (.inr (.inr (.inl q)))) (fun q => hd (.inr (.inr (.inr q)))) (hold d o hd e)
      have hD2 : h2.get? s₁.heap.objs.size = some (lst ys) := hk2 _ _ offD.1 offD.2.1 offD.2.2.1 offD.2.2.2 hD
      refine ⟨m', hn.at' fun o e => hk2 _ o offC.1 offC.2.1 offC.2.2.1 offC.2.2.2 e, fun h'' hs'' => ?_⟩
      have hL0 : L < s₁.heap.objs.size := F.ns.lt
      have all3 : ∀ d o, ¬ (d = z ∨ d = TO ∨ d = i1 ∨ d = i2) → s₁.heap.get? d = some o → h''.get? d = some o := fun d o hd e => hs''.extBut d o (below d (Heap.lt_size e)).1 (all2 d o hd e)
      have offL : ¬ (L = z ∨ L = TO ∨ L = i1 ∨ L = i2) := fun q => (hwr _ q).1 rfl
      have off0 : ∀ d o, h₀.get? d = some o → ¬ (d = z ∨ d = TO ∨ d = i1 ∨ d = i2) := fun d o e q => by
        have := (hwr d q).2.1
        rw [this] at e; cases e
      refine hq _ h'' tk ys (by rw [hyl, List.take_length]) ⟨F.ns.at' fun o e => all3 _ o offL e, fun d o e => all3 d o (off0 d o e) (F.keep d o e), F.above⟩ fun p hp => ?_
      rcases List.mem_cons.mp hp with rfl | hp
      · exact ⟨hs''.extBut _ _ hDC hD2, Nat.ne_of_gt hL0, fresh _ (Nat.le_refl _)⟩
      · exact ⟨all3 _ _ (fun q => (hwr _ q).2.2 p hp rfl) (N p hp).1, (N p hp).2⟩
  exact codeAny_compStart_list loop (wpAny_pyIter_zip st1.1 loop)
end
end Mine
end

section -- B16
open PySem PySem.W PyProof.Rows
set_option maxRecDepth 100000
set_option maxHeartbeats 4000000
namespace Mine
open PySem.Calls PyProof.Rows.LCg
theorem eq_nil {prog : Program} {w : World} {A : Around} {E : Value → Shared → Prop} {s : Shared} {D D2 : Addr} {ys : List Value} {n : Nat} {Q : Value → Shared → Prop}
    (hD : s.heap.get? D = some (lst ys)) (h2 : s.heap.get? D2 = some (listOf #[] n)) (hu : A.units + 64 < cLine) (h : Q (.bool (ys.length == 0)) s) : wpAny (model prog w) A (compareOp .Eq (.ref D) (.ref D2)) Q E s := by
  cases ys with
  | nil => exact ke_eq_ints (xs := []) (ys := []) ⟨_, hD, rfl, _, rfl⟩ ⟨_, h2, rfl, _, rfl⟩ .nil .nil hu (by simpa using h)
  | cons y ys =>
    exact cmp_ofEq (richCompare_meets_room (T := "list") ⟨_, hD, rfl⟩ ⟨_, h2, rfl⟩ F.slot_list_eq F.entry_list_eq (F.args_list_eq_2 _ _) (AutoSeq1.list___eq___list_list_0 D (y :: ys).toArray (y :: ys).length D2 #[] n (by simp)) ⟨hD, h2, by exact ⟨nofun, h⟩⟩ (by omega))
end Mine
end

section -- B17
open PySem PySem.W PyProof.Rows
set_option maxRecDepth 100000
set_option maxHeartbeats 4000000
namespace Mine
open PySem.Calls
theorem slice_disp {prog : Program} {w : World} {A : Around} {E : Value → Shared → Prop} {s : Shared} {h₀ : Heap} {L l : Addr} {m : Str → Option Value} {news : List (Addr × Obj)} {value slice : PySem.Expr} {vs : List Value} {ns : List Int} {x : Int} {u : Tok} {Q : Value → Shared → Prop}
    (F : Fr h₀ L s.heap m) (N : News h₀ L s.heap news) (hl : s.heap.IsList l vs.toArray) (hi : IntsAre vs ns) (hx : 0 ≤ x) (hz : vs.length ≤ 1000)
    (h : ∀ D ws h', Fr h₀ L h' m → News h₀ L h' ((D, listOf (List.toArray ws) 0) :: news) → (∀ p ∈ news, p.1 < D) → IntsAre ws (ns.drop x.toNat) → Q (.ref D) { s with heap := h' })
    (hs : subscripted slice false (.ref l) (.ref s.heap.objs.size) = operate [.ref s.heap.objs.size, .ref l] (getItem (.ref l) (.ref s.heap.objs.size))) :
    wpAny (model prog w) A (subscriptTail value slice (.ref l) (.ref s.heap.objs.size)) Q E { s with heap := s.heap.push { cls := .type "slice", data := .fields #[.int x u, .none, .none] } } := by
  refine tail_any (Heap.IsList.typeIs (s := { s with heap := s.heap.push { cls := .type "slice", data := .fields #[.int x u, .none, .none] } }) (hl.push _)) list_getitem_lookup
    (wpAny_getItem_list_slice (hl.push _) (Heap.IsSliceOf.new ..) (IsPart.int _ _) IsPart.none .none (by simp) ?_ (by rw [sizeLine_eq, List.size_toArray]; omega)) hs
  have N1 := News.push (F.push { cls := .type "slice", data := .fields #[.int x u, .none, .none] }) (N.grown fun _ _ e => Heap.get?_push_of_some _ e) { cls := .type "list", data := .seq (slicePick vs.toArray (some x) none none) }
  rw [Heap.size_push] at N1
  show Q (.ref (s.heap.push _).objs.size) _
  rw [Heap.size_push]
  refine h _ (slicePick vs.toArray (some x) none none).toList _ ((F.push _).push _) ?_ (fun p hp => Nat.lt_succ_of_lt (Heap.lt_size (N p hp).1)) (kmk_from hi hx)
  rw [Array.toArray_toList]
  exact N1
theorem ints_at : ∀ {vs : List Value} {ns : List Int} (k : Nat), IntsAre vs ns → k < ns.length → ∃ a t, vs[k]? = some (.int a t)
  | _, _, _, .nil, h => absurd h (Nat.not_lt_zero _)
  | _, _, 0, .cons x t _, _ => ⟨x, t, rfl⟩
  | _, _, k + 1, .cons _ _ r, h => ints_at k r (Nat.lt_of_succ_lt_succ h)
theorem four_ints {vs : List Value} {ns : List Int} (h : IntsAre vs ns) (hn : ns.length = 4) : ∃ a0 t0 a1 t1 a2 t2 a3 t3, vs = [.int a0 t0, .int a1 t1, .int a2 t2, .int a3 t3] := by
  cases h with
  | nil => cases hn
  | cons a0 t0 h => cases h with
    | nil => cases hn
    | cons a1 t1 h => cases h with
      | nil => cases hn
      | cons a2 t2 h => cases h with
        | nil => cases hn
        | cons a3 t3 h => cases h with
          | nil => exact ⟨a0, t0, a1, t1, a2, t2, a3, t3, rfl⟩
          | cons a4 t4 h => simp at hn
theorem fm_nat (a : Int) (k : Nat) (hk : 0 < k) : ∃ x : Nat, a.fmod (k : Int) = (x : Int) ∧ x < k := by
  have h1 := Int.fmod_nonneg_of_pos a (b := (k : Int)) (by omega)
  have h2 := Int.fmod_lt_of_pos a (b := (k : Int)) (by omega)
  exact ⟨(a.fmod k).toNat, by omega, by omega⟩
end Mine
end

section -- B18
open PySem PySem.W PyProof.Rows
set_option maxRecDepth 100000
set_option maxHeartbeats 4000000
namespace Mine
/-- no run of the machine takes a token back -/
theorem runs_toks {M : Model} {Γ : Ctx} {p : Pos} {t : Sem Fin} {fs : List Frame} {s s' : Shared} {e : End} (h : Runs M Γ p t fs s e s') : s.toks ≤ s'.toks := by
  induction h with
  | done | raise | yield => exact Nat.le_refl _
  | again _ _ ih | rule _ ih | «at» _ ih | load _ _ ih | loadIfAlive _ ih | point _ ih | ask _ ih | handled _ ih | genState _ _ ih | stack _ ih | thread _ ih => exact ih
  | update _ _ ih | alloc _ ih | choose _ _ ih | os _ ih | newGen _ ih => exact ih
  | fresh _ ih => exact Nat.le_of_succ_le ih
  | call _ _ ih1 ih2 => exact Nat.le_trans ih1 ih2
  | callSusp _ ih => exact ih
  | resumeFresh _ _ _ _ ih1 ih2 => exact Nat.le_trans ih1 ih2
  | resumeSuspended _ _ _ _ ih1 ih2 => exact Nat.le_trans ih1 ih2
  | resumeJustStarted _ _ _ ih => exact ih
  | resumeThrowFresh _ _ ih => exact ih
  | resumeRunning _ _ ih | resumeFinished _ _ ih => exact ih
  | segRet _ _ ih1 ih2 => exact Nat.le_trans ih1 ih2
  | segGen _ _ ih1 ih2 => exact Nat.le_trans ih1 ih2
  | segSuspOut _ _ ih => exact ih
  | segSuspGen _ _ _ _ ih1 ih2 => exact Nat.le_trans ih1 ih2
theorem wakes_toks {M : Model} {Γ : Ctx} {p : Pos} {g : Nat} {r : Resume} {s s' : Shared} {res : GenResult} (h : Wakes M Γ p g r s res s') : s.toks ≤ s'.toks := by
  unfold Wakes at h
  split at h
  · exact h.elim
  · split at h
    · obtain ⟨e₁, s₁, h1, _, _, rfl⟩ := h
      have q := runs_toks h1
      exact q
    · obtain ⟨_, rfl⟩ := h; exact Nat.le_refl _
    · obtain ⟨_, rfl⟩ := h; exact Nat.le_refl _
  · obtain ⟨e₁, s₁, h1, _, _, rfl⟩ := h
    have q := runs_toks h1
    exact q
  · obtain ⟨_, rfl⟩ := h; exact Nat.le_refl _
  · obtain ⟨_, rfl⟩ := h; exact Nat.le_refl _
theorem wp_toks {α : Type} {M : Model} {Γ : Ctx} {n : Nat} {Q : α → Pos → Shared → Prop} {E : Value → Pos → Shared → Prop} (t : Sem α) : ∀ (p : Pos) (s : Shared), n ≤ s.toks → Sem.wp M Γ t Q E p s →
    Sem.wp M Γ t (fun a p' s' => Q a p' s' ∧ n ≤ s'.toks) (fun e p' s' => E e p' s' ∧ n ≤ s'.toks) p s := by
  induction t with
  | pure x => intro p s hn h; exact ⟨h, hn⟩
  | raise v => intro p s hn h; exact ⟨h, hn⟩
  | unsupported | finish | yield | fork | await | register => exact fun _ _ _ h => h
  | rule _ k ih | «at» _ k ih | alloc _ k ih | loadIfAlive _ k ih | point _ k ih | ask k ih | os _ _ k ih | handled _ k ih | newGen _ k ih | stack k ih | thread k ih => exact fun p s hn h => ih _ _ _ hn h
  | fresh k ih => exact fun p s hn h => ih _ _ _ (Nat.le_succ_of_le hn) h
  | load a _ k ih | genState a k ih => exact fun p s hn ⟨o, ho, h⟩ => ⟨o, ho, ih _ _ _ hn h⟩
  | update a _ f k ih | choose _ _ k ih => exact fun p s hn ⟨ha, h⟩ => ⟨ha, ih _ _ _ hn h⟩
  | call c h g l k ih => exact fun p s hn ⟨r, s', hr, hw⟩ => ⟨r, s', hr, ih _ _ _ (Nat.le_trans hn (runs_toks hr)) hw⟩
  | resume g r l k ih => exact fun p s hn ⟨res, s', hw, h⟩ => ⟨res, s', hw, ih _ _ _ (Nat.le_trans hn (wakes_toks hw)) h⟩
theorem with_toks {α : Type} {M : Model} {A : Around} {t : Sem α} {Q : α → Shared → Prop} {E : Value → Shared → Prop} {s : Shared} (n : Nat) (hn : n ≤ s.toks) (h : wpAny M A t (fun a s' => n ≤ s'.toks → Q a s') E s) : wpAny M A t Q E s := fun Γ p hΓ =>
  Sem.wp_mono M Γ t (fun _ _ _ x => x.1 x.2) (fun _ _ _ x => x.1) p s (wp_toks t p s hn (h Γ p hΓ))
end Mine
end

section -- B19
open PySem PySem.W PyProof.Rows PySem.Builtin PySem.Builtin.Str
set_option maxRecDepth 100000
set_option maxHeartbeats 4000000
namespace Mine
open StrLaws
abbrev swap1 (d : Nat) (z : List Nat) (k : Nat) : List Nat := if k = d then z else [k]
theorem swap_none {d : Nat} {z : List Nat} : ∀ {l : List Nat}, d ∉ l → l.flatMap (swap1 d z) = l
  | [], _ => rfl
  | k :: r, h => by
    have hk : ¬ k = d := by rintro rfl; exact h List.mem_cons_self
    rw [List.flatMap_cons, swap_none (fun q => h (List.mem_cons_of_mem _ q)), swap1, if_neg hk]
    rfl
theorem swap_len (d : Nat) (z : List Nat) : ∀ l : List Nat, (l.flatMap (swap1 d z)).length ≤ l.length * (z.length + 1)
  | [] => Nat.zero_le _
  | k :: r => by
    have ih := swap_len d z r
    have h1 : (swap1 d z k).length ≤ z.length + 1 := by
      unfold swap1
      split
      · exact Nat.le_succ _
      · exact Nat.succ_le_succ (Nat.zero_le _)
    rw [List.flatMap_cons, List.length_append, List.length_cons, Nat.add_mul, Nat.one_mul]
    omega
theorem swap_parts (x : Str) (d : Nat) (z : Str) : ∀ (cuts : List Nat) (a f : Nat), a ≤ x.length → ChainG x ⟨#[d]⟩ x.length a cuts f → (∀ k, f ≤ k → ¬ At x ⟨#[d]⟩ x.length k) →
    (Str.join z (partsFrom x 1 a cuts)).cps.toList = (x.cps.toList.drop a).flatMap (swap1 d z.cps.toList)
  | [], a, f, ha, h, hn => by
    have e : f = a := h
    subst e
    have hfree := part_free x d f x.length (Nat.le_refl _) fun k h1 _ => hn k h1
    show (strSub x f x.length).cps.toList = _
    have hn' : x.cps.toList.length = x.length := by simp [Str.length]
    have e1 : (strSub x f x.length).cps.toList = x.cps.toList.drop f := by
      rw [strSub_toList, List.take_of_length_le (by rw [List.length_drop, hn']; exact Nat.le_refl _)]
    rw [e1] at hfree ⊢
    exact (swap_none hfree).symm
  | c :: r, a, f, ha, h, hn => by
    obtain ⟨hac, hAt, hno, hr⟩ := h
    have hn' : x.cps.toList.length = x.length := by simp [Str.length]
    have hc : c + 1 ≤ x.length := hAt.1
    have hfree := part_free x d a c (by omega) hno
    have hxc : x.cps.toList[c]? = some d := (subAt_one x d c).mp hAt
    have ih := swap_parts x d z r (c + 1) f hc hr hn
    obtain ⟨p, q, hpq⟩ := partsFrom_ne x 1 (c + 1) r
    show (Str.join z (strSub x a c :: partsFrom x 1 (c + 1) r)).cps.toList = _
    rw [hpq] at ih ⊢
    show ((strSub x a c ++ z) ++ Str.join z (p :: q)).cps.toList = _
    rw [cps_toList_append, cps_toList_append, ih]
    have hd : x.cps.toList.drop a = (strSub x a c).cps.toList ++ d :: x.cps.toList.drop (c + 1) := by
      rw [strSub_toList]
      have h1 : x.cps.toList.drop c = d :: x.cps.toList.drop (c + 1) := by
        obtain ⟨h3, h4⟩ := List.getElem?_eq_some_iff.mp hxc
        rw [List.drop_eq_getElem_cons h3, h4]
      rw [← h1]
      have h2 : x.cps.toList.drop c = (x.cps.toList.drop a).drop (c - a) := by rw [List.drop_drop]; congr 1; omega
      rw [h2, List.take_append_drop]
    rw [hd, List.flatMap_append, List.flatMap_cons, swap_none hfree]
    simp [swap1]
theorem replace_flat (x : Str) (d : Nat) (z : Str) : (glued z (partsBetween x (occurrences x ⟨#[d]⟩ 0 x.length (x.length + 1)) 1)).cps.toList = x.cps.toList.flatMap (swap1 d z.cps.toList) := by
  obtain ⟨f, h1, h2⟩ := occ_tight x ⟨#[d]⟩ (Nat.le_refl 1)
  rw [glued_eq_join, partsBetween_eq, swap_parts x d z _ 0 f (Nat.zero_le _) h1 h2, List.drop_zero]
theorem replace_one {prog : Program} {w : World} {A : Around} {E : Value → Shared → Prop} {s : Shared} {x z : Str} {d : Nat} {t u v : Tok} {Q : Value → Shared → Prop} (hu : u ≠ 0) (hv : v ≠ 0) (huv : u ≠ v) (hz : z.length ≠ 1) (hsz : x.length + (x.length + 1) * z.length ≤ 100000)
    (h : ∀ t' k, Q (.str ⟨(x.cps.toList.flatMap (swap1 d z.cps.toList)).toArray⟩ t') { s with toks := k }) :
    wpAny (model prog w) A (call (.builtin "str.replace") [.str x t, .str ⟨#[d]⟩ u, .str z v]) Q E s := by
  have hl1 : (⟨#[d]⟩ : Str).length = 1 := rfl
  have hyz : ((⟨#[d]⟩ : Str) == z) = false := by
    rw [beq_eq_false_iff_ne]
    rintro rfl
    exact hz rfl
  have hol := occ_length_le x ⟨#[d]⟩ 0 x.length (x.length + 1)
  have hmul := Nat.mul_le_mul_right z.length hol
  have hst := sizeLine_eq
  have hflat := replace_flat x d z
  refine call_gives F.slot_str_replace (typeIs_str _ _ _) F.entry_str_replace (F.args_str_replace_3 _ _ _)
    (gives_str_replace x ⟨#[d]⟩ z t u v fun _ => ⟨by simp [hu, hv], by simpa using huv, hyz, ?_⟩) ?_
  · unfold tooLong
    exact decide_eq_false (by omega)
  · have heq : ∀ y : Str, y.cps.toList = x.cps.toList.flatMap (swap1 d z.cps.toList) → y = ⟨(x.cps.toList.flatMap (swap1 d z.cps.toList)).toArray⟩ := by
      rintro ⟨⟨y⟩⟩ rfl
      rfl
    split
    · rename_i hc
      rw [hl1, Bool.or_eq_true] at hc
      have hc' : (occurrences x ⟨#[d]⟩ 0 x.length (x.length + 1)).isEmpty = true := hc.resolve_right (by simp)
      rw [List.isEmpty_iff.mp hc'] at hflat
      have e1 : x = ⟨(x.cps.toList.flatMap (swap1 d z.cps.toList)).toArray⟩ := heq x (by
        rw [← hflat, partsBetween_eq, glued_eq_join]
        show _ = (strSub x 0 x.length).cps.toList
        rw [strSub_toList, List.drop_zero, Nat.sub_zero, List.take_of_length_le (by simp [Str.length])])
      have := h t s.toks
      rw [← e1] at this
      exact this
    · rw [hl1, heq _ hflat]
      refine ⟨?_, h _ _⟩
      show (x.cps.toList.flatMap (swap1 d z.cps.toList)).toArray.size ≤ _
      rw [List.size_toArray]
      have h1 := swap_len d z.cps.toList x.cps.toList
      have h2 : x.cps.toList.length = x.length := by simp [Str.length]
      have h3 : z.cps.toList.length = z.length := by simp [Str.length]
      rw [h2, h3, Nat.mul_add, Nat.mul_one] at h1
      have h4 : (x.length + 1) * z.length = x.length * z.length + z.length := by rw [Nat.add_mul, Nat.one_mul]
      omega
theorem add_sharp {prog : Program} {w : World} {A : Around} {E : Value → Shared → Prop} {s : Shared} {x y : Str} {t u : Tok} {Q : Value → Shared → Prop} (hx : x.length ≠ 0) (hy : y.length ≠ 0) (hsz : x.length + y.length ≤ 100000) (h : Q (.str (x ++ y) s.toks) { s with toks := s.toks + 1 }) :
    wpAny (model prog w) A (binaryOp .Add (.str x t) (.str y u)) Q E s := by
  refine PySem.P.add_str ?_
  rw [if_neg (by simpa using hx), if_neg (by simpa using hy)]
  exact ⟨by rw [sizeLine_eq]; have : (x ++ y).length = x.length + y.length := by
              show (x ++ y).cps.size = x.cps.size + y.cps.size
              rw [← Array.length_toList, cps_toList_append, List.length_append, Array.length_toList, Array.length_toList]
            omega, h⟩
end Mine
end

section -- B20
open PySem PySem.W PyProof.Rows
set_option maxRecDepth 100000
set_option maxHeartbeats 4000000
namespace Mine
open PySem.Calls
section
variable {prog : Program} {w : World} {A : Around} {s : Shared} {env : Env} {h₀ : Heap} {x : Str} {body : List Stmt} {R : Result → Shared → Prop}
def TokEnd {σ : Type} (h₀ : Heap) (L I : Addr) (oI : Obj) (x : Str) (s : Shared) (Led : σ → List (Addr × Obj)) (ps : σ → List (Str × Value)) (stored : List Str) (m₀ : Str → Option Value) (Pn : σ → Prop) (f : Flow) (s' : Shared) : Prop :=
  f = .next ∧ ∃ (h' : Heap) (tk' : Nat) (m' : Str → Option Value) (c' : σ), s' = { s with heap := h', toks := tk' } ∧ Fr h₀ L h' m' ∧ News h₀ L h' ((I, oI) :: Led c') ∧
        (∀ p ∈ ps c', m' p.1 = some p.2) ∧ (∀ z, z ≠ x → (∀ p ∈ ps c', z ≠ p.1) → stored.contains z = false → m' z = m₀ z) ∧ Pn c'
theorem tok_end {σ : Type} {h₀ h' : Heap} {L I : Addr} {oI : Obj} {x : Str} {s : Shared} {Led : σ → List (Addr × Obj)} {ps : σ → List (Str × Value)} {stored : List Str} {m₀ m' : Str → Option Value} {Pn : σ → Prop} {tk' : Nat} {news' : List (Addr × Obj)} (c' : σ)
    (F : Fr h₀ L h' m') (N : News h₀ L h' news') (hn : ∀ p ∈ (I, oI) :: Led c', p ∈ news') (hk : ∀ p ∈ ps c', m' p.1 = some p.2) (hr : ∀ z, z ≠ x → (∀ p ∈ ps c', z ≠ p.1) → stored.contains z = false → m' z = m₀ z) (hp : Pn c') :
    TokEnd h₀ L I oI x s Led ps stored m₀ Pn .next { s with heap := h', toks := tk' } := ⟨rfl, h', tk', m', c', rfl, F, fun p hp => N p (hn p hp), hk, hr, hp⟩
/-- a for over an iterator that writes itself alone, the tokens bounded below by n0 -/
theorem tok_loop {σ : Type} {I : Addr} {n : Nat} {Pv : Nat → Value → Prop} {St : Nat → Heap → Prop} {m₀ : Str → Option Value} {px : Pos} (n0 : Nat) (W : Walks prog w A I [I] [I] n Pv St) (Led : σ → List (Addr × Obj)) (ps : σ → List (Str × Value)) (stored : List Str) (P : Nat → σ → Prop) (c₀ : σ)
    (hx : env.kindOf x = some .local) (hp : (env.scope.kind == .class || (env.scope.kind == .module && env.locals != env.globals)) = false)
    (hL : env.locals ≠ I) (hI : h₀.get? I = none) (hIo : ∀ i h, St i h → ∃ o, h.get? I = some o) (hst : St 0 s.heap) (hfp : ∀ c i, P i c → ∀ q ∈ Led c, q.1 ≠ I) (hn0 : n0 ≤ s.toks)
    (F : Fr h₀ env.locals s.heap m₀) (N : News h₀ env.locals s.heap (Led c₀)) (hk : ∀ p ∈ ps c₀, m₀ p.1 = some p.2) (hP : P 0 c₀)
    (turn : ∀ (i : Nat) (v : Value) (c : σ) (u : Str → Option Value) h tk oI, i < n → Pv i v → n0 ≤ tk → P i c →
      Fr h₀ env.locals h (fun y => if y = x then some v else kmap ps stored m₀ u c y) → News h₀ env.locals h ((I, oI) :: Led c) →
      wpAny (model prog w) A (execs body env) (TokEnd h₀ env.locals I oI x s Led ps stored m₀ (P (i + 1))) noE { s with heap := h, toks := tk })
    (done : ∀ (c : σ) (u : Str → Option Value) h tk, P n c → Fr h₀ env.locals h (fun y => if y = x then u y else kmap ps stored m₀ u c y) → News h₀ env.locals h (Led c) → R (.ok .next) { s with heap := h, toks := tk }) :
    codeAny (model prog w) A (.forLoop (.Name x px) (.ref I) body [] env) R s := by
  refine codeAny_forLoop
    (fun k s' => ∃ (h' : Heap) (tk i : Nat) (m' : Str → Option Value) (c : σ), s' = { s with heap := h', toks := tk } ∧ n0 ≤ tk ∧ St i h' ∧ Fr h₀ env.locals h' m' ∧ News h₀ env.locals h' (Led c) ∧
      (∀ p ∈ ps c, m' p.1 = some p.2) ∧ (∀ z, z ≠ x → (∀ p ∈ ps c, z ≠ p.1) → stored.contains z = false → m' z = m₀ z) ∧ P i c ∧ i ≤ n ∧ k = n + 1 - i) ?_ (n + 1)
    ⟨s.heap, s.toks, 0, m₀, c₀, rfl, hn0, hst, F, N, hk, fun _ _ _ _ => rfl, hP, Nat.zero_le _, rfl⟩
  rintro k s' ⟨h', tk, i, m', c, rfl, htk, hst', F', N', hk', hr', hP', hi, rfl⟩
  have next : ∀ h₁ : Heap, (∀ b o, b ∉ [I] → h'.get? b = some o → h₁.get? b = some o) → Fr h₀ env.locals h₁ m' ∧ News h₀ env.locals h₁ (Led c) := fun h₁ hk₁ =>
    ⟨⟨F'.ns.at' fun o e => hk₁ _ o (by simpa using hL) e, fun b o e => hk₁ b o (fun q => by rw [List.mem_singleton.mp q, hI] at e; cases e) (F'.keep b o e), F'.above⟩,
      fun p hp => ⟨hk₁ _ _ (by simpa using hfp c i hP' p hp) (N' p hp).1, (N' p hp).2⟩⟩
  by_cases hlt : i < n
  · refine with_toks n0 htk (W.item i _ _ _ hlt hst' fun v h₁ tk₁ hPv hst₁ hk₁ htk₁ => ?_)
    obtain ⟨F₁, N₁⟩ := next h₁ hk₁
    dsimp only at htk₁
    refine wpAny_assign_Name (wpAny_storeName_local hx F₁.ns (fun h₂ hn₂ hs₂ => ?_) hp)
    dsimp only at hs₂
    have F₂ := F₁.set hn₂ hs₂
    have N₂ := N₁.set hs₂
    have hst₂ : St (i + 1) h₂ := W.frame _ _ _ hst₁ fun b hb o e => (hs₂.2 b fun q => hL (q ▸ List.mem_singleton.mp hb)).trans e
    obtain ⟨oI, heI⟩ := hIo _ _ hst₂
    have N₃ : News h₀ env.locals h₂ ((I, oI) :: Led c) := fun p hp => by
      rcases List.mem_cons.mp hp with rfl | hp
      · exact ⟨heI, Ne.symm hL, hI⟩
      · exact N₂ p hp
    refine with_toks n0 (Nat.le_succ_of_le htk₁) (wpAny_mono (turn i v c m' h₂ (tk₁ + 1) oI hlt hPv (Nat.le_succ_of_le htk₁) hP' (kst_fr hk' hr' F₂) N₃) (fun f s₃ h₃ ht₃ => ?_) fun _ _ e => e.elim)
    obtain ⟨rfl, h₃, tk₃, m₃, c₃, rfl, F₄, N₄, hk₄, hr₄, hP₄⟩ := h₃
    have hI4 := (N₄ (I, oI) (.head _)).1
    refine ⟨n + 1 - (i + 1), by omega, h₃, tk₃, i + 1, m₃, c₃, rfl, ht₃, ?_, F₄, fun p hp => N₄ p (.tail _ hp), hk₄, hr₄, hP₄, hlt, rfl⟩
    refine W.frame _ _ _ hst₂ fun b hb o e => ?_
    obtain rfl := List.mem_singleton.mp hb
    rw [heI] at e
    cases e
    exact hI4
  · have hin : i = n := by omega
    subst hin
    refine W.done _ _ _ hst' fun h₁ tk₁ hk₁ => wpAny_execs_nil ?_
    obtain ⟨F₁, N₁⟩ := next h₁ hk₁
    exact done c m' h₁ tk₁ hP' (kst_frOut hk' hr' F₁) N₁
end
theorem small20 (k : Nat) (hk : k < 20) : Builtin.Range.small 0 ((k : Int) + 1) 1 = true := by
  have := (by decide +kernel : ∀ k : Fin 20, Builtin.Range.small 0 ((k.val : Int) + 1) 1 = true) ⟨k, hk⟩
  exact this
theorem size20 (k : Nat) : Builtin.Range.rangeSize 0 ((k : Int) + 1) 1 = ((k + 1 : Nat) : Int) := by
  rw [rangeSize_nat]; omega
end Mine
end

section -- B21
open PySem PySem.W PyProof.Rows PySem.Builtin
set_option maxRecDepth 100000
set_option maxHeartbeats 4000000
namespace Mine
open PySem.Builtin._codecs
theorem ascii_key (b : Array UInt8) {st : Faults} (F : Nat → Nat × Array Nat × Faults → Sem (ForInStep (Nat × Array Nat × Faults)))
    (hF : ∀ x p out, p < b.size → out.size = p → F x (p, out, st) = pure (.yield (p + 1, out ++ [(b.getD p 0).toNat].toArray, st))) :
    ∀ (m p : Nat) (out : Array Nat) (k : Nat), p + m = b.size → out.size = p → forIn (List.range' k m) (p, out, st) F = pure (b.size, out ++ ((b.toList.drop p).map UInt8.toNat).toArray, st)
  | 0, p, out, k, hp, ho => by
    have e : b.toList.drop p = [] := List.drop_eq_nil_of_le (by simp; omega)
    have e2 : p = b.size := by omega
    rw [e]
    subst e2
    simp
  | m + 1, p, out, k, hp, ho => by
    have hlt : p < b.size := by omega
    rw [List.range'_succ, List.forIn_cons, hF k p out hlt ho]
    have ih := ascii_key b F hF m (p + 1) (out ++ [(b.getD p 0).toNat].toArray) (k + 1) (by omega) (by simp [ho])
    show forIn (List.range' (k + 1) m) (p + 1, out ++ [(b.getD p 0).toNat].toArray, st) F = _
    rw [ih]
    have hd : b.toList.drop p = b.getD p 0 :: b.toList.drop (p + 1) := by
      rw [List.drop_eq_getElem_cons (by simpa using hlt)]
      congr 1
      simp [hlt]
    rw [hd]
    simp
theorem run_ascii (id : String) (b : Array UInt8) (hb : ∀ p, p < b.size → (b.getD p 0).toNat < 128) (hsz : b.size ≤ 1000) : runDecoder id asciiDecoder none true b 0 [] = pure ((b.toList.map UInt8.toNat).toArray, b.size) := by
  unfold runDecoder
  simp only [Std.Legacy.Range.forIn_eq_forIn_range', Std.Legacy.Range.size]
  rw [ascii_key b _ ?_ _ 0 #[] _ (by simp) rfl]
  · simp
  · intro x p out hp ho
    have h1 : ¬ out.size > sizeLine := by rw [sizeLine_eq]; omega
    have h2 : ¬ p ≥ b.size := by omega
    have h3 : asciiDecoder.find true b p = .text [(b.getD p 0).toNat] (p + 1) := by
      show (if (b.getD p 0).toNat < 128 then Found.char (b.getD p 0).toNat (p + 1) else _) = _
      rw [if_pos (hb p hp)]; rfl
    dsimp only
    rw [if_neg h1, if_neg h2, h3]
section
open PySem.W.KBd
variable {b : Array UInt8} {c : UInt8} {cs : List UInt8} {t u : Tok} {x : PySem.Str} {n : Nat}
theorem road_ascii {id : String} : decodeRoad id b (PySem.Str.ofString "ascii") none [] = (runDecoder id asciiDecoder none true b 0 [] >>= fun r => mkStr ⟨r.1⟩) := by kernel_rfl
theorem entry_ascii : «bytes.decode» ⟨[.bytes (c :: cs).toArray t, .str (PySem.Str.ofString "ascii") u], []⟩ = (mkStr (PySem.Str.ofString "utf-8") >>= fun _ => mkStr (PySem.Str.ofString "ascii") >>= fun e => mkStr (PySem.Str.ofString "bytes.decode") >>= fun d =>
    call (.builtin "_codecs.decode.text") [.bytes (c :: cs).toArray t, e, .none, d] >>= fun v => ret v) := by kernel_rfl
theorem meets_text_a {t1 t2 : Tok} {d : PySem.Str} (hb : ∀ p, p < b.size → (b.getD p 0).toNat < 128) (hsz : b.size ≤ 1000) :
    Meets («_codecs.decode.text» ⟨[.bytes b t, .str (PySem.Str.ofString "ascii") t1, .none, .str d t2], []⟩) (fun _ R s => R (.ok (.ret (.str ⟨(b.toList.map UInt8.toNat).toArray⟩ s.toks))) { s with toks := s.toks + 1 }) := by
  refine .of_wp fun prog w A R s h => ?_
  show wpAny _ _ (Bytes.bytesLike _ (.bytes b t) >>= fun r => _) _ _ s
  refine wpAny_bind (wpAny_of_eq like_eq ?_)
  refine wpAny_bind (wpAny_of_eq held_eq ?_)
  show wpAny _ _ (decodeRoad _ b (PySem.Str.ofString "ascii") none [] >>= fun v => _) _ _ s
  rw [road_ascii, run_ascii _ b hb hsz]
  refine wpAny_bind (wpAny_bind (wpAny_pure ?_))
  exact wpAny_mkStr (wpAny_pure ⟨_, rfl, h⟩) (by rw [sizeLine_eq]; show (b.toList.map UInt8.toNat).toArray.size ≤ _; rw [List.size_toArray, List.length_map, Array.length_toList]; omega)
theorem meets_decode_a (hb : ∀ p, p < (c :: cs).toArray.size → ((c :: cs).toArray.getD p 0).toNat < 128) (hsz : (c :: cs).toArray.size ≤ 1000) :
    Meets («bytes.decode» ⟨[.bytes (c :: cs).toArray t, .str (PySem.Str.ofString "ascii") u], []⟩) (fun _ R s => ∀ t' k, R (.ok (.ret (.str ⟨((c :: cs).map UInt8.toNat).toArray⟩ t'))) { s with toks := k }) := by
  refine .of_wp fun prog w A R s h => ?_
  rw [entry_ascii]
  refine wpAny_bind (wpAny_mkStr ?_ (by decide))
  refine wpAny_bind (wpAny_mkStr ?_ (by decide))
  refine wpAny_bind (wpAny_mkStr ?_ (by decide))
  exact wpAny_bind (call_function_meets kind_text plain_text entry_text (args_text _ _ _ _) (meets_text_a hb hsz) (wpAny_pure ⟨_, rfl, h _ _⟩))
theorem args_decode_2 (a b : Value) : argsOk "bytes.decode" ⟨[a, b], []⟩ := by unfold argsOk; kernel_rfl
theorem decode_ascii {prog : Program} {w : World} {A : Around} {E : Value → Shared → Prop} {s : Shared} {bs : List UInt8} {Q : Value → Shared → Prop} (hne : bs ≠ []) (hb : ∀ c ∈ bs, c.toNat < 128) (hsz : bs.length ≤ 1000)
    (h : ∀ t' k, Q (.str ⟨(bs.map UInt8.toNat).toArray⟩ t') { s with toks := k }) :
    wpAny (model prog w) A (call (.builtin "bytes.decode") [.bytes bs.toArray t, .str (PySem.Str.ofString "ascii") u]) Q E s := by
  obtain ⟨c, cs, rfl⟩ := List.exists_cons_of_ne_nil hne
  refine call_meets FB.slot_bytes_decode (typeIs_bytes _ _ _) FB.entry_bytes_decode (args_decode_2 _ _) (meets_decode_a (fun p hp => hb _ ?_) (by simpa using hsz)) h
  rw [List.size_toArray] at hp
  have : (c :: cs).toArray.getD p 0 = (c :: cs)[p] := by
    rw [Array.getD_eq_getD_getElem?, List.getElem?_toArray, List.getElem?_eq_getElem hp]; rfl
  rw [this]
  exact List.getElem_mem hp
end
end Mine
end

section -- B22
open PySem PySem.W PyProof.Rows
set_option maxRecDepth 100000
set_option maxHeartbeats 4000000
namespace Mine
theorem rev_slice (v : List Nat) (tk : Tok) : Txt.sliceBy ⟨v.toArray⟩ none none (-1, tk) = ⟨v.reverse.toArray⟩ := by
  have e0 : slicePicked ⟨v.toArray⟩ none none (some (-1, tk)) = (List.range v.length).reverse := by
    rw [← krv_range, ← krv_sliceRange]
    unfold slicePicked Builtin.Str.strSliceIndices
    have hn : (⟨v.toArray⟩ : Str).length = v.length := List.size_toArray
    rw [hn]
    rfl
  unfold Txt.sliceBy
  rw [e0]
  have h1 : ((((some ((-1 : Int), tk)).map (·.1)).getD 1 == 1 && (List.range v.length).reverse.length == (⟨v.toArray⟩ : Str).length) = true) ↔ False := by
    simp
  rw [if_neg (fun h => h1.mp h), List.filterMap_reverse]
  have := krv_all v.toArray
  rw [List.size_toArray] at this
  show (⟨((List.range v.length).filterMap (v.toArray[·]?)).reverse.toArray⟩ : Str) = _
  rw [this]
end Mine
end

section -- S1
open PySem PySem.W PyProof.Rows
set_option maxRecDepth 100000
set_option maxHeartbeats 8000000
namespace Mine
theorem fill_1 : (∀ P h, (Mine.hd.heap_39 P).In h → PySem.Challenge.rw_in0245_01 = PySem.Challenge.rw_in0245_01) := by
  k_fill
  intros; rfl
local macro_rules | `(tactic| walk_at "exec While Compare cons nil") => `(tactic| (k_here; refine hold_of ?_))
local macro_rules | `(tactic| tb_start) => `(tactic| w_strict (repeat' (first | (k_unfold; (try dsimp only)) | (walk1; (try dsimp only)) | fail "no step")))
local macro_rules | `(tactic| tb_rel) => `(tactic| (refine' code_def ?k1 ?k2 ?k3 ?k4 ?k5 ?kA ?kF ?kK ?k6 ?k7 ?k8 ?k9 ?kB ?_ ?c2 ?c3 ?c4 ?c5; (case kA => exact rfl); (case kF => assumption); (case kK => assumption); (case k1 => k_asm); (case k2 => k_asm); (case k3 => k_asm); (case k4 => k_asm); (case k5 => k_asm); (case k6 => k_is); (case k7 => k_is); (case k8 => k_room); (case k9 => first | exact BindsTo.of_eq rfl | exact binds_K (by k_in) rfl (by k_is) rfl rfl rfl | fail "k_enter: no rule for these arguments"); (case c5 => decide); (case kB => exact locs rfl); (case c2 => exact rfl); (case c3 => exact rfl); (case c4 => exact rfl); k_whole))

local macro_rules | `(tactic| ktr_unf) => `(tactic| repeat (first | exact List.forall_mem_nil _ | refine List.forall_mem_cons.mpr ⟨rfl, ?_⟩))
local macro_rules | `(tactic| ktr_rel) => `(tactic| (intro z h1 h2; (try simp only [List.forall_mem_cons, List.forall_mem_nil, and_true, List.contains_cons, List.contains_nil, Bool.or_false, Bool.or_eq_false_iff, beq_eq_false_iff_ne, ne_eq] at h1 h2); (try simp only [kmap, kstB, List.contains_cons, List.contains_nil, Bool.or_false, Bool.or_eq_true, beq_iff_eq, h1, h2, if_false, or_false, or_self])))
local macro_rules | `(tactic| walk_at "call ref") => `(tactic| (k_here; refine hold_of ?_))
local macro_rules | `(tactic| walk_at "call type:range") => `(tactic| (k_here; refine hold_of ?_))
local macro_rules | `(tactic| walk_at "call type:reversed") => `(tactic| (k_here; refine hold_of ?_))
local macro_rules | `(tactic| walk_at "pyIter ref") => `(tactic| (k_here; refine hold_of ?_))
local macro_rules | `(tactic| walk_at "exec Assign cons ListComp") => `(tactic| (k_here; refine hold_of ?_))
local macro_rules | `(tactic| walk_at "eval ListComp") => `(tactic| (k_here; refine hold_of ?_))
local macro_rules | `(tactic| walk_at "subscriptTail Name Constant ref int") => `(tactic| (k_here; refine hold_of ?_))
local macro_rules | `(tactic| walk_at "subscriptTail Name Name ref int") => `(tactic| (k_here; refine hold_of ?_))
local macro_rules | `(tactic| walk_at "subscriptTail Subscript Name Constant Constant ref int") => `(tactic| (k_here; refine hold_of ?_))
local macro_rules | `(tactic| walk_at "subscriptTail Call Name cons nil Constant ref int") => `(tactic| (k_here; refine hold_of ?_))
local macro_rules | `(tactic| walk_at "compareOp NotEq ref ref") => `(tactic| (k_here; refine hold_of ?_))
local macro_rules | `(tactic| walk_at "compareOp Lt ref ref") => `(tactic| (k_here; refine hold_of ?_))
local macro_rules | `(tactic| walk_at "call builtin:len") => `(tactic| (k_here; refine hold_of ?_))
local macro_rules | `(tactic| walk_at "setItem ref int ref") => `(tactic| (k_here; refine hold_of ?_))
local macro_rules | `(tactic| walk_at "KswEnd") => `(tactic| (k_here; refine hold_of ?_))
local macro_rules | `(tactic| walk_at "InvEndN") => `(tactic| (k_here; refine hold_of ?_))
local macro_rules | `(tactic| walk_at "CompEnd") => `(tactic| (k_here; refine hold_of ?_))
local macro_rules | `(tactic| ktd_rel) => `(tactic| ((repeat (refine List.forall_mem_cons.mpr ⟨by k_mem, ?_⟩)); first | exact List.forall_mem_nil _ | (intro p hp; repeat (first | exact hp | refine List.Mem.tail _ ?_))))
section
variable {α : Type} (lt : α → α → Bool) (x : α) (st : Nat)
def sdLoop : Nat → List α → Nat → List α × Nat
  | 0, es, pos => (es, pos)
  | f + 1, es, pos => if st < pos then (match es[(pos - 1) / 2]? with
      | some p => if lt x p then sdLoop f (es.set pos p) ((pos - 1) / 2) else (es, pos)
      | none => (es, pos)) else (es, pos)
def siftdown (es : List α) (pos : Nat) : List α := let r := sdLoop lt x st pos es pos; r.1.set r.2 x
end

section
variable {w : World} {e1 e2 e3 e4 : Env} {base h₀ : Heap} {L : Addr} {m mg mb : Str → Option Value} {s : Shared} {p : Program} {loose : List Str} {mean : ExcName → Option Value}
abbrev A3 (e1 e2 e3 : Env) := ((callerA.deeper e1).deeper e2).deeper e3
abbrev refs (es : List (Addr × Row)) : List Value := es.map fun p => Value.ref p.1
abbrev ltE (a b : Addr × Row) : Bool := a.2.lt b.2
abbrev S (s : String) : Str := Str.ofString s
def RowsIn (rest : List (Addr × Obj)) (es : List (Addr × Row)) : Prop := ∀ e ∈ es, ∃ t1 t2 t3 n, (e.1, listOf (rowArr e.2 t1 t2 t3) n) ∈ rest
theorem siftdown_C {a : Addr} {es : List (Addr × Row)} {n : Nat} {rest : List (Addr × Obj)} {t1 t2 : Tok} {st pp : Nat} {x : Addr × Row} {Q : Value → Shared → Prop}
  (B : Below (A3 e1 e2 e3) base [e3,e2,e1] h₀) (F : Fr h₀ L s.heap m) (X₀ : (Mine.hd.heap_39 w.params).In h₀) (N : News h₀ L s.heap ((a, listOf (refs es).toArray n) :: rest)) (T : Top p loose mean mg mb h₀)
  (hf : e4.frame = some L) (hke : e4.scope.kind = .function) (hx : es[pp]? = some x) (hlen : es.length < 100) (hrows : RowsIn rest es) (hrest : ∀ p ∈ rest, p.1 ≠ a)
  (hQ : ∀ h' tk, Fr h₀ L h' m → News h₀ L h' ((a, listOf (refs (siftdown ltE x st es pp)).toArray n) :: rest) → Q .none { s with heap := h', toks := tk }) :
  wpAny (model PySem.Challenge.rw_in0245_01.row.prog w) (((callerA.deeper e1).deeper e2).deeper e3 |>.deeper e4) (call (.ref 52) [.ref a, .int st t1, .int pp t2]) Q (fun _ _ => False) s := by
  refine wpAny_call ?_
  tb_rel
  intro g' L' h' FG' F' N' B' X' T'
  replace F' := fr_binds [(S "pos", .int pp t2), (S "startpos", .int st t1), (S "heap", .ref a)] F'
  refine wpAny_mono (E := fun _ _ => False) ?_ (fun _ _ x => x) (fun _ _ x => x.elim)
  k_fold
  tb_start
  refine of_hold ?_
  refine get_list N' (x := .ref x.1) rfl (by simp [hx]) (by have := (List.getElem?_eq_some_iff.mp hx).1; omega) ?_
  tb_start
  rename_i F1 N1
  have hpl := (List.getElem?_eq_some_iff.mp hx).1
  refine while_rule (σ := List (Addr × Row) × Nat × Tok) (fun c => (a, listOf (refs c.1).toArray n) :: rest) (fun c => [(S "pos", .int c.2.1 c.2.2)]) [S "parentpos", S "parent"]
    (fun c => c.1.length = es.length ∧ c.2.1 < c.1.length ∧ RowsIn rest c.1 ∧ ∃ f, c.2.1 ≤ f ∧ sdLoop ltE x st f c.1 c.2.1 = sdLoop ltE x st pp es pp)
    (fun c => c.1.length = es.length ∧ c.2.1 < c.1.length ∧ (c.1, c.2.1) = sdLoop ltE x st pp es pp) (fun c => c.2.1) (es, pp, t2) F1 N1 ?hk ?hp ?turn ?after
  case hk => simp [S]; rfl
  case hp => exact ⟨rfl, hpl, hrows, pp, Nat.le_refl _, rfl⟩
  case after =>
    rintro ⟨es1, pos1, tk1⟩ u h tk ⟨hl1, hp1, hend⟩ F2 N2
    dsimp only at *
    tb_start
    refine of_hold ?_
    refine set_list F2 N2 hrest rfl (by simpa using hp1) (by omega) ?_
    intro h3 F3 N3
    tb_start
    rename_i kF kN _ _
    refine hQ _ _ kF ?_
    unfold siftdown
    rw [← hend]
    dsimp only
    rw [refs, List.map_set]
    exact kN
  case turn =>
    rintro ⟨es1, pos1, tk1⟩ u h tk0 ⟨hl1, hp1, hr1, f, hf1, hsd⟩ F2 N2
    dsimp only at *
    tb_start
    · rename_i hlt _ F3 N3
      have hlt : st < pos1 := by omega
      obtain ⟨f, rfl⟩ : ∃ f', f = f' + 1 := ⟨f - 1, by omega⟩
      have e1 : (((pos1 : Int) - 1).fdiv (2 ^ Int.toNat 1)) = (((pos1 - 1) / 2 : Nat) : Int) := by
        show ((pos1 : Int) - 1).fdiv 2 = _
        rw [Int.fdiv_eq_ediv_of_nonneg _ (by omega)]; omega
      rw [e1] at F3 ⊢
      have hq : (pos1 - 1) / 2 < es1.length := by omega
      obtain ⟨q, hq1⟩ : ∃ q, es1[(pos1 - 1) / 2]? = some q := ⟨_, List.getElem?_eq_getElem hq⟩
      simp only [sdLoop, if_pos hlt, hq1] at hsd
      refine of_hold ?_
      refine get_list N3 (x := .ref q.1) rfl (by simp [hq1]) (by omega) ?_
      tb_start
      rename_i F4 N4
      obtain ⟨a1, a2, a3, na, hxr⟩ := hrows x (List.mem_of_getElem? hx)
      obtain ⟨b1, b2, b3, nb, hqr⟩ := hr1 q (List.mem_of_getElem? hq1)
      refine of_hold ?_
      refine lt_rows (News.get N4 (.tail _ hxr)) (News.get N4 (.tail _ hqr)) (by k_units) ?_
      tb_start
      · rename_i hc
        simp only [ltE, hc, if_true] at hsd
        refine of_hold ?_
        refine set_list F4 N4 hrest rfl (by simpa using hp1) (by omega) ?_
        intro h5 F5 N5
        tb_start
        rename_i F6 N6
        refine of_hold ?_
        refine ksw_end (es1.set pos1 q, (pos1 - 1) / 2, tk0 + 1 + 1 + 1) F6 N6 ?a trivial ?b ?c ?d ?e
        case b => ktr_unf
        case a => rw [refs, List.map_set]; exact fun p hp => hp
        case c => ktr_rel
        case d =>
          refine ⟨by simpa using hl1, by simpa using hq, ?_, f, by dsimp only; omega, hsd⟩
          intro e he
          rcases List.mem_or_eq_of_mem_set he with h | rfl
          · exact hr1 e h
          · exact ⟨_, _, _, _, hqr⟩
        case e => dsimp only; omega
      · rename_i hc
        simp only [ltE, hc, Bool.false_eq_true, if_false] at hsd
        refine loop_end (es1, pos1, tk1) F4 N4 (fun p hp => hp) ?_ ?_ ⟨hl1, hp1, hsd⟩
        · ktr_unf
        · ktr_rel
    · have e : sdLoop ltE x st f es1 pos1 = (es1, pos1) := by
        cases f with
        | zero => rfl
        | succ f => rw [sdLoop, if_neg (by omega)]
      refine loop_end (es1, pos1, tk1) F2 N2 (fun p hp => hp) ?_ ?_ ⟨hl1, hp1, by rw [← hsd, e]⟩
      · ktr_unf
      · ktr_rel
end
end Mine
end

section -- S2
open PySem PySem.W PyProof.Rows
set_option maxRecDepth 100000
set_option maxHeartbeats 8000000
namespace Mine
theorem fill_2 : (∀ P h, (Mine.hd.heap_39 P).In h → PySem.Challenge.rw_in0245_01 = PySem.Challenge.rw_in0245_01) := by
  k_fill
  intros; rfl
local macro_rules | `(tactic| walk_at "exec While Compare cons nil") => `(tactic| (k_here; refine hold_of ?_))
local macro_rules | `(tactic| tb_start) => `(tactic| w_strict (repeat' (first | (k_unfold; (try dsimp only)) | (walk1; (try dsimp only)) | fail "no step")))
local macro_rules | `(tactic| tb_rel) => `(tactic| (refine' code_def ?k1 ?k2 ?k3 ?k4 ?k5 ?kA ?kF ?kK ?k6 ?k7 ?k8 ?k9 ?kB ?_ ?c2 ?c3 ?c4 ?c5; (case kA => exact rfl); (case kF => assumption); (case kK => assumption); (case k1 => k_asm); (case k2 => k_asm); (case k3 => k_asm); (case k4 => k_asm); (case k5 => k_asm); (case k6 => k_is); (case k7 => k_is); (case k8 => k_room); (case k9 => first | exact BindsTo.of_eq rfl | exact binds_K (by k_in) rfl (by k_is) rfl rfl rfl | fail "k_enter: no rule for these arguments"); (case c5 => decide); (case kB => exact locs rfl); (case c2 => exact rfl); (case c3 => exact rfl); (case c4 => exact rfl); k_whole))

local macro_rules | `(tactic| ktr_unf) => `(tactic| repeat (first | exact List.forall_mem_nil _ | refine List.forall_mem_cons.mpr ⟨rfl, ?_⟩))
local macro_rules | `(tactic| ktr_rel) => `(tactic| (intro z h1 h2; (try simp only [List.forall_mem_cons, List.forall_mem_nil, and_true, List.contains_cons, List.contains_nil, Bool.or_false, Bool.or_eq_false_iff, beq_eq_false_iff_ne, ne_eq] at h1 h2); (try simp only [kmap, kstB, List.contains_cons, List.contains_nil, Bool.or_false, Bool.or_eq_true, beq_iff_eq, h1, h2, if_false, or_false, or_self])))
local macro_rules | `(tactic| walk_at "call ref") => `(tactic| (k_here; refine hold_of ?_))
local macro_rules | `(tactic| walk_at "call type:range") => `(tactic| (k_here; refine hold_of ?_))
local macro_rules | `(tactic| walk_at "call type:reversed") => `(tactic| (k_here; refine hold_of ?_))
local macro_rules | `(tactic| walk_at "pyIter ref") => `(tactic| (k_here; refine hold_of ?_))
local macro_rules | `(tactic| walk_at "exec Assign cons ListComp") => `(tactic| (k_here; refine hold_of ?_))
local macro_rules | `(tactic| walk_at "eval ListComp") => `(tactic| (k_here; refine hold_of ?_))
local macro_rules | `(tactic| walk_at "subscriptTail Name Constant ref int") => `(tactic| (k_here; refine hold_of ?_))
local macro_rules | `(tactic| walk_at "subscriptTail Name Name ref int") => `(tactic| (k_here; refine hold_of ?_))
local macro_rules | `(tactic| walk_at "subscriptTail Subscript Name Constant Constant ref int") => `(tactic| (k_here; refine hold_of ?_))
local macro_rules | `(tactic| walk_at "subscriptTail Call Name cons nil Constant ref int") => `(tactic| (k_here; refine hold_of ?_))
local macro_rules | `(tactic| walk_at "compareOp NotEq ref ref") => `(tactic| (k_here; refine hold_of ?_))
local macro_rules | `(tactic| walk_at "compareOp Lt ref ref") => `(tactic| (k_here; refine hold_of ?_))
local macro_rules | `(tactic| walk_at "call builtin:len") => `(tactic| (k_here; refine hold_of ?_))
local macro_rules | `(tactic| walk_at "setItem ref int ref") => `(tactic| (k_here; refine hold_of ?_))
local macro_rules | `(tactic| walk_at "KswEnd") => `(tactic| (k_here; refine hold_of ?_))
local macro_rules | `(tactic| walk_at "InvEndN") => `(tactic| (k_here; refine hold_of ?_))
local macro_rules | `(tactic| walk_at "CompEnd") => `(tactic| (k_here; refine hold_of ?_))
local macro_rules | `(tactic| ktd_rel) => `(tactic| ((repeat (refine List.forall_mem_cons.mpr ⟨by k_mem, ?_⟩)); first | exact List.forall_mem_nil _ | (intro p hp; repeat (first | exact hp | refine List.Mem.tail _ ?_))))
section
variable {α : Type} (lt : α → α → Bool)
def suLoop : Nat → List α → Nat → List α × Nat
  | 0, es, pos => (es, pos)
  | f + 1, es, pos => match es[2 * pos + 1]? with
    | none => (es, pos)
    | some l => match es[2 * pos + 2]? with
      | none => suLoop f (es.set pos l) (2 * pos + 1)
      | some r => if lt l r then suLoop f (es.set pos l) (2 * pos + 1) else suLoop f (es.set pos r) (2 * pos + 2)
def siftup (x : α) (es : List α) (pos : Nat) : List α := let r := suLoop lt es.length es pos; siftdown lt x pos (r.1.set r.2 x) r.2
end
section
variable {w : World} {e1 e2 e3 : Env} {base h₀ : Heap} {L : Addr} {m mg mb : Str → Option Value} {s : Shared} {p : Program} {loose : List Str} {mean : ExcName → Option Value}
theorem rows_set {rest : List (Addr × Obj)} {es : List (Addr × Row)} {i : Nat} {q : Addr × Row} (h : RowsIn rest es) (hq : ∃ t1 t2 t3 n, (q.1, listOf (rowArr q.2 t1 t2 t3) n) ∈ rest) : RowsIn rest (es.set i q) := by
  intro e he
  rcases List.mem_or_eq_of_mem_set he with h' | rfl
  · exact h e h'
  · exact hq
theorem siftup_C {a : Addr} {es : List (Addr × Row)} {n : Nat} {rest : List (Addr × Obj)} {t2 : Tok} {pp : Nat} {x : Addr × Row} {Q : Value → Shared → Prop}
  (B : Below ((callerA.deeper e1).deeper e2) base [e2,e1] h₀) (F : Fr h₀ L s.heap m) (X₀ : (Mine.hd.heap_39 w.params).In h₀) (N : News h₀ L s.heap ((a, listOf (refs es).toArray n) :: rest)) (T : Top p loose mean mg mb h₀)
  (hf : e3.frame = some L) (hke : e3.scope.kind = .function) (hx : es[pp]? = some x) (hlen : es.length < 100) (hrows : RowsIn rest es) (hrest : ∀ p ∈ rest, p.1 ≠ a)
  (hQ : ∀ h' tk, Fr h₀ L h' m → News h₀ L h' ((a, listOf (refs (siftup ltE x es pp)).toArray n) :: rest) → Q .none { s with heap := h', toks := tk }) :
  wpAny (model PySem.Challenge.rw_in0245_01.row.prog w) (((callerA.deeper e1).deeper e2).deeper e3) (call (.ref 59) [.ref a, .int pp t2]) Q (fun _ _ => False) s := by
  refine wpAny_call ?_
  tb_rel
  intro g' L' h' FG' F' N' B' X' T'
  replace F' := fr_binds [(S "pos", .int pp t2), (S "heap", .ref a)] F'
  refine wpAny_mono (E := fun _ _ => False) ?_ (fun _ _ x => x) (fun _ _ x => x.elim)
  k_fold
  tb_start
  refine of_hold ?_
  refine len_list N' (by simp; omega) ?_
  dsimp only
  tb_start
  rename_i F1 N1
  have hpl := (List.getElem?_eq_some_iff.mp hx).1
  refine of_hold ?_
  refine get_list N1 (x := .ref x.1) rfl (by simp [hx]) (by omega) ?_
  tb_start
  rename_i F2 N2
  refine while_rule (σ := List (Addr × Row) × Nat × Tok × Tok) (fun c => (a, listOf (refs c.1).toArray n) :: rest) (fun c => [(S "pos", .int c.2.1 c.2.2.1), (S "childpos", .int (2 * c.2.1 + 1) c.2.2.2)]) [S "rightpos"]
    (fun c => c.1.length = es.length ∧ c.2.1 < c.1.length ∧ RowsIn rest c.1 ∧ ∃ f, c.1.length ≤ f + c.2.1 ∧ suLoop ltE f c.1 c.2.1 = suLoop ltE es.length es pp)
    (fun c => c.1.length = es.length ∧ c.2.1 < c.1.length ∧ RowsIn rest c.1 ∧ (c.1, c.2.1) = suLoop ltE es.length es pp) (fun c => c.1.length - c.2.1) (es, pp, t2, tokAt F2 "childpos") F2 N2 ?hk ?hp ?turn ?after
  case hk => ktr_unf
  case hp => exact ⟨rfl, hpl, hrows, es.length, by dsimp only; omega, rfl⟩
  case after =>
    rintro ⟨es1, pos1, tk1, tk2⟩ u h tk0 ⟨hl1, hp1, hr1, hend⟩ F3 N3
    dsimp only at *
    tb_start
    refine of_hold ?_
    refine set_list F3 N3 hrest rfl (by simpa using hp1) (by omega) ?_
    intro h4 F4 N4
    tb_start
    have h4 : (es1.set pos1 x)[pos1]? = some x := by simp [hp1]
    refine of_hold ?_
    refine siftdown_C (x := x) (es := es1.set pos1 x) (st := pp) (pp := pos1) B' F4 X' (by rw [refs, List.map_set]; exact N4) T' rfl rfl h4 (by simp; omega) (rows_set hr1 (hrows x (List.mem_of_getElem? hx))) hrest ?_
    intro h5 tk5 F5 N5
    dsimp only
    tb_start
    rename_i kF kN _ _
    refine hQ _ _ kF ?_
    unfold siftup
    rw [← hend]
    exact kN
  case turn =>
    rintro ⟨es1, pos1, tk1, tk2⟩ u h tk0 ⟨hl1, hp1, hr1, f, hf1, hsd⟩ F3 N3
    dsimp only at *
    have hlr : (refs es).length = es1.length := by rw [hl1]; simp
    rw [hlr] at F3 ⊢
    tb_start
    · rename_i hc1 _ F4 N4 hc2
      obtain ⟨f, rfl⟩ : ∃ f', f = f' + 1 := ⟨f - 1, by omega⟩
      obtain ⟨l, hl⟩ : ∃ q, es1[2 * pos1 + 1]? = some q := ⟨_, List.getElem?_eq_getElem (by omega)⟩
      obtain ⟨r, hr⟩ : ∃ q, es1[2 * pos1 + 2]? = some q := ⟨_, List.getElem?_eq_getElem (by omega)⟩
      simp only [suLoop, hl, hr] at hsd
      have hrows_l := hr1 l (List.mem_of_getElem? hl)
      have hrows_r := hr1 r (List.mem_of_getElem? hr)
      refine of_hold ?_
      refine get_list N4 (k := 2 * pos1 + 1) (x := .ref l.1) (by omega) (by simp [hl]) (by omega) ?_
      tb_start
      refine of_hold ?_
      refine get_list N4 (k := 2 * pos1 + 2) (x := .ref r.1) (by omega) (by simp [hr]) (by omega) ?_
      tb_start
      obtain ⟨a1, a2, a3, na, hxr⟩ := id hrows_l
      obtain ⟨b1, b2, b3, nb, hqr⟩ := id hrows_r
      refine of_hold ?_
      refine lt_rows (News.get N4 (.tail _ hxr)) (News.get N4 (.tail _ hqr)) (by k_units) ?_
      cases hlt : l.2.lt r.2 with
      | true =>
        simp only [ltE, hlt, if_true] at hsd
        tb_start
        refine of_hold ?_
        refine get_list N4 (k := 2 * pos1 + 1) (x := .ref l.1) (by omega) (by simp [hl]) (by omega) ?_
        tb_start
        refine of_hold ?_
        refine set_list (k := pos1) (by assumption) N4 hrest rfl (by simpa using hp1) (by omega) ?_
        intro h8 F8 N8
        tb_start
        rename_i F9 N9
        refine of_hold ?_
        refine ksw_end (es1.set pos1 l, 2 * pos1 + 1, tokAt F9 "pos", tokAt F9 "childpos") F9 N9 (by rw [refs, List.map_set]; exact fun p hp => hp) trivial ?_ ?_ ⟨by simpa using hl1, by simp; omega, rows_set hr1 hrows_l, f, by simp; omega, hsd⟩ (by simp; omega)
        · ktr_unf
        · ktr_rel

      | false =>
        simp only [ltE, hlt, Bool.false_eq_true, if_false] at hsd
        tb_start
        rename_i F7 N7
        refine of_hold ?_
        refine get_list N7 (k := 2 * pos1 + 2) (x := .ref r.1) (by omega) (by simp [hr]) (by omega) ?_
        tb_start
        refine of_hold ?_
        refine set_list (k := pos1) (by assumption) N7 hrest rfl (by simpa using hp1) (by omega) ?_
        intro h8 F8 N8
        tb_start
        rename_i F9 N9
        refine of_hold ?_
        refine ksw_end (es1.set pos1 r, 2 * pos1 + 2, tokAt F9 "pos", tokAt F9 "childpos") F9 N9 (by rw [refs, List.map_set]; exact fun p hp => hp) trivial ?_ ?_ ⟨by simpa using hl1, by simp; omega, rows_set hr1 hrows_r, f, by simp; omega, hsd⟩ (by simp; omega)
        · ktr_unf
        · ktr_rel

    · rename_i hc1 _ F4 N4 hc2
      obtain ⟨f, rfl⟩ : ∃ f', f = f' + 1 := ⟨f - 1, by omega⟩
      obtain ⟨l, hl⟩ : ∃ q, es1[2 * pos1 + 1]? = some q := ⟨_, List.getElem?_eq_getElem (by omega)⟩
      have hr : es1[2 * pos1 + 2]? = none := by simp; omega
      have hrows_l := hr1 l (List.mem_of_getElem? hl)
      simp only [suLoop, hl, hr] at hsd
      refine of_hold ?_
      refine get_list N4 (k := 2 * pos1 + 1) (x := .ref l.1) (by omega) (by simp [hl]) (by omega) ?_
      tb_start
      refine of_hold ?_
      refine set_list (k := pos1) (by assumption) N4 hrest rfl (by simpa using hp1) (by omega) ?_
      intro h8 F8 N8
      tb_start
      rename_i F9 N9
      refine of_hold ?_
      refine ksw_end (es1.set pos1 l, 2 * pos1 + 1, tokAt F9 "pos", tokAt F9 "childpos") F9 N9 (by rw [refs, List.map_set]; exact fun p hp => hp) trivial ?_ ?_ ⟨by simpa using hl1, by simp; omega, rows_set hr1 hrows_l, f, by simp; omega, hsd⟩ (by simp; omega)
      · ktr_unf
      · ktr_rel

    · rename_i hc1
      have e : suLoop ltE f es1 pos1 = (es1, pos1) := by
        cases f with
        | zero => rfl
        | succ f => 
          have hl : es1[2 * pos1 + 1]? = none := by simp; omega
          rw [suLoop, hl]
      refine loop_end (es1, pos1, tk1, tk2) F3 N3 (fun p hp => hp) ?_ ?_ ⟨hl1, hp1, hr1, by rw [← hsd, e]⟩
      · ktr_unf
      · ktr_rel
end
end Mine
end

section -- S3
open PySem PySem.W PyProof.Rows
set_option maxRecDepth 100000
set_option maxHeartbeats 8000000
namespace Mine
theorem fill_3 : (∀ P h, (Mine.hd.heap_39 P).In h → PySem.Challenge.rw_in0245_01 = PySem.Challenge.rw_in0245_01) := by
  k_fill
  intros; rfl
local macro_rules | `(tactic| walk_at "exec While Compare cons nil") => `(tactic| (k_here; refine hold_of ?_))
local macro_rules | `(tactic| tb_start) => `(tactic| w_strict (repeat' (first | (k_unfold; (try dsimp only)) | (walk1; (try dsimp only)) | fail "no step")))
local macro_rules | `(tactic| tb_rel) => `(tactic| (refine' code_def ?k1 ?k2 ?k3 ?k4 ?k5 ?kA ?kF ?kK ?k6 ?k7 ?k8 ?k9 ?kB ?_ ?c2 ?c3 ?c4 ?c5; (case kA => exact rfl); (case kF => assumption); (case kK => assumption); (case k1 => k_asm); (case k2 => k_asm); (case k3 => k_asm); (case k4 => k_asm); (case k5 => k_asm); (case k6 => k_is); (case k7 => k_is); (case k8 => k_room); (case k9 => first | exact BindsTo.of_eq rfl | exact binds_K (by k_in) rfl (by k_is) rfl rfl rfl | fail "k_enter: no rule for these arguments"); (case c5 => decide); (case kB => exact locs rfl); (case c2 => exact rfl); (case c3 => exact rfl); (case c4 => exact rfl); k_whole))

local macro_rules | `(tactic| ktr_unf) => `(tactic| repeat (first | exact List.forall_mem_nil _ | refine List.forall_mem_cons.mpr ⟨rfl, ?_⟩))
local macro_rules | `(tactic| ktr_rel) => `(tactic| (intro z h1 h2; (try simp only [List.forall_mem_cons, List.forall_mem_nil, and_true, List.contains_cons, List.contains_nil, Bool.or_false, Bool.or_eq_false_iff, beq_eq_false_iff_ne, ne_eq] at h1 h2); (try simp only [kmap, kstB, List.contains_cons, List.contains_nil, Bool.or_false, Bool.or_eq_true, beq_iff_eq, h1, h2, if_false, or_false, or_self])))
local macro_rules | `(tactic| walk_at "call ref") => `(tactic| (k_here; refine hold_of ?_))

section
variable {w : World} {e1 e2 : Env} {base h₀ : Heap} {L : Addr} {m mg mb : Str → Option Value} {s : Shared} {p : Program} {loose : List Str} {mean : ExcName → Option Value}
theorem heapreplace_C {a : Addr} {es : List (Addr × Row)} {n : Nat} {rest : List (Addr × Obj)} {x y : Addr × Row} {Q : Value → Shared → Prop}
  (B : Below (callerA.deeper e1) base [e1] h₀) (F : Fr h₀ L s.heap m) (X₀ : (Mine.hd.heap_39 w.params).In h₀) (N : News h₀ L s.heap ((a, listOf (refs es).toArray n) :: rest)) (T : Top p loose mean mg mb h₀)
  (hf : e2.frame = some L) (hke : e2.scope.kind = .function) (hy : es[0]? = some y) (hlen : es.length < 100) (hrows : RowsIn rest es) (hx : RowsIn rest [x]) (hrest : ∀ p ∈ rest, p.1 ≠ a)
  (hQ : ∀ h' tk, Fr h₀ L h' m → News h₀ L h' ((a, listOf (refs (siftup ltE x (es.set 0 x) 0)).toArray n) :: rest) → Q (.ref y.1) { s with heap := h', toks := tk }) :
  wpAny (model PySem.Challenge.rw_in0245_01.row.prog w) ((callerA.deeper e1).deeper e2) (call (.ref 38) [.ref a, .ref x.1]) Q (fun _ _ => False) s := by
  refine wpAny_call ?_
  tb_rel
  intro g' L' h' FG' F' N' B' X' T'
  replace F' := fr_binds [(S "item", .ref x.1), (S "heap", .ref a)] F'
  refine wpAny_mono (E := fun _ _ => False) ?_ (fun _ _ x => x) (fun _ _ x => x.elim)
  k_fold
  tb_start
  have hpl := (List.getElem?_eq_some_iff.mp hy).1
  refine get_list N' (k := 0) (x := .ref y.1) rfl (by simp [hy]) (by omega) ?_
  tb_start
  rename_i F1 N1
  refine set_list (k := 0) F1 N1 hrest rfl (by simpa using hpl) (by omega) ?_
  intro h2 F2 N2
  tb_start
  refine of_hold ?_
  have hxx := hx x (.head _)
  refine siftup_C (pp := 0) (x := x) (es := es.set 0 x) B' F2 X' (by rw [refs, List.map_set]; exact N2) T' rfl rfl (by simp [hpl]) (by simpa using hlen) (rows_set hrows hxx) hrest ?_
  intro h3 tk3 F3 N3
  dsimp only
  tb_start
  rename_i kF kN _ _
  exact hQ _ _ kF kN

end
end Mine
end

section -- S4
open PySem PySem.W PyProof.Rows
set_option maxRecDepth 100000
set_option maxHeartbeats 8000000
namespace Mine
theorem fill_4 : (∀ P h, (Mine.hd.heap_39 P).In h → PySem.Challenge.rw_in0245_01 = PySem.Challenge.rw_in0245_01) := by
  k_fill
  intros; rfl
local macro_rules | `(tactic| walk_at "exec While Compare cons nil") => `(tactic| (k_here; refine hold_of ?_))
local macro_rules | `(tactic| tb_start) => `(tactic| w_strict (repeat' (first | (k_unfold; (try dsimp only)) | (walk1; (try dsimp only)) | fail "no step")))
local macro_rules | `(tactic| tb_rel) => `(tactic| (refine' code_def ?k1 ?k2 ?k3 ?k4 ?k5 ?kA ?kF ?kK ?k6 ?k7 ?k8 ?k9 ?kB ?_ ?c2 ?c3 ?c4 ?c5; (case kA => exact rfl); (case kF => assumption); (case kK => assumption); (case k1 => k_asm); (case k2 => k_asm); (case k3 => k_asm); (case k4 => k_asm); (case k5 => k_asm); (case k6 => k_is); (case k7 => k_is); (case k8 => k_room); (case k9 => first | exact BindsTo.of_eq rfl | exact binds_K (by k_in) rfl (by k_is) rfl rfl rfl | fail "k_enter: no rule for these arguments"); (case c5 => decide); (case kB => exact locs rfl); (case c2 => exact rfl); (case c3 => exact rfl); (case c4 => exact rfl); k_whole))

local macro_rules | `(tactic| ktr_unf) => `(tactic| repeat (first | exact List.forall_mem_nil _ | refine List.forall_mem_cons.mpr ⟨rfl, ?_⟩))
local macro_rules | `(tactic| ktr_rel) => `(tactic| (intro z h1 h2; (try simp only [List.forall_mem_cons, List.forall_mem_nil, and_true, List.contains_cons, List.contains_nil, Bool.or_false, Bool.or_eq_false_iff, beq_eq_false_iff_ne, ne_eq] at h1 h2); (try simp only [kmap, kstB, List.contains_cons, List.contains_nil, Bool.or_false, Bool.or_eq_true, beq_iff_eq, h1, h2, if_false, or_false, or_self])))
local macro_rules | `(tactic| walk_at "call ref") => `(tactic| (k_here; refine hold_of ?_))
local macro_rules | `(tactic| walk_at "call type:range") => `(tactic| (k_here; refine hold_of ?_))
local macro_rules | `(tactic| walk_at "call type:reversed") => `(tactic| (k_here; refine hold_of ?_))
local macro_rules | `(tactic| walk_at "pyIter ref") => `(tactic| (k_here; refine hold_of ?_))


section
variable {α : Type} {lt : α → α → Bool}
theorem sdLoop_facts (x : α) (st : Nat) : ∀ (f : Nat) (es : List α) (pos : Nat), (sdLoop lt x st f es pos).1.length = es.length ∧ ∀ e ∈ (sdLoop lt x st f es pos).1, e ∈ es
  | 0, es, pos => ⟨rfl, fun _ h => h⟩
  | f + 1, es, pos => by
    unfold sdLoop
    split
    · cases hq : es[(pos - 1) / 2]? with
      | none => exact ⟨rfl, fun _ h => h⟩
      | some q =>
        dsimp only
        split
        · obtain ⟨h1, h2⟩ := sdLoop_facts x st f (es.set pos q) ((pos - 1) / 2)
          refine ⟨by rw [h1]; simp, fun e he => ?_⟩
          rcases List.mem_or_eq_of_mem_set (h2 e he) with h | rfl
          · exact h
          · exact List.mem_of_getElem? hq
        · exact ⟨rfl, fun _ h => h⟩
    · exact ⟨rfl, fun _ h => h⟩
theorem suLoop_facts : ∀ (f : Nat) (es : List α) (pos : Nat), (suLoop lt f es pos).1.length = es.length ∧ ∀ e ∈ (suLoop lt f es pos).1, e ∈ es
  | 0, es, pos => ⟨rfl, fun _ h => h⟩
  | f + 1, es, pos => by
    have key : ∀ (q : α) (p : Nat), q ∈ es → (suLoop lt f (es.set pos q) p).1.length = es.length ∧ ∀ e ∈ (suLoop lt f (es.set pos q) p).1, e ∈ es := by
      intro q p hq
      obtain ⟨h1, h2⟩ := suLoop_facts f (es.set pos q) p
      refine ⟨by rw [h1]; simp, fun e he => ?_⟩
      rcases List.mem_or_eq_of_mem_set (h2 e he) with h | rfl
      · exact h
      · exact hq
    unfold suLoop
    cases hl : es[2 * pos + 1]? with
    | none => exact ⟨rfl, fun _ h => h⟩
    | some l =>
      cases hr : es[2 * pos + 2]? with
      | none => exact key l _ (List.mem_of_getElem? hl)
      | some r =>
        dsimp only
        split
        · exact key l _ (List.mem_of_getElem? hl)
        · exact key r _ (List.mem_of_getElem? hr)
theorem siftup_facts {x : α} {es : List α} {pos : Nat} (hx : x ∈ es) : (siftup lt x es pos).length = es.length ∧ ∀ e ∈ siftup lt x es pos, e ∈ es := by
  unfold siftup siftdown
  obtain ⟨h1, h2⟩ := suLoop_facts (lt := lt) es.length es pos
  generalize suLoop lt es.length es pos = r at h1 h2
  obtain ⟨h3, h4⟩ := sdLoop_facts (lt := lt) x pos r.2 (r.1.set r.2 x) r.2
  dsimp only
  refine ⟨by simp [h3, h1], fun e he => ?_⟩
  rcases List.mem_or_eq_of_mem_set he with h | rfl
  · rcases List.mem_or_eq_of_mem_set (h4 e h) with h' | rfl
    · exact h2 e h'
    · exact hx
  · exact hx
def heapFrom (lt : α → α → Bool) : Nat → List α → List α
  | 0, es => (match es[1]? with | none => es | some x1 => (let es1 := siftup lt x1 es 1; match es1[0]? with | none => es1 | some x0 => siftup lt x0 es1 0))
  | 1, es1 => (match es1[0]? with | none => es1 | some x0 => siftup lt x0 es1 0)
  | _, es => es
end
theorem RowsIn.sub {rest : List (Addr × Obj)} {es es' : List (Addr × Row)} (h : RowsIn rest es) (hs : ∀ e ∈ es', e ∈ es) : RowsIn rest es' := fun e he => h e (hs e he)
theorem RowsIn.mono {rest rest' : List (Addr × Obj)} {es : List (Addr × Row)} (h : RowsIn rest es) (hs : ∀ e ∈ rest, e ∈ rest') : RowsIn rest' es := fun e he => let ⟨a, b, c, n, hm⟩ := h e he; ⟨a, b, c, n, hs _ hm⟩
section
variable {w : World} {e1 e2 : Env} {base h₀ : Heap} {L : Addr} {m mg mb : Str → Option Value} {s : Shared} {p : Program} {loose : List Str} {mean : ExcName → Option Value}
theorem heapify_C {a : Addr} {es : List (Addr × Row)} {n : Nat} {rest : List (Addr × Obj)} {Q : Value → Shared → Prop}
  (B : Below (callerA.deeper e1) base [e1] h₀) (F : Fr h₀ L s.heap m) (X₀ : (Mine.hd.heap_39 w.params).In h₀) (N : News h₀ L s.heap ((a, listOf (refs es).toArray n) :: rest)) (T : Top p loose mean mg mb h₀)
  (hf : e2.frame = some L) (hke : e2.scope.kind = .function) (hlen : es.length / 2 = 2) (hrows : RowsIn rest es) (hrest : ∀ p ∈ rest, p.1 ≠ a)
  (hQ : ∀ h' tk, Fr h₀ L h' m → News h₀ L h' ((a, listOf (refs (heapFrom ltE 0 es)).toArray n) :: rest) → Q .none { s with heap := h', toks := tk }) :
  wpAny (model PySem.Challenge.rw_in0245_01.row.prog w) ((callerA.deeper e1).deeper e2) (call (.ref 45) [.ref a]) Q (fun _ _ => False) s := by
  refine wpAny_call ?_
  tb_rel
  intro g' L' h' FG' F' N' B' X' T'
  replace F' := fr_binds [(S "x", .ref a)] F'
  refine wpAny_mono (E := fun _ _ => False) ?_ (fun _ _ x => x) (fun _ _ x => x.elim)
  k_fold
  tb_start
  refine len_list N' (by simp; omega) ?_
  dsimp only
  have e0 : (((refs es).length : Int)).fdiv 2 = 2 := by
    rw [Int.fdiv_eq_ediv_of_nonneg _ (by omega)]; simp; omega
  tb_start
  rw [e0]
  refine of_hold ?_
  rename_i F1 N1
  refine range1_rows F1 N1 ?_
  intro h2 tk2 t1 u1 v1 R2 F2 N2 K2
  dsimp only
  tb_start
  refine of_hold ?_
  refine call_reversed_range R2 ?_
  dsimp only
  have F3 := F2.push (riObj 1 2 (-1))
  have N3 : News g' L' (h2.push (riObj 1 2 (-1))) ((a, listOf (refs es).toArray n) :: rest) := fun p hp => (N2.push F2 _) p (.tail _ hp)
  refine Walks.self (Walks.range (by exact rfl) h2.objs.size 1 (-1) 2) 0 _ _ _ ?_ ?_
  · exact Heap.get?_push_size _ rfl
  refine for_walks (σ := List (Addr × Row)) (x := S "i") (Walks.range (by exact rfl) h2.objs.size 1 (-1) 2) (fun c => (a, listOf (refs c).toArray n) :: rest) (fun _ => []) [] (fun i c => c.length = es.length ∧ RowsIn rest c ∧ heapFrom ltE i c = heapFrom ltE 0 es) es
    (fun hm => absurd F2.ns.lt (List.mem_singleton.mp hm ▸ Nat.lt_irrefl _)) (next_is_new F2) (Heap.get?_push_size _ rfl) (fun q hq hm => absurd (Heap.lt_size (N2 q hq).1) (List.mem_singleton.mp hm ▸ Nat.lt_irrefl _)) (.head _) F3 N3 (List.forall_mem_nil _) ⟨rfl, hrows, rfl⟩ ?turn ?done
  case done =>
    intro c u h tk ⟨hl, hr, he⟩ F4 N4
    dsimp only
    tb_start
    rename_i kF kN _ _
    refine hQ _ _ kF ?_
    rw [← he]
    exact kN
  case turn =>
    rintro i v c u h tk own hi ⟨t, rfl⟩ hoff ⟨hl, hr, he⟩ F4 N4
    dsimp only
    tb_start
    refine of_hold ?_
    have hoff1 : ∀ p ∈ own, p.1 ≠ a := fun p hp => hoff p hp a (.head _)
    have hc : 2 ≤ c.length := by omega
    have e5 : (1 + (i : Int) * -1) = ((1 - i : Nat) : Int) := by omega
    obtain ⟨x, hx⟩ : ∃ x, c[1 - i]? = some x := ⟨_, List.getElem?_eq_getElem (by omega)⟩
    rw [e5]
    refine siftup_C (rest := rest ++ own) (pp := 1 - i) (x := x) (es := c) B' F4 X' N4 T' rfl rfl hx (by omega) (hr.mono fun e he => List.mem_append_left _ he) (fun p hp => (List.mem_append.mp hp).elim (hrest p) (hoff1 p)) ?_
    intro h5 tk5 F5 N5
    dsimp only
    tb_start
    obtain ⟨hf1, hf2⟩ := siftup_facts (lt := ltE) (pos := 1 - i) (List.mem_of_getElem? hx)
    refine for_next (siftup ltE x c (1 - i)) F5 N5 ?_ ?_ rfl ?_ ?_ ⟨by rw [hf1, hl], hr.sub hf2, ?_⟩
    · intro p hp
      rcases List.mem_cons.mp hp with rfl | hp
      · exact .head _
      · exact .tail _ (List.mem_append_left _ hp)
    · exact fun p hp => .tail _ (List.mem_append_right _ hp)
    · ktr_unf
    · intro z hz h1 h2
      simp only [kmap, kstB, if_neg hz, h2, Bool.false_eq_true, if_false]
    · rw [← he]
      rcases (by omega : i = 0 ∨ i = 1) with rfl | rfl
      · simp only [heapFrom]; rw [hx]
      · simp only [heapFrom]; rw [hx]
end
end Mine
end

section -- P1
open PySem PySem.W PyProof.Rows
namespace Mine
section
variable {α β : Type} {lt : α → α → Bool} {lt' : β → β → Bool} {f : α → β} (hlt : ∀ a b, lt' (f a) (f b) = lt a b)
include hlt
theorem map_sdLoop (x : α) (st : Nat) : ∀ (n : Nat) (es : List α) (pos : Nat), sdLoop lt' (f x) st n (es.map f) pos = ((sdLoop lt x st n es pos).1.map f, (sdLoop lt x st n es pos).2)
  | 0, es, pos => rfl
  | n + 1, es, pos => by
    unfold sdLoop
    split
    · rw [List.getElem?_map]
      cases hq : es[(pos - 1) / 2]? with
      | none => rfl
      | some q =>
        simp only [Option.map_some, hlt]
        split
        · rw [← List.map_set]; exact map_sdLoop x st n _ _
        · rfl
    · rfl
theorem map_suLoop : ∀ (n : Nat) (es : List α) (pos : Nat), suLoop lt' n (es.map f) pos = ((suLoop lt n es pos).1.map f, (suLoop lt n es pos).2)
  | 0, es, pos => rfl
  | n + 1, es, pos => by
    unfold suLoop
    rw [List.getElem?_map]
    cases hl : es[2 * pos + 1]? with
    | none => rfl
    | some l =>
      simp only [Option.map_some]
      rw [List.getElem?_map]
      cases hr : es[2 * pos + 2]? with
      | none => simp only [Option.map_none]; rw [← List.map_set]; exact map_suLoop n _ _
      | some r =>
        simp only [Option.map_some, hlt]
        split
        · rw [← List.map_set]; exact map_suLoop n _ _
        · rw [← List.map_set]; exact map_suLoop n _ _
theorem map_siftup (x : α) (es : List α) (pos : Nat) : siftup lt' (f x) (es.map f) pos = (siftup lt x es pos).map f := by
  unfold siftup siftdown
  rw [List.length_map, map_suLoop hlt]
  dsimp only
  rw [← List.map_set, map_sdLoop hlt]
  dsimp only
  rw [List.map_set]
theorem map_heapFrom (es : List α) : heapFrom lt' 0 (es.map f) = (heapFrom lt 0 es).map f := by
  simp only [heapFrom]
  rw [List.getElem?_map]
  cases h1 : es[1]? with
  | none => rfl
  | some x1 =>
    simp only [Option.map_some]
    rw [map_siftup hlt, List.getElem?_map]
    cases h0 : (siftup lt x1 es 1)[0]? with
    | none => rfl
    | some x0 => simp only [Option.map_some]; exact map_siftup hlt _ _ _
end
theorem heapFrom_facts {α : Type} {lt : α → α → Bool} (es : List α) : (heapFrom lt 0 es).length = es.length ∧ ∀ e ∈ heapFrom lt 0 es, e ∈ es := by
  simp only [heapFrom]
  cases h1 : es[1]? with
  | none => exact ⟨rfl, fun _ h => h⟩
  | some x1 =>
    dsimp only
    obtain ⟨a1, a2⟩ := siftup_facts (lt := lt) (pos := 1) (List.mem_of_getElem? h1)
    cases h0 : (siftup lt x1 es 1)[0]? with
    | none => exact ⟨a1, a2⟩
    | some x0 =>
      dsimp only
      obtain ⟨b1, b2⟩ := siftup_facts (lt := lt) (pos := 0) (List.mem_of_getElem? h0)
      exact ⟨b1.trans a1, fun e he => a2 e (b2 e he)⟩

def Row.next (r : Row) : Row := ⟨r.v + r.s, r.f, r.s⟩
def numRun (lm : Int) : Nat → List Row → Int → Option (List Row × Int)
  | 0, _, _ => none
  | f + 1, es, num => match es[0]? with
    | none => none
    | some r => if r.v < lm then numRun lm f (siftup Row.lt r.next (es.set 0 r.next) 0) (num * 16 + r.f) else some (es, num)
def Row.zero : Row := ⟨0, 0, 0⟩
def initRows (less more first second : Nat) : List Row :=
  ⟨more * 1, second, more * 2⟩ :: ⟨more * 2, second, more * 2⟩ :: (List.range (2 + more % 2)).map (fun (j : Nat) => (⟨less * ((2 + more % 2 : Nat) + (j : Int) * -1), first, less * (2 + more % 2 : Nat)⟩ : Row))
/-- the number that the heap counts out -/
def NumIs (less more first second : Nat) (num : Int) : Prop :=
  ∃ fuel es r, numRun ((less : Int) * more) fuel (heapFrom Row.lt 0 (initRows less more first second)) 0 = some (es, num) ∧ es[0]? = some r ∧ r.v = (less : Int) * more ∧ (siftup Row.lt Row.zero (es.set 0 Row.zero) 0)[0]? = some Row.zero
end Mine
end

section -- S5
open PySem PySem.W PyProof.Rows
set_option maxRecDepth 100000
set_option maxHeartbeats 8000000
namespace Mine
theorem fill_5 : (∀ P h, (Mine.hd.heap_39 P).In h → PySem.Challenge.rw_in0245_01 = PySem.Challenge.rw_in0245_01) := by
  k_fill
  intros; rfl
local macro_rules | `(tactic| walk_at "exec While Compare cons nil") => `(tactic| (k_here; refine hold_of ?_))
local macro_rules | `(tactic| tb_start) => `(tactic| w_strict (repeat' (first | (k_unfold; (try dsimp only)) | (walk1; (try dsimp only)) | fail "no step")))
local macro_rules | `(tactic| tb_rel) => `(tactic| (refine' code_def ?k1 ?k2 ?k3 ?k4 ?k5 ?kA ?kF ?kK ?k6 ?k7 ?k8 ?k9 ?kB ?_ ?c2 ?c3 ?c4 ?c5; (case kA => exact rfl); (case kF => assumption); (case kK => assumption); (case k1 => k_asm); (case k2 => k_asm); (case k3 => k_asm); (case k4 => k_asm); (case k5 => k_asm); (case k6 => k_is); (case k7 => k_is); (case k8 => k_room); (case k9 => first | exact BindsTo.of_eq rfl | exact binds_K (by k_in) rfl (by k_is) rfl rfl rfl | fail "k_enter: no rule for these arguments"); (case c5 => decide); (case kB => exact locs rfl); (case c2 => exact rfl); (case c3 => exact rfl); (case c4 => exact rfl); k_whole))

local macro_rules | `(tactic| ktr_unf) => `(tactic| repeat (first | exact List.forall_mem_nil _ | refine List.forall_mem_cons.mpr ⟨rfl, ?_⟩))
local macro_rules | `(tactic| ktr_rel) => `(tactic| (intro z h1 h2; (try simp only [List.forall_mem_cons, List.forall_mem_nil, and_true, List.contains_cons, List.contains_nil, Bool.or_false, Bool.or_eq_false_iff, beq_eq_false_iff_ne, ne_eq] at h1 h2); (try simp only [kmap, kstB, List.contains_cons, List.contains_nil, Bool.or_false, Bool.or_eq_true, beq_iff_eq, h1, h2, if_false, or_false, or_self])))
local macro_rules | `(tactic| walk_at "call ref") => `(tactic| (k_here; refine hold_of ?_))
local macro_rules | `(tactic| walk_at "call type:range") => `(tactic| (k_here; refine hold_of ?_))
local macro_rules | `(tactic| walk_at "call type:reversed") => `(tactic| (k_here; refine hold_of ?_))
local macro_rules | `(tactic| walk_at "pyIter ref") => `(tactic| (k_here; refine hold_of ?_))
local macro_rules | `(tactic| walk_at "exec Assign cons ListComp") => `(tactic| (k_here; refine hold_of ?_))
local macro_rules | `(tactic| walk_at "eval ListComp") => `(tactic| (k_here; refine hold_of ?_))
local macro_rules | `(tactic| walk_at "subscriptTail Name Constant ref int") => `(tactic| (k_here; refine hold_of ?_))
local macro_rules | `(tactic| walk_at "subscriptTail Name Name ref int") => `(tactic| (k_here; refine hold_of ?_))
local macro_rules | `(tactic| walk_at "subscriptTail Subscript Name Constant Constant ref int") => `(tactic| (k_here; refine hold_of ?_))
local macro_rules | `(tactic| walk_at "subscriptTail Call Name cons nil Constant ref int") => `(tactic| (k_here; refine hold_of ?_))
local macro_rules | `(tactic| walk_at "compareOp NotEq ref ref") => `(tactic| (k_here; refine hold_of ?_))
local macro_rules | `(tactic| walk_at "compareOp Lt ref ref") => `(tactic| (k_here; refine hold_of ?_))
local macro_rules | `(tactic| walk_at "call builtin:len") => `(tactic| (k_here; refine hold_of ?_))
local macro_rules | `(tactic| walk_at "setItem ref int ref") => `(tactic| (k_here; refine hold_of ?_))
local macro_rules | `(tactic| walk_at "KswEnd") => `(tactic| (k_here; refine hold_of ?_))
local macro_rules | `(tactic| walk_at "InvEndN") => `(tactic| (k_here; refine hold_of ?_))
local macro_rules | `(tactic| walk_at "CompEnd") => `(tactic| (k_here; refine hold_of ?_))
local macro_rules | `(tactic| ktd_rel) => `(tactic| ((repeat (refine List.forall_mem_cons.mpr ⟨by k_mem, ?_⟩)); first | exact List.forall_mem_nil _ | (intro p hp; repeat (first | exact hp | refine List.Mem.tail _ ?_))))
section
variable {w : World} {e1 : Env} {base h₀ : Heap} {L : Addr} {m mg mb : Str → Option Value} {s : Shared} {p : Program} {loose : List Str} {mean : ExcName → Option Value}
theorem number_C {less more first second : Nat} {rest : List (Addr × Obj)} {t1 t2 t3 t4 : Tok} {Q : Value → Shared → Prop}
  (B : Below callerA base [] h₀) (F : Fr h₀ L s.heap m) (X₀ : (Mine.hd.heap_39 w.params).In h₀) (N : News h₀ L s.heap rest) (T : Top p loose mean mg mb h₀)
  {num : Int} (hnum : NumIs less more first second num) (hQ : ∀ h' tk t, Fr h₀ L h' m → News h₀ L h' rest → Q (.int num t) { s with heap := h', toks := tk })
  (hf : e1.frame = some L) (hke : e1.scope.kind = .function) (hl1 : 1 ≤ less) (hl2 : less ≤ 6) (hm1 : less < more) (hm2 : more ≤ 11) (hf1 : first < 16) (hs1 : second < 16) :
  wpAny (model PySem.Challenge.rw_in0245_01.row.prog w) (callerA.deeper e1) (call (.ref 116) [.int less t1, .int more t2, .int first t3, .int second t4]) Q (fun _ _ => False) s := by
  refine wpAny_call ?_
  refine code_defC B F X₀ N T (by exact rfl) hf hke (by k_is) (by k_is) (by k_room) (by exact BindsTo.of_eq rfl) (by exact rfl) (by decide +kernel) ?_ (by exact rfl) (by exact rfl) (by exact rfl)
  intro g' L' h' tk' cells' FG' F' N' Y' B' X' T' l1
  have hY := cells_five Y'
  obtain ⟨o1, o2, o3, o4, o5, hE', d1', d2', d3', d4', d5'⟩ := hY
  subst hE'
  clear Y'
  replace d2' : o2.data = .cell (some (.int second t4)) := d2'
  replace d3' : o3.data = .cell (some (.int first t3)) := d3'
  replace d4' : o4.data = .cell (some (.int more t2)) := d4'
  replace d5' : o5.data = .cell (some (.int less t1)) := d5'
  replace F' : Fr g' L' h' (kstB (fun _ => none) []) := by exact F'
  refine wpAny_mono (E := fun _ _ => False) ?_ (fun _ _ x => x) (fun _ _ x => x.elim)
  k_fold
  tb_start
  refine storeX_C F' N' (by exact rfl) (UpdF.head ?u1) d1' ?_ (by exact rfl) (by exact rfl)
  case u1 =>
    intro p hp
    rcases List.mem_cons.mp hp with rfl | hp
    · exact Nat.ne_of_lt (by omega)
    rcases List.mem_cons.mp hp with rfl | hp
    · exact Nat.ne_of_lt (by omega)
    rcases List.mem_cons.mp hp with rfl | hp
    · exact Nat.ne_of_lt (by omega)
    rcases List.mem_cons.mp hp with rfl | hp
    · exact Nat.ne_of_lt (by omega)
    · exact Nat.ne_of_lt (Nat.lt_of_lt_of_le (l1 p hp) (by omega))
  intro h1 o1' F1 N1 d1
  clear N' F' d1'
  replace N1 : News g' L' h1 ((L' + 1 + 1 + 1 + 1 + 1, o1') :: (L' + 1 + 1 + 1 + 1, o2) :: (L' + 1 + 1 + 1, o3) :: (L' + 1 + 1, o4) :: (L' + 1, o5) :: rest) := N1
  have hh : (2 + (more : Int).fmod 2) = ((2 + more % 2 : Nat) : Int) := by
    rw [Int.fmod_eq_emod_of_nonneg _ (by omega)]; omega
  rw [hh] at d1
  tb_start
  refine of_hold ?_
  refine Assign_ListComp_W (h₀ := g') (L := L') (m := kstB (fun _ => none) []) (by rfl) (by with_unfolding_all rfl) (by with_unfolding_all rfl) (by decide) (by rfl) (by decide) (by rfl) (by rfl) (by rfl) ?_ (by intro _; rfl)
  tb_start
  rename_i F2 N2 l2
  refine SrcW.tuple (by exact rfl) F2 N2 (.head _) (by exact Nat.le_of_ble_eq_true rfl) ?_
  intro ga
  refine LCg.CompRest.succ (k := 1) ?_
  intro v I oI C oC D m2 h3 tk3 E' hv hC hxv F3 N3 off ne
  have hv2 : some (Value.int 1 _) = some v := hv
  obtain rfl := Option.some.inj hv2
  clear hv hv2
  dsimp only
  tb_start
  rename_i r1 _ F4 N4 lt4
  refine of_hold ?_
  refine LCg.CompEnd.intro F4 N4 ((r1, _) :: _) sub4 ⟨⟨Nat.ne_of_gt lt4.1, Nat.ne_of_gt lt4.2.1, Nat.ne_of_gt lt4.2.2.1⟩, off⟩ (.tail _ (.head _)) ?_
  clear F4 N4 hC hxv off ne
  refine LCg.CompRest.succ (k := 0) ?_
  intro v I oI C oC D m2 h3 tk3b E' hv hC hxv F3 N3 off ne
  have hv2 : some (Value.int 2 _) = some v := hv
  obtain rfl := Option.some.inj hv2
  clear hv hv2
  dsimp only
  tb_start
  rename_i r2 _ F4 N4 lt5
  refine of_hold ?_
  refine LCg.CompEnd.intro F4 N4 ((r2, _) :: _) sub4 ⟨⟨Nat.ne_of_gt lt5.1, Nat.ne_of_gt lt5.2.1, Nat.ne_of_gt lt5.2.2.1⟩, off⟩ (.tail _ (.tail _ (.head _))) ?_
  clear F4 N4 hC hxv off ne
  refine LCg.CompRest.zero ?_
  intro H h4 tk4 F4 N4 offH
  dsimp only
  tb_start
  replace N4 : News g' L' h4 ((L' + 1 + 1 + 1 + 1 + 1, o1') :: (L' + 1 + 1 + 1 + 1, o2) :: (L' + 1 + 1 + 1, o3) :: (L' + 1 + 1, o4) :: (L' + 1, o5) :: (H, LCg.lst [.ref r1, .ref r2]) ::
      (r2, listOf (rowArr ⟨more * 2, second, more * 2⟩ tk3b t4 (tk3b + 1 + 1)) 0) :: (r1, listOf (rowArr ⟨more * 1, second, more * 2⟩ tk3 t4 (tk3 + 1 + 1)) 0) :: rest) := news_sub (by ktd_rel) N4
  refine of_hold ?_
  refine ListComp_W (h₀ := g') (L := L') (m := fun z => if z = S "heap" then some (.ref H) else kstB (fun _ => none) [] z) (by with_unfolding_all rfl) (by decide) (by rfl) (by decide) (by rfl) ?_ (by intro _; rfl)
  tb_start
  refine of_hold ?_
  refine range3_rows F4 N4 (by decide) ?_
  intro h5 tk5 ta tb tc R5 F5 N5 K5
  dsimp only
  tb_start
  have hhd : 2 + more % 2 = 2 ∨ 2 + more % 2 = 3 := by omega
  obtain ⟨hd, hhde⟩ : ∃ hd, hd = 2 + more % 2 := ⟨_, rfl⟩
  rw [← hhde] at d1 R5 hhd
  refine SrcW.range (n := hd) (by exact rfl) F5 N5 R5 (by rcases hhd with rfl | rfl <;> decide) (by rcases hhd with rfl | rfl <;> decide) (by rcases hhd with rfl | rfl <;> decide) ?_
  intro gb
  have hoH := off1_mem offH
  have hH0 : ∀ q ∈ (r2, listOf (rowArr ⟨more * 2, second, more * 2⟩ tk3b t4 (tk3b + 1 + 1)) 0) :: (r1, listOf (rowArr ⟨more * 1, second, more * 2⟩ tk3 t4 (tk3 + 1 + 1)) 0) :: rest, q.1 ≠ H := by
    exact forall_sub hoH (by ktd_rel)
  have hHc : L' + 1 + 1 + 1 + 1 + 1 ≠ H ∧ L' + 1 + 1 + 1 + 1 ≠ H ∧ L' + 1 + 1 + 1 ≠ H ∧ L' + 1 + 1 ≠ H ∧ L' + 1 ≠ H := ⟨offH.2.2.2.1, offH.2.2.2.2.1, offH.2.2.2.2.2.1, offH.2.2.2.2.2.2.1, offH.2.2.2.2.2.2.2.1⟩
  have hcells : ∀ (Z : List (Addr × Obj)), (∀ q ∈ Z, q.1 ≠ H) → ∀ p ∈ (L' + 1 + 1 + 1 + 1 + 1, o1') :: (L' + 1 + 1 + 1 + 1, o2) :: (L' + 1 + 1 + 1, o3) :: (L' + 1 + 1, o4) :: (L' + 1, o5) :: Z, p.1 ≠ H :=
    fun Z hZ => List.forall_mem_cons.mpr ⟨hHc.1, List.forall_mem_cons.mpr ⟨hHc.2.1, List.forall_mem_cons.mpr ⟨hHc.2.2.1, List.forall_mem_cons.mpr ⟨hHc.2.2.2.1, List.forall_mem_cons.mpr ⟨hHc.2.2.2.2, hZ⟩⟩⟩⟩⟩
  clear R5 K5 F5 N5 F4 N4 offH hoH
  refine comp_ind (α := List (Addr × Row) × List (Addr × Obj)) (fun i c => c.1.map (·.2) = (List.range i).map (fun (j : Nat) => (⟨less * (hd + (j : Int) * -1), first, less * hd⟩ : Row)) ∧ RowsIn c.2 c.1 ∧ (∀ q ∈ (r2, listOf (rowArr ⟨more * 2, second, more * 2⟩ tk3b t4 (tk3b + 1 + 1)) 0) :: (r1, listOf (rowArr ⟨more * 1, second, more * 2⟩ tk3 t4 (tk3 + 1 + 1)) 0) :: rest, q ∈ c.2) ∧ ∀ q ∈ c.2, q.1 ≠ H)
    (fun c => refs c.1) (fun c => (L' + 1 + 1 + 1 + 1 + 1, o1') :: (L' + 1 + 1 + 1 + 1, o2) :: (L' + 1 + 1 + 1, o3) :: (L' + 1 + 1, o4) :: (L' + 1, o5) :: (H, LCg.lst [.ref r1, .ref r2]) :: c.2) hd ([], _) ⟨rfl, fun e h => absurd h List.not_mem_nil, fun q h => h, hH0⟩ ?step ?fin
  case step =>
    rintro k i ⟨es, R⟩ hki ⟨hes, hrs, hsub, hRH⟩ ih
    refine LCg.CompRest.succ ?_
    rintro v I oI C oC D m2 h3 tk3 E' ⟨t, rfl⟩ hC hxv F3 N3 off ne
    dsimp only at hes hrs hsub hRH ⊢
    tb_start
    rename_i l' _ F4 N4 lt4
    refine of_hold ?_
    refine LCg.CompEnd.intro F4 N4 ((L' + 1 + 1 + 1 + 1 + 1, o1') :: (L' + 1 + 1 + 1 + 1, o2) :: (L' + 1 + 1 + 1, o3) :: (L' + 1 + 1, o4) :: (L' + 1, o5) :: (H, LCg.lst [.ref r1, .ref r2]) :: (l', listOf (rowArr ⟨less * (hd + (i : Int) * -1), first, less * hd⟩ tk3 t3 (tk3 + 1)) 0) :: R) ?_
      ⟨off.1, off.2.1, off.2.2.1, off.2.2.2.1, off.2.2.2.2.1, off.2.2.2.2.2.1, ⟨Nat.ne_of_gt lt4.1, Nat.ne_of_gt lt4.2.1, Nat.ne_of_gt lt4.2.2.1⟩, off.2.2.2.2.2.2⟩ trivial ?_
    · ktd_rel
    · have e : refs es ++ [Value.ref l'] = refs (es ++ [(l', (⟨less * (hd + (i : Int) * -1), first, less * hd⟩ : Row))]) := by simp [refs]
      rw [e]
      refine ih (es ++ [(l', _)], (l', listOf (rowArr ⟨less * (hd + (i : Int) * -1), first, less * hd⟩ tk3 t3 (tk3 + 1)) 0) :: R) ⟨?_, ?_, fun q hq => .tail _ (hsub q hq), ?_⟩
      · simp [List.range_succ, hes]
      · intro e he
        rcases List.mem_append.mp he with he | he
        · obtain ⟨a1, a2, a3, n, hm⟩ := hrs e he
          exact ⟨a1, a2, a3, n, .tail _ hm⟩
        · rw [List.mem_singleton.mp he]
          exact ⟨_, _, _, _, .head _⟩
      · intro q hq
        rcases List.mem_cons.mp hq with rfl | hq
        · exact Nat.ne_of_gt lt4.2.2.2.2.2.2.2.2.1
        · exact hRH q hq
  case fin =>
    rintro ⟨es, R⟩ ⟨hes, hrs, hsub, hRH⟩
    refine LCg.CompRest.zero ?_
    intro D h6 tk6 F6 N6 off6
    dsimp only at hes hrs hsub hRH ⊢
    have hDH : D ≠ H := Ne.symm off6.2.2.2.2.2.1
    have hlen : es.length = hd := by have := congrArg List.length hes; simpa using this
    replace N6 : News g' L' h6 ((H, LCg.lst [.ref r1, .ref r2]) :: (D, LCg.lst (refs es)) :: (L' + 1 + 1 + 1 + 1 + 1, o1') :: (L' + 1 + 1 + 1 + 1, o2) :: (L' + 1 + 1 + 1, o3) :: (L' + 1 + 1, o4) :: (L' + 1, o5) :: R) := news_sub (by ktd_rel) N6
    refine iadd_list F6 N6 (.head _) ?_ (by simp [hlen]; omega) ?_
    · exact List.forall_mem_cons.mpr ⟨hDH, hcells R hRH⟩
    intro h7 n7 F7 N7
    tb_start
    rename_i F8 N8
    have hrH : ∀ p ∈ (D, LCg.lst (refs es)) :: (L' + 1 + 1 + 1 + 1 + 1, o1') :: (L' + 1 + 1 + 1 + 1, o2) :: (L' + 1 + 1 + 1, o3) :: (L' + 1 + 1, o4) :: (L' + 1, o5) :: R, p.1 ≠ H := List.forall_mem_cons.mpr ⟨hDH, hcells R hRH⟩
    have hmR : ∀ p ∈ R, p ∈ (D, LCg.lst (refs es)) :: (L' + 1 + 1 + 1 + 1 + 1, o1') :: (L' + 1 + 1 + 1 + 1, o2) :: (L' + 1 + 1 + 1, o3) :: (L' + 1 + 1, o4) :: (L' + 1, o5) :: R :=
      fun p hp => .tail _ (.tail _ (.tail _ (.tail _ (.tail _ (.tail _ hp)))))
    have hrows0 : RowsIn R ((r1, (⟨more * 1, second, more * 2⟩ : Row)) :: (r2, ⟨more * 2, second, more * 2⟩) :: es) := by
      intro e he
      rcases List.mem_cons.mp he with rfl | he
      · exact ⟨_, _, _, _, hsub _ (.tail _ (.head _))⟩
      rcases List.mem_cons.mp he with rfl | he
      · exact ⟨_, _, _, _, hsub _ (.head _)⟩
      · exact hrs e he
    refine of_hold ?_
    refine heapify_C (es := (r1, (⟨more * 1, second, more * 2⟩ : Row)) :: (r2, ⟨more * 2, second, more * 2⟩) :: es) B' F8 X' N8 T' rfl rfl (by simp [hlen]; omega) (hrows0.mono hmR) hrH ?_
    intro h9 tk9 F9 N9
    dsimp only
    tb_start
    rename_i F10 N10
    have hmap : ((r1, (⟨more * 1, second, more * 2⟩ : Row)) :: (r2, ⟨more * 2, second, more * 2⟩) :: es).map (·.2) = initRows less more first second := by
      simp only [List.map_cons, initRows, hes, hhde]
    obtain ⟨fu, esf, rf, hrun, hf0, hfv, hfz⟩ := hnum
    rw [← hmap, map_heapFrom (lt := ltE) (lt' := Row.lt) (f := fun (x : Addr × Row) => x.2) (fun _ _ => rfl)] at hrun
    obtain ⟨hl0, hs0⟩ := heapFrom_facts (lt := ltE) ((r1, (⟨more * 1, second, more * 2⟩ : Row)) :: (r2, ⟨more * 2, second, more * 2⟩) :: es)
    have hrows1 := hrows0.sub hs0
    have hl1 : (heapFrom ltE 0 ((r1, (⟨more * 1, second, more * 2⟩ : Row)) :: (r2, ⟨more * 2, second, more * 2⟩) :: es)).length = hd + 2 := by rw [hl0]; simp [hlen]
    generalize heapFrom ltE 0 ((r1, (⟨more * 1, second, more * 2⟩ : Row)) :: (r2, ⟨more * 2, second, more * 2⟩) :: es) = es0 at hrun hrows1 hl1 N10
    replace N10 : News g' L' _ ((H, listOf (refs es0).toArray n7) :: (L' + 1 + 1 + 1 + 1 + 1, o1') :: (L' + 1 + 1 + 1 + 1, o2) :: (L' + 1 + 1 + 1, o3) :: (L' + 1 + 1, o4) :: (L' + 1, o5) :: R) := news_sub (by ktd_rel) N10
    refine while_rule (σ := Nat × List (Addr × Row) × Int × Tok × List (Addr × Obj)) (fun c => (H, listOf (refs c.2.1).toArray n7) :: (L' + 1 + 1 + 1 + 1 + 1, o1') :: (L' + 1 + 1 + 1 + 1, o2) :: (L' + 1 + 1 + 1, o3) :: (L' + 1 + 1, o4) :: (L' + 1, o5) :: c.2.2.2.2)
      (fun c => [(S "number", .int c.2.2.1 c.2.2.2.1)]) [S "value", S "figure", S "stride"]
      (fun c => c.2.1.length = hd + 2 ∧ RowsIn c.2.2.2.2 c.2.1 ∧ (∀ q ∈ R, q ∈ c.2.2.2.2) ∧ (∀ q ∈ c.2.2.2.2, q.1 ≠ H) ∧ numRun ((less : Int) * more) c.1 (c.2.1.map (·.2)) c.2.2.1 = some (esf, num))
      (fun c => c.2.1.length = hd + 2 ∧ RowsIn c.2.2.2.2 c.2.1 ∧ (∀ q ∈ R, q ∈ c.2.2.2.2) ∧ (∀ q ∈ c.2.2.2.2, q.1 ≠ H) ∧ c.2.1.map (·.2) = esf ∧ c.2.2.1 = num) (fun c => c.1) (fu, es0, 0, tokAt F10 "number", R) F10 N10 ?hk ?hp ?turn ?after
    case hk => ktr_unf
    case hp => exact ⟨hl1, hrows1, fun q h => h, hRH, hrun⟩
    case turn =>
      rintro ⟨f, es1, nm, tkn, R1⟩ u h tk0 ⟨hl2, hr2, hRR, hR1, hrun1⟩ F11 N11
      dsimp only at hl2 hr2 hRR hR1 hrun1 ⊢
      obtain ⟨e0, he0⟩ : ∃ e, es1[0]? = some e := ⟨_, List.getElem?_eq_getElem (by omega)⟩
      obtain ⟨f, rfl⟩ : ∃ f', f = f' + 1 := by
        cases f with
        | zero => cases hrun1
        | succ f => exact ⟨f, rfl⟩
      have he0m : (es1.map (·.2))[0]? = some e0.2 := by simp [he0]
      simp only [numRun, he0m] at hrun1
      obtain ⟨ra, rb, rc, rn, hrow⟩ := hr2 e0 (List.mem_of_getElem? he0)
      tb_start
      refine of_hold ?_
      refine get_list N11 (k := 0) (x := .ref e0.1) rfl (by simp [he0]) (by omega) ?_
      tb_start
      refine of_hold ?_
      refine get_mem N11 (.tail _ (.tail _ (.tail _ (.tail _ (.tail _ (.tail _ hrow)))))) (k := 0) (x := .int e0.2.v ra) rfl rfl (by omega) ?_
      tb_start
      · rename_i hlt
        rw [if_pos hlt] at hrun1
        refine of_hold ?_
        refine get_list N11 (k := 0) (x := .ref e0.1) rfl (by simp [he0]) (by omega) ?_
        replace N11 := news_dup N11 (.tail _ (.tail _ (.tail _ (.tail _ (.tail _ (.tail _ hrow))))))
        tb_start
        rename_i l' _ F13 N13 lt13
        obtain ⟨tv, N13⟩ : ∃ tv, News g' L' _ ((l', listOf (rowArr e0.2.next tv rb rc) 0) :: (e0.1, listOf (rowArr e0.2 ra rb rc) rn) :: (H, listOf (refs es1).toArray n7) :: (L' + 1 + 1 + 1 + 1 + 1, o1') :: (L' + 1 + 1 + 1 + 1, o2) :: (L' + 1 + 1 + 1, o3) :: (L' + 1 + 1, o4) :: (L' + 1, o5) :: R1) := ⟨_, N13⟩
        have hrl : RowsIn ((L' + 1 + 1 + 1 + 1 + 1, o1') :: (L' + 1 + 1 + 1 + 1, o2) :: (L' + 1 + 1 + 1, o3) :: (L' + 1 + 1, o4) :: (L' + 1, o5) :: (l', listOf (rowArr e0.2.next tv rb rc) 0) :: R1) [(l', e0.2.next)] := fun e he => by
          rw [List.mem_singleton.mp he]
          exact ⟨_, _, _, _, .tail _ (.tail _ (.tail _ (.tail _ (.tail _ (.head _)))))⟩
        have N13b : News g' L' _ ((H, listOf (refs es1).toArray n7) :: (L' + 1 + 1 + 1 + 1 + 1, o1') :: (L' + 1 + 1 + 1 + 1, o2) :: (L' + 1 + 1 + 1, o3) :: (L' + 1 + 1, o4) :: (L' + 1, o5) :: (l', listOf (rowArr e0.2.next tv rb rc) 0) :: R1) := news_sub (by ktd_rel) N13
        refine of_hold ?_
        refine heapreplace_C (x := (l', e0.2.next)) (y := e0) (es := es1) B' F13 X' N13b T' rfl rfl he0 (by omega) (hr2.mono ?_) hrl (hcells _ ?_) ?_
        · exact fun p hp => .tail _ (.tail _ (.tail _ (.tail _ (.tail _ (.tail _ hp)))))
        · intro q hq
          rcases List.mem_cons.mp hq with rfl | hq
          · exact Nat.ne_of_gt lt13.2.1
          · exact hR1 q hq
        intro h14 tk14 F14 N14
        dsimp only
        tb_start
        rename_i F15 N15 _
        refine of_hold ?_
        refine ne_same_row (r := e0.2) (News.get N15 (.tail _ (.tail _ (.tail _ (.tail _ (.tail _ (.tail _ (.tail _ (.tail _ hrow))))))))) (News.get N15 (.head _)) (by k_units) ?_
        tb_start
        rename_i F16 N16
        obtain ⟨hq1, hq2⟩ := siftup_facts (lt := ltE) (pos := 0) (x := (l', e0.2.next)) (es := es1.set 0 (l', e0.2.next)) (List.mem_of_getElem? (i := 0) (by rw [List.getElem?_set_self (by omega)]))
        refine of_hold ?_
        refine ksw_end (f, siftup ltE (l', e0.2.next) (es1.set 0 (l', e0.2.next)) 0, nm * 16 + e0.2.f, tokAt F16 "number", (l', listOf (rowArr e0.2.next tv rb rc) 0) :: R1) F16 N16 (fun p hp => .tail _ hp) trivial ?_ ?_ ⟨by simp [hq1, hl2], ?_, fun q hq => .tail _ (hRR q hq), ?_, ?_⟩ (by dsimp only; omega)
        · ktr_unf
        · ktr_rel
        · intro e he
          rcases List.mem_or_eq_of_mem_set (hq2 e he) with h' | rfl
          · obtain ⟨a1, a2, a3, n, hm⟩ := hr2 e h'
            exact ⟨a1, a2, a3, n, .tail _ hm⟩
          · exact ⟨_, _, _, _, .head _⟩
        · intro q hq
          rcases List.mem_cons.mp hq with rfl | hq
          · exact Nat.ne_of_gt lt13.2.1
          · exact hR1 q hq
        · rw [← map_siftup (lt' := Row.lt) (f := fun (x : Addr × Row) => x.2) (fun _ _ => rfl), List.map_set]
          exact hrun1
      · rename_i hlt
        rw [if_neg hlt] at hrun1
        have hpair := Prod.mk.inj (Option.some.inj hrun1)
        refine loop_end (f + 1, es1, nm, tkn, R1) F11 N11 (fun p hp => hp) ?_ ?_ ⟨hl2, hr2, hRR, hR1, hpair.1, hpair.2⟩
        · ktr_unf
        · ktr_rel
    case after =>
      rintro ⟨f, es1, nm, tkn, R1⟩ u h tk0 ⟨hl2, hr2, hRR, hR1, hes1, hnm⟩ F11 N11
      dsimp only at hl2 hr2 hRR hR1 hes1 hnm ⊢
      obtain ⟨e0, he0⟩ : ∃ e, es1[0]? = some e := ⟨_, List.getElem?_eq_getElem (by omega)⟩
      obtain ⟨ra, rb, rc, rn, hrow⟩ := hr2 e0 (List.mem_of_getElem? he0)
      have he0f : e0.2 = rf := by
        have : (es1.map (·.2))[0]? = some e0.2 := by simp [he0]
        rw [hes1, hf0] at this
        exact (Option.some.inj this).symm
      tb_start
      rename_i l' _ F13 N13 lt13
      obtain ⟨tv, tu, tw, N13⟩ : ∃ tv tu tw, News g' L' _ ((l', listOf (rowArr Row.zero tv tu tw) 0) :: (H, listOf (refs es1).toArray n7) :: (L' + 1 + 1 + 1 + 1 + 1, o1') :: (L' + 1 + 1 + 1 + 1, o2) :: (L' + 1 + 1 + 1, o3) :: (L' + 1 + 1, o4) :: (L' + 1, o5) :: R1) := ⟨_, _, _, N13⟩
      have hrl : RowsIn ((L' + 1 + 1 + 1 + 1 + 1, o1') :: (L' + 1 + 1 + 1 + 1, o2) :: (L' + 1 + 1 + 1, o3) :: (L' + 1 + 1, o4) :: (L' + 1, o5) :: (l', listOf (rowArr Row.zero tv tu tw) 0) :: R1) [(l', Row.zero)] := fun e he => by
        rw [List.mem_singleton.mp he]
        exact ⟨_, _, _, _, .tail _ (.tail _ (.tail _ (.tail _ (.tail _ (.head _)))))⟩
      have N13b : News g' L' _ ((H, listOf (refs es1).toArray n7) :: (L' + 1 + 1 + 1 + 1 + 1, o1') :: (L' + 1 + 1 + 1 + 1, o2) :: (L' + 1 + 1 + 1, o3) :: (L' + 1 + 1, o4) :: (L' + 1, o5) :: (l', listOf (rowArr Row.zero tv tu tw) 0) :: R1) := news_sub (by ktd_rel) N13
      refine of_hold ?_
      refine heapreplace_C (x := (l', Row.zero)) (y := e0) (es := es1) B' F13 X' N13b T' rfl rfl he0 (by omega) (hr2.mono ?_) hrl (hcells _ ?_) ?_
      · exact fun p hp => .tail _ (.tail _ (.tail _ (.tail _ (.tail _ (.tail _ hp)))))
      · intro q hq
        rcases List.mem_cons.mp hq with rfl | hq
        · exact Nat.ne_of_gt lt13.1
        · exact hR1 q hq
      intro h14 tk14 F14 N14
      dsimp only
      tb_start
      refine of_hold ?_
      refine get_mem N14 (.tail _ (.tail _ (.tail _ (.tail _ (.tail _ (.tail _ (.tail _ hrow))))))) (k := 0) (x := .int e0.2.v ra) rfl rfl (by omega) ?_
      tb_start
      · rename_i hne _ _ _ _
        exact absurd (by rw [he0f]; exact hfv) hne
      · have hmz : (siftup ltE (l', Row.zero) (es1.set 0 (l', Row.zero)) 0).map (·.2) = siftup Row.lt Row.zero (esf.set 0 Row.zero) 0 := by
          rw [← map_siftup (lt' := Row.lt) (f := fun (x : Addr × Row) => x.2) (fun _ _ => rfl), List.map_set, hes1]
        obtain ⟨hq1, hq2⟩ := siftup_facts (lt := ltE) (pos := 0) (x := (l', Row.zero)) (es := es1.set 0 (l', Row.zero)) (List.mem_of_getElem? (i := 0) (by rw [List.getElem?_set_self (by omega)]))
        rw [← hmz, List.getElem?_map] at hfz
        obtain ⟨top, htop, htz⟩ := Option.map_eq_some_iff.mp hfz
        have hrows2 : RowsIn ((l', listOf (rowArr Row.zero tv tu tw) 0) :: R1) (siftup ltE (l', Row.zero) (es1.set 0 (l', Row.zero)) 0) := by
          intro e he
          rcases List.mem_or_eq_of_mem_set (hq2 e he) with h' | rfl
          · obtain ⟨a1, a2, a3, n, hm⟩ := hr2 e h'
            exact ⟨a1, a2, a3, n, .tail _ hm⟩
          · exact ⟨_, _, _, _, .head _⟩
        obtain ⟨xa, xb, xc, xn, htrow⟩ := hrows2 top (List.mem_of_getElem? htop)
        rw [htz] at htrow
        refine of_hold ?_
        refine get_list N14 (k := 0) (x := .ref top.1) rfl (by simp [htop]) (by omega) ?_
        tb_start
        rename_i F15 N15 _
        refine of_hold ?_
        refine ne_same_row (r := Row.zero) (News.get N15 (.tail _ (.tail _ (.tail _ (.tail _ (.tail _ (.tail _ (.tail _ htrow)))))))) (News.get N15 (.head _)) (by k_units) ?_
        tb_start
        rename_i kF kN _ _
        rw [hnm]
        exact hQ _ _ _ kF (fun p hp => kN p (.tail _ (.tail _ (.tail _ (.tail _ (.tail _ (.tail _ (.tail _ (.tail _ (hRR p (hsub p (.tail _ (.tail _ hp)))))))))))))
end
end Mine
end

section -- S6
open PySem PySem.W PyProof.Rows
set_option maxRecDepth 100000
set_option maxHeartbeats 8000000
namespace Mine
theorem fill_6 : (∀ P h, (Mine.hd.heap_39 P).In h → PySem.Challenge.rw_in0245_01 = PySem.Challenge.rw_in0245_01) := by
  k_fill
  intros; rfl
local macro_rules | `(tactic| walk_at "exec While Compare cons nil") => `(tactic| (k_here; refine hold_of ?_))
local macro_rules | `(tactic| tb_start) => `(tactic| w_strict (repeat' (first | (k_unfold; (try dsimp only)) | (walk1; (try dsimp only)) | fail "no step")))
local macro_rules | `(tactic| tb_rel) => `(tactic| (refine' code_def ?k1 ?k2 ?k3 ?k4 ?k5 ?kA ?kF ?kK ?k6 ?k7 ?k8 ?k9 ?kB ?_ ?c2 ?c3 ?c4 ?c5; (case kA => exact rfl); (case kF => assumption); (case kK => assumption); (case k1 => k_asm); (case k2 => k_asm); (case k3 => k_asm); (case k4 => k_asm); (case k5 => k_asm); (case k6 => k_is); (case k7 => k_is); (case k8 => k_room); (case k9 => first | exact BindsTo.of_eq rfl | exact binds_K (by k_in) rfl (by k_is) rfl rfl rfl | fail "k_enter: no rule for these arguments"); (case c5 => decide); (case kB => exact locs rfl); (case c2 => exact rfl); (case c3 => exact rfl); (case c4 => exact rfl); k_whole))

local macro_rules | `(tactic| ktr_unf) => `(tactic| repeat (first | exact List.forall_mem_nil _ | refine List.forall_mem_cons.mpr ⟨rfl, ?_⟩))
local macro_rules | `(tactic| ktr_rel) => `(tactic| (intro z h1 h2; (try simp only [List.forall_mem_cons, List.forall_mem_nil, and_true, List.contains_cons, List.contains_nil, Bool.or_false, Bool.or_eq_false_iff, beq_eq_false_iff_ne, ne_eq] at h1 h2); (try simp only [kmap, kstB, List.contains_cons, List.contains_nil, Bool.or_false, Bool.or_eq_true, beq_iff_eq, h1, h2, if_false, or_false, or_self, Bool.false_eq_true])))
local macro_rules | `(tactic| walk_at "call ref") => `(tactic| (k_here; refine hold_of ?_))
local macro_rules | `(tactic| walk_at "call type:range") => `(tactic| (k_here; refine hold_of ?_))
local macro_rules | `(tactic| walk_at "call type:reversed") => `(tactic| (k_here; refine hold_of ?_))
local macro_rules | `(tactic| walk_at "pyIter ref") => `(tactic| (k_here; refine hold_of ?_))
local macro_rules | `(tactic| walk_at "exec Assign cons ListComp") => `(tactic| (k_here; refine hold_of ?_))
local macro_rules | `(tactic| walk_at "eval ListComp") => `(tactic| (k_here; refine hold_of ?_))
local macro_rules | `(tactic| walk_at "subscriptTail Name Constant ref int") => `(tactic| (k_here; refine hold_of ?_))
local macro_rules | `(tactic| walk_at "subscriptTail Name Name ref int") => `(tactic| (k_here; refine hold_of ?_))
local macro_rules | `(tactic| walk_at "subscriptTail Subscript Name Constant Constant ref int") => `(tactic| (k_here; refine hold_of ?_))
local macro_rules | `(tactic| walk_at "subscriptTail Call Name cons nil Constant ref int") => `(tactic| (k_here; refine hold_of ?_))
local macro_rules | `(tactic| walk_at "compareOp NotEq ref ref") => `(tactic| (k_here; refine hold_of ?_))
local macro_rules | `(tactic| walk_at "compareOp Lt ref ref") => `(tactic| (k_here; refine hold_of ?_))
local macro_rules | `(tactic| walk_at "call builtin:len") => `(tactic| (k_here; refine hold_of ?_))
local macro_rules | `(tactic| walk_at "setItem ref int ref") => `(tactic| (k_here; refine hold_of ?_))
local macro_rules | `(tactic| walk_at "KswEnd") => `(tactic| (k_here; refine hold_of ?_))
local macro_rules | `(tactic| walk_at "InvEndN") => `(tactic| (k_here; refine hold_of ?_))
local macro_rules | `(tactic| walk_at "CompEnd") => `(tactic| (k_here; refine hold_of ?_))
local macro_rules | `(tactic| ktd_rel) => `(tactic| ((repeat (refine List.forall_mem_cons.mpr ⟨by k_mem, ?_⟩)); first | exact List.forall_mem_nil _ | (intro p hp; repeat (first | exact hp | refine List.Mem.tail _ ?_))))
local macro_rules | `(tactic| walk_at "exec While Name cons nil") => `(tactic| (k_here; refine hold_of ?_))
section
variable {w : World} {e1 : Env} {base h₀ : Heap} {L : Addr} {m mg mb : Str → Option Value} {s : Shared} {p : Program} {loose : List Str} {mean : ExcName → Option Value}
theorem reduced_C {less more : Nat} {rest : List (Addr × Obj)} {t1 t2 : Tok} {Q : Value → Shared → Prop}
  (B : Below callerA base [] h₀) (F : Fr h₀ L s.heap m) (X₀ : (Mine.hd.heap_39 w.params).In h₀) (N : News h₀ L s.heap rest) (T : Top p loose mean mg mb h₀)
  (hf : e1.frame = some L) (hke : e1.scope.kind = .function) (hl1 : 1 ≤ less) (hm2 : more ≤ 11) (hl2 : less ≤ 11)
  (hQ : ∀ h' tk t t' r n, Fr h₀ L h' m → News h₀ L h' ((r, ({ cls := .type "tuple", data := .seq #[.int ((less / Nat.gcd less more : Nat) : Int) t, .int ((more / Nat.gcd less more : Nat) : Int) t'] n } : Obj)) :: rest) → Q (.ref r) { s with heap := h', toks := tk }) :
  wpAny (model PySem.Challenge.rw_in0245_01.row.prog w) (callerA.deeper e1) (call (.ref 111) [.int less t1, .int more t2]) Q (fun _ _ => False) s := by
  refine wpAny_call ?_
  tb_rel
  intro g' L' h' FG' F' N' B' X' T'
  replace F' := fr_binds [(S "more", .int more t2), (S "less", .int less t1)] F'
  refine wpAny_mono (E := fun _ _ => False) ?_ (fun _ _ x => x) (fun _ _ x => x.elim)
  k_fold
  tb_start
  rename_i F1 N1
  refine while_rule (σ := Nat × Nat × Tok × Tok) (fun c => rest) (fun c => [(S "low", .int (c.1 : Int) c.2.2.1), (S "high", .int (c.2.1 : Int) c.2.2.2)]) []
    (fun c => c.1 ≤ 11 ∧ c.2.1 ≤ 11 ∧ 1 ≤ Nat.gcd c.1 c.2.1 ∧ Nat.gcd c.1 c.2.1 = Nat.gcd less more)
    (fun c => 1 ≤ c.1 ∧ c.1 = Nat.gcd less more) (fun c => c.2.1) (less, more, t1, t2) F1 (fun p hp => N1 p (.tail _ hp)) ?hk ?hp ?turn ?after
  case hk => ktr_unf
  case hp => exact ⟨hl2, hm2, Nat.gcd_pos_of_pos_left _ hl1, rfl⟩
  case turn =>
    rintro ⟨low, high, ta, tb⟩ u h tk0 ⟨h1, h2, h3, h4⟩ F2 N2
    dsimp only at h1 h2 h3 h4 ⊢
    tb_start
    · rename_i hne _ _ _ F3 N3
      have hh : ((low : Int).fmod high) = ((low % high : Nat) : Int) := by
        rw [Int.fmod_eq_emod_of_nonneg _ (by omega)]; omega
      have hlt : low % high < high := Nat.mod_lt _ (by omega)
      rw [hh] at F3
      refine of_hold ?_
      have hg : Nat.gcd high (low % high) = Nat.gcd low high := by rw [Nat.gcd_comm low high, Nat.gcd_rec high low, Nat.gcd_comm]
      refine ksw_end (high, low % high, tb, tokAt F3 "high") F3 N3 (fun p hp => .tail _ hp) trivial ?_ ?_ ⟨h2, by dsimp only; omega, by dsimp only; omega, by dsimp only; omega⟩ hlt
      · ktr_unf
      · ktr_rel
    · rename_i hne
      obtain rfl : high = 0 := by omega
      refine loop_end (low, 0, ta, tb) F2 N2 (fun p hp => hp) ?_ ?_ ⟨by simpa using h3, by simpa using h4⟩
      · ktr_unf
      · ktr_rel
  case after =>
    rintro ⟨low, high, ta, tb⟩ u h tk0 ⟨h1, h2⟩ F2 N2
    dsimp only at h1 h2 ⊢
    subst h2
    tb_start
    refine floordiv_int (by omega) ?_ (Or.inl (PyProof.noPylong_small (by have := Nat.gcd_le_left more hl1; omega)))
    tb_start
    refine floordiv_int (by omega) ?_ (Or.inl (PyProof.noPylong_small (by have := Nat.gcd_le_left more hl1; omega)))
    tb_start
    have hd : ∀ a : Nat, ((a : Int).fdiv (Nat.gcd less more : Nat)) = ((a / Nat.gcd less more : Nat) : Int) := fun a => by
      rw [Int.fdiv_eq_ediv_of_nonneg _ (by omega)]; rfl
    rename_i kF kN _ _
    rw [hd, hd] at kN
    exact hQ _ _ _ _ _ _ kF kN
theorem ap_C {ds : List Nat} {num : Int} {rest : List (Addr × Obj)} {t1 : Tok} {Q : Value → Shared → Prop}
  (B : Below callerA base [] h₀) (F : Fr h₀ L s.heap m) (X₀ : (Mine.hd.heap_39 w.params).In h₀) (N : News h₀ L s.heap rest) (T : Top p loose mean mg mb h₀)
  (hf : e1.frame = some L) (hke : e1.scope.kind = .function) (hds : ∀ d ∈ ds, d < 16) (hd0 : ∀ d r, ds = d :: r → d ≠ 0) (hlen : ds.length < 100) (hnum : num = ((ds.foldl (fun a d => a * 16 + d) 0 : Nat) : Int))
  (hQ : ∀ h' tk t, Fr h₀ L h' m → News h₀ L h' rest → Q (.bytes (ds.map fun d => UInt8.ofNat (65 + d)).toArray t) { s with heap := h', toks := tk }) :
  wpAny (model PySem.Challenge.rw_in0245_01.row.prog w) (callerA.deeper e1) (call (.ref 104) [.int num t1]) Q (fun _ _ => False) s := by
  refine wpAny_call ?_
  tb_rel
  intro g' L' h' FG' F' N' B' X' T'
  replace F' := fr_binds [(S "num", .int num t1)] F'
  refine wpAny_mono (E := fun _ _ => False) ?_ (fun _ _ x => x) (fun _ _ x => x.elim)
  k_fold
  tb_start
  rename_i F1 N1
  have habs : (if num < 0 then -num else num) = num := if_neg (by omega)
  rw [habs] at F1
  refine while_rule (σ := List Nat × List Nat × Tok × Tok) (fun c => rest) (fun c => [(S "num", .int ((c.1.foldl (fun a d => a * 16 + d) 0 : Nat) : Int) c.2.2.1), (S "val", .bytes (c.2.1.map fun d => UInt8.ofNat (65 + d)).toArray c.2.2.2)]) [S "mod"]
    (fun c => ds = c.1 ++ c.2.1) (fun c => c.2.1 = ds) (fun c => c.1.length) (ds, [], tokAt F1 "num", tokAt F1 "val") F1 N1 ?hk ?hp ?turn ?after
  case hk => subst hnum; ktr_unf
  case hp => simp
  case turn =>
    rintro ⟨r, suf, ta, tb⟩ u h tk0 h1 F2 N2
    dsimp only at h1 ⊢
    tb_start
    · rename ((_ : Int) ≠ 0) => hne
      rename_i _ F3 N3
      obtain ⟨r, d, rfl⟩ : ∃ r' d, r = r' ++ [d] := by
        rcases List.eq_nil_or_concat r with h | ⟨r', d, h⟩
        · subst h; exact absurd rfl hne
        · exact ⟨r', d, by simpa using h⟩
      have hd : d < 16 := hds d (by rw [h1]; simp)
      rw [List.foldl_append] at F3 N3 ⊢
      simp only [List.foldl_cons, List.foldl_nil] at F3 N3 ⊢
      generalize hr : List.foldl (fun a d => a * 16 + d) 0 r = vr at F3 N3 ⊢
      have e1 : (((vr * 16 + d : Nat) : Int)).fmod 16 = (d : Int) := by
        rw [Int.fmod_eq_emod_of_nonneg _ (by omega)]; omega
      have e2 : (((vr * 16 + d : Nat) : Int)).fdiv 16 = (vr : Int) := by
        rw [Int.fdiv_eq_ediv_of_nonneg _ (by omega)]; omega
      rw [e1, e2] at F3 N3
      rw [e1]
      have hpk : KBy.whole #[65, 66, 67, 68, 69, 70, 71, 72, 73, 74, 75, 76, 77, 78, 79, 80] (some (d : Int)) (some ((d : Int) + 1)) = false ∧ KBy.picked #[65, 66, 67, 68, 69, 70, 71, 72, 73, 74, 75, 76, 77, 78, 79, 80] (some (d : Int)) (some ((d : Int) + 1)) = #[UInt8.ofNat (65 + d)] := by
        have := (by decide +kernel : ∀ d : Fin 16, KBy.whole #[65, 66, 67, 68, 69, 70, 71, 72, 73, 74, 75, 76, 77, 78, 79, 80] (some ((d.val : Nat) : Int)) (some (((d.val : Nat) : Int) + 1)) = false ∧ KBy.picked #[65, 66, 67, 68, 69, 70, 71, 72, 73, 74, 75, 76, 77, 78, 79, 80] (some ((d.val : Nat) : Int)) (some (((d.val : Nat) : Int) + 1)) = #[UInt8.ofNat (65 + d.val)])
        exact this ⟨d, hd⟩
      refine KBy.slice_N (s := ⟨_, _, _, _, _⟩) F3 N3 (by constructor) (by constructor) hpk.1 (by rw [hpk.2]; exact Nat.le_of_ble_eq_true rfl) ?_
      intro h5 t5 k5 F5 N5
      rw [hpk.2]
      tb_start
      refine KBy.add_bytes ?_ ?_
      · have : suf.length < 100 := by rw [h1] at hlen; simp at hlen; omega
        simp; omega
      intro t6 k6
      tb_start
      rename_i F6 N6
      refine of_hold ?_
      refine ksw_end (r, d :: suf, tokAt F6 "num", tokAt F6 "val") F6 N6 (fun p hp => .tail _ hp) trivial ?_ ?_ (by dsimp only; rw [h1]; simp) (by simp)
      · dsimp only; rw [hr]
        have : (#[UInt8.ofNat (65 + d)] : Array UInt8) ++ (List.map (fun d => UInt8.ofNat (65 + d)) suf).toArray = (List.map (fun d => UInt8.ofNat (65 + d)) (d :: suf)).toArray := by simp
        rw [← this]
        ktr_unf
      · ktr_rel
    · rename_i hz
      have hr0 : r = [] := by
        cases r with
        | nil => rfl
        | cons d r =>
          have h0 := hd0 d (r ++ suf) (by rw [h1]; rfl)
          have key : ∀ (r : List Nat) (a : Nat), 0 < a → 0 < r.foldl (fun a d => a * 16 + d) a := by
            intro r
            induction r with
            | nil => exact fun a h => h
            | cons x r ih => exact fun a h => ih (a * 16 + x) (Nat.lt_of_lt_of_le (Nat.mul_pos h (by decide)) (Nat.le_add_right _ _))
          have := key r (0 * 16 + d) (by omega)
          rw [List.foldl_cons] at hz
          omega
      subst hr0
      refine loop_end ([], suf, ta, tb) F2 N2 (fun p hp => hp) ?_ ?_ (by rw [h1]; rfl)
      · ktr_unf
      · ktr_rel
  case after =>
    rintro ⟨r, suf, ta, tb⟩ u h tk0 h1 F2 N2
    dsimp only at h1 ⊢
    subst h1
    tb_start
    rename_i kF kN _ _
    exact hQ _ _ _ kF kN
end
end Mine
end

section -- S7
open PySem PySem.W PyProof.Rows
set_option maxRecDepth 100000
set_option maxHeartbeats 8000000
namespace Mine
theorem fill_7 : (∀ P h, (Mine.hd.heap_39 P).In h → PySem.Challenge.rw_in0245_01 = PySem.Challenge.rw_in0245_01) := by
  k_fill
  intros; rfl
local macro_rules | `(tactic| walk_at "exec While Compare cons nil") => `(tactic| (k_here; refine hold_of ?_))
local macro_rules | `(tactic| tb_start) => `(tactic| w_strict (repeat' (first | (k_unfold; (try dsimp only)) | (walk1; (try dsimp only)) | fail "no step")))
local macro_rules | `(tactic| tb_rel) => `(tactic| (refine' code_def ?k1 ?k2 ?k3 ?k4 ?k5 ?kA ?kF ?kK ?k6 ?k7 ?k8 ?k9 ?kB ?_ ?c2 ?c3 ?c4 ?c5; (case kA => exact rfl); (case kF => assumption); (case kK => assumption); (case k1 => k_asm); (case k2 => k_asm); (case k3 => k_asm); (case k4 => k_asm); (case k5 => k_asm); (case k6 => k_is); (case k7 => k_is); (case k8 => k_room); (case k9 => first | exact BindsTo.of_eq rfl | exact binds_K (by k_in) rfl (by k_is) rfl rfl rfl | fail "k_enter: no rule for these arguments"); (case c5 => decide); (case kB => exact locs rfl); (case c2 => exact rfl); (case c3 => exact rfl); (case c4 => exact rfl); k_whole))

local macro_rules | `(tactic| ktr_unf) => `(tactic| repeat (first | exact List.forall_mem_nil _ | refine List.forall_mem_cons.mpr ⟨rfl, ?_⟩))
local macro_rules | `(tactic| ktr_rel) => `(tactic| (intro z h1 h2; (try simp only [List.forall_mem_cons, List.forall_mem_nil, and_true, List.contains_cons, List.contains_nil, Bool.or_false, Bool.or_eq_false_iff, beq_eq_false_iff_ne, ne_eq] at h1 h2); (try simp only [kmap, kstB, List.contains_cons, List.contains_nil, Bool.or_false, Bool.or_eq_true, beq_iff_eq, h1, h2, if_false, or_false, or_self, Bool.false_eq_true])))
local macro_rules | `(tactic| walk_at "call ref") => `(tactic| (k_here; refine hold_of ?_))
local macro_rules | `(tactic| walk_at "call type:range") => `(tactic| (k_here; refine hold_of ?_))
local macro_rules | `(tactic| walk_at "call type:reversed") => `(tactic| (k_here; refine hold_of ?_))
local macro_rules | `(tactic| walk_at "pyIter ref") => `(tactic| (k_here; refine hold_of ?_))
local macro_rules | `(tactic| walk_at "exec Assign cons ListComp") => `(tactic| (k_here; refine hold_of ?_))
local macro_rules | `(tactic| walk_at "eval ListComp") => `(tactic| (k_here; refine hold_of ?_))
local macro_rules | `(tactic| walk_at "subscriptTail Name Constant ref int") => `(tactic| (k_here; refine hold_of ?_))
local macro_rules | `(tactic| walk_at "subscriptTail Name Name ref int") => `(tactic| (k_here; refine hold_of ?_))
local macro_rules | `(tactic| walk_at "subscriptTail Subscript Name Constant Constant ref int") => `(tactic| (k_here; refine hold_of ?_))
local macro_rules | `(tactic| walk_at "subscriptTail Call Name cons nil Constant ref int") => `(tactic| (k_here; refine hold_of ?_))
local macro_rules | `(tactic| walk_at "compareOp NotEq ref ref") => `(tactic| (k_here; refine hold_of ?_))
local macro_rules | `(tactic| walk_at "compareOp Lt ref ref") => `(tactic| (k_here; refine hold_of ?_))
local macro_rules | `(tactic| walk_at "call builtin:len") => `(tactic| (k_here; refine hold_of ?_))
local macro_rules | `(tactic| walk_at "setItem ref int ref") => `(tactic| (k_here; refine hold_of ?_))
local macro_rules | `(tactic| walk_at "KswEnd") => `(tactic| (k_here; refine hold_of ?_))
local macro_rules | `(tactic| walk_at "InvEndN") => `(tactic| (k_here; refine hold_of ?_))
local macro_rules | `(tactic| walk_at "CompEnd") => `(tactic| (k_here; refine hold_of ?_))
local macro_rules | `(tactic| ktd_rel) => `(tactic| ((repeat (refine List.forall_mem_cons.mpr ⟨by k_mem, ?_⟩)); first | exact List.forall_mem_nil _ | (intro p hp; repeat (first | exact hp | refine List.Mem.tail _ ?_))))
local macro_rules | `(tactic| walk_at "exec While Name cons nil") => `(tactic| (k_here; refine hold_of ?_))
local macro_rules | `(tactic| walk_at "call builtin:list.append cons nil") => `(tactic| (k_here; refine hold_of ?_))
local macro_rules | `(tactic| walk_at "subscriptTail Name Slice ref ref") => `(tactic| (k_here; refine hold_of ?_))
section
variable {prog : Program} {w : World} {A : Around} {s : Shared} {h₀ : Heap} {L D : Addr} {m : Str → Option Value} {rest : List (Addr × Obj)} {l : List Value} {n k : Nat} {t : Tok} {v : Value} {E : Value → Shared → Prop}
theorem append_list {Q : Value → Shared → Prop} (F : Fr h₀ L s.heap m) (N : News h₀ L s.heap ((D, listOf l.toArray n) :: rest)) (hrest : ∀ p ∈ rest, p.1 ≠ D) (hsz : l.length < 1000)
    (h : ∀ h', Fr h₀ L h' m → News h₀ L h' ((D, listOf (l ++ [v]).toArray (n + 1)) :: rest) → Q .none { s with heap := h' }) : wpAny (model prog w) A (call (.builtin "list.append") [.ref D, v]) Q E s := by
  refine append_head F N hrest (fun h' F' N' => h h' F' ?_) (by rw [sizeLine_eq]; simp; omega)
  have : l.toArray.push v = (l ++ [v]).toArray := by simp
  rw [this] at N'
  exact N'
end
def oneRun (total less : Nat) : Nat → Nat → Option Nat
  | 0, _ => none
  | f + 1, one => if one * less % total = 1 then some one else oneRun total less f (one + 1)
def lenRun : Nat → Nat → Nat → List Int → Option (List Int)
  | 0, _, _, _ => none
  | f + 1, a, b, ls => if a = b then some ls else lenRun f (min a b) (max a b - min a b) (ls ++ [((min a b : Nat) : Int) + ((max a b - min a b : Nat) : Int) - 2])
def LensAre (less more : Nat) (out : List Int) : Prop :=
  ∃ f one o2, oneRun (less + more) less f 1 = some one ∧ one ≤ less + more ∧ (∃ f2, lenRun f2 one (less + more - one) [((less + more : Nat) : Int) - 2] = some o2) ∧ out = o2.reverse ∧ o2.length ≤ 50
theorem lenRun_mono : ∀ (f a b : Nat) (ls o : List Int), lenRun f a b ls = some o → ls.length ≤ o.length
  | 0, _, _, _, _, h => by cases h
  | f + 1, a, b, ls, o, h => by
    rw [lenRun] at h
    split at h
    · cases h; exact Nat.le_refl _
    · have := lenRun_mono f _ _ _ _ h
      simp at this; omega
theorem intsAre_snoc {x : Int} {t : Tok} : ∀ {vs : List Value} {ns : List Int}, IntsAre vs ns → IntsAre (vs ++ [.int x t]) (ns ++ [x])
  | _, _, .nil => .cons _ _ .nil
  | _, _, .cons _ _ h => .cons _ _ (intsAre_snoc h)
theorem intsAre_len : ∀ {vs : List Value} {ns : List Int}, IntsAre vs ns → vs.length = ns.length
  | _, _, .nil => rfl
  | _, _, .cons _ _ h => congrArg (· + 1) (intsAre_len h)
section
variable {w : World} {e1 : Env} {base h₀ : Heap} {L : Addr} {m mg mb : Str → Option Value} {s : Shared} {p : Program} {loose : List Str} {mean : ExcName → Option Value}
theorem lengths_C {less more : Nat} {out : List Int} {rest : List (Addr × Obj)} {t1 t2 : Tok} {Q : Value → Shared → Prop}
  (B : Below callerA base [] h₀) (F : Fr h₀ L s.heap m) (X₀ : (Mine.hd.heap_39 w.params).In h₀) (N : News h₀ L s.heap rest) (T : Top p loose mean mg mb h₀)
  (hf : e1.frame = some L) (hke : e1.scope.kind = .function) (hl1 : 1 ≤ less) (hm2 : more ≤ 11) (hl2 : less ≤ 11) (hout : LensAre less more out)
  (hQ : ∀ h' tk r vs n, IntsAre vs out → Fr h₀ L h' m → News h₀ L h' ((r, listOf vs.toArray n) :: rest) → Q (.ref r) { s with heap := h', toks := tk }) :
  wpAny (model PySem.Challenge.rw_in0245_01.row.prog w) (callerA.deeper e1) (call (.ref 128) [.int less t1, .int more t2]) Q (fun _ _ => False) s := by
  refine wpAny_call ?_
  tb_rel
  intro g' L' h' FG' F' N' B' X' T'
  replace F' := fr_binds [(S "more", .int more t2), (S "less", .int less t1)] F'
  refine wpAny_mono (E := fun _ _ => False) ?_ (fun _ _ x => x) (fun _ _ x => x.elim)
  k_fold
  tb_start
  rename_i F1 N1
  obtain ⟨fu, one0, o2, ho1, hle, ⟨fu2, ho2⟩, rfl, ho50⟩ := hout
  refine while_rule (σ := Nat × Nat × Tok) (fun c => rest) (fun c => [(S "one", .int (c.2.1 : Int) c.2.2)]) []
    (fun c => oneRun (less + more) less c.1 c.2.1 = some one0) (fun c => c.2.1 = one0) (fun c => c.1) (fu, 1, tokAt F1 "one") F1 (fun p hp => N1 p (.tail _ hp)) ?hk ?hp ?turn ?after
  case hk => ktr_unf
  case hp => exact ho1
  case turn =>
    rintro ⟨f, one, ta⟩ u h tk0 h1 F2 N2
    dsimp only at h1 ⊢
    obtain ⟨f, rfl⟩ : ∃ f', f = f' + 1 := by
      cases f with
      | zero => cases h1
      | succ f => exact ⟨f, rfl⟩
    rw [oneRun] at h1
    have hh : (one * less : Int).fmod (less + more) = ((one * less % (less + more) : Nat) : Int) := by
      rw [Int.fmod_eq_emod_of_nonneg _ (by omega)]; rfl
    tb_start
    · rename_i F3 N3
      rw [hh, if_neg (by omega)] at *
      refine of_hold ?_
      refine ksw_end (f, one + 1, tokAt F3 "one") F3 N3 (fun p hp => hp) trivial ?_ ?_ h1 (Nat.lt_succ_self _)
      · ktr_unf
      · ktr_rel
    · rename_i hz
      rw [if_pos (by omega)] at h1
      refine loop_end (f + 1, one, ta) F2 N2 (fun p hp => hp) ?_ ?_ (Option.some.inj h1)
      · ktr_unf
      · ktr_rel
  case after =>
    rintro ⟨f, one, ta⟩ u h tk0 h1 F2 N2
    dsimp only at h1 ⊢
    subst h1
    tb_start
    rename ∀ p : Addr × Obj, p ∈ rest → _ => l1
    rename_i F3 N3
    have hfresh : ∀ p ∈ rest, p.1 ≠ _ := fun p hp => Nat.ne_of_lt (l1 p hp)
    have e1 : ((less : Int) + more - one) = ((less + more - one : Nat) : Int) := by omega
    have e2 : ((one : Int) + (less + more - one) - 2) = ((less + more : Nat) : Int) - 2 := by omega
    rw [e2] at N3
    rw [e1] at F3
    refine of_hold ?_
    refine while_rule (σ := Nat × Nat × Nat × List Int × Tok × Tok × List Value × Nat) (fun c => (_, listOf c.2.2.2.2.2.2.1.toArray c.2.2.2.2.2.2.2) :: rest) (fun c => [(S "one", .int (c.2.1 : Int) c.2.2.2.2.1), (S "other", .int (c.2.2.1 : Int) c.2.2.2.2.2.1)]) []
      (fun c => lenRun c.1 c.2.1 c.2.2.1 c.2.2.2.1 = some o2 ∧ IntsAre c.2.2.2.2.2.2.1 c.2.2.2.1) (fun c => IntsAre c.2.2.2.2.2.2.1 o2) (fun c => c.1) (fu2, one, less + more - one, [((less + more : Nat) : Int) - 2], tokAt F3 "one", tokAt F3 "other", [.int (((less + more : Nat) : Int) - 2) _], 0) F3 N3 ?hk ?hp ?turn ?after
    case hk => ktr_unf
    case hp => exact ⟨ho2, .cons _ _ .nil⟩
    case turn =>
      rintro ⟨f2, a1, b1, ls, tka, tkb, vs, n⟩ u h tk0 ⟨h1, h2⟩ F4 N4
      dsimp only at h1 h2 ⊢
      obtain ⟨f2, rfl⟩ : ∃ f', f2 = f' + 1 := by
        cases f2 with
        | zero => cases h1
        | succ f => exact ⟨f, rfl⟩
      rw [lenRun] at h1
      tb_start
      · rename_i hne u' _ l1 F5 N5
        have hx1 : (if (b1 : Int) < a1 then (b1 : Int) else a1) = ((min a1 b1 : Nat) : Int) := by split <;> omega
        have hx2 : (if (a1 : Int) - b1 < 0 then -((a1 : Int) - b1) else a1 - b1) = ((max a1 b1 - min a1 b1 : Nat) : Int) := by split <;> omega
        rw [hx1, hx2] at F5 N5 ⊢
        rw [if_neg (by omega)] at h1
        have hlen := lenRun_mono _ _ _ _ _ h1
        have hvl := intsAre_len h2
        refine of_hold ?_
        refine append_list F5 (fun p hp => N5 p (.tail _ hp)) hfresh (by show vs.length < 1000; simp at hlen; omega) ?_
        intro h6 F6 N6
        tb_start
        refine of_hold ?_
        refine ksw_end (f2, min a1 b1, max a1 b1 - min a1 b1, ls ++ [((min a1 b1 : Nat) : Int) + ((max a1 b1 - min a1 b1 : Nat) : Int) - 2], tokAt F6 "one", tokAt F6 "other", vs ++ [.int (((min a1 b1 : Nat) : Int) + ((max a1 b1 - min a1 b1 : Nat) : Int) - 2) _], n + 1) F6 N6 (fun p hp => hp) trivial ?_ ?_ ⟨h1, intsAre_snoc h2⟩ (Nat.lt_succ_self _)
        · ktr_unf
        · ktr_rel
      · rename_i hz
        rw [if_pos (by omega)] at h1
        refine loop_end (f2 + 1, a1, b1, ls, tka, tkb, vs, n) F4 N4 (fun p hp => hp) ?_ ?_ (by rw [← Option.some.inj h1]; exact h2)
        · ktr_unf
        · ktr_rel
    case after =>
      rintro ⟨f2, a1, b1, ls, tka, tkb, vs, n⟩ u h tk0 h1 F4 N4
      dsimp only at h1 ⊢
      tb_start
      refine of_hold ?_
      refine krv_ints (vs := vs) (s := ⟨_, _, _, _, _⟩) F4 N4 (News.isList N4 (.head _)) (IsPart.int _ _) h1 ?_ (by with_unfolding_all rfl) (by intro _; with_unfolding_all rfl) ?_
      · intro D ws h6 F6 N6 _ hI _
        tb_start
        rename_i kF kN _ _
        exact hQ _ _ _ ws _ hI kF (fun p hp => by
          rcases List.mem_cons.mp hp with rfl | hp
          · exact kN _ (.head _)
          · exact kN _ (.tail _ (.tail _ hp)))
      · have := intsAre_len h1
        rw [sizeLine_eq]; simp; omega
end
end Mine
end

section -- P3
open PySem PySem.W PyProof.Rows
set_option maxRecDepth 100000
namespace Mine
structure BRow where
  v : Int
  g : Fin 3
  s : Int
def conc (φ : Fin 3 → Int) (r : BRow) : Row := ⟨r.v, φ r.g, r.s⟩
def rank (k : Fin 3) : Int := k.val
def ltB (a b : BRow) : Bool := Row.lt (conc rank a) (conc rank b)
theorem conc_lt {φ : Fin 3 → Int} (h01 : φ 0 < φ 1) (h12 : φ 1 < φ 2) (a b : BRow) : Row.lt (conc φ a) (conc φ b) = ltB a b := by
  have key : ∀ x y : Fin 3, (φ x = φ y ↔ rank x = rank y) ∧ (φ x < φ y ↔ rank x < rank y) := by
    intro x y
    match x, y with
    | 0, 0 => exact ⟨by simp, by simp⟩
    | 0, 1 => exact ⟨⟨fun h => by omega, fun h => absurd h (by decide)⟩, ⟨fun _ => by decide, fun _ => h01⟩⟩
    | 0, 2 => exact ⟨⟨fun h => by omega, fun h => absurd h (by decide)⟩, ⟨fun _ => by decide, fun _ => by omega⟩⟩
    | 1, 0 => exact ⟨⟨fun h => by omega, fun h => absurd h (by decide)⟩, ⟨fun h => by omega, fun h => absurd h (by decide)⟩⟩
    | 1, 1 => exact ⟨by simp, by simp⟩
    | 1, 2 => exact ⟨⟨fun h => by omega, fun h => absurd h (by decide)⟩, ⟨fun _ => by decide, fun _ => h12⟩⟩
    | 2, 0 => exact ⟨⟨fun h => by omega, fun h => absurd h (by decide)⟩, ⟨fun h => by omega, fun h => absurd h (by decide)⟩⟩
    | 2, 1 => exact ⟨⟨fun h => by omega, fun h => absurd h (by decide)⟩, ⟨fun h => by omega, fun h => absurd h (by decide)⟩⟩
    | 2, 2 => exact ⟨by simp, by simp⟩
  unfold ltB Row.lt conc
  dsimp only
  by_cases h1 : a.v = b.v
  · rw [if_pos h1, if_pos h1]
    by_cases h2 : φ a.g = φ b.g
    · rw [if_pos h2, if_pos ((key _ _).1.mp h2)]
    · rw [if_neg h2, if_neg fun q => h2 ((key _ _).1.mpr q)]
      exact decide_eq_decide.mpr (key _ _).2
  · rw [if_neg h1, if_neg h1]
def BRow.next (r : BRow) : BRow := ⟨r.v + r.s, r.g, r.s⟩
/-- as numRun, the figures' codes put down one by one -/
def codeRun (lm : Int) : Nat → List BRow → List (Fin 3) → Option (List BRow × List (Fin 3))
  | 0, _, _ => none
  | f + 1, es, ds => match es[0]? with
    | none => none
    | some r => if r.v < lm then codeRun lm f (siftup ltB r.next (es.set 0 r.next) 0) (ds ++ [r.g]) else some (es, ds)
abbrev valOf (φ : Fin 3 → Int) (ds : List (Fin 3)) : Int := ds.foldl (fun a d => a * 16 + φ d) 0
theorem codeRun_num {φ : Fin 3 → Int} (h01 : φ 0 < φ 1) (h12 : φ 1 < φ 2) (lm : Int) : ∀ (f : Nat) (es : List BRow) (ds : List (Fin 3)) (es' : List BRow) (ds' : List (Fin 3)), codeRun lm f es ds = some (es', ds') →
    numRun lm f (es.map (conc φ)) (valOf φ ds) = some (es'.map (conc φ), valOf φ ds')
  | 0, _, _, _, _, h => by cases h
  | f + 1, es, ds, es', ds', h => by
    rw [codeRun] at h
    rw [numRun, List.getElem?_map]
    cases hr : es[0]? with
    | none => rw [hr] at h; cases h
    | some r =>
      rw [hr] at h
      dsimp only at h
      simp only [Option.map_some]
      by_cases hlt : r.v < lm
      · rw [if_pos hlt] at h
        have hlt' : (conc φ r).v < lm := hlt
        rw [if_pos hlt']
        have ih := codeRun_num h01 h12 lm f _ _ es' ds' h
        have e1 : (conc φ r).next = conc φ r.next := rfl
        rw [e1, ← List.map_set, map_siftup (conc_lt h01 h12)]
        have e2 : valOf φ (ds ++ [r.g]) = valOf φ ds * 16 + (conc φ r).f := by
          show (ds ++ [r.g]).foldl _ 0 = _
          rw [List.foldl_append]; rfl
        rw [← e2]
        exact ih
      · rw [if_neg hlt] at h
        have hlt' : ¬ (conc φ r).v < lm := hlt
        rw [if_neg hlt']
        cases h
        rfl
def initB (less more : Nat) (fc sc : Fin 3) : List BRow :=
  ⟨more * 1, sc, more * 2⟩ :: ⟨more * 2, sc, more * 2⟩ :: (List.range (2 + more % 2)).map (fun (j : Nat) => (⟨less * ((2 + more % 2 : Nat) + (j : Int) * -1), fc, less * (2 + more % 2 : Nat)⟩ : BRow))
theorem initB_map {φ : Fin 3 → Int} {first second : Nat} {fc sc : Fin 3} (hf : φ fc = first) (hs : φ sc = second) (less more : Nat) : (initB less more fc sc).map (conc φ) = initRows less more first second := by
  unfold initB initRows
  simp only [List.map_cons, List.map_map]
  congr 1
  · show (⟨_, φ sc, _⟩ : Row) = _
    rw [hs]
  congr 1
  · show (⟨_, φ sc, _⟩ : Row) = _
    rw [hs]
  refine List.map_congr_left fun j _ => ?_
  show (⟨_, φ fc, _⟩ : Row) = _
  rw [hf]
def zeroB (zc : Fin 3) : BRow := ⟨0, zc, 0⟩
/-- what a run must show -/
def chkNum (less more : Nat) (fc sc : Fin 3) (ws : List Bool) : Bool :=
  match codeRun ((less : Int) * more) 40 (heapFrom ltB 0 (initB less more fc sc)) [] with
  | none => false
  | some (es, ds) => decide (ds = ws.map fun b => if b then sc else fc) && match es[0]? with
    | none => false
    | some r => decide (r.v = (less : Int) * more) && match (siftup ltB (zeroB 0) (es.set 0 (zeroB 0)) 0)[0]? with
      | none => false
      | some z => decide (z.v = 0) && decide (z.g = 0) && decide (z.s = 0)
theorem num_of_chk {φ : Fin 3 → Int} (h01 : φ 0 < φ 1) (h12 : φ 1 < φ 2) (h0 : φ 0 = 0) {less more first second : Nat} {fc sc : Fin 3} (hf : φ fc = first) (hs : φ sc = second) {ws : List Bool} (h : chkNum less more fc sc ws = true) :
    NumIs less more first second (valOf φ (ws.map fun b => if b then sc else fc)) := by
  unfold chkNum at h
  cases hr : codeRun ((less : Int) * more) 40 (heapFrom ltB 0 (initB less more fc sc)) [] with
  | none => rw [hr] at h; cases h
  | some p =>
    obtain ⟨es, ds⟩ := p
    rw [hr] at h
    dsimp only at h
    rw [Bool.and_eq_true] at h
    obtain ⟨hds, h⟩ := h
    have hds' := of_decide_eq_true hds
    subst hds'
    have hrun := codeRun_num h01 h12 _ _ _ _ _ _ hr
    rw [← map_heapFrom (conc_lt h01 h12), initB_map hf hs] at hrun
    cases hr0 : es[0]? with
    | none => rw [hr0] at h; cases h
    | some r =>
      rw [hr0] at h
      dsimp only at h
      rw [Bool.and_eq_true] at h
      obtain ⟨hv, h⟩ := h
      cases hz : (siftup ltB (zeroB 0) (es.set 0 (zeroB 0)) 0)[0]? with
      | none => rw [hz] at h; cases h
      | some z =>
        rw [hz] at h
        dsimp only at h
        rw [Bool.and_eq_true, Bool.and_eq_true] at h
        obtain ⟨⟨z1, z2⟩, z3⟩ := h
        have z1 := of_decide_eq_true z1
        have z2 := of_decide_eq_true z2
        have z3 := of_decide_eq_true z3
        have e0 : conc φ (zeroB 0) = Row.zero := by
          show (⟨0, φ 0, 0⟩ : Row) = _
          rw [h0]; rfl
        refine ⟨40, es.map (conc φ), conc φ r, hrun, by rw [List.getElem?_map, hr0]; rfl, of_decide_eq_true hv, ?_⟩
        rw [← e0, ← List.map_set, map_siftup (conc_lt h01 h12), List.getElem?_map, hz]
        show some (⟨z.v, φ z.g, z.s⟩ : Row) = some ⟨0, φ 0, 0⟩
        rw [z1, z2, z3]
end Mine
end

section -- P2
open PySem PySem.W PyProof.Rows
set_option maxRecDepth 100000
namespace Mine
abbrev figs (f s : Nat) (ws : List Bool) : List Nat := ws.map fun b => if b then s else f
def okSizes (ws : List Bool) : List Nat := (List.range (ws.length + 1)).filter fun k => ws.drop (ws.length - k) == ws.take k
structure Good (less more f s : Nat) (ws : List Bool) (num : Int) : Prop where
  l1 : 1 ≤ less
  l2 : less ≤ 6
  lm : less < more
  m2 : more ≤ 11
  isNum : NumIs less more f s num
  val : num = (((figs f s ws).foldl (fun a d => a * 16 + d) 0 : Nat) : Int)
  hd0 : ∀ d r, figs f s ws = d :: r → d ≠ 0
  len : ws.length = less + more - 2
  pal : ws.reverse = ws
  lens : LensAre less more ((okSizes ws).map fun (k : Nat) => ((k : Nat) : Int))
def wordB (less more : Nat) : List Bool := match codeRun ((less : Int) * more) 40 (heapFrom ltB 0 (initB less more 1 2)) [] with
  | none => []
  | some (_, ds) => ds.map fun d => d == 2
def chkLens (less more : Nat) (ws : List Bool) : Bool := match oneRun (less + more) less 40 1 with
  | none => false
  | some one => decide (one ≤ less + more) && match lenRun 40 one (less + more - one) [((less + more : Nat) : Int) - 2] with
    | none => false
    | some o2 => decide (((okSizes ws).map fun (k : Nat) => ((k : Nat) : Int)) = o2.reverse) && decide (o2.length ≤ 50)
theorem lens_of_chk {less more : Nat} {ws : List Bool} (h : chkLens less more ws = true) : LensAre less more ((okSizes ws).map fun (k : Nat) => ((k : Nat) : Int)) := by
  unfold chkLens at h
  cases h1 : oneRun (less + more) less 40 1 with
  | none => rw [h1] at h; cases h
  | some one =>
    rw [h1] at h
    dsimp only at h
    rw [Bool.and_eq_true] at h
    obtain ⟨ho, h⟩ := h
    cases h2 : lenRun 40 one (less + more - one) [((less + more : Nat) : Int) - 2] with
    | none => rw [h2] at h; cases h
    | some o2 =>
      rw [h2] at h
      dsimp only at h
      rw [Bool.and_eq_true] at h
      exact ⟨40, one, o2, h1, of_decide_eq_true ho, ⟨40, h2⟩, of_decide_eq_true h.1, of_decide_eq_true h.2⟩
def chkPair (less more : Nat) : Bool := decide (1 ≤ less) && decide (less ≤ 6) && decide (less < more) && decide (more ≤ 11) && decide ((wordB less more).length = less + more - 2) &&
  decide ((wordB less more).reverse = wordB less more) && decide ((wordB less more).head? = some false) && chkLens less more (wordB less more) && chkNum less more 1 2 (wordB less more) && chkNum less more 2 1 (wordB less more) && chkNum less more 1 0 (wordB less more)
theorem all_pairs : ∀ x0 : Fin 6, ∀ y0 : Fin 5, chkPair ((1 + x0.val) / Nat.gcd (1 + x0.val) (1 + x0.val + 1 + y0.val)) ((1 + x0.val + 1 + y0.val) / Nat.gcd (1 + x0.val) (1 + x0.val + 1 + y0.val)) = true := by decide +kernel
theorem val_nat {φ : Fin 3 → Int} {f s : Nat} {fc sc : Fin 3} (hf : φ fc = f) (hs : φ sc = s) : ∀ (ws : List Bool) (a : Nat), (ws.map fun b => if b then sc else fc).foldl (fun a d => a * 16 + φ d) (a : Int) = (((figs f s ws).foldl (fun a d => a * 16 + d) a : Nat) : Int)
  | [], _ => rfl
  | b :: ws, a => by
    have ih := val_nat hf hs ws (a * 16 + (if b then s else f))
    simp only [List.map_cons, List.foldl_cons]
    rw [← ih]
    congr 1
    cases b
    · simp [hf]
    · simp [hs]
theorem good_of {φ : Fin 3 → Int} (h01 : φ 0 < φ 1) (h12 : φ 1 < φ 2) (h0 : φ 0 = 0) {less more f s : Nat} {fc sc : Fin 3} (hf : φ fc = f) (hs : φ sc = s) (hf1 : 1 ≤ f) (h : chkPair less more = true) (hn : chkNum less more fc sc (wordB less more) = true) :
    ∃ ws num, Good less more f s ws num := by
  unfold chkPair at h
  simp only [Bool.and_eq_true, decide_eq_true_eq] at h
  obtain ⟨⟨⟨⟨⟨⟨⟨⟨⟨⟨h1, h2⟩, h3⟩, h4⟩, h5⟩, h6⟩, h7⟩, h8⟩, _⟩, _⟩, _⟩ := h
  refine ⟨wordB less more, _, h1, h2, h3, h4, num_of_chk h01 h12 h0 hf hs hn, val_nat hf hs _ 0, ?_, h5, h6, lens_of_chk h8⟩
  intro d r hd
  cases hw : wordB less more with
  | nil => rw [hw] at h7; cases h7
  | cons b q =>
    rw [hw] at h7 hd
    have hb : b = false := Option.some.inj h7
    subst hb
    have : f = d := (List.cons.inj hd).1
    omega
theorem pair_facts (x0 y0 f s : Nat) (hx : x0 < 6) (hy : y0 < 5) (hf1 : 1 ≤ f) (hf2 : f < 16) (hs : s < 16) (hne : f ≠ s) :
    ∃ ws num, Good ((1 + x0) / Nat.gcd (1 + x0) (1 + x0 + 1 + y0)) ((1 + x0 + 1 + y0) / Nat.gcd (1 + x0) (1 + x0 + 1 + y0)) f s ws num := by
  have h := all_pairs ⟨x0, hx⟩ ⟨y0, hy⟩
  dsimp only at h
  have h' := h
  unfold chkPair at h'
  simp only [Bool.and_eq_true] at h'
  obtain ⟨⟨⟨_, n12⟩, n21⟩, n10⟩ := h'
  by_cases h0 : s = 0
  · exact good_of (φ := fun k => if k = 0 then 0 else if k = 1 then (f : Int) else (f : Int) + 1) (fc := 1) (sc := 0) (by show (0 : Int) < f; omega) (by show (f : Int) < f + 1; omega) rfl rfl (by show (0 : Int) = s; omega) hf1 h n10
  · by_cases hlt : f < s
    · exact good_of (φ := fun k => if k = 0 then 0 else if k = 1 then (f : Int) else (s : Int)) (fc := 1) (sc := 2) (by show (0 : Int) < f; omega) (by show (f : Int) < s; omega) rfl rfl rfl hf1 h n12
    · exact good_of (φ := fun k => if k = 0 then 0 else if k = 1 then (s : Int) else (f : Int)) (fc := 2) (sc := 1) (by show (0 : Int) < s; omega) (by show (s : Int) < f; omega) rfl rfl rfl hf1 h n21
end Mine
end

section -- S8
open PySem PySem.W PyProof.Rows
set_option maxRecDepth 100000
set_option maxHeartbeats 8000000
namespace Mine
theorem fill_8 : (∀ P h, (Mine.hd.heap_39 P).In h → PySem.Challenge.rw_in0245_01 = PySem.Challenge.rw_in0245_01) := by
  k_fill
  intros; rfl
local macro_rules | `(tactic| walk_at "exec While Compare cons nil") => `(tactic| (k_here; refine hold_of ?_))
local macro_rules | `(tactic| tb_start) => `(tactic| w_strict (repeat' (first | (k_unfold; (try dsimp only)) | (walk1; (try dsimp only)) | fail "no step")))
local macro_rules | `(tactic| tb_rel) => `(tactic| (refine' code_def ?k1 ?k2 ?k3 ?k4 ?k5 ?kA ?kF ?kK ?k6 ?k7 ?k8 ?k9 ?kB ?_ ?c2 ?c3 ?c4 ?c5; (case kA => exact rfl); (case kF => assumption); (case kK => assumption); (case k1 => k_asm); (case k2 => k_asm); (case k3 => k_asm); (case k4 => k_asm); (case k5 => k_asm); (case k6 => k_is); (case k7 => k_is); (case k8 => k_room); (case k9 => first | exact BindsTo.of_eq rfl | exact binds_K (by k_in) rfl (by k_is) rfl rfl rfl | fail "k_enter: no rule for these arguments"); (case c5 => decide); (case kB => exact locs rfl); (case c2 => exact rfl); (case c3 => exact rfl); (case c4 => exact rfl); k_whole))

local macro_rules | `(tactic| ktr_unf) => `(tactic| repeat (first | exact List.forall_mem_nil _ | refine List.forall_mem_cons.mpr ⟨rfl, ?_⟩))
local macro_rules | `(tactic| ktr_rel) => `(tactic| (intro z h1 h2; (try simp only [List.forall_mem_cons, List.forall_mem_nil, and_true, List.contains_cons, List.contains_nil, Bool.or_false, Bool.or_eq_false_iff, beq_eq_false_iff_ne, ne_eq] at h1 h2); (try simp only [kmap, kstB, List.contains_cons, List.contains_nil, Bool.or_false, Bool.or_eq_true, beq_iff_eq, h1, h2, if_false, or_false, or_self, Bool.false_eq_true])))
local macro_rules | `(tactic| walk_at "call ref") => `(tactic| (k_here; refine hold_of ?_))
local macro_rules | `(tactic| walk_at "call type:range") => `(tactic| (k_here; refine hold_of ?_))
local macro_rules | `(tactic| walk_at "call type:reversed") => `(tactic| (k_here; refine hold_of ?_))
local macro_rules | `(tactic| walk_at "pyIter ref") => `(tactic| (k_here; refine hold_of ?_))
local macro_rules | `(tactic| walk_at "exec Assign cons ListComp") => `(tactic| (k_here; refine hold_of ?_))
local macro_rules | `(tactic| walk_at "eval ListComp") => `(tactic| (k_here; refine hold_of ?_))
local macro_rules | `(tactic| walk_at "subscriptTail Name Constant ref int") => `(tactic| (k_here; refine hold_of ?_))
local macro_rules | `(tactic| walk_at "subscriptTail Name Name ref int") => `(tactic| (k_here; refine hold_of ?_))
local macro_rules | `(tactic| walk_at "subscriptTail Subscript Name Constant Constant ref int") => `(tactic| (k_here; refine hold_of ?_))
local macro_rules | `(tactic| walk_at "subscriptTail Call Name cons nil Constant ref int") => `(tactic| (k_here; refine hold_of ?_))
local macro_rules | `(tactic| walk_at "compareOp NotEq ref ref") => `(tactic| (k_here; refine hold_of ?_))
local macro_rules | `(tactic| walk_at "compareOp Lt ref ref") => `(tactic| (k_here; refine hold_of ?_))
local macro_rules | `(tactic| walk_at "call builtin:len") => `(tactic| (k_here; refine hold_of ?_))
local macro_rules | `(tactic| walk_at "setItem ref int ref") => `(tactic| (k_here; refine hold_of ?_))
local macro_rules | `(tactic| walk_at "KswEnd") => `(tactic| (k_here; refine hold_of ?_))
local macro_rules | `(tactic| walk_at "InvEndN") => `(tactic| (k_here; refine hold_of ?_))
local macro_rules | `(tactic| walk_at "CompEnd") => `(tactic| (k_here; refine hold_of ?_))
local macro_rules | `(tactic| ktd_rel) => `(tactic| ((repeat (refine List.forall_mem_cons.mpr ⟨by k_mem, ?_⟩)); first | exact List.forall_mem_nil _ | (intro p hp; repeat (first | exact hp | refine List.Mem.tail _ ?_))))
local macro_rules | `(tactic| walk_at "exec While Name cons nil") => `(tactic| (k_here; refine hold_of ?_))
local macro_rules | `(tactic| walk_at "call builtin:list.append cons nil") => `(tactic| (k_here; refine hold_of ?_))
local macro_rules | `(tactic| walk_at "subscriptTail Name Slice ref ref") => `(tactic| (k_here; refine hold_of ?_))
local macro_rules | `(tactic| walk_at "getMethod str") => `(tactic| ((with_reducible show wpAny _ _ (getMethod _ (Str.ofString "translate") _) _ _ _); refine getMethod_translate ?_))
local macro_rules | `(tactic| walk_at "call builtin:str.translate") => `(tactic| (k_here; refine hold_of ?_))
section
variable {w : World} {e1 e2 e3 : Env} {base h₀ : Heap} {L : Addr} {m mg mb : Str → Option Value} {s : Shared} {p : Program} {loose : List Str} {mean : ExcName → Option Value}
theorem escape_C {c : Nat} {rest : List (Addr × Obj)} {t1 : Tok} {Q : Value → Shared → Prop}
  (B : Below ((callerA.deeper e1).deeper e2) base [e2, e1] h₀) (F : Fr h₀ L s.heap m) (X₀ : (Mine.hd.heap_39 w.params).In h₀) (N : News h₀ L s.heap rest) (T : Top p loose mean mg mb h₀)
  (hf : e3.frame = some L) (hke : e3.scope.kind = .function) (hc1 : 65 ≤ c) (hc2 : c ≤ 80)
  (hQ : ∀ h' tk t, Fr h₀ L h' m → News h₀ L h' rest → Q (.str ⟨#[c]⟩ t) { s with heap := h', toks := tk }) :
  wpAny (model PySem.Challenge.rw_in0245_01.row.prog w) (((callerA.deeper e1).deeper e2).deeper e3) (call (.ref 83) [.str ⟨#[c]⟩ t1]) Q (fun _ _ => False) s := by
  refine wpAny_call ?_
  tb_rel
  intro g' L' h' FG' F' N' B' X' T'
  replace F' := fr_binds [(S "pattern", .str ⟨#[c]⟩ t1)] F'
  refine wpAny_mono (E := fun _ _ => False) ?_ (fun _ _ x => x) (fun _ _ x => x.elim)
  k_fold
  tb_start
  refine of_hold ?_
  have h73 := F'.keep _ _ (X' 73 _ (by k_is))
  have hm73 : h'.MapOf (intKind PySem.Challenge.rw_in0245_01.row.prog w) 73 (fun k => findBy Value.isInt _ k) := ⟨_, _, _, h73, ⟨rfl, rfl, rfl⟩, rfl, intKeys (by decide +kernel), fun k => rfl⟩
  refine call_translate F' N' (by decide) (noKeys (by decide +kernel) c hc1 hc2) (by omega) (by exact rfl) hm73 ?_
  intro h5 k5 t5 F5 N5
  tb_start
  rename_i kF kN _ _
  exact hQ _ _ _ kF kN
end
end Mine
end

section -- S9
open PySem PySem.W PyProof.Rows
set_option maxRecDepth 100000
set_option maxHeartbeats 8000000
namespace Mine
theorem fill_9 : (∀ P h, (Mine.hd.heap_39 P).In h → PySem.Challenge.rw_in0245_01 = PySem.Challenge.rw_in0245_01) := by
  k_fill
  intros; rfl
local macro_rules | `(tactic| walk_at "exec While Compare cons nil") => `(tactic| (k_here; refine hold_of ?_))
local macro_rules | `(tactic| tb_start) => `(tactic| w_strict (repeat' (first | (k_unfold; (try dsimp only)) | (walk1; (try dsimp only)) | fail "no step")))
local macro_rules | `(tactic| tb_rel) => `(tactic| (refine' code_def ?k1 ?k2 ?k3 ?k4 ?k5 ?kA ?kF ?kK ?k6 ?k7 ?k8 ?k9 ?kB ?_ ?c2 ?c3 ?c4 ?c5; (case kA => exact rfl); (case kF => assumption); (case kK => assumption); (case k1 => k_asm); (case k2 => k_asm); (case k3 => k_asm); (case k4 => k_asm); (case k5 => k_asm); (case k6 => k_is); (case k7 => k_is); (case k8 => k_room); (case k9 => first | exact BindsTo.of_eq rfl | exact binds_K (by k_in) rfl (by k_is) rfl rfl rfl | fail "k_enter: no rule for these arguments"); (case c5 => decide); (case kB => exact locs rfl); (case c2 => exact rfl); (case c3 => exact rfl); (case c4 => exact rfl); k_whole))

local macro_rules | `(tactic| ktr_unf) => `(tactic| repeat (first | exact List.forall_mem_nil _ | refine List.forall_mem_cons.mpr ⟨rfl, ?_⟩))
local macro_rules | `(tactic| ktr_rel) => `(tactic| (intro z h1 h2; (try simp only [List.forall_mem_cons, List.forall_mem_nil, and_true, List.contains_cons, List.contains_nil, Bool.or_false, Bool.or_eq_false_iff, beq_eq_false_iff_ne, ne_eq] at h1 h2); (try simp only [kmap, kstB, List.contains_cons, List.contains_nil, Bool.or_false, Bool.or_eq_true, beq_iff_eq, h1, h2, if_false, or_false, or_self, Bool.false_eq_true])))
local macro_rules | `(tactic| walk_at "call ref") => `(tactic| (k_here; refine hold_of ?_))
local macro_rules | `(tactic| walk_at "call type:range") => `(tactic| (k_here; refine hold_of ?_))
local macro_rules | `(tactic| walk_at "call type:reversed") => `(tactic| (k_here; refine hold_of ?_))
local macro_rules | `(tactic| walk_at "pyIter ref") => `(tactic| (k_here; refine hold_of ?_))
local macro_rules | `(tactic| walk_at "exec Assign cons ListComp") => `(tactic| (k_here; refine hold_of ?_))
local macro_rules | `(tactic| walk_at "eval ListComp") => `(tactic| (k_here; refine hold_of ?_))
local macro_rules | `(tactic| walk_at "subscriptTail Name Constant ref int") => `(tactic| (k_here; refine hold_of ?_))
local macro_rules | `(tactic| walk_at "subscriptTail Name Name ref int") => `(tactic| (k_here; refine hold_of ?_))
local macro_rules | `(tactic| walk_at "subscriptTail Subscript Name Constant Constant ref int") => `(tactic| (k_here; refine hold_of ?_))
local macro_rules | `(tactic| walk_at "subscriptTail Call Name cons nil Constant ref int") => `(tactic| (k_here; refine hold_of ?_))
local macro_rules | `(tactic| walk_at "compareOp NotEq ref ref") => `(tactic| (k_here; refine hold_of ?_))
local macro_rules | `(tactic| walk_at "compareOp Lt ref ref") => `(tactic| (k_here; refine hold_of ?_))
local macro_rules | `(tactic| walk_at "call builtin:len") => `(tactic| (k_here; refine hold_of ?_))
local macro_rules | `(tactic| walk_at "setItem ref int ref") => `(tactic| (k_here; refine hold_of ?_))
local macro_rules | `(tactic| walk_at "KswEnd") => `(tactic| (k_here; refine hold_of ?_))
local macro_rules | `(tactic| walk_at "InvEndN") => `(tactic| (k_here; refine hold_of ?_))
local macro_rules | `(tactic| walk_at "CompEnd") => `(tactic| (k_here; refine hold_of ?_))
local macro_rules | `(tactic| ktd_rel) => `(tactic| ((repeat (refine List.forall_mem_cons.mpr ⟨by k_mem, ?_⟩)); first | exact List.forall_mem_nil _ | (intro p hp; repeat (first | exact hp | refine List.Mem.tail _ ?_))))
local macro_rules | `(tactic| walk_at "exec While Name cons nil") => `(tactic| (k_here; refine hold_of ?_))
local macro_rules | `(tactic| walk_at "call builtin:list.append cons nil") => `(tactic| (k_here; refine hold_of ?_))
local macro_rules | `(tactic| walk_at "subscriptTail Name Slice ref ref") => `(tactic| (k_here; refine hold_of ?_))
local macro_rules | `(tactic| walk_at "getMethod str") => `(tactic| ((with_reducible show wpAny _ _ (getMethod _ (Str.ofString "translate") _) _ _ _); refine getMethod_translate ?_))
local macro_rules | `(tactic| walk_at "call builtin:str.translate") => `(tactic| (k_here; refine hold_of ?_))
local macro_rules | `(tactic| walk_at "exec While BoolOp cons nil") => `(tactic| (k_here; refine hold_of ?_))
local macro_rules | `(tactic| walk_at "getAttr ref true") => `(tactic| (k_here; refine hold_of ?_))
local macro_rules | `(tactic| walk_at "callWith ref") => `(tactic| (k_here; refine hold_of ?_))
local macro_rules | `(tactic| walk_at "call builtin:str.join") => `(tactic| (k_here; refine hold_of ?_))
section
variable {w : World} {e1 e2 : Env} {base h₀ : Heap} {L : Addr} {m mg mb : Str → Option Value} {s : Shared} {p : Program} {loose : List Str} {mean : ExcName → Option Value}
theorem join_C {r st : Addr} {n n2 : Nat} {vs : List (Str × Tok)} {rest : List (Addr × Obj)} {Q : Value → Shared → Prop}
  (B : Below (callerA.deeper e1) base [e1] h₀) (F : Fr h₀ L s.heap m) (X₀ : (Mine.hd.heap_39 w.params).In h₀) (N : News h₀ L s.heap ((r, listOf (.ref st :: tvs vs).toArray n) :: (st, ({ cls := .type "object" } : Obj)) :: rest)) (T : Top p loose mean mg mb h₀)
  (hf : e2.frame = some L) (hke : e2.scope.kind = .function) (hlen : vs.length < 100) (hsz : (flat (vs.map (·.1))).length ≤ 1000)
  (hQ : ∀ h' tk t, Fr h₀ L h' m → News h₀ L h' rest → Q (.str ⟨((S "(?s:.*").cps.toList ++ flat (vs.map (·.1)) ++ (S ")\\Z").cps.toList).toArray⟩ t) { s with heap := h', toks := tk }) :
  wpAny (model PySem.Challenge.rw_in0245_01.row.prog w) ((callerA.deeper e1).deeper e2) (call (.ref 97) [.ref r, .ref st]) Q (fun _ _ => False) s := by
  refine wpAny_call ?_
  tb_rel
  intro g' L' h' FG' F' N' B' X' T'
  replace F' := fr_binds [(S "STAR", .ref st), (S "inp", .ref r)] F'
  refine wpAny_mono (E := fun _ _ => False) ?_ (fun _ _ x => x) (fun _ _ x => x.elim)
  k_fold
  tb_start
  rename_i lR _ l1 _ F1 N1
  refine of_hold ?_
  refine getAttr_append (l := []) F1 N1 (.head _) ?_
  intro q h1 F2 N2 l2
  tb_start
  rename_i N3
  refine of_hold ?_
  refine len_mem N3 (.tail _ (.tail _ (.head _))) (by simp; omega) ?_
  tb_start
  rename_i D1 _ l4 F4 N4
  have hrest : ∀ p ∈ rest, p.1 ≠ lR := fun p hp => Nat.ne_of_lt (allLt_mem l1.2.2 p hp)
  have hap : ∀ p ∈ (q, boundObj "list.append" (.ref lR)) :: (r, listOf (Value.ref st :: tvs vs).toArray n) :: (st, ({ cls := .type "object" } : Obj)) :: rest, p.1 ≠ lR :=
    List.forall_mem_cons.mpr ⟨Nat.ne_of_gt (l2 _ (.head _)), List.forall_mem_cons.mpr ⟨Nat.ne_of_lt l1.1, List.forall_mem_cons.mpr ⟨Nat.ne_of_lt l1.2.1, hrest⟩⟩⟩
  refine of_hold ?_
  refine while_rule (σ := Unit) (fun _ => (q, boundObj "list.append" (.ref lR)) :: (lR, listOf ([] : List Value).toArray 0) :: (r, listOf (Value.ref st :: tvs vs).toArray n) :: (st, ({ cls := .type "object" } : Obj)) :: rest) (fun _ => []) [] (fun _ => True) (fun _ => True) (fun _ => 0) () F4 (fun p hp => N4 p (.tail _ hp)) ?hk1 trivial ?turn1 ?after1
  case hk1 => ktr_unf
  case turn1 =>
    rintro ⟨⟩ u h tk0 _ F5 N5
    dsimp only
    tb_start
    · refine of_hold ?_
      refine get_mem N5 (.tail _ (.tail _ (.head _))) (k := 0) (x := .ref st) rfl rfl (by omega) ?_
      tb_start
      refine loop_end () F5 N5 (fun p hp => hp) ?_ ?_ trivial
      · ktr_unf
      · ktr_rel
    · rename_i hno
      exact absurd (by simp) hno
  case after1 =>
    rintro ⟨⟩ u h tk0 _ F5 N5
    dsimp only
    tb_start
    refine of_hold ?_
    refine while_rule (σ := Option (Tok × List (Str × Tok) × Nat × List (Addr × Obj))) (fun c => match c with
        | none => (q, boundObj "list.append" (.ref lR)) :: (lR, listOf ([] : List Value).toArray 0) :: (r, listOf (Value.ref st :: tvs vs).toArray n) :: (st, ({ cls := .type "object" } : Obj)) :: rest
        | some (_, ps, k, R) => (lR, listOf (tvs ps).toArray k) :: rest)
      (fun c => match c with | none => [(S "i", .int 0 (tokAt F5 "i"))] | some (t, _) => [(S "i", .int ((vs.length + 1 : Nat) : Int) t)]) [S "fixed"]
      (fun c => match c with | none => True | some (_, ps, _, R) => flat (ps.map (·.1)) = (S ".*").cps.toList ++ flat (vs.map (·.1)) ∧ ps.length ≤ 2) (fun c => match c with | none => False | some (_, ps, _, R) => flat (ps.map (·.1)) = (S ".*").cps.toList ++ flat (vs.map (·.1)) ∧ ps.length ≤ 2)
      (fun c => match c with | none => 1 | some _ => 0) none F5 N5 ?hk2 trivial ?turn2 ?after2
    case hk2 => ktr_unf
    case turn2 =>
      rintro (_ | ⟨t, ps, k, R⟩) u h tk0 hP F6 N6
      · replace N6 : News g' L' h ((q, boundObj "list.append" (.ref lR)) :: (lR, listOf ([] : List Value).toArray 0) :: (r, listOf (Value.ref st :: tvs vs).toArray n) :: (st, ({ cls := .type "object" } : Obj)) :: rest) := N6
        tb_start
        · refine of_hold ?_
          refine get_mem N6 (.tail _ (.tail _ (.head _))) (k := 0) (x := .ref st) rfl rfl (by omega) ?_
          tb_start
          · rename_i hv _ F7 N7 hv2
            refine of_hold ?_
            refine callWith_bound (D := lR) ?_
            tb_start
            · exact News.get N7 (.head _)
            refine of_hold ?_
            have hvn : vs = [] := by
              cases vs with
              | nil => rfl
              | cons v r => simp at hv2; omega
            subst hvn
            refine call_bound (l := []) (News.get N7 (.head _)) F7 (news_sub (by ktd_rel) N7) hap (by decide) ?_
            intro h8 F8 N8
            tb_start
            obtain ⟨tq, N8⟩ : ∃ tq, News g' L' h8 ((lR, listOf (tvs [(S ".*", tq)]).toArray 1) :: (q, boundObj "list.append" (.ref lR)) :: (r, listOf (Value.ref st :: tvs ([] : List (Str × Tok))).toArray n) :: (st, ({ cls := .type "object" } : Obj)) :: rest) := ⟨_, N8⟩
            refine loop_end (some (tokAt F8 "i", [(S ".*", tq)], 1, [])) F8 N8 ?_ ?_ ?_ ⟨rfl, Nat.le_of_ble_eq_true rfl⟩
            · exact fun p hp => by
                rcases List.mem_cons.mp hp with rfl | hp
                · exact .head _
                · exact .tail _ (.tail _ (.tail _ (.tail _ hp)))
            · ktr_unf
            · ktr_rel
          · rename_i F7 N7 hv
            have hvp : 0 < vs.length := by
              cases vs with
              | nil => exact absurd rfl hv
              | cons v r => exact Nat.succ_pos _
            have hat : ∀ k, k < vs.length → ∃ v, (Value.ref st :: tvs vs)[k + 1]? = some (.str v.1 v.2) ∧ vs[k]? = some v := fun k hk => ⟨vs[k], by simp [tvs, hk], by simp [hk]⟩
            obtain ⟨v0, hv0, _⟩ := hat 0 hvp
            refine of_hold ?_
            refine get_mem N7 (.tail _ (.tail _ (.head _))) (k := 1) (x := .str v0.1 v0.2) rfl hv0 (by omega) ?_
            tb_start
            refine isnot_str_ref ?_
            tb_start
            rename_i lF _ lt8 _ F8 N8
            have hfF : ∀ p ∈ (q, boundObj "list.append" (.ref lR)) :: (lR, listOf ([] : List Value).toArray 0) :: (r, listOf (Value.ref st :: tvs vs).toArray n) :: (st, ({ cls := .type "object" } : Obj)) :: rest, p.1 ≠ lF :=
              List.forall_mem_cons.mpr ⟨Nat.ne_of_lt lt8.1, List.forall_mem_cons.mpr ⟨Nat.ne_of_lt lt8.2.1, List.forall_mem_cons.mpr ⟨Nat.ne_of_lt lt8.2.2.1, List.forall_mem_cons.mpr ⟨Nat.ne_of_lt lt8.2.2.2.1, fun p hp => Nat.ne_of_lt (allLt_mem lt8.2.2.2.2 p hp)⟩⟩⟩⟩
            refine of_hold ?_
            refine while_rule (σ := Nat × Tok × Nat) (fun c => (lF, listOf (tvs (vs.take c.1)).toArray c.2.2) :: (q, boundObj "list.append" (.ref lR)) :: (lR, listOf ([] : List Value).toArray 0) :: (r, listOf (Value.ref st :: tvs vs).toArray n) :: (st, ({ cls := .type "object" } : Obj)) :: rest)
              (fun c => [(S "i", .int ((c.1 : Int) + 1) c.2.1)]) [] (fun c => c.1 ≤ vs.length) (fun c => c.1 = vs.length) (fun c => vs.length - c.1) (0, tokAt F8 "i", 0) F8 N8 ?hk3 (Nat.zero_le _) ?turn3 ?after3
            case hk3 => ktr_unf
            case turn3 =>
              rintro ⟨k, ti, kn⟩ u h tk0 hk F9 N9
              dsimp only at hk N9 ⊢
              tb_start
              · rename_i hlt
                have hkl : k < vs.length := by simp at hlt; omega
                obtain ⟨vk, hvk, hvk2⟩ := hat k hkl
                refine of_hold ?_
                refine get_mem N9 (.tail _ (.tail _ (.tail _ (.head _)))) (k := k + 1) (x := .str vk.1 vk.2) rfl hvk (by omega) ?_
                tb_start
                refine isnot_str_ref ?_
                tb_start
                refine of_hold ?_
                refine get_mem N9 (.tail _ (.tail _ (.tail _ (.head _)))) (k := k + 1) (x := .str vk.1 vk.2) rfl hvk (by omega) ?_
                tb_start
                refine of_hold ?_
                refine append_list F9 N9 hfF (by simp; omega) ?_
                intro h10 F10 N10
                have htk : tvs (vs.take k) ++ [.str vk.1 vk.2] = tvs (vs.take (k + 1)) := by
                  rw [List.take_add_one, hvk2]; simp [tvs]
                rw [htk] at N10
                tb_start
                rename_i F11 N11
                refine of_hold ?_
                refine ksw_end (k + 1, tokAt F11 "i", kn + 1) F11 N11 (fun p hp => hp) trivial ?_ ?_ hkl (by dsimp only; omega)
                · ktr_unf
                · ktr_rel
              · rename_i hlt
                refine loop_end (k, ti, kn) F9 N9 (fun p hp => hp) ?_ ?_ (by simp at hlt; dsimp only; omega)
                · ktr_unf
                · ktr_rel
            case after3 =>
              rintro ⟨k, ti, kn⟩ u h tk0 hk F9 N9
              dsimp only at hk N9 ⊢
              subst hk
              rw [List.take_length] at N9
              tb_start
              refine of_hold ?_
              refine join_mem N9 (.head _) ?_ ?_
              · have h2 : (flat (vs.map (·.1))).length = (vs.map (·.1.length)).sum := by
                  simp [flat, List.length_flatMap, Str.length, Function.comp_def, List.map_map]
                omega
              intro t' k'
              tb_start
              · rename_i hv9 F10 N10 _
                refine of_hold ?_
                refine callWith_bound (D := lR) ?_
                tb_start
                · exact News.get N10 (.tail _ (.head _))
                have N10b : News g' L' _ ((lR, listOf ([] : List Value).toArray 0) :: (q, boundObj "list.append" (.ref lR)) :: (r, listOf (Value.ref st :: tvs vs).toArray n) :: (st, ({ cls := .type "object" } : Obj)) :: rest) := news_sub (by ktd_rel) N10
                refine of_hold ?_
                refine call_bound (l := []) (News.get N10 (.tail _ (.head _))) F10 N10b hap (by decide) ?_
                intro h11 F11 N11
                obtain ⟨tq, N11⟩ : ∃ tq, News g' L' h11 ((lR, listOf (tvs [(S ".*", tq)]).toArray 1) :: (q, boundObj "list.append" (.ref lR)) :: (r, listOf (Value.ref st :: tvs vs).toArray n) :: (st, ({ cls := .type "object" } : Obj)) :: rest) := ⟨_, N11⟩
                tb_start
                refine of_hold ?_
                refine callWith_bound (D := lR) ?_
                tb_start
                · exact News.get N11 (.tail _ (.head _))
                refine of_hold ?_
                refine call_bound (l := tvs [(S ".*", tq)]) (News.get N11 (.tail _ (.head _))) F11 N11 hap (by simp) ?_
                intro h12 F12 N12
                tb_start
                refine of_hold ?_
                refine ksw_end (some (tokAt F12 "i", [(S ".*", tq), (⟨(flat (vs.map (·.1))).toArray⟩, t')], 2, [])) F12 N12 ?_ trivial ?_ ?_ ⟨by simp [flat], Nat.le_of_ble_eq_true rfl⟩ Nat.one_pos
                · exact fun p hp => by
                    rcases List.mem_cons.mp hp with rfl | hp
                    · exact .head _
                    · exact .tail _ (.tail _ (.tail _ (.tail _ hp)))
                · ktr_unf
                · ktr_rel
              · rename_i hv9
                exact absurd (by simp) hv9
        · rename_i hno
          exact absurd (by simp) hno
      · tb_start
        · rename_i hno
          simp at hno
        · refine loop_end (some (t, ps, k, R)) F6 N6 (fun p hp => hp) ?_ ?_ hP
          · ktr_unf
          · ktr_rel
    case after2 =>
      rintro (_ | ⟨t, ps, k, R⟩) u h tk0 hP F6 N6
      · exact hP.elim
      replace N6 : News g' L' h ((lR, listOf (tvs ps).toArray k) :: rest) := N6
      dsimp only at hP ⊢
      obtain ⟨hP, hps⟩ := hP
      tb_start
      · refine of_hold ?_
        refine join_mem N6 (.head _) ?_ ?_
        · have h1 := congrArg List.length hP
          rw [List.length_append] at h1
          have h2 : (flat (ps.map (·.1))).length = (ps.map (·.1.length)).sum := by
            simp [flat, List.length_flatMap, Str.length, Function.comp_def, List.map_map]
          have h3 : (S ".*").cps.toList.length = 2 := rfl
          omega
        intro t' k'
        tb_start
        have hpl : (flat (ps.map (·.1))).length ≤ 1002 := by
          have h1 := congrArg List.length hP
          rw [List.length_append] at h1
          have h3 : (S ".*").cps.toList.length = 2 := rfl
          omega
        refine PySem.SB.field_str ?_ (by rw [sizeLine_eq]; show (flat (ps.map (·.1))).toArray.size ≤ _; rw [List.size_toArray]; omega)
        intro t5 k5
        tb_start
        · rename_i kF kN _ _
          have e : (Str.empty ++ Str.ofString "(?s:" ++ { cps := (flat (ps.map (·.1))).toArray } ++ Str.ofString ")\\Z" : Str) = ⟨((S "(?s:.*").cps.toList ++ flat (vs.map (·.1)) ++ (S ")\\Z").cps.toList).toArray⟩ := by
            refine str_ext ?_
            rw [cps_toList_append, cps_toList_append, cps_toList_append]
            show _ ++ _ ++ flat (ps.map (·.1)) ++ _ = _
            rw [hP]
            have e1 : (S "(?s:.*").cps.toList = Str.empty.cps.toList ++ (Str.ofString "(?s:").cps.toList ++ (S ".*").cps.toList := rfl
            rw [e1]
            simp only [List.append_assoc]
          rw [e]
          exact hQ _ _ _ kF (fun p hp => kN p (.tail _ hp))
end
end Mine
end

section -- S10
open PySem PySem.W PyProof.Rows
set_option maxRecDepth 100000
set_option maxHeartbeats 8000000
namespace Mine
theorem fill_10 : (∀ P h, (Mine.hd.heap_39 P).In h → PySem.Challenge.rw_in0245_01 = PySem.Challenge.rw_in0245_01) := by
  k_fill
  intros; rfl
local macro_rules | `(tactic| walk_at "exec While Compare cons nil") => `(tactic| (k_here; refine hold_of ?_))
local macro_rules | `(tactic| tb_start) => `(tactic| w_strict (repeat' (first | (k_unfold; (try dsimp only)) | (walk1; (try dsimp only)) | fail "no step")))
local macro_rules | `(tactic| tb_rel) => `(tactic| (refine' code_def ?k1 ?k2 ?k3 ?k4 ?k5 ?kA ?kF ?kK ?k6 ?k7 ?k8 ?k9 ?kB ?_ ?c2 ?c3 ?c4 ?c5; (case kA => exact rfl); (case kF => assumption); (case kK => assumption); (case k1 => k_asm); (case k2 => k_asm); (case k3 => k_asm); (case k4 => k_asm); (case k5 => k_asm); (case k6 => k_is); (case k7 => k_is); (case k8 => k_room); (case k9 => first | exact BindsTo.of_eq rfl | exact binds_K (by k_in) rfl (by k_is) rfl rfl rfl | fail "k_enter: no rule for these arguments"); (case c5 => decide); (case kB => exact locs rfl); (case c2 => exact rfl); (case c3 => exact rfl); (case c4 => exact rfl); k_whole))

local macro_rules | `(tactic| ktr_unf) => `(tactic| repeat (first | exact List.forall_mem_nil _ | refine List.forall_mem_cons.mpr ⟨rfl, ?_⟩))
local macro_rules | `(tactic| ktr_rel) => `(tactic| (intro z h1 h2; (try simp only [List.forall_mem_cons, List.forall_mem_nil, and_true, List.contains_cons, List.contains_nil, Bool.or_false, Bool.or_eq_false_iff, beq_eq_false_iff_ne, ne_eq] at h1 h2); (try simp only [kmap, kstB, List.contains_cons, List.contains_nil, Bool.or_false, Bool.or_eq_true, beq_iff_eq, h1, h2, if_false, or_false, or_self, Bool.false_eq_true])))
local macro_rules | `(tactic| walk_at "call ref") => `(tactic| (k_here; refine hold_of ?_))
local macro_rules | `(tactic| walk_at "call type:range") => `(tactic| (k_here; refine hold_of ?_))
local macro_rules | `(tactic| walk_at "call type:reversed") => `(tactic| (k_here; refine hold_of ?_))
local macro_rules | `(tactic| walk_at "pyIter ref") => `(tactic| (k_here; refine hold_of ?_))
local macro_rules | `(tactic| walk_at "exec Assign cons ListComp") => `(tactic| (k_here; refine hold_of ?_))
local macro_rules | `(tactic| walk_at "eval ListComp") => `(tactic| (k_here; refine hold_of ?_))
local macro_rules | `(tactic| walk_at "subscriptTail Name Constant ref int") => `(tactic| (k_here; refine hold_of ?_))
local macro_rules | `(tactic| walk_at "subscriptTail Name Name ref int") => `(tactic| (k_here; refine hold_of ?_))
local macro_rules | `(tactic| walk_at "subscriptTail Subscript Name Constant Constant ref int") => `(tactic| (k_here; refine hold_of ?_))
local macro_rules | `(tactic| walk_at "subscriptTail Call Name cons nil Constant ref int") => `(tactic| (k_here; refine hold_of ?_))
local macro_rules | `(tactic| walk_at "compareOp NotEq ref ref") => `(tactic| (k_here; refine hold_of ?_))
local macro_rules | `(tactic| walk_at "compareOp Lt ref ref") => `(tactic| (k_here; refine hold_of ?_))
local macro_rules | `(tactic| walk_at "call builtin:len") => `(tactic| (k_here; (with_reducible show wpAny _ _ (call (Value.builtin _) [Value.ref _]) _ _ _); refine hold_of ?_))
local macro_rules | `(tactic| walk_at "setItem ref int ref") => `(tactic| (k_here; refine hold_of ?_))
local macro_rules | `(tactic| walk_at "KswEnd") => `(tactic| (k_here; refine hold_of ?_))
local macro_rules | `(tactic| walk_at "InvEndN") => `(tactic| (k_here; refine hold_of ?_))
local macro_rules | `(tactic| walk_at "CompEnd") => `(tactic| (k_here; refine hold_of ?_))
local macro_rules | `(tactic| ktd_rel) => `(tactic| ((repeat (refine List.forall_mem_cons.mpr ⟨by k_mem, ?_⟩)); first | exact List.forall_mem_nil _ | (intro p hp; repeat (first | exact hp | refine List.Mem.tail _ ?_))))
local macro_rules | `(tactic| walk_at "exec While Name cons nil") => `(tactic| (k_here; refine hold_of ?_))
local macro_rules | `(tactic| walk_at "call builtin:list.append cons nil") => `(tactic| (k_here; refine hold_of ?_))
local macro_rules | `(tactic| walk_at "subscriptTail Name Slice ref ref") => `(tactic| (k_here; refine hold_of ?_))
local macro_rules | `(tactic| walk_at "getMethod str") => `(tactic| ((with_reducible show wpAny _ _ (getMethod _ (Str.ofString "translate") _) _ _ _); refine getMethod_translate ?_))
local macro_rules | `(tactic| walk_at "call builtin:str.translate") => `(tactic| (k_here; refine hold_of ?_))
local macro_rules | `(tactic| walk_at "exec While BoolOp cons nil") => `(tactic| (k_here; refine hold_of ?_))
local macro_rules | `(tactic| walk_at "getAttr ref true") => `(tactic| (k_here; refine hold_of ?_))
local macro_rules | `(tactic| walk_at "callWith ref") => `(tactic| (k_here; (fail_if_success (with_reducible show wpAny _ _ (callWith _ (Value.ref 83) _ _ _) _ _ _)); refine hold_of ?_))
local macro_rules | `(tactic| walk_at "call builtin:str.join") => `(tactic| (k_here; refine hold_of ?_))
local macro_rules | `(tactic| walk_at "subscriptTail") => `(tactic| (k_here; (with_reducible show wpAny _ _ (subscriptTail _ _ (Value.str _ _) (Value.int _ _)) _ _ _); refine hold_of ?_))
local macro_rules | `(tactic| walk_at "subscriptTail") => `(tactic| (k_here; (with_reducible show wpAny _ _ (subscriptTail _ _ (Value.str _ _) (Value.ref _)) _ _ _); refine hold_of ?_))
local macro_rules | `(tactic| walk_at "subscriptTail Name Name str int") => `(tactic| (k_here; refine hold_of ?_))
local macro_rules | `(tactic| walk_at "subscriptTail Name Constant str int") => `(tactic| (k_here; refine hold_of ?_))
local macro_rules | `(tactic| walk_at "compareOp Eq str str") => `(tactic| (k_here; refine hold_of ?_))
local macro_rules | `(tactic| walk_at "compareOp NotEq str str") => `(tactic| (k_here; refine hold_of ?_))
local macro_rules | `(tactic| walk_at "eval Lambda") => `(tactic| (k_here; refine hold_of ?_))
local macro_rules | `(tactic| walk_at "subscriptTail Name Slice str ref") => `(tactic| (k_here; refine hold_of ?_))
local macro_rules | `(tactic| walk_at "compareOp NotIn str str") => `(tactic| (k_here; refine hold_of ?_))
local macro_rules | `(tactic| walk_at "call builtin:str.replace") => `(tactic| (k_here; refine hold_of ?_))
local macro_rules | `(tactic| walk_at "call builtin:str.replace cons nil") => `(tactic| (k_here; refine hold_of ?_))
local macro_rules | `(tactic| walk_at "getMethod ref") => `(tactic| (k_here; refine hold_of ?_))
def tokSrc (c : Nat) : Bool → List Nat
  | false => [c]
  | true => [91, 33, c, 93]
def tokOut (c : Nat) : Bool → Str
  | false => ⟨#[c]⟩
  | true => ⟨#[91, 94, c, 93]⟩
abbrev patOf (c : Nat) (bs : List Bool) : List Nat := bs.flatMap (tokSrc c)
theorem dn_len (c : Nat) : ∀ dn : List Bool, dn.length ≤ (patOf c dn).length
  | [] => Nat.le_refl _
  | b :: r => by
    have := dn_len c r
    cases b <;> simp [patOf, tokSrc] at this ⊢ <;> omega
abbrev objO : Obj := { cls := .type "object" }
theorem two_ne_one (c : Nat) : ((⟨#[33, c]⟩ : Str) == Str.ofString "!") = false := by
  rw [beq_eq_false_iff_ne]
  intro e
  have := congrArg (fun x : Str => x.cps.size) e
  revert this
  exact (by decide : ¬ (2 = 1))
theorem tvs_snoc (st : Addr) (vs : List (Str × Tok)) (y : Str) (t : Tok) : (Value.ref st :: tvs vs) ++ [.str y t] = Value.ref st :: tvs (vs ++ [(y, t)]) := by simp [tvs]
theorem estr (c : Nat) : (Str.empty ++ Str.ofString "[" ++ (Str.ofString "^" ++ { cps := #[c] }) ++ Str.ofString "]" : Str) = tokOut c true := by
  refine str_ext ?_
  rw [cps_toList_append, cps_toList_append, cps_toList_append, cps_toList_append]
  rfl
section
variable {w : World} {e1 e2 : Env} {base h₀ : Heap} {L : Addr} {m mg mb : Str → Option Value} {s : Shared} {p : Program} {loose : List Str} {mean : ExcName → Option Value}
theorem parts_C {st : Addr} {c : Nat} {bs : List Bool} {ps0 : Array Value} {rest : List (Addr × Obj)} {t1 t2 : Tok} {Q : Value → Shared → Prop}
  (B : Below (callerA.deeper e1) base [e1] h₀) (F : Fr h₀ L s.heap m) (X₀ : (Mine.hd.heap_39 w.params).In h₀) (N : News h₀ L s.heap ((st, ({ cls := .type "object" } : Obj)) :: (85, tabObj ps0) :: rest)) (T : Top p loose mean mg mb h₀)
  (hf : e2.frame = some L) (hke : e2.scope.kind = .function) (hlen : (bs.flatMap (tokSrc c)).length < 1000) (hc1 : 65 ≤ c) (hc2 : c ≤ 80) (hC : CodeHd base 89 85) (htab : TabOk ps0) (hst85 : st ≠ 85) (hr85 : ∀ p ∈ rest, p.1 ≠ 85)
  (hQ : ∀ h' tk r n vs ps, TabOk ps → vs.map (·.1) = bs.map (tokOut c) → Fr h₀ L h' m → News h₀ L h' ((r, listOf (.ref st :: tvs vs).toArray n) :: (st, ({ cls := .type "object" } : Obj)) :: (85, tabObj ps) :: rest) → Q (.ref r) { s with heap := h', toks := tk }) :
  wpAny (model PySem.Challenge.rw_in0245_01.row.prog w) ((callerA.deeper e1).deeper e2) (call (.ref 90) [.str ⟨(42 :: bs.flatMap (tokSrc c)).toArray⟩ t1, .ref st, .str (Str.ofString ".") t2]) Q (fun _ _ => False) s := by
  refine wpAny_call ?_
  tb_rel
  intro g' L' h' FG' F' N' B' X' T'
  replace F' := fr_binds [(S "QUESTION_MARK", .str (Str.ofString ".") t2), (S "STAR", .ref st), (S "pat", .str ⟨(42 :: bs.flatMap (tokSrc c)).toArray⟩ t1)] F'
  refine wpAny_mono (E := fun _ _ => False) ?_ (fun _ _ x => x) (fun _ _ x => x.elim)
  k_fold
  have hl100 : (42 :: bs.flatMap (tokSrc c)).length < 1001 := by rw [List.length_cons]; omega
  obtain ⟨l, hl⟩ : ∃ l, l = 42 :: bs.flatMap (tokSrc c) := ⟨_, rfl⟩
  rw [← hl] at hl100 F'
  tb_start
  rename_i lR _ l1 _ F1 N1
  refine of_hold ?_
  refine getAttr_append (l := []) F1 N1 (.head _) ?_
  intro q h1 F2 N2 l2
  tb_start
  refine str_len (l := l) (by omega) ?_
  tb_start
  rename_i F3 N3
  have hap : ∀ (ps : Array Value), ∀ p ∈ (q, boundObj "list.append" (.ref lR)) :: (st, objO) :: (85, tabObj ps) :: rest, p.1 ≠ lR := fun ps =>
    List.forall_mem_cons.mpr ⟨Nat.ne_of_gt (l2 _ (.head _)), List.forall_mem_cons.mpr ⟨Nat.ne_of_lt l1.1, List.forall_mem_cons.mpr ⟨Nat.ne_of_lt l1.2.1, fun p hp => Nat.ne_of_lt (allLt_mem l1.2.2 p hp)⟩⟩⟩
  refine of_hold ?_
  refine while_rule (σ := Bool × List Bool × List Bool × List (Str × Tok) × Nat × Tok × Array Value)
    (fun c => (lR, listOf (match c.1 with | false => ([] : List Value) | true => .ref st :: tvs c.2.2.2.1).toArray c.2.2.2.2.1) :: (q, boundObj "list.append" (.ref lR)) :: (st, objO) :: (85, tabObj c.2.2.2.2.2.2) :: rest)
    (fun d => [(S "i", .int (match d.1 with | false => 0 | true => ((1 + (patOf c d.2.1).length : Nat) : Int)) d.2.2.2.2.2.1)]) [S "c", S "j", S "stuff"]
    (fun d => (match d.1 with | false => d.2.1 = [] | true => True) ∧ bs = d.2.1 ++ d.2.2.1 ∧ d.2.2.2.1.map (·.1) = d.2.1.map (tokOut c) ∧ TabOk d.2.2.2.2.2.2)
    (fun d => d.1 = true ∧ d.2.1 = bs ∧ d.2.2.2.1.map (·.1) = d.2.1.map (tokOut c) ∧ TabOk d.2.2.2.2.2.2) (fun d => d.2.2.1.length + (match d.1 with | false => 1 | true => 0))
    (false, [], bs, [], 0, tokAt F3 "i", ps0) F3 ?hn ?hk ?hp ?turn ?after
  case hn => exact news_sub (by ktd_rel) N3
  case hk => ktr_unf
  case hp => exact ⟨rfl, rfl, rfl, htab⟩
  case turn =>
    rintro ⟨b, dn, td, vs, k, ti, ps⟩ u h tk0 ⟨hb, hbs, hvs, htb⟩ F4 N4
    cases b with
    | false =>
      dsimp only at hb hbs hvs htb N4 ⊢
      subst hb
      have hc0 : l[0]? = some 42 := by rw [hl]; rfl
      tb_start
      · refine of_hold ?_
        refine str_item (k := 0) (c := 42) rfl hc0 (by omega) ?_
        tb_start
        refine of_hold ?_
        refine eqS (r := true) rfl ?_
        tb_start
        refine of_hold ?_
        rename Fr _ _ _ _ => F5
        rename News _ _ _ _ => N5
        refine callWith_bound (D := lR) ?_
        tb_start
        · exact News.get N5 (.tail _ (.head _))
        refine of_hold ?_
        refine call_bound (l := []) (News.get N5 (.tail _ (.head _))) F5 (news_sub (by ktd_rel) N5) (hap ps) (by decide) ?_
        intro h6 F6 N6
        tb_start
        refine of_hold ?_
        refine ksw_end (true, [], td, [], k + 1, tokAt F6 "i", ps) F6 N6 (fun p hp => hp) trivial ?_ ?_ ⟨trivial, hbs, rfl, htb⟩ (by dsimp only; omega)
        · ktr_unf
        · ktr_rel
      · rename_i hno
        exact absurd (by rw [hl]; simp) hno
    | true =>
      dsimp only at hb hbs hvs htb N4 ⊢
      have hll : l = (42 :: patOf c dn) ++ patOf c td := by rw [hl, hbs]; simp [patOf]
      cases td with
      | nil =>
        have hln : l.length = 1 + (patOf c dn).length := by rw [hll]; simp [patOf]; omega
        tb_start
        · refine loop_end (true, dn, [], vs, k, ti, ps) F4 N4 (fun p hp => hp) ?_ ?_ ⟨rfl, by rw [hbs]; simp, hvs, htb⟩
          · ktr_unf
          · ktr_rel
      | cons x td =>
        have hat : ∀ j a, (patOf c (x :: td))[j]? = some a → l[1 + (patOf c dn).length + j]? = some a := fun j a ha => by
          rw [hll, List.getElem?_append_right (by simp; omega)]
          rw [← ha]; congr 1; simp; omega
        have hln : 1 + (patOf c dn).length < l.length := by
          rw [hll]
          cases x <;> simp [patOf, tokSrc] <;> omega
        cases x with
        | false =>
          have hc0 : l[1 + (patOf c dn).length]? = some c := hat 0 c rfl
          tb_start
          · refine of_hold ?_
            refine str_item (k := 1 + (patOf c dn).length) (c := c) rfl hc0 (by omega) ?_
            tb_start
            refine of_hold ?_
            refine eqS (one_no (b := 42) (by omega)) ?_
            tb_start
            refine of_hold ?_
            refine eqS (one_no (b := 63) (by omega)) ?_
            tb_start
            refine of_hold ?_
            refine eqS (one_no (b := 91) (by omega)) ?_
            tb_start
            refine of_hold ?_
            refine callWith_bound (D := lR) ?_
            rename Fr _ _ _ _ => F5
            rename News _ _ _ _ => N5
            tb_start
            refine of_hold ?_
            refine escape_C B' F5 X' N5 T' ?ef ?ek hc1 hc2 ?_
            case ef => exact rfl
            case ek => exact rfl
            intro h6 tk6 t6 F6 N6
            tb_start
            · exact News.get N6 (.tail _ (.head _))
            refine of_hold ?_
            refine call_bound (l := .ref st :: tvs vs) (News.get N6 (.tail _ (.head _))) F6 (news_sub (by ktd_rel) N6) (hap ps) ?_ ?_
            · have h1 := congrArg List.length hvs
              have h2 := dn_len c dn
              simp at h1 ⊢; simp [patOf] at h2 hln; omega
            intro h7 F7 N7
            have e7 : (Value.ref st :: tvs vs) ++ [.str ⟨#[c]⟩ t6] = Value.ref st :: tvs (vs ++ [(⟨#[c]⟩, t6)]) := by simp [tvs]
            rw [e7] at N7
            tb_start
            refine of_hold ?_
            refine ksw_end (true, dn ++ [false], td, vs ++ [(⟨#[c]⟩, t6)], k + 1, tokAt F7 "i", ps) F7 N7 (fun p hp => hp) trivial ?_ ?_ ⟨trivial, by rw [hbs]; simp, by simp [hvs, tokOut], htb⟩ (by simp)
            · have ei : ((1 + (patOf c (dn ++ [false])).length : Nat) : Int) = ((1 + (patOf c dn).length : Nat) : Int) + 1 := by simp [patOf, tokSrc]; omega
              dsimp only; rw [ei]
              ktr_unf
            · ktr_rel
        | true =>
          have hc0 : l[1 + (patOf c dn).length]? = some 91 := hat 0 91 rfl
          have hln4 : 1 + (patOf c dn).length + 3 < l.length := (List.getElem?_eq_some_iff.mp (hat 3 93 rfl)).1
          have hc1' := hat 1 33 rfl
          have hc2' := hat 2 c rfl
          have hc3 := hat 3 93 rfl
          tb_start
          · refine of_hold ?_
            refine str_item (k := 1 + (patOf c dn).length) (c := 91) rfl hc0 (by omega) ?_
            tb_start
            refine of_hold ?_
            refine eqS (r := false) rfl ?_
            tb_start
            refine of_hold ?_
            refine eqS (r := false) rfl ?_
            tb_start
            refine of_hold ?_
            refine eqS (r := true) rfl ?_
            tb_start
            refine of_hold ?_
            refine str_item (k := 1 + (patOf c dn).length + 1) (c := 33) (by omega) hc1' (by omega) ?_
            tb_start
            refine of_hold ?_
            refine eqS (r := true) rfl ?_
            tb_start
            refine of_hold ?_
            refine str_item (k := 1 + (patOf c dn).length + 2) (c := c) (by omega) hc2' (by omega) ?_
            tb_start
            refine of_hold ?_
            refine eqS (one_no (b := 93) (by omega)) ?_
            tb_start
            rename Fr _ _ _ _ => F5
            rename News _ _ _ _ => N5
            refine of_hold ?_
            refine while_rule (σ := Bool × Tok) (fun _ => (lR, listOf (Value.ref st :: tvs vs).toArray k) :: (q, boundObj "list.append" (.ref lR)) :: (st, objO) :: (85, tabObj ps) :: rest)
              (fun d => [(S "j", .int (match d.1 with | false => ((1 + (patOf c dn).length + 2 : Nat) : Int) | true => ((1 + (patOf c dn).length + 3 : Nat) : Int)) d.2)]) [] (fun _ => True) (fun d => d.1 = true) (fun d => match d.1 with | false => 1 | true => 0) (false, tokAt F5 "j") F5 N5 ?hk2 trivial ?turn2 ?after2
            case hk2 =>
              have ej : ((1 + (patOf c dn).length + 2 : Nat) : Int) = ((1 + (patOf c dn).length : Nat) : Int) + 1 + 1 := by omega
              dsimp only; rw [ej]
              ktr_unf
            case turn2 =>
              rintro ⟨b2, tj⟩ u h tk0 _ F6 N6
              cases b2 with
              | false =>
                dsimp only at N6 ⊢
                have hlt2 : 1 + (patOf c dn).length + 2 < l.length := by omega
                tb_start
                refine of_hold ?_
                refine str_item (k := 1 + (patOf c dn).length + 2) (c := c) rfl hc2' (by omega) ?_
                tb_start
                refine of_hold ?_
                refine neS (one_nne (b := 93) (by omega)) ?_
                tb_start
                rename Fr _ _ _ _ => F7
                rename News _ _ _ _ => N7
                refine of_hold ?_
                refine ksw_end (true, tokAt F7 "j") F7 N7 (fun p hp => hp) trivial ?_ ?_ trivial Nat.one_pos
                · have ej : ((1 + (patOf c dn).length + 3 : Nat) : Int) = ((1 + (patOf c dn).length + 2 : Nat) : Int) + 1 := by omega
                  dsimp only; rw [ej]
                  ktr_unf
                · ktr_rel
              | true =>
                dsimp only at N6 ⊢
                tb_start
                refine of_hold ?_
                refine str_item (k := 1 + (patOf c dn).length + 3) (c := 93) rfl hc3 (by omega) ?_
                tb_start
                refine of_hold ?_
                refine neS (r := false) rfl ?_
                tb_start
                refine loop_end (true, tj) F6 N6 (fun p hp => hp) ?_ ?_ rfl
                · ktr_unf
                · ktr_rel
            case after2 =>
              rintro ⟨b2, tj⟩ u h tk0 rfl F6 N6
              dsimp only at N6 ⊢
              tb_start
              refine of_hold ?_
              have hsl : Txt.slice ⟨l.toArray⟩ (some (((1 + (patOf c dn).length : Nat) : Int) + 1)) (some ((1 + (patOf c dn).length + 3 : Nat) : Int)) = ⟨#[33, c]⟩ := by
                rw [show ((1 + (patOf c dn).length : Nat) : Int) + 1 = ((1 + (patOf c dn).length + 1 : Nat) : Int) by omega, slice_ss]
                have h2 : (l.drop (1 + (patOf c dn).length + 1)).take 2 = [33, c] := take2 hc1' hc2'
                rw [show 1 + (patOf c dn).length + 3 - (1 + (patOf c dn).length + 1) = 2 by omega, h2]
              refine slice_strN_ss (s := ⟨_, _, _, _, _⟩) F6 N6 ?_ (hsz := by rw [sizeLine_eq]; show l.toArray.size ≤ _; rw [List.size_toArray]; omega)
              intro h7 t7 k7 F7 N7
              rw [hsl]
              tb_start
              refine of_hold ?_
              refine P.notIn_str ?_
              rw [no_dash c hc1 hc2]
              tb_start
              refine of_hold ?_
              refine replace_none (no_back c hc1 hc2) ?_
              tb_start
              rename Fr _ _ _ _ => F8
              rename News _ _ _ _ => N8
              refine of_hold ?_
              refine getMethod_sub (F8.keep _ _ (X' 64 _ (by k_is))) ?_
              tb_start
              refine of_hold ?_
              refine lam_any F8 N8 T' (hC.keeps B'.stays) rfl (.tail (Nat.ne_of_gt l1.2.1) (.tail (Nat.ne_of_gt (l2 (85, tabObj ps0) (.tail _ (.tail _ (.head _))))) (.tail hst85 (.head hr85)))) htb rfl rfl ?_
              intro f9 fo9 ps2 h9 tk9 htb2 F9 N9 hfc9
              tb_start
              refine call_sub F9 N9 (F9.keep _ _ (X' 64 _ (by k_is))) (F9.keep _ _ (X' 63 _ (by k_is))) (by decide +kernel) (News.get N9 (.head _)) hfc9 hc1 hc2 ?_
              intro h10 tk10 t10 F10 N10
              tb_start
              rotate_left
              · rename_i hz
                exact absurd hz (show ¬ ((2 : Int) = 0) by decide)
              refine of_hold ?_
              refine eqS (r := false) (two_ne_one c) ?_
              tb_start
              refine of_hold ?_
              refine str_item (l := [33, c]) (k := 0) (c := 33) rfl rfl (Nat.le_of_ble_eq_true rfl) ?_
              tb_start
              refine of_hold ?_
              refine eqS (r := true) rfl ?_
              tb_start
              rename Fr _ _ _ _ => F11
              rename News _ _ _ _ => N11
              have hsl2 : Txt.slice ⟨#[33, c]⟩ (some (1 : Int)) none = ⟨#[c]⟩ := slice_sn [33, c] 1
              refine of_hold ?_
              refine slice_strN_sn (s := ⟨_, _, _, _, _⟩) F11 N11 ?_ (hsz := by rw [sizeLine_eq]; exact Nat.le_of_ble_eq_true rfl)
              intro h12 t12 k12 F12 N12
              rw [hsl2]
              tb_start
              rename Fr _ _ _ _ => F13
              rename News _ _ _ _ => N13
              refine of_hold ?_
              refine callWith_bound (D := lR) ?_
              tb_start
              · exact News.get N13 (.tail _ (.tail _ (.head _)))
              refine of_hold ?_
              rw [estr c]
              refine call_bound (l := .ref st :: tvs vs) (News.get N13 (.tail _ (.tail _ (.head _)))) F13 (news_sub (fun p hp => .tail _ hp) N13) (hap ps2) ?_ ?_
              · have h1 := congrArg List.length hvs
                have h2 := dn_len c dn
                simp at h1 ⊢; simp [patOf] at h2 hln; omega
              intro h14 F14 N14
              rw [tvs_snoc] at N14
              tb_start
              refine of_hold ?_
              refine ksw_end (true, dn ++ [true], td, vs ++ [(tokOut c true, _)], k + 1, tokAt F14 "i", ps2) F14 N14 (fun p hp => hp) trivial ?_ ?_ ⟨trivial, by rw [hbs]; simp, by simp [hvs], htb2⟩ (by simp)
              · have ei : ((1 + (patOf c (dn ++ [true])).length : Nat) : Int) = ((1 + (patOf c dn).length + 3 : Nat) : Int) + 1 := by simp [patOf, tokSrc]; omega
                dsimp only; rw [ei]
                ktr_unf
              · ktr_rel
  case after =>
    rintro ⟨b, dn, td, vs, k, ti, ps⟩ u h tk0 ⟨rfl, rfl, hvs, htb⟩ F4 N4
    dsimp only at hvs htb N4 ⊢
    replace hl : l = 42 :: patOf c dn := hl
    have hll : l.length = 1 + (patOf c dn).length := by rw [hl]; simp; omega
    tb_start
    · rename_i kF kN _ _
      exact hQ _ _ _ _ vs ps htb hvs kF (news_sub (by ktd_rel) kN)
end
end Mine
end

section -- S11
open PySem PySem.W PyProof.Rows
set_option maxRecDepth 100000
set_option maxHeartbeats 8000000
namespace Mine
theorem fill_11 : (∀ P h, (Mine.hd.heap_39 P).In h → PySem.Challenge.rw_in0245_01 = PySem.Challenge.rw_in0245_01) := by
  k_fill
  intros; rfl
local macro_rules | `(tactic| walk_at "exec While Compare cons nil") => `(tactic| (k_here; refine hold_of ?_))
local macro_rules | `(tactic| tb_start) => `(tactic| w_strict (repeat' (first | (k_unfold; (try dsimp only)) | (walk1; (try dsimp only)) | fail "no step")))
local macro_rules | `(tactic| tb_rel) => `(tactic| (refine' code_def ?k1 ?k2 ?k3 ?k4 ?k5 ?kA ?kF ?kK ?k6 ?k7 ?k8 ?k9 ?kB ?_ ?c2 ?c3 ?c4 ?c5; (case kA => exact rfl); (case kF => assumption); (case kK => assumption); (case k1 => k_asm); (case k2 => k_asm); (case k3 => k_asm); (case k4 => k_asm); (case k5 => k_asm); (case k6 => k_is); (case k7 => k_is); (case k8 => k_room); (case k9 => first | exact BindsTo.of_eq rfl | exact binds_K (by k_in) rfl (by k_is) rfl rfl rfl | fail "k_enter: no rule for these arguments"); (case c5 => decide); (case kB => exact locs rfl); (case c2 => exact rfl); (case c3 => exact rfl); (case c4 => exact rfl); k_whole))

local macro_rules | `(tactic| ktr_unf) => `(tactic| repeat (first | exact List.forall_mem_nil _ | refine List.forall_mem_cons.mpr ⟨rfl, ?_⟩))
local macro_rules | `(tactic| ktr_rel) => `(tactic| (intro z h1 h2; (try simp only [List.forall_mem_cons, List.forall_mem_nil, and_true, List.contains_cons, List.contains_nil, Bool.or_false, Bool.or_eq_false_iff, beq_eq_false_iff_ne, ne_eq] at h1 h2); (try simp only [kmap, kstB, List.contains_cons, List.contains_nil, Bool.or_false, Bool.or_eq_true, beq_iff_eq, h1, h2, if_false, or_false, or_self, Bool.false_eq_true])))
local macro_rules | `(tactic| walk_at "call ref") => `(tactic| (k_here; refine hold_of ?_))
local macro_rules | `(tactic| walk_at "call type:range") => `(tactic| (k_here; refine hold_of ?_))
local macro_rules | `(tactic| walk_at "call type:reversed") => `(tactic| (k_here; refine hold_of ?_))
local macro_rules | `(tactic| walk_at "pyIter ref") => `(tactic| (k_here; refine hold_of ?_))
local macro_rules | `(tactic| walk_at "exec Assign cons ListComp") => `(tactic| (k_here; refine hold_of ?_))
local macro_rules | `(tactic| walk_at "eval ListComp") => `(tactic| (k_here; refine hold_of ?_))
local macro_rules | `(tactic| walk_at "subscriptTail Name Constant ref int") => `(tactic| (k_here; refine hold_of ?_))
local macro_rules | `(tactic| walk_at "subscriptTail Name Name ref int") => `(tactic| (k_here; refine hold_of ?_))
local macro_rules | `(tactic| walk_at "subscriptTail Subscript Name Constant Constant ref int") => `(tactic| (k_here; refine hold_of ?_))
local macro_rules | `(tactic| walk_at "subscriptTail Call Name cons nil Constant ref int") => `(tactic| (k_here; refine hold_of ?_))
local macro_rules | `(tactic| walk_at "compareOp NotEq ref ref") => `(tactic| (k_here; refine hold_of ?_))
local macro_rules | `(tactic| walk_at "compareOp Lt ref ref") => `(tactic| (k_here; refine hold_of ?_))
local macro_rules | `(tactic| walk_at "call builtin:len") => `(tactic| (k_here; (with_reducible show wpAny _ _ (call (Value.builtin _) [Value.ref _]) _ _ _); refine hold_of ?_))
local macro_rules | `(tactic| walk_at "setItem ref int ref") => `(tactic| (k_here; refine hold_of ?_))
local macro_rules | `(tactic| walk_at "KswEnd") => `(tactic| (k_here; refine hold_of ?_))
local macro_rules | `(tactic| walk_at "InvEndN") => `(tactic| (k_here; refine hold_of ?_))
local macro_rules | `(tactic| walk_at "CompEnd") => `(tactic| (k_here; refine hold_of ?_))
local macro_rules | `(tactic| ktd_rel) => `(tactic| ((repeat (refine List.forall_mem_cons.mpr ⟨by k_mem, ?_⟩)); first | exact List.forall_mem_nil _ | (intro p hp; repeat (first | exact hp | refine List.Mem.tail _ ?_))))
local macro_rules | `(tactic| walk_at "exec While Name cons nil") => `(tactic| (k_here; refine hold_of ?_))
local macro_rules | `(tactic| walk_at "call builtin:list.append cons nil") => `(tactic| (k_here; refine hold_of ?_))
local macro_rules | `(tactic| walk_at "subscriptTail Name Slice ref ref") => `(tactic| (k_here; refine hold_of ?_))
local macro_rules | `(tactic| walk_at "getMethod str") => `(tactic| ((with_reducible show wpAny _ _ (getMethod _ (Str.ofString "translate") _) _ _ _); refine getMethod_translate ?_))
local macro_rules | `(tactic| walk_at "call builtin:str.translate") => `(tactic| (k_here; refine hold_of ?_))
local macro_rules | `(tactic| walk_at "exec While BoolOp cons nil") => `(tactic| (k_here; refine hold_of ?_))
local macro_rules | `(tactic| walk_at "getAttr ref true") => `(tactic| (k_here; refine hold_of ?_))
local macro_rules | `(tactic| walk_at "call builtin:str.join") => `(tactic| (k_here; refine hold_of ?_))
local macro_rules | `(tactic| walk_at "subscriptTail") => `(tactic| (k_here; (with_reducible show wpAny _ _ (subscriptTail _ _ (Value.str _ _) (Value.int _ _)) _ _ _); refine hold_of ?_))
local macro_rules | `(tactic| walk_at "subscriptTail") => `(tactic| (k_here; (with_reducible show wpAny _ _ (subscriptTail _ _ (Value.str _ _) (Value.ref _)) _ _ _); refine hold_of ?_))
local macro_rules | `(tactic| walk_at "subscriptTail Name Name str int") => `(tactic| (k_here; refine hold_of ?_))
local macro_rules | `(tactic| walk_at "subscriptTail Name Constant str int") => `(tactic| (k_here; refine hold_of ?_))
local macro_rules | `(tactic| walk_at "compareOp Eq str str") => `(tactic| (k_here; refine hold_of ?_))
local macro_rules | `(tactic| walk_at "compareOp NotEq str str") => `(tactic| (k_here; refine hold_of ?_))
local macro_rules | `(tactic| walk_at "eval Lambda") => `(tactic| (k_here; refine hold_of ?_))
local macro_rules | `(tactic| walk_at "subscriptTail Name Slice str ref") => `(tactic| (k_here; refine hold_of ?_))
local macro_rules | `(tactic| walk_at "compareOp NotIn str str") => `(tactic| (k_here; refine hold_of ?_))
local macro_rules | `(tactic| walk_at "call builtin:str.replace") => `(tactic| (k_here; refine hold_of ?_))
local macro_rules | `(tactic| walk_at "call builtin:str.replace cons nil") => `(tactic| (k_here; refine hold_of ?_))
local macro_rules | `(tactic| walk_at "getMethod ref") => `(tactic| (k_here; refine hold_of ?_))
theorem flat_out (c : Nat) : ∀ bs : List Bool, (flat (bs.map (tokOut c))).length ≤ 4 * bs.length
  | [] => Nat.le_refl _
  | b :: r => by
    have := flat_out c r
    cases b <;> simp [flat, tokOut] at this ⊢ <;> omega
theorem src_len (c : Nat) : ∀ bs : List Bool, (bs.flatMap (tokSrc c)).length ≤ 4 * bs.length
  | [] => Nat.le_refl _
  | b :: r => by
    have := src_len c r
    cases b <;> simp [tokSrc] at this ⊢ <;> omega
section
variable {w : World} {e1 : Env} {base h₀ : Heap} {L : Addr} {m mg mb : Str → Option Value} {s : Shared} {p : Program} {loose : List Str} {mean : ExcName → Option Value}
theorem translate_C {c : Nat} {bs : List Bool} {ps0 : Array Value} {rest : List (Addr × Obj)} {t1 : Tok} {Q : Value → Shared → Prop}
  (B : Below callerA base [] h₀) (F : Fr h₀ L s.heap m) (X₀ : (Mine.hd.heap_39 w.params).In h₀) (N : News h₀ L s.heap ((85, tabObj ps0) :: rest)) (T : Top p loose mean mg mb h₀)
  (hf : e1.frame = some L) (hke : e1.scope.kind = .function) (hlen : bs.length < 20) (hc1 : 65 ≤ c) (hc2 : c ≤ 80) (hC : CodeHd base 89 85) (htab : TabOk ps0) (hr85 : ∀ p ∈ rest, p.1 ≠ 85)
  (hQ : ∀ h' tk t ps, TabOk ps → Fr h₀ L h' m → News h₀ L h' ((85, tabObj ps) :: rest) → Q (.str ⟨((S "(?s:.*").cps.toList ++ flat (bs.map (tokOut c)) ++ (S ")\\Z").cps.toList).toArray⟩ t) { s with heap := h', toks := tk }) :
  wpAny (model PySem.Challenge.rw_in0245_01.row.prog w) (callerA.deeper e1) (call (.ref 71) [.str ⟨(42 :: bs.flatMap (tokSrc c)).toArray⟩ t1]) Q (fun _ _ => False) s := by
  refine wpAny_call ?_
  tb_rel
  intro g' L' h' FG' F' N' B' X' T'
  replace F' := fr_binds [(S "pat", .str ⟨(42 :: bs.flatMap (tokSrc c)).toArray⟩ t1)] F'
  refine wpAny_mono (E := fun _ _ => False) ?_ (fun _ _ x => x) (fun _ _ x => x.elim)
  k_fold
  tb_start
  refine object_news F' N' ?_
  intro st h1 F1 N1 l1
  have l85 : st ≠ 85 := Nat.ne_of_gt (l1 _ (.head _))
  have hlen4 : (bs.flatMap (tokSrc c)).length ≤ 4 * bs.length := src_len c bs
  tb_start
  rename Fr _ _ _ _ => F2
  rename News _ _ _ _ => N2
  refine of_hold ?_
  refine parts_C (s := ⟨_, _, _, _, _⟩) B' F2 X' N2 T' ?ef ?ek ?sz hc1 hc2 hC htab l85 hr85 ?_
  case ef => exact rfl
  case ek => exact rfl
  case sz => omega
  intro h3 tk3 r n3 vs ps3 htab3 hvs F3 N3
  tb_start
  rename Fr _ _ _ _ => F4
  rename News _ _ _ _ => N4
  refine of_hold ?_
  have hvl : vs.length = bs.length := by simpa using congrArg List.length hvs
  refine join_C (n2 := 0) (s := ⟨_, _, _, _, _⟩) B' F4 X' N4 T' ?ef ?ek ?sz1 ?sz2 ?_
  case ef => exact rfl
  case ek => exact rfl
  case sz1 => omega
  case sz2 =>
    rw [hvs]
    have := flat_out c bs
    omega
  intro h5 tk5 t5 F5 N5
  rw [hvs]
  tb_start
  rename_i kF kN _ _
  exact hQ _ _ _ _ htab3 kF kN
end
end Mine
end

section -- S12
open PySem PySem.W PyProof.Rows
set_option maxRecDepth 100000
set_option maxHeartbeats 8000000
namespace Mine
theorem fill_12 : (∀ P h, (Mine.hd.heap_39 P).In h → PySem.Challenge.rw_in0245_01 = PySem.Challenge.rw_in0245_01) := by
  k_fill
  intros; rfl
local macro_rules | `(tactic| walk_at "exec While Compare cons nil") => `(tactic| (k_here; refine hold_of ?_))
local macro_rules | `(tactic| tb_start) => `(tactic| w_strict (repeat' (first | (k_unfold; (try dsimp only)) | (walk1; (try dsimp only)) | fail "no step")))
local macro_rules | `(tactic| tb_rel) => `(tactic| (refine' code_def ?k1 ?k2 ?k3 ?k4 ?k5 ?kA ?kF ?kK ?k6 ?k7 ?k8 ?k9 ?kB ?_ ?c2 ?c3 ?c4 ?c5; (case kA => exact rfl); (case kF => assumption); (case kK => assumption); (case k1 => k_asm); (case k2 => k_asm); (case k3 => k_asm); (case k4 => k_asm); (case k5 => k_asm); (case k6 => k_is); (case k7 => k_is); (case k8 => k_room); (case k9 => first | exact BindsTo.of_eq rfl | exact binds_K (by k_in) rfl (by k_is) rfl rfl rfl | fail "k_enter: no rule for these arguments"); (case c5 => decide); (case kB => exact locs rfl); (case c2 => exact rfl); (case c3 => exact rfl); (case c4 => exact rfl); k_whole))

local macro_rules | `(tactic| ktr_unf) => `(tactic| repeat (first | exact List.forall_mem_nil _ | refine List.forall_mem_cons.mpr ⟨rfl, ?_⟩))
local macro_rules | `(tactic| ktr_rel) => `(tactic| (intro z h1 h2; (try simp only [List.forall_mem_cons, List.forall_mem_nil, and_true, List.contains_cons, List.contains_nil, Bool.or_false, Bool.or_eq_false_iff, beq_eq_false_iff_ne, ne_eq] at h1 h2); (try simp only [kmap, kstB, List.contains_cons, List.contains_nil, Bool.or_false, Bool.or_eq_true, beq_iff_eq, h1, h2, if_false, or_false, or_self, Bool.false_eq_true])))
local macro_rules | `(tactic| walk_at "call ref") => `(tactic| (k_here; refine hold_of ?_))
local macro_rules | `(tactic| walk_at "call type:range") => `(tactic| (k_here; refine hold_of ?_))
local macro_rules | `(tactic| walk_at "call type:reversed") => `(tactic| (k_here; refine hold_of ?_))
local macro_rules | `(tactic| walk_at "pyIter ref") => `(tactic| (k_here; refine hold_of ?_))
local macro_rules | `(tactic| walk_at "exec Assign cons ListComp") => `(tactic| (k_here; refine hold_of ?_))
local macro_rules | `(tactic| walk_at "eval ListComp") => `(tactic| (k_here; refine hold_of ?_))
local macro_rules | `(tactic| walk_at "subscriptTail Name Constant ref int") => `(tactic| (k_here; refine hold_of ?_))
local macro_rules | `(tactic| walk_at "subscriptTail Name Name ref int") => `(tactic| (k_here; refine hold_of ?_))
local macro_rules | `(tactic| walk_at "subscriptTail Subscript Name Constant Constant ref int") => `(tactic| (k_here; refine hold_of ?_))
local macro_rules | `(tactic| walk_at "subscriptTail Call Name cons nil Constant ref int") => `(tactic| (k_here; refine hold_of ?_))
local macro_rules | `(tactic| walk_at "compareOp NotEq ref ref") => `(tactic| (k_here; refine hold_of ?_))
local macro_rules | `(tactic| walk_at "compareOp Lt ref ref") => `(tactic| (k_here; refine hold_of ?_))
local macro_rules | `(tactic| walk_at "call builtin:len") => `(tactic| (k_here; (with_reducible show wpAny _ _ (call (Value.builtin _) [Value.ref _]) _ _ _); refine hold_of ?_))
local macro_rules | `(tactic| walk_at "setItem ref int ref") => `(tactic| (k_here; refine hold_of ?_))
local macro_rules | `(tactic| walk_at "KswEnd") => `(tactic| (k_here; refine hold_of ?_))
local macro_rules | `(tactic| walk_at "InvEndN") => `(tactic| (k_here; refine hold_of ?_))
local macro_rules | `(tactic| walk_at "CompEnd") => `(tactic| (k_here; refine hold_of ?_))
local macro_rules | `(tactic| ktd_rel) => `(tactic| ((repeat (refine List.forall_mem_cons.mpr ⟨by k_mem, ?_⟩)); first | exact List.forall_mem_nil _ | (intro p hp; repeat (first | exact hp | refine List.Mem.tail _ ?_))))
local macro_rules | `(tactic| walk_at "exec While Name cons nil") => `(tactic| (k_here; refine hold_of ?_))
local macro_rules | `(tactic| walk_at "call builtin:list.append cons nil") => `(tactic| (k_here; refine hold_of ?_))
local macro_rules | `(tactic| walk_at "subscriptTail Name Slice ref ref") => `(tactic| (k_here; refine hold_of ?_))
local macro_rules | `(tactic| walk_at "getMethod str") => `(tactic| ((with_reducible show wpAny _ _ (getMethod _ (Str.ofString "translate") _) _ _ _); refine getMethod_translate ?_))
local macro_rules | `(tactic| walk_at "call builtin:str.translate") => `(tactic| (k_here; refine hold_of ?_))
local macro_rules | `(tactic| walk_at "exec While BoolOp cons nil") => `(tactic| (k_here; refine hold_of ?_))
local macro_rules | `(tactic| walk_at "getAttr ref true") => `(tactic| (k_here; refine hold_of ?_))
local macro_rules | `(tactic| walk_at "call builtin:str.join") => `(tactic| (k_here; refine hold_of ?_))
local macro_rules | `(tactic| walk_at "subscriptTail") => `(tactic| (k_here; (with_reducible show wpAny _ _ (subscriptTail _ _ (Value.str _ _) (Value.int _ _)) _ _ _); refine hold_of ?_))
local macro_rules | `(tactic| walk_at "subscriptTail") => `(tactic| (k_here; (with_reducible show wpAny _ _ (subscriptTail _ _ (Value.str _ _) (Value.ref _)) _ _ _); refine hold_of ?_))
local macro_rules | `(tactic| walk_at "subscriptTail Name Name str int") => `(tactic| (k_here; refine hold_of ?_))
local macro_rules | `(tactic| walk_at "subscriptTail Name Constant str int") => `(tactic| (k_here; refine hold_of ?_))
local macro_rules | `(tactic| walk_at "compareOp Eq str str") => `(tactic| (k_here; refine hold_of ?_))
local macro_rules | `(tactic| walk_at "compareOp NotEq str str") => `(tactic| (k_here; refine hold_of ?_))
local macro_rules | `(tactic| walk_at "eval Lambda") => `(tactic| (k_here; refine hold_of ?_))
local macro_rules | `(tactic| walk_at "subscriptTail Name Slice str ref") => `(tactic| (k_here; refine hold_of ?_))
local macro_rules | `(tactic| walk_at "compareOp NotIn str str") => `(tactic| (k_here; refine hold_of ?_))
local macro_rules | `(tactic| walk_at "call builtin:str.replace") => `(tactic| (k_here; refine hold_of ?_))
local macro_rules | `(tactic| walk_at "call builtin:str.replace cons nil") => `(tactic| (k_here; refine hold_of ?_))
local macro_rules | `(tactic| walk_at "call type:zip") => `(tactic| (k_here; refine hold_of ?_))
local macro_rules | `(tactic| walk_at "compareOp Eq ref ref") => `(tactic| (k_here; refine hold_of ?_))
abbrev letOf (c d : Nat) (b : Bool) : Nat := if b then d else c
abbrev judgeObj (c : Nat) (e : Addr × Bool × Tok × Nat) : Obj := { cls := .type "tuple", data := .seq #[.bool e.2.1, .str ⟨#[c]⟩ e.2.2.1] e.2.2.2 }
abbrev judgeLed (c : Nat) (es : List (Addr × Bool × Tok × Nat)) : List (Addr × Obj) := es.map fun e => (e.1, judgeObj c e)
abbrev judgeRefs (es : List (Addr × Bool × Tok × Nat)) : List Value := es.map fun e => .ref e.1
abbrev textOf (c : Nat) (bs : List Bool) : List Nat := (S "(?s:.*").cps.toList ++ flat (bs.map (tokOut c)) ++ (S ")\\Z").cps.toList
abbrev outOf (c : Nat) (bs : List Bool) : List Nat := bs.flatMap fun b => (tokOut c b).cps.toList
theorem flat_outOf (c : Nat) (bs : List Bool) : flat (bs.map (tokOut c)) = outOf c bs := by
  simp [flat, outOf, List.flatMap_map]
theorem textOf_eq (c : Nat) (bs : List Bool) : textOf c bs = (S "(?s:.*").cps.toList ++ (outOf c bs ++ (S ")\\Z").cps.toList) := by
  rw [← flat_outOf, ← List.append_assoc]
theorem out_len (c : Nat) (bs : List Bool) : (outOf c bs).length ≤ 4 * bs.length := by
  rw [← flat_outOf]; exact flat_out c bs
theorem slice_neg (l : List Nat) (a : Nat) (h : a ≤ l.length) (h0 : 0 < a) : Txt.slice ⟨l.toArray⟩ (some (-(a : Int))) none = ⟨(l.drop (l.length - a)).toArray⟩ := by
  rw [slice_plain]
  have e : clipAt l.length (-(a : Int)) = l.length - a := by
    have := clipAt_cast l.length (-(a : Int))
    omega
  simp only [Option.elim, e]
  congr 2
  rw [List.take_of_length_le (by simp)]
theorem slice_mid (l : List Nat) (a b : Nat) (h : b ≤ l.length) (h0 : 0 < b) (h1 : a ≤ l.length) : Txt.slice ⟨l.toArray⟩ (some (a : Int)) (some (-(b : Int))) = ⟨((l.drop a).take (l.length - b - a)).toArray⟩ := by
  rw [slice_plain]
  have e : clipAt l.length (-(b : Int)) = l.length - b := by
    have := clipAt_cast l.length (-(b : Int))
    omega
  simp only [Option.elim, e, clipAt_nat, Nat.min_eq_left h1]
theorem head_ne {l r : Str} {x y : Nat} (h1 : l.cps.toList.head? = some x) (h2 : r.cps.toList.head? = some y) (h : x ≠ y) : (l == r) = false := by
  rw [beq_eq_false_iff_ne]
  intro e
  rw [e, h2] at h1
  exact h (Option.some.inj h1).symm
theorem judge_append {prog : Program} {wd : World} {A : Around} {E : Value → Shared → Prop} {s : Shared} {g : Heap} {L lJ T : Addr} {m : Str → Option Value} {c k n : Nat} {b : Bool} {t : Tok} {es : List (Addr × Bool × Tok × Nat)} {rest : List (Addr × Obj)} {Q : Value → Shared → Prop}
    (F : Fr g L s.heap m) (N : News g L s.heap ((T, judgeObj c (T, b, t, n)) :: (lJ, listOf (judgeRefs es).toArray k) :: (judgeLed c es ++ rest))) (lt : lJ < T) (hap : ∀ p ∈ judgeLed c es ++ rest, p.1 ≠ lJ) (hsz : es.length < 100)
    (h : ∀ h' x, x.2.1 = b → x.1 ≠ lJ → Fr g L h' m → News g L h' ((lJ, listOf (judgeRefs (es ++ [x])).toArray (k + 1)) :: (judgeLed c (es ++ [x]) ++ rest)) → Q .none { s with heap := h' }) :
    wpAny (model prog wd) A (call (.builtin "list.append") [.ref lJ, .ref T]) Q E s := by
  have hne : T ≠ lJ := Nat.ne_of_gt lt
  refine append_list F (news_sub (b := (T, judgeObj c (T, b, t, n)) :: (lJ, listOf (judgeRefs es).toArray k) :: (judgeLed c es ++ rest)) (a := (lJ, listOf (judgeRefs es).toArray k) :: (T, judgeObj c (T, b, t, n)) :: (judgeLed c es ++ rest)) (fun p hp => mem2 hp) N)
    (List.forall_mem_cons.mpr ⟨hne, hap⟩) (by simp; omega) ?_
  intro h' F' N'
  refine h h' (T, b, t, n) rfl hne F' ?_
  have e1 : judgeRefs es ++ [.ref T] = judgeRefs (es ++ [(T, b, t, n)]) := by simp
  rw [e1] at N'
  refine news_sub (fun p hp => ?_) N'
  rcases List.mem_cons.mp hp with rfl | hp
  · exact .head _
  · rw [judgeLed, List.map_append, List.append_assoc] at hp
    rcases List.mem_append.mp hp with hp | hp
    · exact .tail _ (.tail _ (List.mem_append_left _ hp))
    · rcases List.mem_cons.mp hp with rfl | hp
      · exact .tail _ (.head _)
      · exact .tail _ (.tail _ (List.mem_append_right _ hp))
theorem keep_lets {c d : Nat} (hcd : c ≠ d) : ∀ {bs ws : List Bool}, ws.length = bs.length → ((bs.zip (ws.map (letOf c d))).countP (keepB c) == 0) = (ws == bs)
  | [], [], _ => rfl
  | b :: bs, w :: ws, h => by
    have ih := keep_lets hcd (bs := bs) (ws := ws) (by simpa using h)
    have hk : keepB c (b, letOf c d w) = (w != b) := by
      unfold keepB
      cases w with
      | false =>
        have e : ((⟨#[letOf c d false]⟩ : Str) == ⟨#[c]⟩) = true := by
          rw [beq_iff_eq]; rfl
        rw [e]; cases b <;> rfl
      | true =>
        have e : ((⟨#[letOf c d true]⟩ : Str) == ⟨#[c]⟩) = false := one_no (Ne.symm hcd)
        rw [e]; cases b <;> rfl
    rw [List.map_cons, List.zip_cons_cons, List.countP_cons, hk]
    cases w <;> cases b <;> simp_all
theorem fresh_facts {g h : Heap} {L b : Addr} {m : Str → Option Value} {news : List (Addr × Obj)} (F : Fr g L h m) (N : News g L h news) (hge : h.objs.size ≤ b) : L ≠ b ∧ g.get? b = none ∧ ∀ p ∈ news, p.1 ≠ b := by
  refine ⟨Nat.ne_of_lt (Nat.lt_of_lt_of_le F.ns.lt hge), ?_, fun p hp => Nat.ne_of_lt (Nat.lt_of_lt_of_le (Heap.lt_size (N p hp).1) hge)⟩
  cases e : g.get? b with
  | none => rfl
  | some o => exact absurd (Nat.lt_of_lt_of_le (Heap.lt_size (F.keep b o e)) hge) (Nat.lt_irrefl _)
section
variable {w : World} {e1 : Env} {base h₀ : Heap} {L : Addr} {m mg mb : Str → Option Value} {s : Shared} {p : Program} {loose : List Str} {mean : ExcName → Option Value}
theorem ends_C {c d : Nat} {bs ws : List Bool} {rest : List (Addr × Obj)} {t1 t2 : Tok} {Q : Value → Shared → Prop}
  (B : Below callerA base [] h₀) (F : Fr h₀ L s.heap m) (X₀ : (Mine.hd.heap_39 w.params).In h₀) (N : News h₀ L s.heap rest) (T : Top p loose mean mg mb h₀)
  (hf : e1.frame = some L) (hke : e1.scope.kind = .function) (hlen : bs.length ≤ ws.length) (hw : ws.length < 20) (hc1 : 65 ≤ c) (hc2 : c ≤ 80) (hd1 : 65 ≤ d) (hd2 : d ≤ 80) (hcd : c ≠ d)
  (hQ : ∀ h' tk, Fr h₀ L h' m → News h₀ L h' rest → Q (.bool (ws.drop (ws.length - bs.length) == bs)) { s with heap := h', toks := tk }) :
  wpAny (model PySem.Challenge.rw_in0245_01.row.prog w) (callerA.deeper e1) (call (.ref 121) [.str ⟨(textOf c bs).toArray⟩ t1, .str ⟨(ws.map (letOf c d)).toArray⟩ t2]) Q (fun _ _ => False) s := by
  refine wpAny_call ?_
  tb_rel
  intro g' L' h' FG' F' N' B' X' T'
  replace F' := fr_binds [(S "word", .str ⟨(ws.map (letOf c d)).toArray⟩ t2), (S "text", .str ⟨(textOf c bs).toArray⟩ t1)] F'
  refine wpAny_mono (E := fun _ _ => False) ?_ (fun _ _ x => x) (fun _ _ x => x.elim)
  k_fold
  obtain ⟨l, hl⟩ : ∃ l, l = textOf c bs := ⟨_, rfl⟩
  obtain ⟨v, hv⟩ : ∃ v, v = ws.map (letOf c d) := ⟨_, rfl⟩
  rw [← hl, ← hv] at F'
  have hl6 : Txt.slice ⟨l.toArray⟩ none (some (6 : Int)) = S "(?s:.*" := by
    rw [hl]; exact (slice_ns _ 6).trans rfl
  have hll : l.length = 9 + (outOf c bs).length := by
    rw [hl, ← flat_outOf]; simp only [List.length_append]
    show 6 + _ + 3 = _
    omega
  have hl3 : Txt.slice ⟨l.toArray⟩ (some (-3 : Int)) none = S ")\\Z" := by
    have h3 := slice_neg l 3 (by omega) (by decide)
    refine h3.trans ?_
    rw [hll, hl, textOf_eq, ← List.append_assoc, show 9 + (outOf c bs).length - 3 = ((S "(?s:.*").cps.toList ++ outOf c bs).length by rw [List.length_append]; show _ = 6 + _; omega, List.drop_left]
  have hlm : Txt.slice ⟨l.toArray⟩ (some (6 : Int)) (some (-3 : Int)) = ⟨(outOf c bs).toArray⟩ := by
    have h3 := slice_mid l 6 3 (by omega) (by decide) (by omega)
    refine h3.trans ?_
    rw [hll, show 9 + (outOf c bs).length - 3 - 6 = (outOf c bs).length by omega, hl, textOf_eq]
    congr 2
    show ((outOf c bs) ++ _).take _ = _
    rw [List.take_left]
  have hol := out_len c bs
  tb_start
  refine of_hold ?_
  refine slice_strN_ns (s := ⟨_, _, _, _, _⟩) F' N' ?_ (hsz := by rw [sizeLine_eq]; show l.toArray.size ≤ _; rw [List.size_toArray]; omega)
  intro h1 u1 k1 F1 N1
  rw [hl6]
  tb_start
  refine of_hold ?_
  refine slice_strN_sn (s := ⟨_, _, _, _, _⟩) F1 N1 ?_ (hsz := by rw [sizeLine_eq]; show l.toArray.size ≤ _; rw [List.size_toArray]; omega)
  intro h2 u2 k2 F2 N2
  rw [hl3]
  tb_start
  refine of_hold ?_
  refine neS (r := false) rfl ?_
  tb_start
  refine of_hold ?_
  refine slice_strN_ss (s := ⟨_, _, _, _, _⟩) F2 N2 ?_ (hsz := by rw [sizeLine_eq]; show l.toArray.size ≤ _; rw [List.size_toArray]; omega)
  intro h3 u3 k3 F3 N3
  rw [hlm]
  tb_start
  rename_i lJ _ l1 _ _ _ _ _ _ F4 N4
  refine of_hold ?_
  refine while_rule (σ := List Bool × List (Addr × Bool × Tok × Nat) × Nat × Tok)
    (fun e => (lJ, listOf (judgeRefs e.2.1).toArray e.2.2.1) :: (judgeLed c e.2.1 ++ rest))
    (fun e => [(S "rest", .str ⟨(outOf c e.1).toArray⟩ e.2.2.2)]) []
    (fun e => bs = e.2.1.map (fun x => x.2.1) ++ e.1 ∧ ∀ x ∈ e.2.1, x.1 ≠ lJ)
    (fun e => e.1 = [] ∧ bs = e.2.1.map (fun x => x.2.1) ∧ ∀ x ∈ e.2.1, x.1 ≠ lJ) (fun e => e.1.length)
    (bs, [], 0, u3) F4 (fun p hp => N4 p (.tail _ hp)) ?hk ?hp ?turn ?after
  case hk => ktr_unf
  case hp => exact ⟨rfl, fun _ h => nomatch h⟩
  case turn =>
    rintro ⟨td, es, k, tr⟩ u h tk0 ⟨hbs, hes⟩ F5 N5
    dsimp only at hbs hes N5 ⊢
    have hbl : bs.length = es.length + td.length := by rw [hbs]; simp
    have hap : ∀ p ∈ judgeLed c es ++ rest, p.1 ≠ lJ := fun p hp => by
      rcases List.mem_append.mp hp with hp | hp
      · obtain ⟨e, he, rfl⟩ := List.mem_map.mp hp
        exact hes e he
      · exact Nat.ne_of_lt (l1 p hp)
    have htl := out_len c td
    have hsl : ∀ x, (⟨(outOf c x).toArray⟩ : Str).length = (outOf c x).length := fun x => List.size_toArray
    cases td with
    | nil =>
      tb_start
      · rename_i hz
        exact absurd rfl hz
      · refine loop_end ([], es, k, tr) F5 N5 (fun p hp => hp) ?_ ?_ ⟨rfl, by rw [hbs]; simp, hes⟩
        · ktr_unf
        · ktr_rel
    | cons b td =>
      have hne : (outOf c (b :: td)).length ≠ 0 := by cases b <;> simp [outOf, tokOut]
      cases b with
      | false =>
        tb_start
        rotate_left
        · rename_i hz
          rw [hsl] at hz
          exact absurd (by omega) hne
        refine of_hold ?_
        refine slice_strN_ns (s := ⟨_, _, _, _, _⟩) F5 N5 ?_ (hsz := by rw [sizeLine_eq, hsl]; omega)
        intro h6 u6 k6 F6 N6
        rw [show Txt.slice ⟨(outOf c (false :: td)).toArray⟩ none (some (2 : Int)) = ⟨((outOf c (false :: td)).take 2).toArray⟩ from slice_ns _ 2]
        tb_start
        refine of_hold ?_
        refine eqS (r := false) (head_ne (x := c) (y := 91) rfl rfl (by omega)) ?_
        tb_start
        refine of_hold ?_
        refine str_item (l := outOf c (false :: td)) (k := 0) (c := c) rfl rfl (by omega) ?_
        tb_start
        rename Fr _ _ _ _ => F7
        rename News _ _ _ _ => N7
        rename _ ∧ AllLt _ _ => lt7
        refine of_hold ?_
        refine judge_append (s := ⟨_, _, _, _, _⟩) F7 N7 lt7.1 hap (by omega) ?_
        intro h8 x hx1 hx2 F8 N8
        tb_start
        refine of_hold ?_
        refine slice_strN_sn (s := ⟨_, _, _, _, _⟩) F8 N8 ?_ (hsz := by rw [sizeLine_eq, hsl]; omega)
        intro h9 u9 k9 F9 N9
        rw [show Txt.slice ⟨(outOf c (false :: td)).toArray⟩ (some (1 : Int)) none = ⟨(outOf c td).toArray⟩ from slice_sn _ 1]
        tb_start
        rename Fr _ _ _ _ => F10
        rename News _ _ _ _ => N10
        refine of_hold ?_
        refine ksw_end (td, es ++ [x], k + 1, tokAt F10 "rest") F10 N10 (fun p hp => hp) trivial ?_ ?_ ⟨by refine hbs.trans ?_; simp [hx1], ?_⟩ (Nat.lt_succ_self _)
        · ktr_unf
        · ktr_rel
        · intro y hy
          rcases List.mem_append.mp hy with hy | hy
          · exact hes y hy
          · rw [List.mem_singleton.mp hy]; exact hx2
      | true =>
        tb_start
        rotate_left
        · rename_i hz
          rw [hsl] at hz
          exact absurd (by omega) hne
        refine of_hold ?_
        refine slice_strN_ns (s := ⟨_, _, _, _, _⟩) F5 N5 ?_ (hsz := by rw [sizeLine_eq, hsl]; omega)
        intro h6 u6 k6 F6 N6
        rw [show Txt.slice ⟨(outOf c (true :: td)).toArray⟩ none (some (2 : Int)) = ⟨#[91, 94]⟩ from slice_ns _ 2]
        tb_start
        refine of_hold ?_
        refine eqS (r := true) rfl ?_
        tb_start
        refine of_hold ?_
        refine slice_strN_ss (s := ⟨_, _, _, _, _⟩) F6 N6 ?_ (hsz := by rw [sizeLine_eq, hsl]; omega)
        intro h6b u6b k6b F6b N6b
        rw [show Txt.slice ⟨(outOf c (true :: td)).toArray⟩ (some (3 : Int)) (some (4 : Int)) = ⟨#[93]⟩ from slice_ss _ 3 4]
        tb_start
        refine of_hold ?_
        refine eqS (r := true) rfl ?_
        tb_start
        refine of_hold ?_
        refine str_item (l := outOf c (true :: td)) (k := 2) (c := c) rfl rfl (by omega) ?_
        tb_start
        rename Fr _ _ _ _ => F7
        rename News _ _ _ _ => N7
        rename _ ∧ AllLt _ _ => lt7
        refine of_hold ?_
        refine judge_append (s := ⟨_, _, _, _, _⟩) F7 N7 lt7.1 hap (by omega) ?_
        intro h8 x hx1 hx2 F8 N8
        tb_start
        refine of_hold ?_
        refine slice_strN_sn (s := ⟨_, _, _, _, _⟩) F8 N8 ?_ (hsz := by rw [sizeLine_eq, hsl]; omega)
        intro h9 u9 k9 F9 N9
        rw [show Txt.slice ⟨(outOf c (true :: td)).toArray⟩ (some (4 : Int)) none = ⟨(outOf c td).toArray⟩ from slice_sn _ 4]
        tb_start
        rename Fr _ _ _ _ => F10
        rename News _ _ _ _ => N10
        refine of_hold ?_
        refine ksw_end (td, es ++ [x], k + 1, tokAt F10 "rest") F10 N10 (fun p hp => hp) trivial ?_ ?_ ⟨by refine hbs.trans ?_; simp [hx1], ?_⟩ (Nat.lt_succ_self _)
        · ktr_unf
        · ktr_rel
        · intro y hy
          rcases List.mem_append.mp hy with hy | hy
          · exact hes y hy
          · rw [List.mem_singleton.mp hy]; exact hx2
  case after =>
    rintro ⟨td, es, k, tr⟩ u h tk0 ⟨rfl, hbs, hes⟩ F5 N5
    dsimp only at hbs hes N5 ⊢
    have hbl : bs.length = es.length := by rw [hbs]; simp
    have hvl : v.length = ws.length := by rw [hv]; simp
    tb_start
    refine str_len (l := v) (by omega) ?_
    tb_start
    refine of_hold ?_
    refine len_mem (l := judgeRefs es) N5 (.head _) (by simp; omega) ?_
    tb_start
    rename Fr _ _ _ _ => F6
    rename News _ _ _ _ => N6
    refine of_hold ?_
    have hjl : (judgeRefs es).length = bs.length := by rw [hbl]; simp
    have em : (if (v.length : Int) - ((judgeRefs es).length : Int) > 0 then (v.length : Int) - ((judgeRefs es).length : Int) else 0) = ((ws.length - bs.length : Nat) : Int) := by
      rw [hjl, hvl]; split <;> omega
    rw [em]
    refine slice_strN_sn (s := ⟨_, _, _, _, _⟩) F6 N6 ?_ (hsz := by rw [sizeLine_eq]; show v.toArray.size ≤ _; rw [List.size_toArray]; omega)
    intro h7 u7 k7 F7 N7
    rw [slice_sn v (ws.length - bs.length)]
    have htl : (v.drop (ws.length - bs.length)).length = bs.length := by rw [List.length_drop, hvl]; omega
    tb_start
    refine str_len (l := v.drop (ws.length - bs.length)) (by omega) ?_
    tb_start
    refine of_hold ?_
    rename Fr _ _ _ _ => F8
    rename News _ _ _ _ => N8
    refine len_mem (l := judgeRefs es) N8 (.head _) (by omega) ?_
    tb_start
    · rename_i hne _ _ _ _
      exact absurd (by rw [htl, hjl]) hne
    refine of_hold ?_
    have hpl : (bs.zip (v.drop (ws.length - bs.length))).length = bs.length := by rw [List.length_zip, htl, Nat.min_self]
    refine comp_ends (c := c) (ps := bs.zip (v.drop (ws.length - bs.length))) (J := lJ) (xs := (judgeRefs es).toArray) (s := ⟨_, _, _, _, _⟩) F8 N8 (by exact rfl) rfl (by decide) rfl (by decide) rfl rfl rfl (by decide) (by decide) (by decide) (by decide) (by decide) (by decide) (by rw [sizeLine_eq]; omega) ?_ (by intro x; rfl)
    tb_start
    refine of_hold ?_
    refine call_zip_ls ?asc (News.isList N8 (.head _)) ?_
    case asc =>
      rw [List.all_toArray]
      refine List.all_eq_true.mpr fun x hx => ?_
      have hx2 : x ∈ ws.map (letOf c d) := hv ▸ List.mem_of_mem_drop hx
      obtain ⟨b, _, rfl⟩ := List.mem_map.mp hx2
      cases b
      · exact decide_eq_true (show c < 128 by omega)
      · exact decide_eq_true (show d < 128 by omega)
    intro h9 z TI TO i1 i2 ap st9 fr9 keep9
    refine ⟨z, TI, TO, i1, i2, _, _, rfl, ap, st9, F8.keeps keep9, (fun p hp => ⟨keep9 _ _ (N8 p hp).1, (N8 p hp).2⟩), ?wr, ?ps, ?sz, ?_⟩
    case wr =>
      intro b hb
      exact fresh_facts F8 N8 (by
        rcases hb with rfl | rfl | rfl | rfl
        · exact fr9.1
        · exact fr9.2.2.1
        · exact fr9.2.2.2.1
        · exact fr9.2.2.2.2)
    case ps =>
      intro i p hp
      obtain ⟨hp1, hp2⟩ := List.getElem?_zip_eq_some.mp hp
      refine ⟨by simpa using hp2, ?_⟩
      rw [hbs, List.getElem?_map] at hp1
      obtain ⟨e, he, he2⟩ := Option.map_eq_some_iff.mp hp1
      refine ⟨e.1, e.2.2.1, e.2.2.2, by simp [he], .tail _ (List.mem_append_left _ ?_)⟩
      rw [← he2]
      exact List.mem_map_of_mem (f := fun e => (e.1, judgeObj c e)) (List.mem_of_getElem? he)
    case sz => rw [hpl, List.size_toArray, hjl]
    intro D h10 tk10 ys hyl F10 N10
    tb_start
    rename News _ _ _ _ => N11
    refine of_hold ?_
    refine eq_nil (News.get N11 (.tail _ (.head _))) (News.get N11 (.head _)) (by k_units) ?_
    have hres : (ys.length == 0) = (ws.drop (ws.length - bs.length) == bs) := by
      rw [hyl, hv, ← List.map_drop]
      exact keep_lets hcd (by rw [List.length_drop]; omega)
    rw [hres]
    tb_start
    rename_i kF kN _ _
    exact hQ _ _ kF (fun p hp => kN p (.tail _ (.tail _ (.tail _ (List.mem_append_right _ hp)))))
end
end Mine
end

section -- S13n
open PySem PySem.W PyProof.Rows
set_option maxRecDepth 100000
set_option maxHeartbeats 8000000
namespace Mine
theorem fill_13 : (∀ P h, (Mine.hd.heap_39 P).In h → PySem.Challenge.rw_in0245_01 = PySem.Challenge.rw_in0245_01) := by
  k_fill
  intros; rfl
local macro_rules | `(tactic| tb_start) => `(tactic| w_strict (repeat' (first | (k_unfold; (try dsimp only)) | (walk1; (try dsimp only)) | fail "no step")))
local macro_rules | `(tactic| tb_rel) => `(tactic| (refine' code_def ?k1 ?k2 ?k3 ?k4 ?k5 ?kA ?kF ?kK ?k6 ?k7 ?k8 ?k9 ?kB ?_ ?c2 ?c3 ?c4 ?c5; (case kA => exact rfl); (case kF => assumption); (case kK => assumption); (case k1 => k_asm); (case k2 => k_asm); (case k3 => k_asm); (case k4 => k_asm); (case k5 => k_asm); (case k6 => k_is); (case k7 => k_is); (case k8 => k_room); (case k9 => first | exact BindsTo.of_eq rfl | exact binds_K (by k_in) rfl (by k_is) rfl rfl rfl | fail "k_enter: no rule for these arguments"); (case c5 => decide); (case kB => exact locs rfl); (case c2 => exact rfl); (case c3 => exact rfl); (case c4 => exact rfl); k_whole))

local macro_rules | `(tactic| ktr_unf) => `(tactic| repeat (first | exact List.forall_mem_nil _ | refine List.forall_mem_cons.mpr ⟨rfl, ?_⟩))
local macro_rules | `(tactic| ktr_rel) => `(tactic| (intro z h1 h2; (try simp only [List.forall_mem_cons, List.forall_mem_nil, and_true, List.contains_cons, List.contains_nil, Bool.or_false, Bool.or_eq_false_iff, beq_eq_false_iff_ne, ne_eq] at h1 h2); (try simp only [kmap, kstB, List.contains_cons, List.contains_nil, Bool.or_false, Bool.or_eq_true, beq_iff_eq, h1, h2, if_false, or_false, or_self, Bool.false_eq_true])))
local macro_rules | `(tactic| walk_at "call ref") => `(tactic| (k_here; refine hold_of ?_))
local macro_rules | `(tactic| ktd_rel) => `(tactic| ((repeat (refine List.forall_mem_cons.mpr ⟨by k_mem, ?_⟩)); first | exact List.forall_mem_nil _ | (intro p hp; repeat (first | exact hp | refine List.Mem.tail _ ?_))))
set_option maxHeartbeats 16000000
local macro_rules | `(tactic| walk_at "binaryOp Add ref ref") => `(tactic| (k_here; refine hold_of ?_))
local macro_rules | `(tactic| walk_at "subscriptTail") => `(tactic| (k_here; (with_reducible show wpAny _ _ (subscriptTail (.List _ _) _ _ _) _ _ _); refine hold_of ?_))
local macro_rules | `(tactic| walk_at "call builtin:len cons nil") => `(tactic| (k_here; (with_reducible show wpAny _ _ (call (Value.builtin "len") [Value.str _ _]) _ _ _); refine hold_of ?_))
local macro_rules | `(tactic| walk_at "subscriptTail") => `(tactic| (k_here; (with_reducible show wpAny _ _ (subscriptTail _ _ (Value.str _ _) (Value.ref _)) _ _ _); refine hold_of ?_))
local macro_rules | `(tactic| walk_at "exec For Name Call cons nil") => `(tactic| (k_here; refine hold_of ?_))
local macro_rules | `(tactic| walk_at "binaryOp Add str str") => `(tactic| (k_here; refine hold_of ?_))
local macro_rules | `(tactic| tb_rel) => `(tactic| w_strict (repeat' (first | ((with_reducible show (_ : Nat) ≤ _ → _); intro hTok; (try dsimp only at hTok)) | (k_unfold; (try dsimp only)) | (refine with_toks _ (by assumption) ?_; walk1; (try dsimp only)) | fail "no step")))
local macro_rules | `(tactic| walk_at "execs cons") => `(tactic| (k_here; (with_reducible show wpAny _ _ (execs (.For _ _ _ _ _ :: _) _) _ _ _); (with_reducible refine wpAny_execs_cons ?_); (try dsimp only)))
local macro_rules | `(tactic| walk_at "execs cons") => `(tactic| (k_here; (with_reducible show wpAny _ _ (execs (.Assign [.Name (Str.ofString "found") _] _ _ :: _) _) _ _ _); (with_reducible refine wpAny_execs_cons ?_); (try dsimp only)))
local macro_rules | `(tactic| walk_at "pyIter ref") => `(tactic| (k_here; refine hold_of ?_))
local macro_rules | `(tactic| walk_at "call type:range") => `(tactic| (k_here; refine hold_of ?_))
def okPre (ws : List Bool) (i : Nat) : List Nat := (List.range i).filter fun k => ws.drop (ws.length - k) == ws.take k
local macro_rules | `(tactic| walk_at "execs cons") => `(tactic| (k_here; (with_reducible show wpAny _ _ (execs (.Assign [.Name (Str.ofString "pattern") _] _ _ :: _) _) _ _ _); (with_reducible refine wpAny_execs_cons ?_); (try dsimp only)))
local macro_rules | `(tactic| walk_at "call builtin:list.append cons nil") => `(tactic| (k_here; refine hold_of ?_))
local macro_rules | `(tactic| walk_at "compareOp Eq ref ref") => `(tactic| (k_here; refine hold_of ?_))
local macro_rules | `(tactic| walk_at "subscriptTail Name Slice str ref") => `(tactic| (k_here; (with_reducible show wpAny _ _ _ _ _ { heap := Heap.push _ { cls := Value.type "slice", data := Data.fields #[Value.none, Value.int _ _, Value.none] }, gens := _, drawn := _, toks := _, os := _ }); refine hold_of ?_))
theorem okPre_succ (ws : List Bool) (i : Nat) : okPre ws (i + 1) = okPre ws i ++ (if (ws.drop (ws.length - i) == ws.take i) = true then [i] else []) := by
  unfold okPre
  rw [List.range_succ, List.filter_append]
  congr 1
  rw [List.filter_cons]
  rfl
theorem repl_eq {c d : Nat} (hcd : c ≠ d) (ws : List Bool) : ((ws.map (letOf c d)).flatMap (swap1 d [91, 33, c, 93])) = ws.flatMap (tokSrc c) := by
  rw [List.flatMap_map]
  congr 1
  funext b
  cases b
  · show (if c = d then _ else _) = _
    rw [if_neg hcd]; rfl
  · show (if d = d then _ else _) = _
    rw [if_pos rfl]; rfl
theorem star_eq (l : List Nat) : (Str.ofString "*" ++ ⟨l.toArray⟩ : Str) = ⟨(42 :: l).toArray⟩ := by
  refine str_ext ?_
  rw [cps_toList_append]
  rfl
theorem bracket_eq (c : Nat) : (Str.ofString "[!" ++ ⟨#[c]⟩ ++ Str.ofString "]" : Str) = ⟨#[91, 33, c, 93]⟩ := by
  refine str_ext ?_
  rw [cps_toList_append, cps_toList_append]
  rfl
theorem add_tok {prog : Program} {w : World} {A : Around} {E : Value → Shared → Prop} {s : Shared} {x y : Str} {t u : Tok} {Q : Value → Shared → Prop} (hx : x.length ≠ 0) (hy : y.length ≠ 0) (hsz : x.length + y.length ≤ 100000) (hs : s.toks ≠ 0)
    (h : ∀ T n0 : Nat, T ≠ 0 → T < n0 → Q (.str (x ++ y) T) { s with toks := n0 }) :
    wpAny (model prog w) A (binaryOp .Add (.str x t) (.str y u)) Q E s := add_sharp hx hy hsz (h _ _ hs (Nat.lt_succ_self _))
theorem let_lt {d : Nat} (h : d < 16) : (UInt8.ofNat (65 + d)).toNat < 128 := by
  rw [UInt8.toNat_ofNat']; omega
theorem word_cps (f s : Nat) (hf : f < 16) (hs : s < 16) (ws : List Bool) : ((figs f s ws).map fun d => UInt8.ofNat (65 + d)).map UInt8.toNat = ws.map (letOf (65 + f) (65 + s)) := by
  rw [List.map_map, List.map_map]
  refine List.map_congr_left fun b _ => ?_
  show (UInt8.ofNat (65 + _)).toNat = _
  rw [UInt8.toNat_ofNat']
  cases b <;> simp [letOf] <;> omega
theorem post_true (args : List WData) : WTm.value PySem.Challenge.rw_in0245_01.row.records PySem.Challenge.rw_in0245_01.row.post { args := args, res := some (WData.bool true), after := args } = some (WData.bool (true == true)) := by
  wtm_val
theorem law_holds : PySem.Challenge.rw_in0245_01.Holds := Mine.hd ⟨Mine.left, (by
  k_go0
  all_goals try k_fold
  tb_start
  rename News _ _ _ [_, _, _, _] => N1
  rename Fr _ _ _ _ => F1
  refine of_hold ?_
  refine slice_disp (s := ⟨_, _, _, _, _⟩) (vs := [_, _, _, _]) F1 N1 (News.isList N1 (.head _)) (.cons _ _ (.cons _ _ (.cons _ _ (.cons _ _ .nil)))) (Int.natCast_nonneg _) (Nat.le_of_ble_eq_true rfl) ?_ (by with_unfolding_all rfl)
  intro D2 ws2 h2 F2 N2 lt2 hI2
  tb_start
  refine of_hold ?_
  have hI1 := ‹IntsAre _ (List.map _ _)›
  refine add_lists_ints (s := ⟨_, _, _, _, _⟩) F2 N2 (News.isList N2 (.tail _ (.tail _ (.head _)))) (News.isList N2 (.head _)) hI1 hI2 ?_ (by rw [sizeLine_eq]; simp; omega)
  intro h3 F3 N3 hI3
  obtain ⟨a0, t0, a1, t1, a2, t2, a3, t3, e4⟩ := four_ints hI3 (by simp; omega)
  rw [e4] at N3
  replace N3 := news_sub (a := [_, _]) (List.forall_mem_cons.mpr ⟨.head _, List.forall_mem_cons.mpr ⟨.tail _ (.tail _ (.tail _ (.tail _ (.tail _ (.head _))))), fun _ h => nomatch h⟩⟩) N3
  tb_start
  rename Fr _ _ _ _ => F5
  rename News _ _ _ _ => N5
  rename Top _ _ _ _ _ _ => TT
  rename Below _ _ _ _ => BB
  rename Frag.In _ _ => XX
  rename CodeHd _ _ _ => CC
  refine of_hold ?_
  obtain ⟨x0, hx0, hx0'⟩ := fm_nat a0 6 (by decide)
  obtain ⟨y0, hy0, hy0'⟩ := fm_nat a1 5 (by decide)
  have eA : 1 + ([a0, a1, a2, a3].getD (Int.toNat 0) 0).fmod 6 = ((1 + x0 : Nat) : Int) := by
    show 1 + a0.fmod 6 = _
    have : a0.fmod 6 = (x0 : Int) := hx0
    omega
  have eB : ((1 + x0 : Nat) : Int) + 1 + ([a0, a1, a2, a3].getD (Int.toNat 1) 0).fmod 5 = ((1 + x0 + 1 + y0 : Nat) : Int) := by
    show ((1 + x0 : Nat) : Int) + 1 + a1.fmod 5 = _
    have : a1.fmod 5 = (y0 : Int) := hy0
    omega
  rw [eA] at F5 ⊢
  rw [eB]
  refine wpAny_mono (reduced_C (s := ⟨_, _, _, _, _⟩) BB F5 XX N5 TT (by exact rfl) (by exact rfl) (by omega) (by omega) (by omega) ?_) (fun _ _ x => x) (fun _ _ x => x.elim)
  intro h6 tk6 tl tm rr n6 F6 N6
  obtain ⟨less, hless⟩ : ∃ less, less = (1 + x0) / Nat.gcd (1 + x0) (1 + x0 + 1 + y0) := ⟨_, rfl⟩
  obtain ⟨more, hmore⟩ : ∃ more, more = (1 + x0 + 1 + y0) / Nat.gcd (1 + x0) (1 + x0 + 1 + y0) := ⟨_, rfl⟩
  rw [← hless, ← hmore] at N6
  tb_start
  rename Fr _ _ _ _ => F7
  rename News _ _ _ _ => N7
  refine of_hold ?_
  obtain ⟨f0, hf0, hf0'⟩ := fm_nat a2 15 (by decide)
  obtain ⟨g0, hg0, hg0'⟩ := fm_nat a3 15 (by decide)
  obtain ⟨first, hfirst⟩ : ∃ first, first = 1 + f0 := ⟨_, rfl⟩
  obtain ⟨second, hsecond⟩ : ∃ second, second = (first + 1 + g0) % 16 := ⟨_, rfl⟩
  have eC : 1 + ([a0, a1, a2, a3].getD (Int.toNat 2) 0).fmod 15 = (first : Int) := by
    show 1 + a2.fmod 15 = _
    have : a2.fmod 15 = (f0 : Int) := hf0
    omega
  have eD : ((first : Int) + 1 + ([a0, a1, a2, a3].getD (Int.toNat 3) 0).fmod 15).fmod 16 = (second : Int) := by
    show ((first : Int) + 1 + a3.fmod 15).fmod 16 = _
    have h1 : a3.fmod 15 = (g0 : Int) := hg0
    rw [h1, Int.fmod_eq_emod_of_nonneg _ (by omega)]
    omega
  rw [eC, eD] at F7 ⊢
  obtain ⟨ws, num, GG⟩ := pair_facts x0 y0 first second hx0' hy0' (by omega) (by omega) (by omega) (by omega)
  rw [← hless, ← hmore] at GG
  refine wpAny_mono (number_C (s := ⟨_, _, _, _, _⟩) BB F7 XX N7 TT GG.isNum ?_ (by exact rfl) (by exact rfl) GG.l1 GG.l2 GG.lm GG.m2 (by omega) (by omega)) (fun _ _ x => x) (fun _ _ x => x.elim)
  intro h8 tk8 t8 F8 N8
  tb_start
  rename Fr _ _ _ _ => F9
  rename News _ _ _ _ => N9
  refine of_hold ?_
  refine wpAny_mono (ap_C (ds := figs first second ws) (s := ⟨_, _, _, _, _⟩) BB F9 XX N9 TT (by exact rfl) (by exact rfl) ?dd GG.hd0 ?dl GG.val ?_) (fun _ _ x => x) (fun _ _ x => x.elim)
  case dd =>
    intro d hd
    obtain ⟨b, _, rfl⟩ := List.mem_map.mp hd
    cases b <;> simp <;> omega
  case dl =>
    have := GG.len; have := GG.l2; have := GG.m2
    rw [List.length_map]; omega
  intro h10 tk10 t10 F10 N10
  have hwl : ws.length = less + more - 2 := GG.len
  have hgl1 := GG.l1
  have hgl2 := GG.l2
  have hglm := GG.lm
  have hgm2 := GG.m2
  tb_start
  refine decode_ascii ?dne ?db ?dsz ?_
  case dne => 
    intro e
    have := congrArg List.length e
    simp at this
    rw [this] at hwl
    simp at hwl
    omega
  case db =>
    intro c hc
    obtain ⟨d, hd, rfl⟩ := List.mem_map.mp hc
    obtain ⟨b, _, rfl⟩ := List.mem_map.mp hd
    exact let_lt (by cases b <;> simp <;> omega)
  case dsz => simp; omega
  intro t11 k11
  rw [word_cps first second (by omega) (by omega) ws]
  obtain ⟨c, hc⟩ : ∃ c, c = 65 + first := ⟨_, rfl⟩
  obtain ⟨d, hd⟩ : ∃ d, d = 65 + second := ⟨_, rfl⟩
  rw [← hc, ← hd]
  obtain ⟨v, hv⟩ : ∃ v, v = ws.map (letOf c d) := ⟨_, rfl⟩
  have hvl : v.length = ws.length := by rw [hv]; simp
  rw [← hv]
  tb_start
  refine of_hold ?_
  refine str_len (l := v) (by omega) ?_
  have hpal : ∀ tk : Tok, Txt.sliceBy ⟨v.toArray⟩ none none (-1, tk) = ⟨v.toArray⟩ := fun tk => by
    rw [rev_slice, hv, ← List.map_reverse, GG.pal]
  tb_start
  · exfalso; omega
  · rename_i hq
    rw [hpal] at hq
    simp at hq
  refine of_hold ?_
  have eE : (65 + (first : Int)).toNat = c := by omega
  rw [eE] at *
  refine add_sharp (by decide) (by show ¬ (1 = 0); decide) (by show 2 + 1 ≤ _; decide) ?_
  tb_start
  refine of_hold ?_
  refine add_tok (by show ¬ (3 = 0); decide) (by decide) (by show 3 + 1 ≤ _; decide) (Nat.succ_ne_zero _) ?_
  intro tkb n0 hb0 hb1
  rw [bracket_eq]
  have hTok : n0 ≤ n0 := Nat.le_refl _
  tb_start
  rename_i lF _ lt12 _ F12 N12
  refine of_hold ?_
  refine wpAny_For ?_ (by intro x; rfl)
  tb_start
  refine of_hold ?_
  refine str_len (l := v) (by omega) ?_
  tb_start
  refine of_hold ?_
  refine with_toks n0 (by dsimp only; omega) ?_
  refine range1_rows (s := ⟨_, _, _, _, _⟩) F12 N12 ?_
  intro h13 tk13 ta tb tc R13 F13 N13 K13 hT13
  dsimp only at R13 hT13 K13
  tb_start
  refine of_hold ?_
  refine wpAny_pyIter_range R13 (small20 _ (by omega)) ?_
  rw [size20]
  have h85 : 85 < lF := lt12.2.2.2
  have N14 : News _ _ h13 [(lF, listOf ([] : List Value).toArray 0), (85, tabObj #[])] := news_sub (List.forall_mem_cons.mpr ⟨.head _, List.forall_mem_cons.mpr ⟨.tail _ (.tail _ (.tail _ (.tail _ (.head _)))), fun _ h => nomatch h⟩⟩) N13
  have hI85 : h13.objs.size ≠ 85 := Nat.ne_of_gt (Heap.lt_size (N14 (85, _) (.tail _ (.head _))).1)
  have hIF : h13.objs.size ≠ lF := Nat.ne_of_gt (Heap.lt_size (N14 (lF, _) (.head _)).1)
  have hcd : c ≠ d := by omega
  refine tok_loop (s := ⟨_, _, _, _, _⟩) (σ := List Value × Nat × Array Value) n0 (Walks.range (by exact rfl) _ 0 1 (v.length + 1)) (fun e => [(lF, listOf e.1.toArray e.2.1), (85, tabObj e.2.2)]) (fun _ => []) [S "pattern"]
    (fun i e => IntsAre e.1 ((okPre ws i).map fun (k : Nat) => ((k : Nat) : Int)) ∧ TabOk e.2.2) ([], 0, #[]) rfl rfl ?hL ?hI ?hIo ?hst ?hfp hT13 (F13.push _) ?hN ?hk ?hP ?turn ?done
  case hL => exact Nat.ne_of_lt F13.ns.lt
  case hI => exact next_is_new F13
  case hIo => exact fun i h st => ⟨_, st⟩
  case hst => 
    show IsRangeIter _ _ _ _ _
    simpa using Heap.get?_push_size _ rfl
  case hfp =>
    intro e i _ q hq
    have := Heap.lt_size (N14 (lF, _) (.head _)).1
    have := Heap.lt_size (N14 (85, _) (.tail _ (.head _))).1
    rcases List.mem_cons.mp hq with rfl | hq
    · exact Nat.ne_of_lt (by assumption)
    · rw [List.mem_singleton.mp hq]; exact Nat.ne_of_lt (by assumption)
  case hN => exact fun p hp => ⟨Heap.get?_push_of_some _ (N14 p hp).1, (N14 p hp).2⟩
  case hk => ktr_unf
  case hP => exact ⟨.nil, tabOk_nil⟩
  case turn =>
    rintro i vi ⟨vs, k, ps⟩ u h tk oI hi ⟨ti, rfl⟩ htk ⟨hvs, htab⟩ F15 N15
    dsimp only at hvs htab N15 ⊢
    rw [show (0 : Int) + (i : Int) * 1 = (i : Int) by omega] at F15
    tb_start
    refine of_hold ?_
    rename Fr _ _ _ _ => F16
    rename News _ _ _ _ => N16
    refine with_toks n0 (by dsimp only; omega) ?_
    refine slice_strN_ns (s := ⟨_, _, _, _, _⟩) F16 N16 ?_ (hsz := by rw [sizeLine_eq]; show v.toArray.size ≤ _; rw [List.size_toArray]; omega)
    intro h17 u17 k17 F17 N17 hT17
    dsimp only at hT17
    rw [slice_ns v i]
    tb_start
    have eD2 : (65 + (second : Int)).toNat = d := by omega
    rw [eD2]
    refine replace_one (Nat.succ_ne_zero _) hb0 (fun e => absurd hT17 (by have e' : @Eq Nat (k17 + 1 + 1) tkb := e; omega)) (by show ¬ (4 = 1); decide) ?_ ?_
    · have hsz1 : (⟨(v.take i).toArray⟩ : Str).length ≤ 20 := by show (v.take i).toArray.size ≤ _; rw [List.size_toArray, List.length_take]; omega
      have hsz2 : (⟨#[91, 33, c, 93]⟩ : Str).length = 4 := rfl
      rw [hsz2]; omega
    intro t18 k18
    rw [show (⟨(v.take i).toArray⟩ : Str).cps.toList.flatMap (swap1 d (⟨#[91, 33, c, 93]⟩ : Str).cps.toList) = (ws.take i).flatMap (tokSrc c) by
      show (v.take i).flatMap (swap1 d [91, 33, c, 93]) = _
      rw [hv, ← List.map_take, repl_eq hcd]]
    have htl : (ws.take i).length = i := by rw [List.length_take]; omega
    have hsl := src_len c (ws.take i)
    tb_start
    refine of_hold ?_
    refine PyProof.Rows.add_str ?_ (by rw [sizeLine_eq]; show 1 + ((ws.take i).flatMap (tokSrc c)).toArray.size ≤ _; rw [List.size_toArray]; omega)
    intro t19 k19
    rw [star_eq]
    tb_start
    rename Fr _ _ _ _ => F18
    rename News _ _ _ _ => N18
    refine of_hold ?_
    refine wpAny_mono (translate_C (c := c) (bs := ws.take i) (rest := [(h13.objs.size, oI), (lF, listOf vs.toArray k)]) (s := ⟨_, _, _, _, _⟩) BB F18 XX (news_sub ?nsub N18) TT (by exact rfl) (by exact rfl) (by omega) (by omega) (by omega) CC htab ?r85 ?_) (fun _ _ x => x) (fun _ _ x => x.elim)
    case nsub =>
      exact List.forall_mem_cons.mpr ⟨.tail _ (.tail _ (.head _)), List.forall_mem_cons.mpr ⟨.head _, List.forall_mem_cons.mpr ⟨.tail _ (.head _), fun _ h => nomatch h⟩⟩⟩
    case r85 =>
      exact List.forall_mem_cons.mpr ⟨hI85, List.forall_mem_cons.mpr ⟨Nat.ne_of_gt h85, fun _ h => nomatch h⟩⟩
    intro h20 tk20 t20 ps2 htab2 F20 N20
    tb_start
    refine of_hold ?_
    rw [hv]
    refine wpAny_mono (ends_C (c := c) (d := d) (bs := ws.take i) (ws := ws) (s := ⟨_, _, _, _, _⟩) BB F20 XX N20 TT (by exact rfl) (by exact rfl) (by omega) (by omega) (by omega) (by omega) (by omega) (by omega) (by omega) ?_) (fun _ _ x => x) (fun _ _ x => x.elim)
    intro h21 tk21 F21 N21
    rw [htl, ← hv]
    have hvlen : vs.length ≤ i := by
      have h1 := intsAre_len hvs
      have h2 : (okPre ws i).length ≤ (List.range i).length := List.length_filter_le ..
      rw [List.length_map] at h1
      rw [List.length_range] at h2
      omega
    have hsucc := okPre_succ ws i
    cases hb : (ws.drop (ws.length - i) == ws.take i) with
    | false =>
      rw [hb, if_neg Bool.false_ne_true, List.append_nil] at hsucc
      tb_start
      refine tok_end (vs, k, ps2) F21 N21 ?_ ?_ ?_ ⟨by rw [hsucc]; exact hvs, htab2⟩
      · exact List.forall_mem_cons.mpr ⟨.tail _ (.head _), List.forall_mem_cons.mpr ⟨.tail _ (.tail _ (.head _)), List.forall_mem_cons.mpr ⟨.head _, fun _ h => nomatch h⟩⟩⟩
      · ktr_unf
      · intro z h0 h1 h2
        simp only [List.contains_cons, List.contains_nil, Bool.or_false, beq_eq_false_iff_ne, ne_eq] at h0 h2
        simp only [kmap, kstB, List.contains_cons, List.contains_nil, Bool.or_false, Bool.or_eq_true, beq_iff_eq, h0, h2, if_false, or_false, or_self, Bool.false_eq_true]
    | true =>
      rw [hb, if_pos rfl] at hsucc
      tb_start
      refine of_hold ?_
      refine append_list (l := vs) (n := k) (rest := [(85, tabObj ps2), (h13.objs.size, oI)]) (s := ⟨_, _, _, _, _⟩) F21 (news_sub ?_ N21) ?_ (by omega) ?_
      · exact List.forall_mem_cons.mpr ⟨.tail _ (.tail _ (.head _)), List.forall_mem_cons.mpr ⟨.head _, List.forall_mem_cons.mpr ⟨.tail _ (.head _), fun _ h => nomatch h⟩⟩⟩
      · exact List.forall_mem_cons.mpr ⟨Nat.ne_of_lt h85, List.forall_mem_cons.mpr ⟨hIF, fun _ h => nomatch h⟩⟩
      intro h22 F22 N22
      tb_start
      refine tok_end (vs ++ [.int (i : Int) ti], k + 1, ps2) F22 N22 ?_ ?_ ?_ ⟨by rw [hsucc, List.map_append]; exact intsAre_snoc hvs, htab2⟩
      · exact List.forall_mem_cons.mpr ⟨.tail _ (.tail _ (.head _)), List.forall_mem_cons.mpr ⟨.head _, List.forall_mem_cons.mpr ⟨.tail _ (.head _), fun _ h => nomatch h⟩⟩⟩
      · ktr_unf
      · intro z h0 h1 h2
        simp only [List.contains_cons, List.contains_nil, Bool.or_false, beq_eq_false_iff_ne, ne_eq] at h0 h2
        simp only [kmap, kstB, List.contains_cons, List.contains_nil, Bool.or_false, Bool.or_eq_true, beq_iff_eq, h0, h2, if_false, or_false, or_self, Bool.false_eq_true]
  case done =>
    rintro ⟨vs, k, ps⟩ u h tk ⟨hvs, htab⟩ F15 N15
    dsimp only at hvs htab N15 ⊢
    tb_start
    refine of_hold ?_
    refine wpAny_mono (lengths_C (s := ⟨_, _, _, _, _⟩) BB F15 XX N15 TT (by exact rfl) (by exact rfl) hgl1 hgm2 (by omega) GG.lens ?_) (fun _ _ x => x) (fun _ _ x => x.elim)
    intro h16 tk16 r16 vs2 n16 hI16 F16 N16
    tb_start
    refine of_hold ?_
    rw [hvl] at hvs
    refine ke_eq_ints (News.isList N16 (.tail _ (.head _))) (News.isList N16 (.head _)) hvs hI16 (by k_units) ?_
    rw [show decide ((okPre ws (ws.length + 1)).map (fun (k : Nat) => ((k : Nat) : Int)) = (okSizes ws).map (fun (k : Nat) => ((k : Nat) : Int))) = true from decide_eq_true rfl]
    tb_start
    w_end
    show GoodW _ _ _ _ _ (.ok (.ret (.bool _))) _
    refine goodW_bool (by assumption) (by assumption) (raisesW_false ?_) ?_
    · wrow_none_raised
    · exact postW_of (by wrow_shape) (post_true _) rfl)⟩
end Mine
end

theorem PySem.Challenge.cw_in0245_01_holds : PySem.Challenge.rw_in0245_01.Holds :=
  Mine.law_holds
