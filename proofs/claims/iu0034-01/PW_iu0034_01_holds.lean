import PyProof.Rows.All
import Wide.All
import OpenK.AllK
import Wide.FinOn
import Lean
import PySem.Challenge.RW_iu0034_01
set_option Elab.async false
set_option maxRecDepth 100000
set_option compiler.extract_closed false
section
open PySem PySem.W PySem.Calls PyProof.Rows
set_option maxHeartbeats 8000000
namespace Mine
abbrev PG : Program := PySem.Challenge.rw_iu0034_01.row.prog
local macro_rules | `(tactic| o_head $_) => `(tactic| assumption)
/-- asks the library to write out what the top leaves: hd.heap_1 -/
theorem hd (h : PySem.Challenge.rw_iu0034_01.row.Holds) : PySem.Challenge.rw_iu0034_01.row.Holds := by k_head
end Mine
end
section
open PySem PySem.W PySem.Calls PyProof.Rows
set_option maxHeartbeats 8000000
namespace Mine
def qv : Program := view PG [1, 2, 3, 4, 5, 6, 7, 8, 9, 10, 12, 13, 15, 16, 17, 18, 20, 21, 23, 24, 25, 26, 28, 29, 30, 31, 32, 33, 34, 35, 36, 37, 38]
def looseN : List Str := [Str.ofString "EXP", Str.ofString "TWO_BITS", Str.ofString "PREFIX_00", Str.ofString "PREFIX_100000", Str.ofString "KV_TYPE_PREFIX", Str.ofString "BRANCH_TYPE_PREFIX", Str.ofString "LEAF_TYPE_PREFIX"]
def lv : List (Str × WData) := [(Str.ofString "EXP", WData.tuple [WData.int 128, WData.int 64, WData.int 32, WData.int 16, WData.int 8, WData.int 4, WData.int 2, WData.int 1]), (Str.ofString "PREFIX_00", WData.bytes [0, 0]), (Str.ofString "PREFIX_100000", WData.bytes [1, 0, 0, 0, 0, 0]),
  (Str.ofString "KV_TYPE_PREFIX", WData.bytes [0]), (Str.ofString "BRANCH_TYPE_PREFIX", WData.bytes [1]), (Str.ofString "LEAF_TYPE_PREFIX", WData.bytes [2])]
def addrsN : List Nat := [2, 3, 32, 53, 79, 86, 87, 88, 89, 92, 99, 100, 101, 102, 105, 107, 108, 110, 111, 112, 114, 115, 117, 118, 119, 121, 122, 124, 125, 126, 128, 129, 131, 132, 133, 135, 136, 138, 139, 140, 142, 143, 145, 146, 147, 149, 150,
  152, 153, 154, 156, 157, 159, 160, 161, 163, 164, 166, 167, 168, 170, 171, 173, 174, 175, 177, 178, 180, 181, 182, 184, 185, 187, 188, 189, 191, 192, 194, 195, 196, 199, 200, 201, 203, 204, 206, 207, 208, 210, 211, 213,
  214, 215, 217, 218, 220, 221, 222, 224, 225, 227, 228, 229, 231, 232, 234, 235, 236, 239, 240, 241, 244, 245]
noncomputable def Hk : Hook := kmHook hd.heap_1 addrsN (fun _ => by kernel_rfl) [106]
def XtN (s : Shared) : Bool := xlAt qv lv s && recOk (RowW.records PySem.Challenge.rw_iu0034_01.row.toRowW) s
noncomputable def seenOf (s : Shared) := (openSeen qv looseN (importedModules PG.main.body) XtN false s, Hk.obs s)
theorem bootE : opening PG = plainProg PG.main.scope.names := by kernel_rfl
theorem bootF (s : Shared) : fenceModules? PG s = some s := by kernel_rfl
theorem boot (w : World) : (fencedOpening treeTable PG w 5588).map (fun s => (s.heap, s.gens, s.drawn, s.toks)) = some (boot_heap w.params, Array.mk [], boot_drawn, boot_toks) := boot_open bootE (by decide +kernel) bootF w
abbrev TopOk (w : World) : Prop := ∀ os, (topFrom treeTable PG w 5588 ⟨boot_heap w.params, Array.mk [], boot_drawn, boot_toks, os⟩).map seenOf = some (openGood qv looseN, Hk.val w)
theorem left_of (h : ∀ w, TopOk w) : LeftO PG qv looseN XtN Hk.obs Hk.val 5588 false := fun w => by
  obtain ⟨⟨h0, gs, d, k, os⟩, e, e'⟩ := Option.map_eq_some_iff.mp (boot w)
  obtain ⟨rfl, rfl, rfl, rfl⟩ : h0 = boot_heap w.params ∧ gs = Array.mk [] ∧ d = boot_drawn ∧ k = boot_toks := by simpa using e'
  show ((fencedOpening treeTable PG w 5588).bind (topFrom treeTable PG w 5588)).map seenOf = _
  rw [e]
  exact h w os
end Mine
end
section
open PySem PySem.W PySem.Calls PyProof.Rows
set_option maxHeartbeats 8000000
namespace Mine
def annV : Option Value := some (.ref 6)
def envM : Env := { scope := PG.main.scope, locals := mainNs, globals := mainNs, cells := [], code := .ref 13, frame := some 14 }
def codeM : Code := .body (behindTheImports PG) envM
def pos0 : Pos := ⟨0, 0, 0, 0⟩
noncomputable def bootS (w : World) (os : OsState) : Shared := ⟨boot_heap w.params, Array.mk [], boot_drawn, boot_toks, os⟩
/-- the statements behind each cut -/
def body0 : List Stmt := behindTheImports PG
def body1 : List Stmt := body0.drop 2
def body2 : List Stmt := body1.drop 9
def body3 : List Stmt := body2.drop 3
def ob3 (P : Params) : Obj := PySem.Obj.mk (PySem.Value.type "dict") Option.none (PySem.Data.dict #[PySem.DictEntry.mk (PySem.PyData.keyHash P (PySem.Str.ofString "__name__")) (PySem.Value.str (PySem.Str.ofString "__name__") 165) (PySem.Value.str (PySem.Str.ofString "trie.constants") 187), PySem.DictEntry.mk (PySem.PyData.keyHash P (PySem.Str.ofString "__doc__")) (PySem.Value.str (PySem.Str.ofString "__doc__") 166) PySem.Value.none, PySem.DictEntry.mk (PySem.PyData.keyHash P (PySem.Str.ofString "__package__")) (PySem.Value.str (PySem.Str.ofString "__package__") 167) PySem.Value.none, PySem.DictEntry.mk (PySem.PyData.keyHash P (PySem.Str.ofString "__loader__")) (PySem.Value.str (PySem.Str.ofString "__loader__") 168) (PySem.Value.builtin "__main__.__loader__#opaque"), PySem.DictEntry.mk (PySem.PyData.keyHash P (PySem.Str.ofString "__spec__")) (PySem.Value.str (PySem.Str.ofString "__spec__") 169) PySem.Value.none, PySem.DictEntry.mk (PySem.PyData.keyHash P (PySem.Str.ofString "__annotations__")) (PySem.Value.str (PySem.Str.ofString "__annotations__") 170) (PySem.Value.ref 6), PySem.DictEntry.mk (PySem.PyData.keyHash P (PySem.Str.ofString "__builtins__")) (PySem.Value.str (PySem.Str.ofString "__builtins__") 171) (PySem.Value.ref 4), PySem.DictEntry.mk (PySem.PyData.keyHash P (PySem.Str.ofString "__file__")) (PySem.Value.str (PySem.Str.ofString "__file__") 173) (PySem.Value.str (PySem.Str.ofString "/claim/cut.py") 172), PySem.DictEntry.mk (PySem.PyData.keyHash P (PySem.Str.ofString "__cached__")) (PySem.Value.str (PySem.Str.ofString "__cached__") 174) PySem.Value.none, PySem.DictEntry.mk (PySem.PyData.keyHash P (PySem.Str.ofString "EXP")) (PySem.Value.str (PySem.Str.ofString "EXP") 245) (PySem.Value.ref 32)] 10) #[]
def ob11 (_ : Params) : Obj := PySem.Obj.mk (PySem.Value.type "tuple") Option.none (PySem.Data.seq #[]) #[]
def ob12 (_ : Params) : Obj := PySem.Obj.mk PySem.Value.none Option.none (PySem.Data.fields #[PySem.Value.int 2 0, PySem.Value.int 27 0, PySem.Value.ref 19]) #[]
def ob13 (_ : Params) : Obj := PySem.Obj.mk (PySem.Value.type "code") Option.none (PySem.Data.fields #[PySem.Value.str (PySem.Str.ofString "<module>") 182, PySem.Value.str (PySem.Str.ofString "<module>") 183, PySem.Value.str (PySem.Str.ofString "/claim/cut.py") 184, PySem.Value.int 1 0, PySem.Value.int 0 0, PySem.Value.int 0 0, PySem.Value.int 0 0, PySem.Value.int 0 0, PySem.Value.ref 11, PySem.Value.bool Bool.false, PySem.Value.int 181 0, PySem.Value.ref 12, PySem.Value.none, PySem.Value.none, PySem.Value.none, PySem.Value.none, PySem.Value.int 185 0, PySem.Value.int 1 0, PySem.Value.str (PySem.Str.ofString "/claim/cut.py") 186]) #[]
def ob14 (_ : Params) : Obj := PySem.Obj.mk (PySem.Value.type "frame") Option.none PySem.Data.plain #[Option.some (PySem.Value.ref 13), Option.some (PySem.Value.ref 3), Option.some (PySem.Value.ref 3), Option.none, Option.some (PySem.Value.str (PySem.Str.ofString "__main__") 164), Option.none, Option.some (PySem.Value.ref 0)]
def ob15 (_ : Params) : Obj := PySem.Obj.mk (PySem.Value.type "range") Option.none (PySem.Data.fields #[PySem.Value.int 0 190, PySem.Value.int 8 189, PySem.Value.int 1 191]) #[]
def ob16 (_ : Params) : Obj := PySem.Obj.mk (PySem.Value.type "range_iterator") Option.none (PySem.Data.fields #[PySem.Value.int 8 0, PySem.Value.int 0 0, PySem.Value.int 1 0]) #[]
def ob17 (_ : Params) : Obj := PySem.Obj.mk (PySem.Value.type "tuple") Option.none (PySem.Data.seq #[]) #[]
def ob18 (_ : Params) : Obj := PySem.Obj.mk PySem.Value.none Option.none (PySem.Data.fields #[]) #[]
def ob19 (_ : Params) : Obj := PySem.Obj.mk (PySem.Value.type "code") Option.none (PySem.Data.fields #[PySem.Value.str (PySem.Str.ofString "<genexpr>") 192, PySem.Value.str (PySem.Str.ofString "<genexpr>") 193, PySem.Value.str (PySem.Str.ofString "/claim/cut.py") 194, PySem.Value.int 2 0, PySem.Value.int 1 0, PySem.Value.int 0 0, PySem.Value.int 0 0, PySem.Value.int 35 0, PySem.Value.ref 17, PySem.Value.bool Bool.true, PySem.Value.int 181 0, PySem.Value.ref 18, PySem.Value.none, PySem.Value.none, PySem.Value.none, PySem.Value.none, PySem.Value.int 195 0, PySem.Value.int 2 0, PySem.Value.str (PySem.Str.ofString "/claim/cut.py") 196]) #[]
def ob20 (P : Params) : Obj := PySem.Obj.mk (PySem.Value.type "frame") Option.none (PySem.Data.dict #[PySem.DictEntry.mk (PySem.PyData.keyHash P (PySem.Str.ofString ".0")) (PySem.Value.str (PySem.Str.ofString ".0") 197) (PySem.Value.ref 16), PySem.DictEntry.mk (PySem.PyData.keyHash P (PySem.Str.ofString "i")) (PySem.Value.str (PySem.Str.ofString "i") 201) (PySem.Value.int 7 228)] 2) #[]
def ob21 (_ : Params) : Obj := PySem.Obj.mk (PySem.Value.type "generator") Option.none (PySem.Data.fields #[PySem.Value.int 0 0, PySem.Value.str (PySem.Str.ofString "<genexpr>") 198, PySem.Value.str (PySem.Str.ofString "<genexpr>") 199]) #[]
def ob22 (_ : Params) : Obj := PySem.Obj.mk (PySem.Value.type "list") Option.none (PySem.Data.seq #[PySem.Value.int 1 203, PySem.Value.int 2 207, PySem.Value.int 4 211, PySem.Value.int 8 215, PySem.Value.int 16 219, PySem.Value.int 32 223, PySem.Value.int 64 227, PySem.Value.int 128 231] 10) #[]
def ob23 (_ : Params) : Obj := PySem.Obj.mk (PySem.Value.type "tuple") Option.none (PySem.Data.seq #[]) #[]
def ob24 (_ : Params) : Obj := PySem.Obj.mk (PySem.Value.type "StopIteration") Option.none (PySem.Data.fields #[PySem.Value.ref 23, PySem.Value.none, PySem.Value.none, PySem.Value.none, PySem.Value.bool Bool.false, PySem.Value.none]) #[]
def ob25 (_ : Params) : Obj := PySem.Obj.mk (PySem.Value.type "tuple") Option.none (PySem.Data.seq #[]) #[]
def ob26 (_ : Params) : Obj := PySem.Obj.mk (PySem.Value.type "StopIteration") Option.none (PySem.Data.fields #[PySem.Value.ref 25, PySem.Value.none, PySem.Value.none, PySem.Value.none, PySem.Value.bool Bool.false, PySem.Value.none]) #[]
def ob27 (_ : Params) : Obj := PySem.Obj.mk (PySem.Value.type "tuple") Option.none (PySem.Data.seq #[PySem.Value.int 1 203, PySem.Value.int 2 207, PySem.Value.int 4 211, PySem.Value.int 8 215, PySem.Value.int 16 219, PySem.Value.int 32 223, PySem.Value.int 64 227, PySem.Value.int 128 231]) #[]
def ob28 (_ : Params) : Obj := PySem.Obj.mk (PySem.Value.type "reversed") Option.none (PySem.Data.fields #[PySem.Value.none, PySem.Value.int (-1) 0]) #[]
def ob29 (_ : Params) : Obj := PySem.Obj.mk (PySem.Value.type "list") Option.none (PySem.Data.seq #[PySem.Value.int 128 231, PySem.Value.int 64 227, PySem.Value.int 32 223, PySem.Value.int 16 219, PySem.Value.int 8 215, PySem.Value.int 4 211, PySem.Value.int 2 207, PySem.Value.int 1 203] 10) #[]
def ob30 (_ : Params) : Obj := PySem.Obj.mk (PySem.Value.type "tuple") Option.none (PySem.Data.seq #[]) #[]
def ob31 (_ : Params) : Obj := PySem.Obj.mk (PySem.Value.type "StopIteration") Option.none (PySem.Data.fields #[PySem.Value.ref 30, PySem.Value.none, PySem.Value.none, PySem.Value.none, PySem.Value.bool Bool.false, PySem.Value.none]) #[]
def ob32 (_ : Params) : Obj := PySem.Obj.mk (PySem.Value.type "tuple") Option.none (PySem.Data.seq #[PySem.Value.int 128 231, PySem.Value.int 64 227, PySem.Value.int 32 223, PySem.Value.int 16 219, PySem.Value.int 8 215, PySem.Value.int 4 211, PySem.Value.int 2 207, PySem.Value.int 1 203]) #[]
def ob3v1 (P : Params) : Obj := PySem.Obj.mk (PySem.Value.type "dict") Option.none (PySem.Data.dict #[PySem.DictEntry.mk (PySem.PyData.keyHash P (PySem.Str.ofString "__name__")) (PySem.Value.str (PySem.Str.ofString "__name__") 165) (PySem.Value.str (PySem.Str.ofString "trie.constants") 187), PySem.DictEntry.mk (PySem.PyData.keyHash P (PySem.Str.ofString "__doc__")) (PySem.Value.str (PySem.Str.ofString "__doc__") 166) PySem.Value.none, PySem.DictEntry.mk (PySem.PyData.keyHash P (PySem.Str.ofString "__package__")) (PySem.Value.str (PySem.Str.ofString "__package__") 167) PySem.Value.none, PySem.DictEntry.mk (PySem.PyData.keyHash P (PySem.Str.ofString "__loader__")) (PySem.Value.str (PySem.Str.ofString "__loader__") 168) (PySem.Value.builtin "__main__.__loader__#opaque"), PySem.DictEntry.mk (PySem.PyData.keyHash P (PySem.Str.ofString "__spec__")) (PySem.Value.str (PySem.Str.ofString "__spec__") 169) PySem.Value.none, PySem.DictEntry.mk (PySem.PyData.keyHash P (PySem.Str.ofString "__annotations__")) (PySem.Value.str (PySem.Str.ofString "__annotations__") 170) (PySem.Value.ref 6), PySem.DictEntry.mk (PySem.PyData.keyHash P (PySem.Str.ofString "__builtins__")) (PySem.Value.str (PySem.Str.ofString "__builtins__") 171) (PySem.Value.ref 4), PySem.DictEntry.mk (PySem.PyData.keyHash P (PySem.Str.ofString "__file__")) (PySem.Value.str (PySem.Str.ofString "__file__") 173) (PySem.Value.str (PySem.Str.ofString "/claim/cut.py") 172), PySem.DictEntry.mk (PySem.PyData.keyHash P (PySem.Str.ofString "__cached__")) (PySem.Value.str (PySem.Str.ofString "__cached__") 174) PySem.Value.none, PySem.DictEntry.mk (PySem.PyData.keyHash P (PySem.Str.ofString "EXP")) (PySem.Value.str (PySem.Str.ofString "EXP") 245) (PySem.Value.ref 32), PySem.DictEntry.mk (PySem.PyData.keyHash P (PySem.Str.ofString "TWO_BITS")) (PySem.Value.str (PySem.Str.ofString "TWO_BITS") 258) (PySem.Value.ref 53), PySem.DictEntry.mk (PySem.PyData.keyHash P (PySem.Str.ofString "PREFIX_00")) (PySem.Value.str (PySem.Str.ofString "PREFIX_00") 262) (PySem.Value.bytes #[0, 0] 261), PySem.DictEntry.mk (PySem.PyData.keyHash P (PySem.Str.ofString "PREFIX_100000")) (PySem.Value.str (PySem.Str.ofString "PREFIX_100000") 270) (PySem.Value.bytes #[1, 0, 0, 0, 0, 0] 269), PySem.DictEntry.mk (PySem.PyData.keyHash P (PySem.Str.ofString "KV_TYPE")) (PySem.Value.str (PySem.Str.ofString "KV_TYPE") 272) (PySem.Value.int 0 271), PySem.DictEntry.mk (PySem.PyData.keyHash P (PySem.Str.ofString "BRANCH_TYPE")) (PySem.Value.str (PySem.Str.ofString "BRANCH_TYPE") 274) (PySem.Value.int 1 273), PySem.DictEntry.mk (PySem.PyData.keyHash P (PySem.Str.ofString "LEAF_TYPE")) (PySem.Value.str (PySem.Str.ofString "LEAF_TYPE") 276) (PySem.Value.int 2 275), PySem.DictEntry.mk (PySem.PyData.keyHash P (PySem.Str.ofString "KV_TYPE_PREFIX")) (PySem.Value.str (PySem.Str.ofString "KV_TYPE_PREFIX") 279) (PySem.Value.bytes #[0] 278), PySem.DictEntry.mk (PySem.PyData.keyHash P (PySem.Str.ofString "BRANCH_TYPE_PREFIX")) (PySem.Value.str (PySem.Str.ofString "BRANCH_TYPE_PREFIX") 282) (PySem.Value.bytes #[1] 281), PySem.DictEntry.mk (PySem.PyData.keyHash P (PySem.Str.ofString "LEAF_TYPE_PREFIX")) (PySem.Value.str (PySem.Str.ofString "LEAF_TYPE_PREFIX") 285) (PySem.Value.bytes #[2] 284)] 19) #[]
def ob33 (_ : Params) : Obj := PySem.Obj.mk (PySem.Value.type "list") Option.none (PySem.Data.seq #[PySem.Value.int 0 246, PySem.Value.int 0 247]) #[]
def ob34 (_ : Params) : Obj := PySem.Obj.mk (PySem.Value.type "list_iterator") Option.none (PySem.Data.fields #[PySem.Value.none, PySem.Value.int 2 0]) #[]
def ob35 (_ : Params) : Obj := PySem.Obj.mk (PySem.Value.type "bytearray") Option.none (PySem.Data.bytearray #[0, 0]) #[]
def ob36 (_ : Params) : Obj := PySem.Obj.mk (PySem.Value.type "tuple") Option.none (PySem.Data.seq #[]) #[]
def ob37 (_ : Params) : Obj := PySem.Obj.mk (PySem.Value.type "StopIteration") Option.none (PySem.Data.fields #[PySem.Value.ref 36, PySem.Value.none, PySem.Value.none, PySem.Value.none, PySem.Value.bool Bool.false, PySem.Value.none]) #[]
def ob38 (_ : Params) : Obj := PySem.Obj.mk (PySem.Value.type "list") Option.none (PySem.Data.seq #[PySem.Value.int 0 249, PySem.Value.int 1 250]) #[]
def ob39 (_ : Params) : Obj := PySem.Obj.mk (PySem.Value.type "list_iterator") Option.none (PySem.Data.fields #[PySem.Value.none, PySem.Value.int 2 0]) #[]
def ob40 (_ : Params) : Obj := PySem.Obj.mk (PySem.Value.type "bytearray") Option.none (PySem.Data.bytearray #[0, 1]) #[]
def ob41 (_ : Params) : Obj := PySem.Obj.mk (PySem.Value.type "tuple") Option.none (PySem.Data.seq #[]) #[]
def ob42 (_ : Params) : Obj := PySem.Obj.mk (PySem.Value.type "StopIteration") Option.none (PySem.Data.fields #[PySem.Value.ref 41, PySem.Value.none, PySem.Value.none, PySem.Value.none, PySem.Value.bool Bool.false, PySem.Value.none]) #[]
def ob43 (_ : Params) : Obj := PySem.Obj.mk (PySem.Value.type "list") Option.none (PySem.Data.seq #[PySem.Value.int 1 252, PySem.Value.int 0 253]) #[]
def ob44 (_ : Params) : Obj := PySem.Obj.mk (PySem.Value.type "list_iterator") Option.none (PySem.Data.fields #[PySem.Value.none, PySem.Value.int 2 0]) #[]
def ob45 (_ : Params) : Obj := PySem.Obj.mk (PySem.Value.type "bytearray") Option.none (PySem.Data.bytearray #[1, 0]) #[]
def ob46 (_ : Params) : Obj := PySem.Obj.mk (PySem.Value.type "tuple") Option.none (PySem.Data.seq #[]) #[]
def ob47 (_ : Params) : Obj := PySem.Obj.mk (PySem.Value.type "StopIteration") Option.none (PySem.Data.fields #[PySem.Value.ref 46, PySem.Value.none, PySem.Value.none, PySem.Value.none, PySem.Value.bool Bool.false, PySem.Value.none]) #[]
def ob48 (_ : Params) : Obj := PySem.Obj.mk (PySem.Value.type "list") Option.none (PySem.Data.seq #[PySem.Value.int 1 255, PySem.Value.int 1 256]) #[]
def ob49 (_ : Params) : Obj := PySem.Obj.mk (PySem.Value.type "list_iterator") Option.none (PySem.Data.fields #[PySem.Value.none, PySem.Value.int 2 0]) #[]
def ob50 (_ : Params) : Obj := PySem.Obj.mk (PySem.Value.type "bytearray") Option.none (PySem.Data.bytearray #[1, 1]) #[]
def ob51 (_ : Params) : Obj := PySem.Obj.mk (PySem.Value.type "tuple") Option.none (PySem.Data.seq #[]) #[]
def ob52 (_ : Params) : Obj := PySem.Obj.mk (PySem.Value.type "StopIteration") Option.none (PySem.Data.fields #[PySem.Value.ref 51, PySem.Value.none, PySem.Value.none, PySem.Value.none, PySem.Value.bool Bool.false, PySem.Value.none]) #[]
def ob53 (_ : Params) : Obj := PySem.Obj.mk (PySem.Value.type "list") Option.none (PySem.Data.seq #[PySem.Value.bytes #[0, 0] 248, PySem.Value.bytes #[0, 1] 251, PySem.Value.bytes #[1, 0] 254, PySem.Value.bytes #[1, 1] 257]) #[]
def ob54 (_ : Params) : Obj := PySem.Obj.mk (PySem.Value.type "list") Option.none (PySem.Data.seq #[PySem.Value.int 0 259, PySem.Value.int 0 260]) #[]
def ob55 (_ : Params) : Obj := PySem.Obj.mk (PySem.Value.type "list_iterator") Option.none (PySem.Data.fields #[PySem.Value.none, PySem.Value.int 2 0]) #[]
def ob56 (_ : Params) : Obj := PySem.Obj.mk (PySem.Value.type "bytearray") Option.none (PySem.Data.bytearray #[0, 0]) #[]
def ob57 (_ : Params) : Obj := PySem.Obj.mk (PySem.Value.type "tuple") Option.none (PySem.Data.seq #[]) #[]
def ob58 (_ : Params) : Obj := PySem.Obj.mk (PySem.Value.type "StopIteration") Option.none (PySem.Data.fields #[PySem.Value.ref 57, PySem.Value.none, PySem.Value.none, PySem.Value.none, PySem.Value.bool Bool.false, PySem.Value.none]) #[]
def ob59 (_ : Params) : Obj := PySem.Obj.mk (PySem.Value.type "list") Option.none (PySem.Data.seq #[PySem.Value.int 1 263, PySem.Value.int 0 264, PySem.Value.int 0 265, PySem.Value.int 0 266, PySem.Value.int 0 267, PySem.Value.int 0 268]) #[]
def ob60 (_ : Params) : Obj := PySem.Obj.mk (PySem.Value.type "list_iterator") Option.none (PySem.Data.fields #[PySem.Value.none, PySem.Value.int 6 0]) #[]
def ob61 (_ : Params) : Obj := PySem.Obj.mk (PySem.Value.type "bytearray") Option.none (PySem.Data.bytearray #[1, 0, 0, 0, 0, 0]) #[]
def ob62 (_ : Params) : Obj := PySem.Obj.mk (PySem.Value.type "tuple") Option.none (PySem.Data.seq #[]) #[]
def ob63 (_ : Params) : Obj := PySem.Obj.mk (PySem.Value.type "StopIteration") Option.none (PySem.Data.fields #[PySem.Value.ref 62, PySem.Value.none, PySem.Value.none, PySem.Value.none, PySem.Value.bool Bool.false, PySem.Value.none]) #[]
def ob64 (_ : Params) : Obj := PySem.Obj.mk (PySem.Value.type "list") Option.none (PySem.Data.seq #[PySem.Value.int 0 277]) #[]
def ob65 (_ : Params) : Obj := PySem.Obj.mk (PySem.Value.type "list_iterator") Option.none (PySem.Data.fields #[PySem.Value.none, PySem.Value.int 1 0]) #[]
def ob66 (_ : Params) : Obj := PySem.Obj.mk (PySem.Value.type "bytearray") Option.none (PySem.Data.bytearray #[0]) #[]
def ob67 (_ : Params) : Obj := PySem.Obj.mk (PySem.Value.type "tuple") Option.none (PySem.Data.seq #[]) #[]
def ob68 (_ : Params) : Obj := PySem.Obj.mk (PySem.Value.type "StopIteration") Option.none (PySem.Data.fields #[PySem.Value.ref 67, PySem.Value.none, PySem.Value.none, PySem.Value.none, PySem.Value.bool Bool.false, PySem.Value.none]) #[]
def ob69 (_ : Params) : Obj := PySem.Obj.mk (PySem.Value.type "list") Option.none (PySem.Data.seq #[PySem.Value.int 1 280]) #[]
def ob70 (_ : Params) : Obj := PySem.Obj.mk (PySem.Value.type "list_iterator") Option.none (PySem.Data.fields #[PySem.Value.none, PySem.Value.int 1 0]) #[]
def ob71 (_ : Params) : Obj := PySem.Obj.mk (PySem.Value.type "bytearray") Option.none (PySem.Data.bytearray #[1]) #[]
def ob72 (_ : Params) : Obj := PySem.Obj.mk (PySem.Value.type "tuple") Option.none (PySem.Data.seq #[]) #[]
def ob73 (_ : Params) : Obj := PySem.Obj.mk (PySem.Value.type "StopIteration") Option.none (PySem.Data.fields #[PySem.Value.ref 72, PySem.Value.none, PySem.Value.none, PySem.Value.none, PySem.Value.bool Bool.false, PySem.Value.none]) #[]
def ob74 (_ : Params) : Obj := PySem.Obj.mk (PySem.Value.type "list") Option.none (PySem.Data.seq #[PySem.Value.int 2 283]) #[]
def ob75 (_ : Params) : Obj := PySem.Obj.mk (PySem.Value.type "list_iterator") Option.none (PySem.Data.fields #[PySem.Value.none, PySem.Value.int 1 0]) #[]
def ob76 (_ : Params) : Obj := PySem.Obj.mk (PySem.Value.type "bytearray") Option.none (PySem.Data.bytearray #[2]) #[]
def ob77 (_ : Params) : Obj := PySem.Obj.mk (PySem.Value.type "tuple") Option.none (PySem.Data.seq #[]) #[]
def ob78 (_ : Params) : Obj := PySem.Obj.mk (PySem.Value.type "StopIteration") Option.none (PySem.Data.fields #[PySem.Value.ref 77, PySem.Value.none, PySem.Value.none, PySem.Value.none, PySem.Value.bool Bool.false, PySem.Value.none]) #[]
def ob2 (P : Params) : Obj := PySem.Obj.mk PySem.Value.none Option.none (PySem.Data.dict #[PySem.DictEntry.mk (PySem.PyData.keyHash P (PySem.Str.ofString "type.__subclasses__.Exception.0")) (PySem.Value.str (PySem.Str.ofString "type.__subclasses__.Exception.0") 304) (PySem.Value.int 88 0), PySem.DictEntry.mk (PySem.PyData.keyHash P (PySem.Str.ofString "type.__subclasses__.Exception.n")) (PySem.Value.str (PySem.Str.ofString "type.__subclasses__.Exception.n") 305) (PySem.Value.int 2 0), PySem.DictEntry.mk (PySem.PyData.keyHash P (PySem.Str.ofString "type.__subclasses__.Exception.1")) (PySem.Value.str (PySem.Str.ofString "type.__subclasses__.Exception.1") 324) (PySem.Value.int 101 0)] 3) #[]
def ob3v2 (P : Params) : Obj := PySem.Obj.mk (PySem.Value.type "dict") Option.none (PySem.Data.dict #[PySem.DictEntry.mk (PySem.PyData.keyHash P (PySem.Str.ofString "__name__")) (PySem.Value.str (PySem.Str.ofString "__name__") 165) (PySem.Value.str (PySem.Str.ofString "trie.exceptions") 286), PySem.DictEntry.mk (PySem.PyData.keyHash P (PySem.Str.ofString "__doc__")) (PySem.Value.str (PySem.Str.ofString "__doc__") 166) PySem.Value.none, PySem.DictEntry.mk (PySem.PyData.keyHash P (PySem.Str.ofString "__package__")) (PySem.Value.str (PySem.Str.ofString "__package__") 167) PySem.Value.none, PySem.DictEntry.mk (PySem.PyData.keyHash P (PySem.Str.ofString "__loader__")) (PySem.Value.str (PySem.Str.ofString "__loader__") 168) (PySem.Value.builtin "__main__.__loader__#opaque"), PySem.DictEntry.mk (PySem.PyData.keyHash P (PySem.Str.ofString "__spec__")) (PySem.Value.str (PySem.Str.ofString "__spec__") 169) PySem.Value.none, PySem.DictEntry.mk (PySem.PyData.keyHash P (PySem.Str.ofString "__annotations__")) (PySem.Value.str (PySem.Str.ofString "__annotations__") 170) (PySem.Value.ref 6), PySem.DictEntry.mk (PySem.PyData.keyHash P (PySem.Str.ofString "__builtins__")) (PySem.Value.str (PySem.Str.ofString "__builtins__") 171) (PySem.Value.ref 4), PySem.DictEntry.mk (PySem.PyData.keyHash P (PySem.Str.ofString "__file__")) (PySem.Value.str (PySem.Str.ofString "__file__") 173) (PySem.Value.str (PySem.Str.ofString "/claim/cut.py") 172), PySem.DictEntry.mk (PySem.PyData.keyHash P (PySem.Str.ofString "__cached__")) (PySem.Value.str (PySem.Str.ofString "__cached__") 174) PySem.Value.none, PySem.DictEntry.mk (PySem.PyData.keyHash P (PySem.Str.ofString "EXP")) (PySem.Value.str (PySem.Str.ofString "EXP") 245) (PySem.Value.ref 32), PySem.DictEntry.mk (PySem.PyData.keyHash P (PySem.Str.ofString "TWO_BITS")) (PySem.Value.str (PySem.Str.ofString "TWO_BITS") 258) (PySem.Value.ref 53), PySem.DictEntry.mk (PySem.PyData.keyHash P (PySem.Str.ofString "PREFIX_00")) (PySem.Value.str (PySem.Str.ofString "PREFIX_00") 262) (PySem.Value.bytes #[0, 0] 261), PySem.DictEntry.mk (PySem.PyData.keyHash P (PySem.Str.ofString "PREFIX_100000")) (PySem.Value.str (PySem.Str.ofString "PREFIX_100000") 270) (PySem.Value.bytes #[1, 0, 0, 0, 0, 0] 269), PySem.DictEntry.mk (PySem.PyData.keyHash P (PySem.Str.ofString "KV_TYPE")) (PySem.Value.str (PySem.Str.ofString "KV_TYPE") 272) (PySem.Value.int 0 271), PySem.DictEntry.mk (PySem.PyData.keyHash P (PySem.Str.ofString "BRANCH_TYPE")) (PySem.Value.str (PySem.Str.ofString "BRANCH_TYPE") 274) (PySem.Value.int 1 273), PySem.DictEntry.mk (PySem.PyData.keyHash P (PySem.Str.ofString "LEAF_TYPE")) (PySem.Value.str (PySem.Str.ofString "LEAF_TYPE") 276) (PySem.Value.int 2 275), PySem.DictEntry.mk (PySem.PyData.keyHash P (PySem.Str.ofString "KV_TYPE_PREFIX")) (PySem.Value.str (PySem.Str.ofString "KV_TYPE_PREFIX") 279) (PySem.Value.bytes #[0] 278), PySem.DictEntry.mk (PySem.PyData.keyHash P (PySem.Str.ofString "BRANCH_TYPE_PREFIX")) (PySem.Value.str (PySem.Str.ofString "BRANCH_TYPE_PREFIX") 282) (PySem.Value.bytes #[1] 281), PySem.DictEntry.mk (PySem.PyData.keyHash P (PySem.Str.ofString "LEAF_TYPE_PREFIX")) (PySem.Value.str (PySem.Str.ofString "LEAF_TYPE_PREFIX") 285) (PySem.Value.bytes #[2] 284), PySem.DictEntry.mk (PySem.PyData.keyHash P (PySem.Str.ofString "InvalidNode")) (PySem.Value.str (PySem.Str.ofString "InvalidNode") 307) (PySem.Value.ref 88), PySem.DictEntry.mk (PySem.PyData.keyHash P (PySem.Str.ofString "ValidationError")) (PySem.Value.str (PySem.Str.ofString "ValidationError") 327) (PySem.Value.ref 101)] 21) #[]
def ob12v1 (_ : Params) : Obj := PySem.Obj.mk PySem.Value.none Option.none (PySem.Data.fields #[PySem.Value.int 2 0, PySem.Value.int 27 0, PySem.Value.ref 19, PySem.Value.int 13 0, PySem.Value.int 0 0, PySem.Value.ref 84, PySem.Value.int 15 0, PySem.Value.int 0 0, PySem.Value.ref 97]) #[]
def ob79 (_ : Params) : Obj := PySem.Obj.mk (PySem.Value.type "tuple") Option.none (PySem.Data.seq #[PySem.Value.type "Exception"]) #[]
def ob80 (_ : Params) : Obj := PySem.Obj.mk (PySem.Value.type "builtin_function_or_method") Option.none (PySem.Data.fields #[PySem.Value.builtin "type.__prepare__", PySem.Value.type "type"]) #[]
def ob81 (P : Params) : Obj := PySem.Obj.mk (PySem.Value.type "dict") Option.none (PySem.Data.dict #[PySem.DictEntry.mk (PySem.PyData.keyHash P (PySem.Str.ofString "__module__")) (PySem.Value.str (PySem.Str.ofString "__module__") 295) (PySem.Value.str (PySem.Str.ofString "trie.exceptions") 286), PySem.DictEntry.mk (PySem.PyData.keyHash P (PySem.Str.ofString "__qualname__")) (PySem.Value.str (PySem.Str.ofString "__qualname__") 297) (PySem.Value.str (PySem.Str.ofString "InvalidNode") 296), PySem.DictEntry.mk (PySem.PyData.keyHash P (PySem.Str.ofString "__firstlineno__")) (PySem.Value.str (PySem.Str.ofString "__firstlineno__") 299) (PySem.Value.int 13 298), PySem.DictEntry.mk (PySem.PyData.keyHash P (PySem.Str.ofString "__static_attributes__")) (PySem.Value.str (PySem.Str.ofString "__static_attributes__") 300) (PySem.Value.ref 86)] 4) #[]
def ob82 (_ : Params) : Obj := PySem.Obj.mk (PySem.Value.type "tuple") Option.none (PySem.Data.seq #[]) #[]
def ob83 (_ : Params) : Obj := PySem.Obj.mk PySem.Value.none Option.none (PySem.Data.fields #[]) #[]
def ob84 (_ : Params) : Obj := PySem.Obj.mk (PySem.Value.type "code") Option.none (PySem.Data.fields #[PySem.Value.str (PySem.Str.ofString "InvalidNode") 290, PySem.Value.str (PySem.Str.ofString "InvalidNode") 291, PySem.Value.str (PySem.Str.ofString "/claim/cut.py") 292, PySem.Value.int 13 0, PySem.Value.int 0 0, PySem.Value.int 0 0, PySem.Value.int 0 0, PySem.Value.int 0 0, PySem.Value.ref 82, PySem.Value.bool Bool.false, PySem.Value.int 181 0, PySem.Value.ref 83, PySem.Value.none, PySem.Value.none, PySem.Value.none, PySem.Value.none, PySem.Value.int 293 0, PySem.Value.int 13 0, PySem.Value.str (PySem.Str.ofString "/claim/cut.py") 294]) #[]
def ob85 (_ : Params) : Obj := PySem.Obj.mk (PySem.Value.type "frame") Option.none PySem.Data.plain #[Option.some (PySem.Value.ref 84), Option.some (PySem.Value.ref 3), Option.some (PySem.Value.ref 81), Option.none, Option.some (PySem.Value.str (PySem.Str.ofString "trie.exceptions") 286), Option.none, Option.some (PySem.Value.ref 0)]
def ob86 (_ : Params) : Obj := PySem.Obj.mk (PySem.Value.type "tuple") Option.none (PySem.Data.seq #[]) #[]
def ob87 (P : Params) : Obj := PySem.Obj.mk (PySem.Value.type "dict") Option.none (PySem.Data.dict #[PySem.DictEntry.mk (PySem.PyData.keyHash P (PySem.Str.ofString "__module__")) (PySem.Value.str (PySem.Str.ofString "__module__") 295) (PySem.Value.str (PySem.Str.ofString "trie.exceptions") 286), PySem.DictEntry.mk (PySem.PyData.keyHash P (PySem.Str.ofString "__firstlineno__")) (PySem.Value.str (PySem.Str.ofString "__firstlineno__") 299) (PySem.Value.int 13 298), PySem.DictEntry.mk (PySem.PyData.keyHash P (PySem.Str.ofString "__static_attributes__")) (PySem.Value.str (PySem.Str.ofString "__static_attributes__") 300) (PySem.Value.ref 86), PySem.DictEntry.mk (PySem.PyData.keyHash P (PySem.Str.ofString "__weakref__")) (PySem.Value.str (PySem.Str.ofString "__weakref__") 302) (PySem.Value.ref 89), PySem.DictEntry.mk (PySem.PyData.keyHash P (PySem.Str.ofString "__doc__")) (PySem.Value.str (PySem.Str.ofString "__doc__") 303) PySem.Value.none] 3) #[]
def ob88 (_ : Params) : Obj := PySem.Obj.mk (PySem.Value.type "type") Option.none (PySem.Data.cls (PySem.ClassData.mk (PySem.Str.ofString "InvalidNode") [PySem.Value.type "Exception"] [PySem.Value.ref 88, PySem.Value.type "Exception", PySem.Value.type "BaseException", PySem.Value.type "object"] 87 (PySem.Str.ofString "InvalidNode") Bool.true [] [] Bool.false Option.none Bool.false)) #[Option.some (PySem.Value.ref 79), Option.none, Option.some (PySem.Value.str (PySem.Str.ofString "InvalidNode") 288), Option.some (PySem.Value.str (PySem.Str.ofString "InvalidNode") 296), Option.some (PySem.Value.builtin "Exception.__new__"), Option.some (PySem.Value.bool Bool.true)]
def ob89 (_ : Params) : Obj := PySem.Obj.mk (PySem.Value.type "getset_descriptor") Option.none (PySem.Data.fields #[PySem.Value.str (PySem.Str.ofString "__weakref__") 301, PySem.Value.ref 88, PySem.Value.builtin "ExceptionGroup.__weakref__", PySem.Value.none]) #[]
def ob90 (_ : Params) : Obj := PySem.Obj.mk (PySem.Value.type "super") Option.none (PySem.Data.fields #[PySem.Value.ref 88, PySem.Value.ref 88, PySem.Value.ref 88]) #[]
def ob91 (_ : Params) : Obj := PySem.Obj.mk (PySem.Value.type "builtin_function_or_method") Option.none (PySem.Data.fields #[PySem.Value.builtin "object.__init_subclass__", PySem.Value.ref 88]) #[]
def ob92 (_ : Params) : Obj := PySem.Obj.mk (PySem.Value.type "tuple") Option.none (PySem.Data.seq #[PySem.Value.type "Exception"]) #[]
def ob93 (_ : Params) : Obj := PySem.Obj.mk (PySem.Value.type "builtin_function_or_method") Option.none (PySem.Data.fields #[PySem.Value.builtin "type.__prepare__", PySem.Value.type "type"]) #[]
def ob94 (P : Params) : Obj := PySem.Obj.mk (PySem.Value.type "dict") Option.none (PySem.Data.dict #[PySem.DictEntry.mk (PySem.PyData.keyHash P (PySem.Str.ofString "__module__")) (PySem.Value.str (PySem.Str.ofString "__module__") 315) (PySem.Value.str (PySem.Str.ofString "trie.exceptions") 286), PySem.DictEntry.mk (PySem.PyData.keyHash P (PySem.Str.ofString "__qualname__")) (PySem.Value.str (PySem.Str.ofString "__qualname__") 317) (PySem.Value.str (PySem.Str.ofString "ValidationError") 316), PySem.DictEntry.mk (PySem.PyData.keyHash P (PySem.Str.ofString "__firstlineno__")) (PySem.Value.str (PySem.Str.ofString "__firstlineno__") 319) (PySem.Value.int 15 318), PySem.DictEntry.mk (PySem.PyData.keyHash P (PySem.Str.ofString "__static_attributes__")) (PySem.Value.str (PySem.Str.ofString "__static_attributes__") 320) (PySem.Value.ref 99)] 4) #[]
def ob95 (_ : Params) : Obj := PySem.Obj.mk (PySem.Value.type "tuple") Option.none (PySem.Data.seq #[]) #[]
def ob96 (_ : Params) : Obj := PySem.Obj.mk PySem.Value.none Option.none (PySem.Data.fields #[]) #[]
def ob97 (_ : Params) : Obj := PySem.Obj.mk (PySem.Value.type "code") Option.none (PySem.Data.fields #[PySem.Value.str (PySem.Str.ofString "ValidationError") 310, PySem.Value.str (PySem.Str.ofString "ValidationError") 311, PySem.Value.str (PySem.Str.ofString "/claim/cut.py") 312, PySem.Value.int 15 0, PySem.Value.int 0 0, PySem.Value.int 0 0, PySem.Value.int 0 0, PySem.Value.int 0 0, PySem.Value.ref 95, PySem.Value.bool Bool.false, PySem.Value.int 181 0, PySem.Value.ref 96, PySem.Value.none, PySem.Value.none, PySem.Value.none, PySem.Value.none, PySem.Value.int 313 0, PySem.Value.int 15 0, PySem.Value.str (PySem.Str.ofString "/claim/cut.py") 314]) #[]
def ob98 (_ : Params) : Obj := PySem.Obj.mk (PySem.Value.type "frame") Option.none PySem.Data.plain #[Option.some (PySem.Value.ref 97), Option.some (PySem.Value.ref 3), Option.some (PySem.Value.ref 94), Option.none, Option.some (PySem.Value.str (PySem.Str.ofString "trie.exceptions") 286), Option.none, Option.some (PySem.Value.ref 0)]
def ob99 (_ : Params) : Obj := PySem.Obj.mk (PySem.Value.type "tuple") Option.none (PySem.Data.seq #[]) #[]
def ob100 (P : Params) : Obj := PySem.Obj.mk (PySem.Value.type "dict") Option.none (PySem.Data.dict #[PySem.DictEntry.mk (PySem.PyData.keyHash P (PySem.Str.ofString "__module__")) (PySem.Value.str (PySem.Str.ofString "__module__") 315) (PySem.Value.str (PySem.Str.ofString "trie.exceptions") 286), PySem.DictEntry.mk (PySem.PyData.keyHash P (PySem.Str.ofString "__firstlineno__")) (PySem.Value.str (PySem.Str.ofString "__firstlineno__") 319) (PySem.Value.int 15 318), PySem.DictEntry.mk (PySem.PyData.keyHash P (PySem.Str.ofString "__static_attributes__")) (PySem.Value.str (PySem.Str.ofString "__static_attributes__") 320) (PySem.Value.ref 99), PySem.DictEntry.mk (PySem.PyData.keyHash P (PySem.Str.ofString "__weakref__")) (PySem.Value.str (PySem.Str.ofString "__weakref__") 322) (PySem.Value.ref 102), PySem.DictEntry.mk (PySem.PyData.keyHash P (PySem.Str.ofString "__doc__")) (PySem.Value.str (PySem.Str.ofString "__doc__") 323) PySem.Value.none] 3) #[]
def ob101 (_ : Params) : Obj := PySem.Obj.mk (PySem.Value.type "type") Option.none (PySem.Data.cls (PySem.ClassData.mk (PySem.Str.ofString "ValidationError") [PySem.Value.type "Exception"] [PySem.Value.ref 101, PySem.Value.type "Exception", PySem.Value.type "BaseException", PySem.Value.type "object"] 100 (PySem.Str.ofString "ValidationError") Bool.true [] [] Bool.false Option.none Bool.false)) #[Option.some (PySem.Value.ref 92), Option.none, Option.some (PySem.Value.str (PySem.Str.ofString "ValidationError") 308), Option.some (PySem.Value.str (PySem.Str.ofString "ValidationError") 316), Option.some (PySem.Value.builtin "Exception.__new__"), Option.some (PySem.Value.bool Bool.true)]
def ob102 (_ : Params) : Obj := PySem.Obj.mk (PySem.Value.type "getset_descriptor") Option.none (PySem.Data.fields #[PySem.Value.str (PySem.Str.ofString "__weakref__") 321, PySem.Value.ref 101, PySem.Value.builtin "ExceptionGroup.__weakref__", PySem.Value.none]) #[]
def ob103 (_ : Params) : Obj := PySem.Obj.mk (PySem.Value.type "super") Option.none (PySem.Data.fields #[PySem.Value.ref 101, PySem.Value.ref 101, PySem.Value.ref 101]) #[]
def ob104 (_ : Params) : Obj := PySem.Obj.mk (PySem.Value.type "builtin_function_or_method") Option.none (PySem.Data.fields #[PySem.Value.builtin "object.__init_subclass__", PySem.Value.ref 101]) #[]
noncomputable def heapC0 (P : Params) : Heap := ⟨Array.mk [boot_o_0 P, boot_o_1 P, boot_o_2 P, ob3 P, boot_o_4 P, boot_o_5 P, boot_o_6 P, boot_o_7 P, boot_o_8 P, boot_o_9 P, boot_o_10 P, ob11 P, ob12 P, ob13 P, ob14 P, ob15 P, ob16 P, ob17 P, ob18 P, ob19 P, ob20 P, ob21 P, ob22 P, ob23 P, ob24 P, ob25 P, ob26 P, ob27 P, ob28 P, ob29 P, ob30 P, ob31 P, ob32 P], PySem.Life.mk [] [] [] 0 [] [] Bool.false #[] [] 0 Bool.false Bool.false Bool.false 0 [2000, 10, 10] Bool.false 0 Bool.true [] [] 0 Bool.false⟩
noncomputable def stC0 (w : World) (os : OsState) : Shared := ⟨heapC0 w.params, Array.mk [GenState.finished], PySem.Drawn.mk 0 0 0 0, 246, os⟩
def posC0 : Pos := PySem.Pos.mk 2 0 2 3
noncomputable def heapC1 (P : Params) : Heap := ⟨Array.mk [boot_o_0 P, boot_o_1 P, boot_o_2 P, ob3v1 P, boot_o_4 P, boot_o_5 P, boot_o_6 P, boot_o_7 P, boot_o_8 P, boot_o_9 P, boot_o_10 P, ob11 P, ob12 P, ob13 P, ob14 P, ob15 P, ob16 P, ob17 P, ob18 P, ob19 P, ob20 P, ob21 P, ob22 P, ob23 P, ob24 P, ob25 P, ob26 P, ob27 P, ob28 P, ob29 P, ob30 P, ob31 P, ob32 P, ob33 P, ob34 P, ob35 P, ob36 P, ob37 P, ob38 P, ob39 P, ob40 P, ob41 P, ob42 P, ob43 P, ob44 P, ob45 P, ob46 P, ob47 P, ob48 P, ob49 P, ob50 P, ob51 P, ob52 P, ob53 P, ob54 P, ob55 P, ob56 P, ob57 P, ob58 P, ob59 P, ob60 P, ob61 P, ob62 P, ob63 P, ob64 P, ob65 P, ob66 P, ob67 P, ob68 P, ob69 P, ob70 P, ob71 P, ob72 P, ob73 P, ob74 P, ob75 P, ob76 P, ob77 P, ob78 P], PySem.Life.mk [] [] [] 0 [] [] Bool.false #[] [] 0 Bool.false Bool.false Bool.false 0 [2000, 10, 10] Bool.false 0 Bool.true [] [] 0 Bool.false⟩
noncomputable def stC1 (w : World) (os : OsState) : Shared := ⟨heapC1 w.params, Array.mk [GenState.finished], PySem.Drawn.mk 0 0 0 0, 286, os⟩
def posC1 : Pos := PySem.Pos.mk 11 0 11 16
noncomputable def heapC2 (P : Params) : Heap := ⟨Array.mk [boot_o_0 P, boot_o_1 P, ob2 P, ob3v2 P, boot_o_4 P, boot_o_5 P, boot_o_6 P, boot_o_7 P, boot_o_8 P, boot_o_9 P, boot_o_10 P, ob11 P, ob12v1 P, ob13 P, ob14 P, ob15 P, ob16 P, ob17 P, ob18 P, ob19 P, ob20 P, ob21 P, ob22 P, ob23 P, ob24 P, ob25 P, ob26 P, ob27 P, ob28 P, ob29 P, ob30 P, ob31 P, ob32 P, ob33 P, ob34 P, ob35 P, ob36 P, ob37 P, ob38 P, ob39 P, ob40 P, ob41 P, ob42 P, ob43 P, ob44 P, ob45 P, ob46 P, ob47 P, ob48 P, ob49 P, ob50 P, ob51 P, ob52 P, ob53 P, ob54 P, ob55 P, ob56 P, ob57 P, ob58 P, ob59 P, ob60 P, ob61 P, ob62 P, ob63 P, ob64 P, ob65 P, ob66 P, ob67 P, ob68 P, ob69 P, ob70 P, ob71 P, ob72 P, ob73 P, ob74 P, ob75 P, ob76 P, ob77 P, ob78 P, ob79 P, ob80 P, ob81 P, ob82 P, ob83 P, ob84 P, ob85 P, ob86 P, ob87 P, ob88 P, ob89 P, ob90 P, ob91 P, ob92 P, ob93 P, ob94 P, ob95 P, ob96 P, ob97 P, ob98 P, ob99 P, ob100 P, ob101 P, ob102 P, ob103 P, ob104 P], PySem.Life.mk [] [] [] 0 [] [] Bool.false #[] [] 0 Bool.false Bool.false Bool.false 0 [2000, 10, 10] Bool.false 0 Bool.true [] [] 0 Bool.false⟩
noncomputable def stC2 (w : World) (os : OsState) : Shared := ⟨heapC2 w.params, Array.mk [GenState.finished], PySem.Drawn.mk 0 0 0 0, 328, os⟩
def posC2 : Pos := PySem.Pos.mk 15 0 16 8
/-- where the text begins -/
noncomputable def stA (w : World) (os : OsState) : Shared := match topGo treeTable PG w 11 annV 12 (bootS w os) (topStub PG) with
  | some (s, _) => s
  | none => bootS w os
theorem t_size (w : World) : ((boot_heap w.params).isNs mainGlobals && (Array.mk ([] : List GenState)).size == 0, (boot_heap w.params).objs.size, (boot_heap w.params).nsMap mainGlobals "__annotations__") = (true, 11, annV) := by kernel_rfl
theorem t_pre (w : World) (os : OsState) : topGo treeTable PG w 11 annV 12 (bootS w os) (topStub PG) = some (stA w os, ⟨denote treeTable codeM, codeM, pos0, [topFrame pos0]⟩) := by kernel_rfl
theorem t_block (w : World) (os : OsState) : segRun treeTable PG w 11 annV 1 1 (stA w os) (blockOf body0 envM codeM pos0 [topFrame pos0]) = some (.next, stA w os, codeM, pos0) := by kernel_rfl
abbrev Cut0 (w : World) : Prop := ∀ os, segRun treeTable PG w 11 annV 1 1500 (stA w os) (piecesOf (body0.take 2) envM codeM pos0 [topFrame pos0]) = some (.next, stC0 w os, codeM, posC0)
theorem cut0FF (w : World) : Cut0 ((w.withFollow "special-get-raises" false).withFollow "comprehension-iter-twice" false) := fun os => by kernel_rfl
theorem cut0FT (w : World) : Cut0 ((w.withFollow "special-get-raises" true).withFollow "comprehension-iter-twice" false) := fun os => by kernel_rfl
theorem cut0TF (w : World) : Cut0 ((w.withFollow "special-get-raises" false).withFollow "comprehension-iter-twice" true) := fun os => by kernel_rfl
theorem cut0TT (w : World) : Cut0 ((w.withFollow "special-get-raises" true).withFollow "comprehension-iter-twice" true) := fun os => by kernel_rfl
theorem cut0 (w : World) : Cut0 w :=
  byRow2 "comprehension-iter-twice" (P := Cut0) (byRow2 "special-get-raises" (P := fun w => Cut0 (w.withFollow "comprehension-iter-twice" false)) cut0FF cut0FT) (byRow2 "special-get-raises" (P := fun w => Cut0 (w.withFollow "comprehension-iter-twice" true)) cut0TF cut0TT) w
abbrev Cut1 (w : World) : Prop := ∀ os, segRun treeTable PG w 11 annV 1 1500 (stC0 w os) (piecesOf (body1.take 9) envM codeM posC0 [topFrame pos0]) = some (.next, stC1 w os, codeM, posC1)
theorem cut1F (w : World) : Cut1 (w.withFollow "special-get-raises" false) := fun os => by kernel_rfl
theorem cut1T (w : World) : Cut1 (w.withFollow "special-get-raises" true) := fun os => by kernel_rfl
theorem cut1 (w : World) : Cut1 w := byRow2 "special-get-raises" (P := Cut1) cut1F cut1T w
abbrev Cut2 (w : World) : Prop := ∀ os, segRun treeTable PG w 11 annV 1 1500 (stC1 w os) (piecesOf (body2.take 3) envM codeM posC1 [topFrame pos0]) = some (.next, stC2 w os, codeM, posC2)
theorem cut2 (w : World) : Cut2 w := fun os => by kernel_rfl
noncomputable def endOk (w : World) (s₁ : Shared) : Option Shared := match staticsOk (importedModules PG.main.body) (boot_heap w.params) s₁.heap && namesBound PG s₁.heap && gensDone s₁ && laidKept (boot_heap w.params) s₁.heap with
  | true => some s₁
  | false => none
theorem t_rest (w : World) (os : OsState) : ((topRun treeTable PG w 11 annV 1000 (stC2 w os) (restOf body3 envM codeM posC2 [topFrame pos0])).bind (endOk w)).map seenOf = some (openGood qv looseN, Hk.val w) := by kernel_rfl
theorem top_all (w : World) : TopOk w := fun os => by
  obtain ⟨z1, z2, z3⟩ : _ ∧ _ ∧ _ := by simpa only [Prod.mk.injEq] using t_size w
  have hr := t_rest w os
  obtain ⟨r2, h2, e2⟩ := Option.map_eq_some_iff.mp hr
  obtain ⟨r, h3, e3⟩ := Option.bind_eq_some_iff.mp h2
  have k0 := piece_app (cut2 w os) h3
  unfold body3 at k0
  rw [List.take_append_drop] at k0
  have k0 := piece_app (cut1 w os) k0
  unfold body2 at k0
  rw [List.take_append_drop] at k0
  have k0 := piece_app (cut0 w os) k0
  unfold body1 at k0
  rw [List.take_append_drop] at k0
  have k2 := piece_block (t_block w os) k0
  have k3 := go_top (t_pre w os) k2
  have k4 := topRun_mono (5588 - (12 + (1 + (1500 + (1500 + (1500 + 1000)))))) _ _ _ _ k3
  unfold topFrom
  dsimp only
  rw [z1, z2, z3]
  show ((topRun treeTable PG w 11 annV 5588 (bootS w os) (topStub PG)).bind (endOk w)).map seenOf = _
  rw [show topRun treeTable PG w 11 annV 5588 (bootS w os) (topStub PG) = some r from k4]
  show ((endOk w r)).map seenOf = _
  rw [e3]
  exact congrArg some e2
end Mine
end
section
open PySem PySem.W PySem.Calls PyProof.Rows
set_option maxHeartbeats 8000000
namespace Mine
theorem mk_of {b : Array UInt8} {ks : List Int} (h : KBw.bInts b = ks) : b = byteArr ks := by
  subst h
  unfold byteArr KBw.bInts
  rw [List.map_map]
  have e : ((fun k : Int => k.toNat.toUInt8) ∘ fun c : UInt8 => (c.toNat : Int)) = id := by
    funext c
    show ((c.toNat : Int).toNat).toUInt8 = c
    rw [Int.toNat_natCast]
    exact UInt8.ofNat_toNat
  rw [e, List.map_id, Array.toArray_toList]
theorem in_of {b : Array UInt8} {ks : List Int} (h : KBw.bInts b = ks) : KBa.In ks := fun _ q => KBw.ints_in (h ▸ q)

/-- a def told once: its arguments, its answer, the frames' room that it wants -/
abbrev Cl (w : World) (D : Nat) (f : Addr) (vs : List Value) (R : Tok → Value) : Prop :=
  ∀ (p : Program) (loose : List Str) (mean : ExcName → Option Value) (mg mb : Str → Option Value) (news : List (Addr × Obj)) (dp un : Nat) (gd : Option (List Code)) (cn : Str) (cs : Scope) (a : Addr) (ccd : Value) (cl : List (Str × Addr)) (outer : List Env) (A₀ : Around) (base h₀ : Heap) (L : Addr) (m : Str → Option Value) (s : Shared) (Q E : Value → Shared → Prop),
    Below A₀ base outer h₀ → Fr h₀ L s.heap m → (hd.heap_1 w.params).In h₀ → News h₀ L s.heap news → Top p loose mean mg mb h₀ → cs.kind = .function → dp + D < recursionLimit → un + 8 * D < cLine →
    CbRet h₀ L m news s Q R → wpAny (model PG w) (ktrTop dp un gd cn cs L a ccd cl outer) (call (.ref f) vs) Q E s
theorem Cl.use {w : World} {D : Nat} {f : Addr} {vs : List Value} {R : Tok → Value} (C : Cl w D f vs R) {p : Program} {loose : List Str} {mean : ExcName → Option Value} {mg mb : Str → Option Value} {news : List (Addr × Obj)} {dp un : Nat} {gd : Option (List Code)} {cn : Str} {cs : Scope} {a : Addr} {ccd : Value} {cl : List (Str × Addr)} {outer : List Env} {A₀ : Around} {base h₀ : Heap} {L : Addr} {m : Str → Option Value} {s : Shared} {Q E : Value → Shared → Prop}
    (B : Below A₀ base outer h₀) (F : Fr h₀ L s.heap m) (X : (hd.heap_1 w.params).In h₀) (N : News h₀ L s.heap news) (T : Top p loose mean mg mb h₀) (hk : cs.kind = .function) (hd : dp + D < recursionLimit) (hu : un + 8 * D < cLine)
    (hR : CbRet h₀ L m news s Q R) : wpAny (model PG w) (ktrTop dp un gd cn cs L a ccd cl outer) (call (.ref f) vs) Q E s := C _ _ _ _ _ _ _ _ _ _ _ _ _ _ _ _ _ _ _ _ _ _ _ B F X N T hk hd hu hR
def num (ks : List Int) : Int := ks.foldl (fun n b => n * 2 + b) 0
theorem num_snoc (ks : List Int) (k : Int) : num (ks ++ [k]) = num ks * 2 + k := by
  unfold num
  rw [List.foldl_append]
  rfl
end Mine
end
section
open PySem PySem.W PySem.Calls PyProof.Rows
set_option maxHeartbeats 8000000
namespace Mine
/-- a def that only the law calls -/
abbrev ClL (w : World) (D : Nat) (f : Addr) (vs : List Value) (R : Tok → Value) : Prop :=
  ∀ (p : Program) (loose : List Str) (mean : ExcName → Option Value) (mg mb : Str → Option Value) (news : List (Addr × Obj)) (dp un : Nat) (gd : Option (List Code)) (cn : Str) (cs : Scope) (a : Addr) (ccd : Value) (cl : List (Str × Addr)) (h₀ : Heap) (L : Addr) (m : Str → Option Value) (s : Shared) (Q E : Value → Shared → Prop),
    Below callerA h₀ [] h₀ → Fr h₀ L s.heap m → (hd.heap_1 w.params).In h₀ → News h₀ L s.heap news → Top p loose mean mg mb h₀ → cs.kind = .function → dp + D < recursionLimit → un + 8 * D < cLine →
    CbRet h₀ L m news s Q R → wpAny (model PG w) (ktrTop dp un gd cn cs L a ccd cl []) (call (.ref f) vs) Q E s
end Mine
end
section
open PySem PySem.W PySem.Calls PySem.Spec PyProof.Rows
set_option maxRecDepth 1000000
set_option maxHeartbeats 8000000
namespace Mine
theorem int_no_bytes : typeLookup (.type "int") "__bytes__" = pure none := by rw [typeLookup_type, builtinLookup_eq_fast]; kernel_rfl
section
variable {prog : Program} {w : World} {A : Around} {E : Value → Shared → Prop} {s : Shared}
theorem bytesInt_new {n : Int} (hn : 0 ≤ n ∧ n < 4) {t₀ : Tok} {Q : Value → Shared → Prop} (hQ : ∀ t k', Q (.bytes (byteArr (List.replicate n.toNat 0)) t) { s with toks := k' }) :
    codeAny (model prog w) A (.call (.builtin "bytes.__new__") ⟨[.type "bytes", .int n t₀], []⟩) (wants Q E) s := by
  refine codeAny_of_tree ?_
  show wpAny _ A.in1 (do checkBuiltinCall "bytes.__new__" ⟨[.type "bytes", .int n t₀], []⟩; again (.builtin "bytes.__new__" ⟨[.type "bytes", .int n t₀], []⟩)) _ _ s
  refine wpAny_bind (wpAny_of_eq (F.bm_newCall _) (wpAny_pure ⟨plainId_quiet F.bm_plain _, codeAny_builtin F.bm_entry ?_⟩))
  rw [Around.under_plainId F.bm_plain _]
  have hT : s.TypeIs (.int n t₀) "int" := PySem.typeIs_int _ _ _
  unfold Builtin.«bytes.__new__»
  refine wpAny_bind (wpAny_of_eq (a := true) rfl ?_)
  refine bm_if_false rfl ?_
  refine wpAny_bind (wpAny_of_eq F.bm_sub ?_)
  refine bm_if_false rfl ?_
  refine wpAny_bind (wpAny_of_eq (F.bm_bind _) ?_)
  refine wpAny_bind (wpAny_of_eq (a := ()) rfl ?_)
  refine wpAny_bind (wpAny_of_eq (a := ()) rfl ?_)
  refine bm_if_false rfl ?_
  refine wpAny_bind (wpAny_specialOf hT int_no_bytes ?_)
  refine wpAny_bind (wpAny_bind ?_)
  refine wpAny_pure (wpAny_pure ?_)
  refine bm_if_false rfl ?_
  refine wpAny_bind (wpAny_specialOf hT int_index ?_)
  refine bm_if_false rfl ?_
  unfold asIndex
  refine wpAny_bind (wpAny_attempt (wpAny_bind (wpAny_of_eq (a := some n) rfl (wpAny_pure ?_))))
  dsimp only
  have h1 : Builtin.Bytes.fitsIndex n = true := by unfold Builtin.Bytes.fitsIndex; simp; omega
  have h2 : Builtin.Bytes.tooLong n.toNat = false := by unfold Builtin.Bytes.tooLong; simp [sizeLine_eq]; omega
  refine bm_if_false (by rw [h1]; rfl) ?_
  rw [if_neg (by omega), if_neg (by omega)]
  refine bm_if_false h2 ?_
  refine wpAny_bind (wpAny_rule (wpAny_bind (wpAny_mkBytes ?_ (by simp [sizeLine_eq]; omega))))
  have e : byteArr (List.replicate n.toNat 0) = Array.replicate n.toNat 0 := by unfold byteArr; simp
  rw [← e]
  refine (show wpAny _ _ (if (Value.type "bytes" == .type "bytes") = true then _ else _) _ _ _ from bm_if_true (by decide) ?_)
  exact wpAny_pure (hQ _ _)
theorem call_bytesInt {n : Int} {t₀ : Tok} {Q : Value → Shared → Prop} (hn : 0 ≤ n ∧ n < 4) (hQ : ∀ t k', Q (.bytes (byteArr (List.replicate n.toNat 0)) t) { s with toks := k' }) : wpAny (model prog w) A (call (.type "bytes") [.int n t₀]) Q E s := by
  refine callType_codes (Q₁ := fun obj s₁ => s₁.TypeIs obj "bytes" ∧ Q obj s₁) F.bm_called (F.bm_typeCall _) F.entry_object_init
    (bytesInt_new hn fun t k => ⟨PySem.W.typeIs_bytes _ _ _, hQ t k⟩) fun obj s₁ h₁ => ?_
  exact ⟨h₁.1, F.args_object_init_2 obj _, object_init_meets F.bm_called.init.lookup F.bm_called.made (by decide) prog w A.in1 _ s₁ ⟨h₁.1, rfl, h₁.2⟩⟩
end
end Mine
end
section
open PySem PySem.W PySem.Calls PySem.Spec PyProof.Rows
set_option maxHeartbeats 1000000
namespace Mine
theorem item_abs {prog : Program} {w : World} {A : Around} {E : Value → Shared → Prop} {s : Shared} {h₀ : Heap} {L D : Addr} {news : List (Addr × Obj)} {vs : List Value} {ns : List Int} {c : Nat} {k lo hi : Int} {t : Tok} {e₁ e₂ : Expr} {Q : Value → Shared → Prop} (N : News h₀ L s.heap news) (hm : (D, listOf vs.toArray c) ∈ news) (hv : IntsAre vs ns) (h0 : 0 ≤ k) (hk : k < ns.length) (h63 : k < 2 ^ 63)
    (hb : ∀ n ∈ ns, lo ≤ n ∧ n ≤ hi) (h : ∀ n t, lo ≤ n → n ≤ hi → Q (.int n t) s) (hs : subscripted e₂ false (.ref D) (.int k t) = operate [.ref D, .int k t] (getItem (.ref D) (.int k t))) : wpAny (model prog w) A (subscriptTail e₁ e₂ (.ref D) (.int k t)) Q E s := by
  obtain ⟨n, hn⟩ : ∃ n, ns[k.toNat]? = some n := ⟨ns[k.toNat]'(by omega), List.getElem?_eq_getElem (by omega)⟩
  obtain ⟨u, hx⟩ := hv.get _ n hn
  have hbn := hb n (List.mem_of_getElem? hn)
  exact kba_turn (value' := Expr.Name (Str.ofString "_") ⟨0, 0, 0, 0⟩) (fun _ => rfl) (kim_list N hm rfl rfl h0 h63 hx (h n u hbn.1 hbn.2) hs fun _ => rfl)
abbrev ClO (w : World) (D : Nat) (f : Addr) (vs : List Value) (lst : Addr) (its : Array Value) : Prop :=
  ∀ (p : Program) (loose : List Str) (mean : ExcName → Option Value) (mg mb : Str → Option Value) (e₁ e₂ : Addr) (o₁ o₂ : Obj) (dp un : Nat) (gd : Option (List Code)) (cn : Str) (cs : Scope) (a : Addr) (ccd : Value) (cl : List (Str × Addr)) (h₀ : Heap) (L : Addr) (m : Str → Option Value) (s : Shared) (Q E : Value → Shared → Prop),
    Below callerA h₀ [] h₀ → Fr h₀ L s.heap m → (hd.heap_1 w.params).In h₀ → News h₀ L s.heap [(e₁, o₁), (e₂, o₂)] → Top p loose mean mg mb h₀ → cs.kind = .function → dp + D < recursionLimit → un + 8 * D < cLine → h₀.IsList lst its →
    (∀ (o : List Int) (t : Tok) (h' : Heap) (tk' : Nat), KBa.In o → o.length ≤ 100 → Fr h₀ L h' m → News h₀ L h' [(e₁, o₁), (e₂, o₂)] → Q (.bytes (byteArr o) t) { s with heap := h', toks := tk' }) → wpAny (model PG w) (ktrTop dp un gd cn cs L a ccd cl []) (call (.ref f) vs) Q E s
theorem mod_bounds {a k hi : Int} (hk : 0 < k) (hh : k ≤ hi + 1) : 0 ≤ a.fmod k ∧ a.fmod k ≤ hi := by
  have h1 := Int.fmod_nonneg_of_pos a hk
  have h2 := Int.fmod_lt_of_pos a hk
  omega
theorem make_any {prog : Program} {w : World} {A : Around} {E : Value → Shared → Prop} {s : Shared} {h₀ : Heap} {L D : Addr} {m : Str → Option Value} {news : List (Addr × Obj)} {vs : List Value} {ns : List Int} {Q : Value → Shared → Prop} (F : Fr h₀ L s.heap m) (N : News h₀ L s.heap news) (hh : A.handled = none) (hl : s.heap.IsList D vs.toArray) (hi : IntsAre vs ns) (hin : KBa.In ns) (hn : ns.length ≤ 1000)
    (h : ∀ (r : List Int) h' t' k, KBa.In r → r.length ≤ 1000 → r.length = ns.length → Fr h₀ L h' m → News h₀ L h' news → Q (.bytes (byteArr r) t') { s with heap := h', toks := k }) : wpAny (model prog w) A (call (.type "bytes") [.ref D]) Q E s :=
  KBa.make_K F N hh hl hi hin (by omega) fun h' t' k F' N' _ => h ns h' t' k hin hn rfl F' N'
theorem oct_in {n : Int} {f : Int → Int} {l : List Int} {k : Nat} (h0 : 0 ≤ n) (h1 : n ≤ 100) : KBa.In ([n] ++ (List.replicate k (List.drop 1 (l.map fun x => (f x).fmod 256))).flatten) := fun q hq => by
  rcases List.mem_append.mp hq with hq | hq
  · rw [List.mem_singleton.mp hq]; omega
  · obtain ⟨r, hr, hq⟩ := List.mem_flatten.mp hq
    rw [List.eq_of_mem_replicate hr] at hq
    obtain ⟨j, _, rfl⟩ := List.mem_map.mp (List.mem_of_mem_drop hq)
    exact ⟨Int.fmod_nonneg_of_pos _ (by decide), Int.fmod_lt_of_pos _ (by decide)⟩
theorem one_in {a : Int} : KBa.In [a.fmod 256] := fun q hq => by
  rw [List.mem_singleton.mp hq]
  exact ⟨Int.fmod_nonneg_of_pos _ (by decide), Int.fmod_lt_of_pos _ (by decide)⟩
theorem oct_len {n : Int} {f : Int → Int} {l : List Int} (h : l.length ≤ 63) : ([n] ++ (List.replicate (Int.toNat 2) (List.drop 1 ((List.take 63 l).map f))).flatten).length ≤ 1000 := by
  simp [List.length_flatten]
  omega
theorem mulN {prog : Program} {w : World} {A : Around} {E : Value → Shared → Prop} {s : Shared} {b : List UInt8} {n : Int} {t u : Tok} {Q : Value → Shared → Prop} (h1 : b.length = 1) (h2 : 2 ≤ n) (hn : n ≤ 1000) (h : ∀ (o : List Int) t' k, KBa.In o → o.length ≤ 1000 → Q (.bytes (byteArr o) t') { s with toks := k }) : wpAny (model prog w) A (binaryOp .Mult (.bytes b.toArray t) (.int n u)) Q E s := by
  have hne : b ≠ [] := fun q => by rw [q] at h1; cases h1
  refine bytes_mul_K hne h2 (by omega) (by rw [h1]; omega) rfl fun t' k => ?_
  generalize hd : (List.replicate n.toNat b).flatten = d
  have hl : d.length ≤ 1000 := by
    rw [← hd]
    simp [h1]
    omega
  have e := mk_of (b := d.toArray) (ks := KBw.bInts d.toArray) rfl
  have hin := in_of (b := d.toArray) (ks := KBw.bInts d.toArray) rfl
  have hlen : (KBw.bInts d.toArray).length ≤ 1000 := by rw [KBw.ints_length]; simpa using hl
  generalize KBw.bInts d.toArray = o at e hin hlen
  rw [e]
  exact h o t' k hin hlen
theorem mul70 {prog : Program} {w : World} {A : Around} {E : Value → Shared → Prop} {s : Shared} {r : List Int} {a : Int} {t u : Tok} {Q : Value → Shared → Prop} (hr : r.length = [a].length) (h : ∀ (o : List Int) t' k, KBa.In o → o.length ≤ 1000 → Q (.bytes (byteArr o) t') { s with toks := k }) : wpAny (model prog w) A (binaryOp .Mult (.bytes (byteArr r) t) (.int 70 u)) Q E s :=
  mulN (by rw [List.length_map]; exact hr) (by omega) (by omega) h
theorem mod_abs {prog : Program} {w : World} {A : Around} {E : Value → Shared → Prop} {s : Shared} {a k : Int} {t u : Tok} {Q : Value → Shared → Prop} (hk : 0 < k) (h : ∀ n t k', 0 ≤ n → n < k → Q (.int n t) { s with toks := k' }) : wpAny (model prog w) A (binaryOp .Mod (.int a t) (.int k u)) Q E s := by
  have hb := mod_bounds (a := a) (hi := k - 1) hk (by omega)
  have h0 : ¬ (k == 0) = true := by rw [beq_iff_eq]; omega
  exact AutoIntOps.mod_1 h0 (h _ _ _ hb.1 (by omega))
theorem cut_len {b : Array UInt8} {v : Int} (h0 : 0 ≤ v) (h1 : v ≤ 100) : (KBw.bInts (KBy.picked b none (some v))).length ≤ 100 := by
  rw [KBc.ints_picked rfl]
  simp only [Option.elim]
  rw [List.length_take]
  have : clipAt (KBw.bInts b).length v ≤ 100 := by unfold clipAt; omega
  omega
theorem getD_bounds {l : List Int} (h : ∀ x ∈ l, 0 ≤ x ∧ x ≤ 100) (i : Nat) : 0 ≤ l.getD i 0 ∧ l.getD i 0 ≤ 100 := by
  rw [List.getD_eq_getElem?_getD]
  cases e : l[i]? with
  | none => exact ⟨by decide, by decide⟩
  | some k => exact h k (List.mem_of_getElem? e)
theorem fin_oct {b : Array UInt8} {x : Int} {i : Nat} (h0 : 0 ≤ x) (h1 : x ≤ 100) : (KBw.bInts (KBy.picked b none (some ([x, 33, 34, 35, 36, 65, 64, 66, 1, 2].getD i 0)))).length ≤ 100 := by
  have hg := getD_bounds (l := [x, 33, 34, 35, 36, 65, 64, 66, 1, 2]) (by intro x hx; simp only [List.mem_cons, List.not_mem_nil, or_false] at hx; rcases hx with rfl | rfl | rfl | rfl | rfl | rfl | rfl | rfl | rfl | rfl <;> omega) i
  exact cut_len hg.1 hg.2
theorem fin_ret {h₀ h' : Heap} {L : Addr} {m : Str → Option Value} {news : List (Addr × Obj)} {s : Shared} {Q : Value → Shared → Prop} {B : Array UInt8} {t : Tok} {tk' : Nat}
    (hret : ∀ (o : List Int) (t : Tok) (h' : Heap) (tk' : Nat), KBa.In o → o.length ≤ 100 → Fr h₀ L h' m → News h₀ L h' news → Q (.bytes (byteArr o) t) { s with heap := h', toks := tk' })
    (F : Fr h₀ L h' m) (N : News h₀ L h' news) (hl : (KBw.bInts B).length ≤ 100) : Q (.bytes B t) { s with heap := h', toks := tk' } := by
  have e := mk_of (b := B) (ks := KBw.bInts B) rfl
  have hin := in_of (b := B) (ks := KBw.bInts B) rfl
  generalize KBw.bInts B = o at e hin hl
  subst e
  exact hret o t h' tk' hin hl F N
end Mine
end
section
open PySem PySem.W PySem.Calls PySem.Spec PyProof.Rows
set_option maxHeartbeats 2000000
namespace Mine
local macro_rules | `(tactic| walk_at "binaryOp Mult bytes int") => `(tactic| (k_here; (with_reducible show wpAny _ _ (binaryOp Operator.Mult (Value.bytes (byteArr _) _) (Value.int 70 _)) _ _ _); k_dflt (refine mul70 (by assumption) ?_); intro oR t9 k9 inR9 lR9))
local macro_rules | `(tactic| walk_at "call type:bytes") => `(tactic| (k_here; (with_reducible show wpAny _ _ (call (Value.type "bytes") [Value.ref _]) _ _ _); k_dflt (refine make_any (by k_asm) (by k_asm) rfl (by kba_isList) (by kba_listInts) (by first | exact oct_in (by assumption) (by assumption) | exact one_in | decide) (by first | exact oct_len (by assumption) | exact Nat.le_of_ble_eq_true rfl) ?_); intro rR h' t' k' inR lR eR F' N'))
local macro_rules | `(tactic| walk_at "binaryOp Mod int int") => `(tactic| (k_here; (with_reducible show wpAny _ _ (binaryOp Operator.Mod (Value.int _ _) (Value.int 10 _)) _ _ _); k_dflt (refine mod_abs (by decide) ?_); intro n9 t9 k9 lo9 hi9))
local macro_rules | `(tactic| walk_at "binaryOp Mod int int") => `(tactic| (k_here; (with_reducible show wpAny _ _ (binaryOp Operator.Mod (Value.int _ _) (Value.int 4 _)) _ _ _); k_dflt (refine mod_abs (by decide) ?_); intro n9 t9 k9 lo9 hi9))
local macro_rules | `(tactic| walk_at "binaryOp Mod int int") => `(tactic| (k_here; (with_reducible show wpAny _ _ (binaryOp Operator.Mod (Value.int _ _) (Value.int 3 _)) _ _ _); k_dflt (refine mod_abs (by decide) ?_); intro n9 t9 k9 lo9 hi9))
local macro_rules | `(tactic| walk_at "subscriptTail") => `(tactic| (k_here; (with_reducible show wpAny _ _ (subscriptTail (Expr.List _ _) _ (Value.ref _) (Value.int _ _)) _ _ _); k_dflt (refine item_abs (lo := 0) (hi := 100) (by k_asm) (by k_mem) (by repeat constructor) (by assumption) (by assumption) (by omega) (by intro n hn; simp only [List.mem_cons, List.not_mem_nil, or_false] at hn; rcases hn with rfl | rfl | rfl | rfl | rfl | rfl | rfl | rfl | rfl | rfl <;> omega) ?_ (by with_unfolding_all rfl)); intro n9 t9 lo9 hi9))
theorem c_octets (w : World) (l : Addr) (vs : List Value) (ns : List Int) (hi : IntsAre vs ns) (hn : ns.length ≤ 63) : ClO w 1 240 [.ref l] l vs.toArray := by
  intro p loose mean mg mb e₁ e₂ o₁ o₂ dp un gd cn cs a ccd cl h₀ L m s Q E B F X N T hk hd hu hl hret
  refine wpAny_call ?_
  k_dflt cell_enter
  rename Fr h₀ _ _ _ => fg
  have hl2 := hl.at (fun o e => fg.keep _ _ e)
  k_steps
  all_goals exact fin_ret hret (by k_asm) (by first | k_asm | (refine' cb_drop ?cbN ?cbS; (case cbN => assumption); (case cbS => kcj_all))) (fin_oct (by omega) (by simp only [List.length_map, List.length_take]; omega))
end Mine
end
section
open PySem PySem.W PySem.Calls PySem.Spec PyProof.Rows
set_option maxHeartbeats 8000000
namespace Mine
section
variable {prog : Program} {w : World} {A : Around} {E : Value → Shared → Prop} {s : Shared} {env : Env} {h₀ : Heap} {x : Str} {body : List Stmt} {Q : Flow → Shared → Prop}
/-- a for over a tuple that stood before the call -/
theorem loop_tup {σ : Type} {tp : Addr} {lo : Obj} {vs : List Value} {ns : List Int} {nn : Nat} {m₀ : Str → Option Value} (Led : σ → List (Addr × Obj)) (ps : σ → List (Str × Value)) (Facts : σ → Prop) (stored : List Str) (P : List Int → σ → Prop) (c₀ : σ)
    (hh : A.handled = none) (ho : h₀.get? tp = some lo) (hc : lo.cls = .type "tuple") (hd : lo.data = .seq vs.toArray nn) (hi : IntsAre vs ns) (F : Fr h₀ env.locals s.heap m₀) (N : News h₀ env.locals s.heap (Led c₀)) (hf : Facts c₀) (hk : ∀ p ∈ ps c₀, m₀ p.1 = some p.2) (hp : P [] c₀)
    (turn : ∀ (c : σ) (pre post : List Int) (n : Int) t (u : Str → Option Value) h tk own, ns = pre ++ n :: post → OwnOff own ((Led c₀).map (·.1)) → Facts c → P pre c →
      Fr h₀ env.locals h (fun y => if y = x then some (.int n t) else kstB (fun z => if stored.contains z then u z else m₀ z) (ps c) y) → News h₀ env.locals h (Led c ++ own) →
      wpAny (model prog w) A (execs body env) (InvPostN h₀ env.locals (KstS Led ps Facts x stored m₀ P (pre ++ [n])) own ((Led c₀).map (·.1)) { s with heap := h, toks := tk } Q) E { s with heap := h, toks := tk })
    (done : ∀ (c : σ) (u : Str → Option Value) h tk, Facts c → P ns c → Fr h₀ env.locals h (fun y => if y = x then u y else kstB (fun z => if stored.contains z then u z else m₀ z) (ps c) y) → News h₀ env.locals h (Led c) → Q .next { s with heap := h, toks := tk }) :
    wpAny (model prog w) A (pyIter (.ref tp)) (fun it s₂ => LoopAtV prog w A h₀ env x body Q E it s₂) E s := by
  have hlt : tp < h₀.objs.size := Heap.lt_size ho
  have hl : s.heap.IsTuple tp vs.toArray := ⟨lo, F.keep _ _ ho, hc, nn, hd⟩
  have hlt2 : tp < s.heap.objs.size := Nat.lt_trans (Nat.lt_of_lt_of_le hlt F.above) F.ns.lt
  have hne : tp ≠ s.heap.objs.size := Nat.ne_of_lt hlt2
  refine wpAny_pyIter_tuple hl ?_
  have W := Walks.tuple (prog := prog) (w := w) hh s.heap.objs.size tp hne vs.toArray
  have hlen : vs.toArray.size = ns.length := by simp [hi.length]
  rw [hlen] at W
  refine loop_invN (fun i m nx => KstS Led ps Facts x stored m₀ P (ns.take i) m nx) W ?_ ?_ ?_ ?_ ⟨⟨_, Heap.get?_push_size _ rfl, rfl, rfl⟩, hl.push _⟩ (F.push _) (fun p hp => ⟨Heap.get?_push_of_some _ (N p hp).1, (N p hp).2⟩) ⟨c₀, rfl, hf, hk, fun _ _ _ _ => rfl, by simpa using hp⟩ ?_ ?_
  · intro hm
    rcases List.mem_cons.mp hm with e | hm
    · exact absurd F.ns.lt (e ▸ Nat.lt_irrefl _)
    · exact absurd (Nat.lt_of_lt_of_le hlt F.above) ((List.mem_singleton.mp hm) ▸ Nat.lt_irrefl _)
  · intro b hb
    rw [List.mem_singleton.mp hb]
    exact next_is_new F
  · intro p hp hI
    exact absurd (Heap.lt_size (N p hp).1) ((List.mem_singleton.mp hI) ▸ Nat.lt_irrefl _)
  · intro p hp hI
    rcases List.mem_cons.mp hI with e | hI
    · exact absurd (Heap.lt_size (N p hp).1) (e ▸ Nat.lt_irrefl _)
    · have h9 := (N p hp).2.2
      rw [List.mem_singleton.mp hI, ho] at h9
      cases h9
  · rintro i v m₁ nx h tk own hin hP _ hoff ⟨c, rfl, hf', h1, h2, hp'⟩ F₁ N₁
    obtain ⟨q, hn⟩ : ∃ q, ns[i]? = some q := ⟨ns[i], by simp [hin]⟩
    obtain ⟨t, hx⟩ := hi.get i q hn
    have hv : v = .int q t := by
      have hP' : vs[i]? = some v := by simpa using hP
      rw [hx] at hP'; exact (Option.some.inj hP').symm
    subst hv
    have hs : ns.take (i + 1) = ns.take i ++ [q] := by simp [List.take_add_one, hn]
    have e : ns = ns.take i ++ q :: ns.drop (i + 1) := by
      have ht := List.take_append_drop (i + 1) ns
      rw [hs, List.append_assoc] at ht
      exact ht.symm
    rw [hs]
    exact turn c _ _ _ t m₁ h tk own e hoff hf' hp' (kst_fr h1 h2 F₁) N₁
  · rintro m₁ nx h tk ⟨c, rfl, hf', h1, h2, hp'⟩ F₁ N₁
    rw [List.take_length] at hp'
    exact done c m₁ h tk hf' hp' (kst_frOut h1 h2 F₁) N₁
/-- a for over a range by any step -/
theorem loop_step {σ : Type} {r : Addr} {a₀ b₀ c₁ : Int} {t₀ u₀ v₀ : Tok} {n : Nat} {m₀ : Str → Option Value} (Led : σ → List (Addr × Obj)) (ps : σ → List (Str × Value)) (Facts : σ → Prop) (stored : List Str) (P : List Int → σ → Prop) (c₀ : σ)
    (hh : A.handled = none) (hr : IsRange s.heap r a₀ b₀ c₁ t₀ u₀ v₀) (hsmall : Builtin.Range.small a₀ b₀ c₁ = true) (hn : Builtin.Range.rangeSize a₀ b₀ c₁ = (n : Int)) (F : Fr h₀ env.locals s.heap m₀) (N : News h₀ env.locals s.heap (Led c₀)) (hf : Facts c₀) (hk : ∀ p ∈ ps c₀, m₀ p.1 = some p.2) (hp : P [] c₀)
    (turn : ∀ (c : σ) (i : Nat) t (u : Str → Option Value) h tk own, i < n → OwnOff own ((Led c₀).map (·.1)) → Facts c → P ((List.range i).map fun j : Nat => a₀ + (j : Int) * c₁) c →
      Fr h₀ env.locals h (fun y => if y = x then some (.int (a₀ + (i : Int) * c₁) t) else kstB (fun z => if stored.contains z then u z else m₀ z) (ps c) y) → News h₀ env.locals h (Led c ++ own) →
      wpAny (model prog w) A (execs body env) (InvPostN h₀ env.locals (KstS Led ps Facts x stored m₀ P ((List.range (i + 1)).map fun j : Nat => a₀ + (j : Int) * c₁)) own ((Led c₀).map (·.1)) { s with heap := h, toks := tk } Q) E { s with heap := h, toks := tk })
    (done : ∀ (c : σ) (u : Str → Option Value) h tk, Facts c → P ((List.range n).map fun j : Nat => a₀ + (j : Int) * c₁) c → Fr h₀ env.locals h (fun y => if y = x then u y else kstB (fun z => if stored.contains z then u z else m₀ z) (ps c) y) → News h₀ env.locals h (Led c) → Q .next { s with heap := h, toks := tk }) :
    wpAny (model prog w) A (pyIter (.ref r)) (fun it s₂ => LoopAtV prog w A h₀ env x body Q E it s₂) E s := by
  refine wpAny_pyIter_range hr hsmall ?_
  have W : Walks prog w A s.heap.objs.size [s.heap.objs.size] [s.heap.objs.size] n (fun i v => ∃ t, v = .int (a₀ + i * c₁) t)
      (fun i h => IsRangeIter h s.heap.objs.size (a₀ + (i : Nat) * c₁) ((n : Int) - (i : Nat)) c₁) := Walks.range hh _ a₀ c₁ n
  refine loop_invN (fun i m nx => KstS Led ps Facts x stored m₀ P ((List.range i).map fun j : Nat => a₀ + (j : Int) * c₁) m nx) W ?_ ?_ ?_ ?_ (by show IsRangeIter _ _ _ _ _; rw [hn]; simpa using Heap.get?_push_size _ rfl) (F.push _) (fun p hp => ⟨Heap.get?_push_of_some _ (N p hp).1, (N p hp).2⟩) ⟨c₀, rfl, hf, hk, fun _ _ _ _ => rfl, by simpa using hp⟩ ?_ ?_
  · intro hm
    exact absurd F.ns.lt ((List.mem_singleton.mp hm) ▸ Nat.lt_irrefl _)
  · intro b hb
    rw [List.mem_singleton.mp hb]
    exact next_is_new F
  · intro p hp hI
    exact absurd (Heap.lt_size (N p hp).1) ((List.mem_singleton.mp hI) ▸ Nat.lt_irrefl _)
  · intro p hp hI
    exact absurd (Heap.lt_size (N p hp).1) ((List.mem_singleton.mp hI) ▸ Nat.lt_irrefl _)
  · rintro i v m₁ nx h tk own hi ⟨t, rfl⟩ _ hoff ⟨c, rfl, hf', h1, h2, hp'⟩ F₁ N₁
    exact turn c i t m₁ h tk own hi hoff hf' hp' (kst_fr h1 h2 F₁) N₁
  · rintro m₁ nx h tk ⟨c, rfl, hf', h1, h2, hp'⟩ F₁ N₁
    exact done c m₁ h tk hf' hp' (kst_frOut h1 h2 F₁) N₁
end
end Mine
namespace Mine
section
variable {prog : Program} {w : World} {A : Around} {E : Value → Shared → Prop} {s : Shared} {env : Env} {h₀ : Heap} {x : Str} {body : List Stmt} {Q : Flow → Shared → Prop}
/-- LoopAtV, kept out of the walker's sight -/
def LoopHid (prog : Program) (w : World) (A : Around) (h₀ : Heap) (env : Env) (x : Str) (body : List Stmt) (Q : Flow → Shared → Prop) (E : Value → Shared → Prop) (it : Value) (s₂ : Shared) : Prop := LoopAtV prog w A h₀ env x body Q E it s₂
theorem For_hid {m : Str → Option Value} {px pos : Pos} {iter : Expr} (F : Fr h₀ env.locals s.heap m) (hx : env.kindOf x = some .local)
    (hp : (env.scope.kind == .class || (env.scope.kind == .module && env.locals != env.globals)) = false)
    (h : wpAny (model prog w) A (eval iter env) (fun xv s₁ => wpAny (model prog w) A (pyIter xv) (fun it s₂ => LoopHid prog w A h₀ env x body Q E it s₂) E s₁) E s)
    (hs : ∀ x, foldedSetIterable iter env x = pure x := by intro _; rfl)
    (hE : PassesOwn (model prog w) A env E := by passes_own) :
    wpAny (model prog w) A (exec (.For (.Name x px) iter body [] pos) env) Q E s := For_invVF F hx hp h hs
theorem un_hid {v : Value} (h : wpAny (model prog w) A (pyIter v) (fun it s₂ => LoopAtV prog w A h₀ env x body Q E it s₂) E s) : wpAny (model prog w) A (pyIter v) (fun it s₂ => LoopHid prog w A h₀ env x body Q E it s₂) E s := h
end
end Mine
end
section
open PySem PySem.W PySem.Calls PySem.Spec PyProof.Rows
set_option maxHeartbeats 8000000
namespace Mine
/-- list(bytes) -/
def ByteAt (b : Array UInt8) (i : Nat) (v : Value) : Prop := ∃ c u, b[i]? = some c ∧ v = .int ((c : UInt8).toNat : Int) u
section
variable {prog : Program} {w : World} {A : Around} {E : Value → Shared → Prop} {s : Shared}
theorem extend_bytes {R : Result → Shared → Prop} (hh : A.handled = none) (b : Array UInt8) (t : Tok) (S : Addr) (res : Value) (c₀ : Nat) (hS : s.heap.get? S = some { cls := .type "list", data := .seq #[] c₀ })
    (hR : ∀ h' tk acc' c', (∀ b o, b ≠ S → s.heap.get? b = some o → h'.get? b = some o) → h'.get? S = some { cls := .type "list", dict := none, data := .seq acc' c', slots := #[] } →
      ItemsOf (ByteAt b) acc' b.size → R (.ok (.ret res)) { s with heap := h', toks := tk }) (hn : b.size ≤ sizeLine) :
    wpAny (model prog w) A.in1 (Builtin.List.listExtendWith (.ref S) (.bytes b t) res)
      (fun fin s' => match fin with | .done f => R (.ok f) s' | .again c' => c'.quiet = true ∧ codeAny (model prog w) A c' R s') (fun e s' => R (.error e) s') s := by
  have hSI : S ≠ s.heap.objs.size := Nat.ne_of_lt (Heap.lt_size hS)
  have hSf : S ∉ [s.heap.objs.size] := fun hm => hSI (List.mem_singleton.mp hm)
  unfold Builtin.List.listExtendWith
  refine wpAny_bind (wpAny_typeOf (typeIs_bytes _ b t) ?_)
  have h1 : Builtin.List.listSameRef (.ref S) (.bytes b t) = false := rfl
  have h2 : (Value.type "bytes" == Value.type "list") = false := by decide
  have h3 : (Value.type "bytes" == Value.type "tuple") = false := by decide
  simp only [h1, h2, h3, Bool.or_false, Bool.false_eq_true, if_false]
  refine wpAny_bind (KBw.pyIter_bytes ?_)
  refine wpAny_bind (wpAny_holding ?_)
  unfold Builtin.List.listLengthHint
  refine wpAny_bind (wpAny_specialOf (typeIs_bytes _ b t) FB.slot_bytes_len.lookup ?_)
  wp_delta
  refine wpAny_bind (wpAny_isInstance (b := true) (typeIs_bytes _ b t) (by rw [isSubtype_type]; kernel_rfl) ?_)
  show wpAny _ _ (typeOf (Value.bytes b t) >>= _) _ _ _
  refine wpAny_bind (wpAny_typeOf (typeIs_bytes _ b t) ?_)
  refine wpAny_pure ?_
  rw [if_neg (by decide)]
  have W := KBw.walks (prog := prog) (w := w) (A := A.in1) hh s.heap.objs.size b t
  refine wpAny_pure ⟨plainId_quiet F.plain_extend_loop _, codeAny_extend_loopS W.toS hn _ hSf _ b.size 0 _ _ _ rfl (Nat.zero_le _) ⟨_, Heap.get?_push_size _ rfl, rfl, rfl⟩ (Heap.get?_push_of_some _ hS) (ItemsOf.nil _) fun s' acc' c' hm hS' hacc => ?_⟩
  rw [Moved.eq_with hm]
  refine hR s'.heap s'.toks acc' c' (fun b ob hb e => hm.heap b ob (fun hmem => ?_) (Heap.get?_push_of_some _ e)) hS' hacc
  rcases List.mem_cons.mp hmem with e' | hmem
  · exact hb e'
  · exact absurd (Heap.lt_size e) (by rw [List.mem_singleton.mp hmem]; exact Nat.lt_irrefl _)
theorem list_init_bytes {R : Result → Shared → Prop} (hh : A.handled = none) (b : Array UInt8) (t : Tok) (S : Addr) (hS : s.heap.get? S = some { cls := .type "list", data := .seq #[] })
    (hR : ∀ h' tk acc' c', (∀ b o, b ≠ S → s.heap.get? b = some o → h'.get? b = some o) → h'.get? S = some { cls := .type "list", dict := none, data := .seq acc' c', slots := #[] } →
      ItemsOf (ByteAt b) acc' b.size → R (.ok (.ret .none)) { s with heap := h', toks := tk }) (hn : b.size ≤ sizeLine) :
    wpAny (model prog w) A.in1 (Builtin.«list.__init__» ⟨[.ref S, .bytes b t], []⟩)
      (fun fin s' => match fin with | .done f => R (.ok f) s' | .again c' => c'.quiet = true ∧ codeAny (model prog w) A c' R s') (fun e s' => R (.error e) s') s := by
  show wpAny _ _ (do let old ← Builtin.List.listItems (.ref S); Builtin.List.listUpdate (.ref S) (fun _ => #[]); letGo old.toList.reverse; Builtin.List.listExtendWith (.ref S) (.bytes b t) .none) _ _ s
  refine wpAny_bind ?_
  unfold Builtin.List.listItems
  refine wpAny_bind (wpAny_seqItems hS rfl (wpAny_pure ?_))
  show wpAny _ _ (updateSeq S (fun _ => #[]) >>= fun _ => letGo (#[] : Array Value).toList.reverse >>= fun _ => Builtin.List.listExtendWith (.ref S) (.bytes b t) .none) _ _ s
  refine wpAny_bind (wpAny_updateSeq hS rfl ?_)
  have hS₂ := Heap.get?_update_self (Obj.mapSeq (fun _ => (#[] : Array Value))) hS rfl
  have oth : ∀ b o, b ≠ S → s.heap.get? b = some o → (s.heap.update S (Obj.mapSeq (fun _ => (#[] : Array Value)))).get? b = some o :=
    fun b o hb e => (Heap.get?_update_other _ _ (Ne.symm hb)).trans e
  refine wpAny_bind (wpAny_letGo ?_)
  refine extend_bytes (hn := hn) hh b t S .none _ hS₂ fun h' tk acc' c' hk hS' hacc => ?_
  exact hR h' tk acc' c' (fun b o hb e => hk b o hb (oth b o hb e)) hS' hacc
theorem call_list_bytes {Q : Value → Shared → Prop} (hh : A.handled = none) (b : Array UInt8) (t : Tok)
    (hQ : ∀ h' tk acc' c', (∀ b o, s.heap.get? b = some o → h'.get? b = some o) →
      h'.get? s.heap.objs.size = some { cls := .type "list", dict := none, data := .seq acc' c', slots := #[] } → ItemsOf (ByteAt b) acc' b.size → Q (.ref s.heap.objs.size) { s with heap := h', toks := tk }) (hn : b.size ≤ sizeLine) :
    wpAny (model prog w) A (call (.type "list") [.bytes b t]) Q E s := by
  refine callType_codes (Q₁ := fun obj s₁ => obj = .ref s.heap.objs.size ∧ s₁ = { s with heap := s.heap.push { cls := .type "list", data := .seq #[] } }) F.called_list (F.typeCall_list_1 _) F.entry_list_init
    (code_list_new _ ⟨rfl, rfl⟩) fun obj s₁ h₁ => ?_
  obtain ⟨rfl, rfl⟩ := h₁
  have hS : (s.heap.push { cls := .type "list", data := .seq #[] }).get? s.heap.objs.size = some { cls := .type "list", data := .seq #[] } := Heap.get?_push_size _ rfl
  refine ⟨⟨_, hS, rfl⟩, F.args_list_init_2 _ _, list_init_bytes (A := A.in1) (hn := hn) hh b t _ hS fun h' tk acc' c' hk hS' hacc => ?_⟩
  exact ⟨rfl, hQ h' tk acc' c' (fun b o e => hk b o (Nat.ne_of_lt (Heap.lt_size e)) (Heap.get?_push_of_some _ e)) hS' hacc⟩
theorem listBytes_K {h₀ : Heap} {L : Addr} {m : Str → Option Value} {news : List (Addr × Obj)} {b : Array UInt8} {t : Tok} {ks : List Int} {Q : Value → Shared → Prop} (F : Fr h₀ L s.heap m) (N : News h₀ L s.heap news) (hh : A.handled = none) (hb : KBw.bInts b = ks) (hz : ks.length ≤ 100000)
    (h : ∀ D h' tk (ys : List Value) c, Fr h₀ L h' m → News h₀ L h' ((D, listOf ys.toArray c) :: news) → (∀ p ∈ news, p.1 < D) → IntsAre ys ks → Q (.ref D) { s with heap := h', toks := tk }) :
    wpAny (model prog w) A (call (.type "list") [.bytes b t]) Q E s := by
  subst hb
  have hsz : b.size = (KBw.bInts b).length := (KBw.ints_length b).symm
  refine call_list_bytes hh b t (fun h' tk acc' c' hk hS hacc => ?_) (by rw [hsz, sizeLine_eq]; omega)
  have hnone : h₀.get? s.heap.objs.size = none := by
    cases e : h₀.get? s.heap.objs.size with
    | none => rfl
    | some o => exact absurd (Heap.lt_size (F.keep _ _ e)) (Nat.lt_irrefl _)
  refine h s.heap.objs.size h' tk acc'.toList c' (F.keeps hk) (fun p hp => ?_) (fun p hp => Heap.lt_size (N p hp).1) ?_
  · rcases List.mem_cons.mp hp with rfl | hp
    · exact ⟨by rw [Array.toArray_toList]; exact hS, Nat.ne_of_gt F.ns.lt, hnone⟩
    · exact ⟨hk _ _ (N p hp).1, (N p hp).2⟩
  · refine IntsAre.ofCarried (carriedAll_of_get _ _ (by rw [List.length_map, KBw.ints_length, Array.length_toList, hacc.1]) fun j v hv => ?_)
    obtain ⟨c, u, hc, rfl⟩ := hacc.2 j v (by simpa using hv)
    exact ⟨.int (c.toNat : Int), by rw [List.getElem?_map, KBw.ints_get hc]; rfl, .int _ _⟩
end
end Mine
end
section
open PySem PySem.W PySem.Calls PySem.Spec PyProof.Rows
set_option maxHeartbeats 8000000
namespace Mine
section
variable {prog : Program} {w : World} {A : Around} {E : Value → Shared → Prop} {s : Shared}
open AutoSeq1 (wpAny_loadPart')
/-- the reversed list's iterator, one turn of it -/
theorem rev_draw {it l : Addr} {i : Nat} {items : Array Value} {x : Value} {Q : Value → Shared → Prop} (hit : s.heap.IsRevIter it l (i : Int)) (hl : s.heap.IsList l items) (hx : items[i]? = some x)
    (hQ : ∀ h', h'.IsRevIter it l ((i : Int) - 1) → Heap.SameBut it s.heap h' → Q x { s with heap := h' }) : wpAny (model prog w) A (Builtin.SmallTypes.nextOf (.ref it)) Q E s := by
  have hT := hit.typeIs
  obtain ⟨o, ho, hc, hd⟩ := hit
  obtain ⟨ol, hol, _, nl, hdl⟩ := hl
  have hneg : ¬ ((i : Int) < 0) := by omega
  have f0 : ∀ (B : Around) (Q' : Value → Shared → Prop), Q' (.ref l) s → wpAny (model prog w) B (field (.ref it) 0) Q' E s := fun B Q' h => wpAny_field ho hd rfl h
  have f1 : ∀ (B : Around) (Q' : Value → Shared → Prop), Q' (.int (i : Int) 0) s → wpAny (model prog w) B (field (.ref it) 1) Q' E s := fun B Q' h => wpAny_field ho hd rfl h
  have f2 : ∀ (B : Around) (Q' : Option (Array Value) → Shared → Prop), Q' (some items) s → wpAny (model prog w) B (seqItems? (.ref l)) Q' E s := fun B Q' h => wpAny_seqItems hol hdl h
  have f3 : ∀ (B : Around) (Q' : Unit → Shared → Prop), (∀ h', h'.IsRevIter it l ((i : Int) - 1) → Heap.SameBut it s.heap h' → Q' () { s with heap := h' }) → wpAny (model prog w) B (setField (.ref it) 1 (rawInt ((i : Int) - 1))) Q' E s := fun B Q' h =>
    wpAny_setField ho hd (by simp) (h _ ⟨_, Heap.get?_update_self _ ho (Obj.isFreed_of_fields (Obj.data_mapFields hd _)), (Obj.cls_mapFields ..).trans hc, (Obj.data_mapFields hd _).trans (by simp)⟩ (Heap.SameBut.update ..))
  refine wpAny_bind (wpAny_callSpecial?_slot hT F.slot_lri_next (wpAny_call_entry F.slot_lri_next hT F.entry_lri_next ?_ (F.args_lri_next_1 _)))
  unfold Builtin.«list_reverseiterator.__next__»
  wp_walk using f0, f1, f2, f3
  all_goals simp only [Int.toNat_natCast, hx]
  wp_walk using f3
  intro h' a b
  exact wpAny_pure ⟨x, rfl, wpAny_pure (hQ h' a b)⟩
theorem rev_dry {it l : Addr} {Q : Value → Shared → Prop} (hh : A.handled = none) (hit : s.heap.IsRevIter it l (-1))
    (hE : ∀ h' e, Heap.ExtBut it s.heap h' → (∃ o, h'.get? e = some o ∧ o.cls = .type "StopIteration") → E (.ref e) { s with heap := h' }) : wpAny (model prog w) A (Builtin.SmallTypes.nextOf (.ref it)) Q E s := by
  have hT := hit.typeIs
  obtain ⟨o, ho, hc, hd⟩ := hit
  have hA : A.in1.handled = none := hh
  have f1 : ∀ (B : Around) (Q' : Value → Shared → Prop), Q' (.int (-1) 0) s → wpAny (model prog w) B (field (.ref it) 1) Q' E s := fun B Q' h => wpAny_field ho hd rfl h
  refine wpAny_bind (wpAny_callSpecial?_slot hT F.slot_lri_next (wpAny_call_entry F.slot_lri_next hT F.entry_lri_next ?_ (F.args_lri_next_1 _)))
  unfold Builtin.«list_reverseiterator.__next__»
  wp_walk using f1
  simp only [raiseNew]
  wp_walk
  all_goals exact hE _ _ (((Heap.ExtBut.refl _ _).push _).push _) ⟨_, Heap.get?_push_size _ rfl, rfl⟩
/-- the reversed list as a source that the library's enumerate may stand on -/
theorem draws_rev {it l : Addr} (hh : A.handled = none) (hli : l ≠ it) (items : Array Value) :
    Draws prog w A it [it, l] items.size (fun i v => items[items.size - 1 - i]? = some v) (fun i h => i ≤ items.size ∧ h.IsRevIter it l ((items.size : Int) - 1 - (i : Int)) ∧ h.IsList l items) where
  live := fun _ _ st => let ⟨o, ho, _⟩ := st.2.1; ⟨o, ho⟩
  frame := fun _ _ _ st hk => ⟨st.1, st.2.1.at fun o e => hk it (by simp) o e, st.2.2.at fun o e => hk l (by simp) o e⟩
  item := fun i s Q E hi st hQ => by
    obtain ⟨j, hj⟩ : ∃ j, items.size = i + 1 + j := ⟨items.size - (i + 1), by omega⟩
    have hx : items[j]? = some (items[j]'(by omega)) := Array.getElem?_eq_getElem (by omega)
    have k1 : (items.size : Int) - 1 - (i : Int) = (j : Int) := by omega
    have k2 : items.size - 1 - i = j := by omega
    have hit := st.2.1
    rw [k1] at hit
    refine rev_draw hit st.2.2 hx fun h' a b => hQ _ h' s.toks (by rw [k2]; exact hx) ⟨hi, ?_, st.2.2.at fun o q => (b.2 l hli).trans q⟩ b
    rw [show (items.size : Int) - 1 - ((i + 1 : Nat) : Int) = (j : Int) - 1 by omega]
    exact a
  done := fun s Q E st hE => rev_dry hh (by simpa only [show (items.size : Int) - 1 - (items.size : Int) = -1 by omega] using st.2.1) hE
theorem meets_enumRev (l a : Addr) (j : Int) :
    Meets (Builtin.«enumerate.__new__» ⟨[.type "enumerate", .ref l], []⟩) (fun _ R s => s.heap.get? l = some (revObj a j) ∧
      R (.ok (.ret (.ref s.heap.objs.size)))
        { s with heap := s.heap.push { cls := .type "enumerate", data := .fields #[.none, .bool false, .ref l, rawInt 0, .none, .none] } }) :=
  .of_wp fun prog w A R s h => by
    obtain ⟨hp, g, d, tk, os⟩ := s; obtain ⟨hl, h⟩ := h
    have hsub := sub_enumerate
    have hL : Heap.IsRevIter (Shared.heap ⟨hp, g, d, tk, os⟩) l a j := ⟨_, hl, rfl, rfl⟩
    unfold revObj at hl
    wp_walk using wpAny_loadPart' hl
    refine wpAny_stack_any fun st => wpAny_pure ?_
    split
    · rename_i c _ _ _ _ _
      cases (c == Value.type "enumerate")
      · wp_walk using wpAny_loadPart' hl, wpAny_pyIter_revIter hL
        exact ⟨_, rfl, h⟩
      · wp_walk using wpAny_loadPart' hl, wpAny_pyIter_revIter hL
        exact ⟨_, rfl, h⟩
    · wp_walk using wpAny_loadPart' hl, wpAny_pyIter_revIter hL
      exact ⟨_, rfl, h⟩
theorem call_enumRev {l a : Addr} {j : Int} {Q : Value → Shared → Prop} (hl : s.heap.get? l = some (revObj a j))
    (h : ∀ h', IsEnum h' s.heap.objs.size l 0 .none → h'.objs.size = s.heap.objs.size + 1 →
      (∀ b o, s.heap.get? b = some o → h'.get? b = some o) → Q (.ref s.heap.objs.size) { s with heap := h' }) :
    wpAny (model prog w) A (call (.type "enumerate") [.ref l]) Q E s := by
  refine callType_new F.called_enumerate (by decide) (F.typeCall_enumerate_1 _) (F.newCall_enumerate_1 _) (fun obj => F.args_object_init_2 obj _) F.entry_enumerate_new
    (meets_enumRev l a j) ⟨hl, ?_⟩
  have he : IsEnum (s.heap.push { cls := .type "enumerate", data := .fields #[.none, .bool false, .ref l, rawInt 0, .none, .none] }) s.heap.objs.size l 0 .none := Heap.get?_push_size _ rfl
  exact ⟨⟨_, he, rfl⟩, h _ he (Heap.size_push ..) fun b o q => Heap.get?_push_of_some _ q⟩
end
theorem walksEnumRev {prog : Program} {w : World} {A : Around} (hh : A.handled = none) (e it l : Addr) (hei : e ≠ it) (hle : l ≠ e) (hli : l ≠ it) (items : Array Value) :
    WalksU prog w A e [e, it, l] [e, it] items.size (fun i vals => i < items.size ∧ ∃ t x, items[items.size - 1 - i]? = some x ∧ vals = #[.int i t, x])
      (fun i h => (∃ old, IsEnum h e it i old) ∧ i ≤ items.size ∧ h.IsRevIter it l ((items.size : Int) - 1 - (i : Int)) ∧ h.IsList l items)
      (fun i T h => (∃ x, IsEnumOut h e it ((i : Int) + 1) x T) ∧ (i + 1 ≤ items.size ∧ h.IsRevIter it l ((items.size : Int) - 1 - ((i + 1 : Nat) : Int)) ∧ h.IsList l items) ∧ T ≠ e ∧ T ≠ it) :=
  (WalksT.enumerateD (draws_rev (prog := prog) (w := w) (A := A.in1) hh hli items) e hei (by simp [hei, Ne.symm hle]) (List.mem_cons_self ..)).toU.bound
end Mine
end
section
open PySem PySem.W PySem.Calls PySem.Spec PyProof.Rows
set_option maxHeartbeats 8000000
namespace Mine
/-- the generators: the old ones stand, the new ones hold nothing to clean up -/
def GExt (a b : Array GenState) : Prop := (∀ (i : Nat) (x : GenState), a[i]? = some x → b[i]? = some x) ∧ ((∀ y ∈ a, y.bare = true) → ∀ y ∈ b, y.bare = true)
theorem GExt.refl (a : Array GenState) : GExt a a := ⟨fun _ _ h => h, fun h => h⟩
theorem GExt.trans {a b c : Array GenState} (x : GExt a b) (y : GExt b c) : GExt a c := ⟨fun i z h => y.1 i z (x.1 i z h), fun h => y.2 (x.2 h)⟩
theorem GExt.push {a : Array GenState} {g : GenState} (h : g.bare = true) : GExt a (a.push g) := by
  refine ⟨fun i x e => ?_, fun k y hy => ?_⟩
  · have hi : i < a.size := by
      rcases Nat.lt_or_ge i a.size with q | q
      · exact q
      · rw [Array.getElem?_eq_none q] at e; cases e
    rw [Array.getElem?_push_lt hi]
    rw [Array.getElem?_eq_getElem hi] at e
    exact e
  · rcases Array.mem_push.mp hy with q | q
    · exact k y q
    · rw [q]; exact h
theorem GExt.moved {a : Array GenState} {g : GenState} {c : Array GenState} (h : g.bare = true) (hq : GenOnlyQ a.size (a.push g) c) : GExt a c := by
  refine ⟨fun i x e => ?_, fun k => ?_⟩
  · have e1 := (GExt.push (a := a) h).1 i x e
    have hi : i < a.size := by
      rcases Nat.lt_or_ge i a.size with q | q
      · exact q
      · rw [Array.getElem?_eq_none q] at e; cases e
    rcases hq with q | ⟨q, _⟩
    · rw [q]; exact e1
    · rw [q.2 i (Nat.ne_of_lt hi)]; exact e1
  · exact hq.bare ((GExt.push (a := a) h).2 k)
def enumObj (it : Addr) : Obj := { cls := .type "enumerate", dict := none, data := .fields #[.none, .bool false, .ref it, rawInt 0, .none, .none], slots := #[] }
theorem enumRev_K {prog : Program} {w : World} {A : Around} {E : Value → Shared → Prop} {s : Shared} {h₀ : Heap} {L it l : Addr} {j : Int} {m : Str → Option Value} {news : List (Addr × Obj)} {Q : Value → Shared → Prop} (F : Fr h₀ L s.heap m) (N : News h₀ L s.heap news) (hm : (it, revObj l j) ∈ news)
    (h : ∀ e h', Fr h₀ L h' m → News h₀ L h' ((e, enumObj it) :: news) → (∀ p ∈ news, p.1 < e) → Q (.ref e) { s with heap := h' }) : wpAny (model prog w) A (call (.type "enumerate") [.ref it]) Q E s := by
  refine call_enumRev (N _ hm).1 fun h' he hsz hk => ?_
  have hnone : h₀.get? s.heap.objs.size = none := by
    cases e : h₀.get? s.heap.objs.size with
    | none => rfl
    | some o => exact absurd (Heap.lt_size (F.keep _ _ e)) (Nat.lt_irrefl _)
  refine h s.heap.objs.size h' (F.keeps hk) (fun p hp => ?_) (fun p hp => Heap.lt_size (N p hp).1)
  rcases List.mem_cons.mp hp with rfl | hp
  · exact ⟨he, Nat.ne_of_gt F.ns.lt, hnone⟩
  · exact ⟨hk _ _ (N p hp).1, (N p hp).2⟩
theorem genCode_K {M : Model} {A : Around} {E : Value → Shared → Prop} {s : Shared} {h₀ : Heap} {L a c P : Addr} {m : Str → Option Value} {cn : Str} {cs : Scope} {ccd : Value} {cl : List (Str × Addr)} {news : List (Addr × Obj)} {g : Obj → List (Addr × Obj)} {ps : Array Value} {pos : Pos} {qual : Str} {sc : Scope} {Q : Value → Shared → Prop}
    (F : Fr h₀ L s.heap m) (N : News h₀ L s.heap news) (C : CodeHd h₀ c P) (hcd : ccd = .ref c) (U : UpdF P (tabObj ps) news g) (ht : TriplesOk ps.toList)
    (h : ∀ code ps' h' tk, Fr h₀ L h' m → News h₀ L h' (g (tabObj ps')) → TriplesOk ps'.toList → Heap.ExtBut P s.heap h' → s.heap.objs.size ≤ h'.objs.size → Q code { s with heap := h', toks := tk }) :
    wpAny M A (genexprCode (envX cn cs L a ccd cl) pos qual sc) Q E s := by
  obtain ⟨own, rest, rfl, hgr, h1, h2⟩ := U.split
  have hm := N (P, tabObj ps) (List.mem_append_right _ (.head _))
  cases hf : codeAmong pos ps.toList with
  | some cv => exact wpAny_genexprCode_hit hcd ((C.keeps F.keep).code hm.1 ht) hf (h cv ps s.heap s.toks F (by rw [hgr]; exact N) ht (fun _ _ _ e => e) (Nat.le_refl _))
  | none =>
    refine wpAny_genexprCodeX hcd ((C.keeps F.keep).code hm.1 ht) ((C.keeps F.keep).tab hm.1) hf fun c' h' tk hx hge hlt hcode hrec htb _ => ?_
    have old : ∀ b o, h₀.get? b = some o → h'.get? b = some o := fun b o e => hx b o (fun q => by rw [q, hm.2.2] at e; cases e) (F.keep b o e)
    have ht' : TriplesOk (ps ++ #[rawInt pos.line, rawInt pos.col, .ref c']).toList := by
      rw [show (ps ++ #[rawInt pos.line, rawInt pos.col, Value.ref c']).toList = ps.toList ++ [rawInt pos.line, rawInt pos.col, .ref c'] by simp]
      exact TriplesOk_snoc _ _ _ _ ht
    refine h _ _ h' tk ⟨F.ns.extBut hx hm.2.1.symm, old, F.above⟩ (fun q hq => ?_) ht' hx (Nat.le_trans hge (Nat.le_of_lt hlt))
    rw [hgr] at hq
    rcases List.mem_append.mp hq with hq | hq
    · have n := N q (List.mem_append_left _ hq)
      exact ⟨hx _ _ (h1 q hq) n.1, n.2⟩
    · rcases List.mem_cons.mp hq with rfl | hq
      · exact ⟨htb.2, hm.2⟩
      · have n := N q (List.mem_append_right _ (.tail _ hq))
        exact ⟨hx _ _ (h2 q hq) n.1, n.2⟩
/-- the value of a turn of the sum -/
def termAt (ks : List Int) (j : Nat) : Int := 2 ^ j * ks.getD (ks.length - 1 - j) 0
theorem preSum_succ (f : Nat → Int) : ∀ n, preSum f (n + 1) = f 0 + preSum (fun j => f (j + 1)) n
  | 0 => by simp [preSum]
  | n + 1 => by
    have := preSum_succ f n
    rw [preSum, this, preSum]
    omega
theorem preSum_congr {f g : Nat → Int} : ∀ n, (∀ j, j < n → f j = g j) → preSum f n = preSum g n
  | 0, _ => rfl
  | n + 1, h => by rw [preSum, preSum, preSum_congr n fun j hj => h j (Nat.lt_succ_of_lt hj), h n (Nat.lt_succ_self n)]
theorem preSum_mul (c : Int) (f : Nat → Int) : ∀ n, preSum (fun j => c * f j) n = c * preSum f n
  | 0 => by simp [preSum]
  | n + 1 => by rw [preSum, preSum, preSum_mul c f n, Int.mul_add]
theorem preSum_term (ks : List Int) : preSum (termAt ks) ks.length = num ks := by
  rw [← List.reverse_reverse ks]
  induction ks.reverse with
  | nil => rfl
  | cons k r ih =>
    rw [List.reverse_cons, num_snoc, List.length_append, List.length_singleton, preSum_succ, ← ih]
    have e0 : termAt (r.reverse ++ [k]) 0 = k := by simp [termAt, List.getD]
    rw [e0, preSum_congr (g := fun j => 2 * termAt r.reverse j) _ fun j hj => ?_, preSum_mul]
    · omega
    · unfold termAt
      have hj' : j < r.length := by simpa using hj
      have e1 : (r.reverse ++ [k]).length - 1 - (j + 1) = r.reverse.length - 1 - j := by simp; omega
      have e2 : r.reverse.length - 1 - j < r.reverse.length := by simp; omega
      rw [e1, List.getD_eq_getElem?_getD, List.getD_eq_getElem?_getD, List.getElem?_append_left e2, Int.pow_succ]
      rw [Int.mul_comm ((2:Int) ^ j) 2, Int.mul_assoc]
theorem term_bound {ks : List Int} (h01 : ∀ k ∈ ks, k = 0 ∨ k = 1) {j : Nat} (hj : j < 8) : 0 ≤ termAt ks j ∧ termAt ks j ≤ 128 := by
  unfold termAt
  have hk : ks.getD (ks.length - 1 - j) 0 = 0 ∨ ks.getD (ks.length - 1 - j) 0 = 1 := by
    rw [List.getD_eq_getElem?_getD]
    cases e : ks[ks.length - 1 - j]? with
    | none => exact .inl rfl
    | some k => exact h01 k (List.mem_of_getElem? e)
  have hp : ∀ j : Fin 8, (0:Int) ≤ 2 ^ j.val ∧ (2:Int) ^ j.val ≤ 128 := by decide
  have := hp ⟨j, hj⟩
  rcases hk with q | q <;> rw [q] <;> simp only [Int.mul_zero, Int.mul_one] <;> omega
theorem preSum_bound {f : Nat → Int} (h : ∀ j, j < 8 → 0 ≤ f j ∧ f j ≤ 128) : ∀ n, n ≤ 8 → 0 ≤ preSum f n ∧ preSum f n ≤ 128 * n
  | 0, _ => by simp [preSum]
  | n + 1, hn => by
    have a := preSum_bound h n (by omega)
    have b := h n (by omega)
    rw [preSum]
    omega
theorem passing_all : ∀ (k i n : Nat), n - i = k → i ≤ n → passing (fun _ => true) n i = List.range' i (n - i)
  | 0, i, n, h, hi => by
    obtain rfl : i = n := by omega
    rw [passing_end, Nat.sub_self]
    rfl
  | k + 1, i, n, h, hi => by
    rw [passing_true (by omega) rfl, passing_all k (i + 1) n (by omega) (by omega), show n - i = (n - (i + 1)) + 1 by omega, List.range'_succ]
end Mine
end
section
open PySem PySem.W PySem.Calls PySem.Spec PyProof.Rows
set_option maxHeartbeats 8000000
namespace Mine
theorem quiet_pow {prog : Program} {w : World} {cenv : Env} {k : Nat} {p1 p2 p3 p4 p5 : Pos} {vs : List Value} {ks : List Int} {fp wr : List Addr} {href : Heap} (hi : IntsAre vs ks) (h01 : ∀ k ∈ ks, k = 0 ∨ k = 1) (h8 : ks.length ≤ 8)
    (hkf : cenv.scope.kind = .function) (ha : cenv.kindOf (Str.ofString "exp") = some .local) (hb : cenv.kindOf (Str.ofString "bit") = some .local) :
    QuietGenT prog w cenv (Str.ofString "exp") (Str.ofString "bit") [] (.BinOp (.BinOp (.Constant (.int 2) k p1) .Pow (.Name (Str.ofString "exp") p2) p3) .Mult (.Name (Str.ofString "bit") p4) p5) fp wr
      (fun i vals => i < vs.toArray.size ∧ ∃ t x, vs.toArray[vs.toArray.size - 1 - i]? = some x ∧ vals = #[.int i t, x]) (fun _ => true) (fun i y => ∃ t, y = .int (termAt ks i) t) href where
  tests := fun A' E' i va vb s₂ m₂ _ _ _ _ _ _ => by
    simp only [List.forIn_nil]
    exact wpAny_pure ⟨rfl, _, _, rfl, fun _ _ e => e⟩
  elt := fun A' E' i va vb s₂ m₂ hh hP _ hn hma hmb _ => by
    obtain ⟨hlt, t, x, hx, he⟩ := hP
    have hlen : vs.length = ks.length := hi.length
    have hlt' : i < ks.length := by simpa [hlen] using hlt
    injection he with he
    injection he with hva he
    injection he with hvb _
    subst hva hvb
    have hidx : ks.length - 1 - i < ks.length := by omega
    obtain ⟨u, hxu⟩ := hi.get (ks.length - 1 - i) (ks[ks.length - 1 - i]) (List.getElem?_eq_getElem hidx)
    have hvu : vb = .int (ks[ks.length - 1 - i]) u := by
      have hx' : vs[ks.length - 1 - i]? = some vb := by simpa [hlen] using hx
      rw [hxu] at hx'
      exact (Option.some.inj hx').symm
    subst hvu
    refine wpAny_BinOp (wpAny_BinOp (wpAny_Constant_int (wpAny_Name (wpAny_loadName_local hkf ha hn hma ?_))))
    have hpow : ∀ {Q : Value → Shared → Prop} {E : Value → Shared → Prop} {s : Shared} {t u : Tok}, (∀ t' tk', Q (.int (2 ^ i) t') { s with toks := tk' }) → wpAny (model prog w) A' (binaryOp .Pow (.int 2 t) (.int i u)) Q E s := by
      intro Q E s t u h
      by_cases h0 : i = 0
      · subst h0
        exact AutoIntOps.pow_0 (by decide) (by decide) (h _ _)
      · refine AutoIntOps.pow_4 (by omega) (by simp; omega) (by decide) (by decide) ?_ ?_
        · unfold Builtin.Int.intTooBig
          simp only [decide_eq_true_eq, gt_iff_lt, Int.not_lt]
          show ((Builtin.Int.intBits 2 : Nat) : Int) * (i : Int) ≤ ((bitsLine : Nat) : Int)
          have e2 : Builtin.Int.intBits 2 = 2 := by decide +kernel
          have e3 : (bitsLine : Nat) = 134217728 := by decide +kernel
          rw [e2, e3]
          omega
        · exact h _ _
    refine hpow fun t' tk' => ?_
    refine wpAny_Name (wpAny_loadName_local hkf hb hn hmb ?_)
    have hpb : (0:Int) ≤ 2 ^ i ∧ (2:Int) ^ i ≤ 128 := by
      have hp : ∀ j : Fin 8, (0:Int) ≤ 2 ^ j.val ∧ (2:Int) ^ j.val ≤ 128 := by decide
      exact hp ⟨i, by omega⟩
    have hkb := h01 _ (List.getElem_mem hidx)
    refine AutoIntOps.mul_0 ?_ (IntMulOk.of_right (intBits_le_64 (by omega) (by omega)))
    have e : (2:Int) ^ i * ks[ks.length - 1 - i] = termAt ks i := by
      unfold termAt
      rw [List.getD_eq_getElem?_getD, List.getElem?_eq_getElem hidx]
      rfl
    rw [e]
    exact ⟨⟨_, rfl⟩, _, _, rfl, fun _ _ e => e⟩
/-- the pairs that the generator walks -/
def IterMade (h₀ : Heap) (L : Addr) (m : Str → Option Value) (l : Addr) (n : Nat) (news : List (Addr × Obj)) (s : Shared) (xv : Value) (s₁ : Shared) : Prop :=
  ∃ e it h' tk, xv = .ref e ∧ s₁ = { s with heap := h', toks := tk } ∧ Fr h₀ L h' m ∧ News h₀ L h' ((e, enumObj it) :: (it, revObj l ((n : Int) - 1)) :: news) ∧ (∀ p ∈ news, p.1 < it) ∧ it < e
/-- sum's argument: the generator is made, and what sum will tell of it is told ahead -/
theorem gen_K {prog : Program} {w : World} {A : Around} {E : Value → Shared → Prop} {s : Shared} {h₀ : Heap} {L a c P l : Addr} {m mg mb : Str → Option Value} {cn : Str} {cs : Scope} {ccd : Value} {cl : List (Str × Addr)} {news : List (Addr × Obj)} {g : Obj → List (Addr × Obj)} {ps : Array Value}
    {pr : Program} {loose : List Str} {mean : ExcName → Option Value} {k kt : Nat} {p1 p2 p3 p4 p5 pa pb pt pos : Pos} {iter : Expr} {sc : Scope} {vs : List Value} {ks : List Int} {cap : Nat} {cl' : List (Str × Addr)} {Q : Value → Shared → Prop}
    (hh : A.handled = none) (hroom : A.depth < recursionLimit) (_F : Fr h₀ L s.heap m) (_N : News h₀ L s.heap news) (T : Top pr loose mean mg mb h₀) (C : CodeHd h₀ c P) (hcd : ccd = .ref c) (U : UpdF P (tabObj ps) news g) (ht : TriplesOk ps.toList)
    (hl : (l, listOf vs.toArray cap) ∈ news) (hi : IntsAre vs ks) (h01 : ∀ k ∈ ks, k = 0 ∨ k = 1) (h8 : ks.length ≤ 8)
    (hco : sc.isCoroutine = false) (hclos : closureFor sc (envX cn cs L a ccd cl) = pure cl') (hcell : ∀ y ∈ sc.names, y.2 ≠ .cell) (h0 : sc.names.lookup (".0" : Str) = some NameKind.local)
    (hxa : sc.names.lookup (Str.ofString "exp") = some .local) (hxb : sc.names.lookup (Str.ofString "bit") = some .local) (hkind : sc.kind = .function) (hs : ∀ x, genFold iter (envX cn cs L a ccd cl) x = pure x)
    (hiter : wpAny (model prog w) A (eval iter (envX cn cs L a ccd cl)) (IterMade h₀ L m l vs.length news s) E s)
    (h : ∀ a' h₅ tk₅ gens₅ ps', Fr h₀ L h₅ m → News h₀ L h₅ (g (tabObj ps')) → TriplesOk ps'.toList → GExt s.gens gens₅ →
      (∀ Q' E' : Value → Shared → Prop, (∀ t' h' tk' gens', Fr h₀ L h' m → News h₀ L h' (g (tabObj ps')) → GExt s.gens gens' → Q' (.int (num ks) t') { s with heap := h', toks := tk', gens := gens' }) →
        wpAny (model prog w) A (call (.builtin "sum") [.ref a']) Q' E' { s with heap := h₅, toks := tk₅, gens := gens₅ }) →
      Q (.ref a') { s with heap := h₅, toks := tk₅, gens := gens₅ }) :
    wpAny (model prog w) A (eval (.GeneratorExp (.BinOp (.BinOp (.Constant (.int 2) k p1) .Pow (.Name (Str.ofString "exp") p2) p3) .Mult (.Name (Str.ofString "bit") p4) p5) [⟨.Tuple [.Name (Str.ofString "exp") pa, .Name (Str.ofString "bit") pb] kt pt, iter, [], 0⟩] sc pos) (envX cn cs L a ccd cl)) Q E s := by
  refine wpAny_GeneratorExp_walksQT hh hco hclos hcell h0 hxa hxb (by decide) hkind hroom (wpAny_mono hiter (fun xv s₁ h₁ => ?_) fun _ _ e => e) hs
  obtain ⟨e, it, h₁, tk₁, rfl, rfl, F₁, N₁, lo, le⟩ := h₁
  have he : IsEnum h₁ e it 0 .none := (N₁ _ (.head _)).1
  have hit : h₁.get? it = some (revObj l ((vs.length : Int) - 1)) := (N₁ _ (.tail _ (.head _))).1
  have hlo := N₁ _ (.tail _ (.tail _ hl))
  have hmP : (P, tabObj ps) ∈ news := by
    obtain ⟨own, rest, rfl, _⟩ := U.split
    exact List.mem_append_right _ (.head _)
  have hPo := N₁ _ (.tail _ (.tail _ hmP))
  have hlP : l ≠ P := fun q => by
    have e1 := hlo.1; have e2 := hPo.1
    simp only at e1 e2
    rw [q, e2] at e1; cases e1
  have hlit : l < it := lo _ hl
  have hPit : P < it := lo _ hmP
  have hei : e ≠ it := Nat.ne_of_gt le
  have hle : l ≠ e := Nat.ne_of_lt (Nat.lt_trans hlit le)
  have hli : l ≠ it := Nat.ne_of_lt hlit
  have hLe : e ≠ L := (N₁ _ (.head _)).2.1
  have hLi : it ≠ L := (N₁ _ (.tail _ (.head _))).2.1
  have hne : h₀.get? e = none := (N₁ _ (.head _)).2.2
  have hni : h₀.get? it = none := (N₁ _ (.tail _ (.head _))).2.2
  have hlt8 : vs.toArray.size = ks.length := by simp [hi.length]
  have hsmall : ∀ o, ∀ p ∈ g o, p.1 < it := fun o p hp => by
    obtain ⟨own, rest, rfl, hgr, _⟩ := U.split
    rw [hgr] at hp
    rcases List.mem_append.mp hp with q | q
    · exact lo p (List.mem_append_left _ q)
    · rcases List.mem_cons.mp q with rfl | q
      · exact hPit
      · exact lo p (List.mem_append_right _ (.tail _ q))
  refine wpAny_pyIter_enum he ⟨T.nolimit.keeps F₁.keep, ?_⟩
  refine genCode_K (g := fun o => (e, enumObj it) :: (it, revObj l ((vs.length : Int) - 1)) :: g o) F₁ N₁ C hcd (.tail (Nat.ne_of_gt (Nat.lt_trans hPit le)) (.tail (Nat.ne_of_gt hPit) U)) ht fun code ps' h₂ tk₂ F₂ N₂ ht₂ hx₂ hsz₂ => ?_
  obtain ⟨bm, ob, b1, b2, b3, b4, b5, b6⟩ := T.bmain
  refine wpAny_builtinsFor (T.g.keeps F₂.keep) b1 b2 (F₂.keep _ _ b3) b4 b5 b6 ?_
  have W := fun (A' : Around) (hA : A'.handled = none) => walksEnumRev (prog := prog) (w := w) (A := A') hA e it l hei hle hli vs.toArray
  have he₂ : IsEnum h₂ e it 0 .none := (N₂ _ (.head _)).1
  have hit₂ : h₂.get? it = some (revObj l ((vs.length : Int) - 1)) := (N₂ _ (.tail _ (.head _))).1
  have hl₂ : h₂.IsList l vs.toArray := ⟨listOf vs.toArray cap, hx₂ l _ hlP hlo.1, rfl, _, rfl⟩
  have hcs : cStatics ∉ [e, it] := fun hm => by
    obtain ⟨mc, ⟨o, _, _, ho, _⟩, _⟩ := T.nolimit
    rcases List.mem_cons.mp hm with q | hm
    · rw [q, hne] at ho; cases ho
    · rw [List.mem_singleton.mp hm, hni] at ho; cases ho
  refine ⟨e, [e, it, l], [e, it], vs.toArray.size, _, _, _, (fun _ => true), (fun i y => ∃ t, y = .int (termAt ks i) t), rfl, W, (fun i vals hP => by obtain ⟨_, t, x, _, q⟩ := hP; exact ⟨_, _, q⟩),
    ⟨⟨_, he₂⟩, Nat.zero_le _, by rw [show ((vs.toArray.size : Nat) : Int) - 1 - ((0 : Nat) : Int) = (vs.length : Int) - 1 by simp]; exact ⟨_, hit₂, rfl, rfl⟩, hl₂⟩, ?_, T.nolimit.keeps F₂.keep, hcs,
    (fun href _ => quiet_pow hi h01 h8 hkind hxa hxb), fun a' h₅ tk gs hgb hag hsz₅ hk₅ WS hat => ?_⟩
  · intro b hb
    rcases List.mem_cons.mp hb with rfl | hb
    · exact Heap.lt_size he₂
    · rcases List.mem_cons.mp hb with rfl | hb
      · exact Heap.lt_size hit₂
      · rw [List.mem_singleton.mp hb]
        exact Heap.lt_size (hx₂ l _ hlP hlo.1)
  have N₅ : News h₀ L h₅ (g (tabObj ps')) := fun p hp => ⟨hk₅ _ _ (N₂ p (.tail _ (.tail _ hp))).1, (N₂ p (.tail _ (.tail _ hp))).2⟩
  have F₅ := F₂.keeps hk₅
  have hpass : passing (fun _ => true) vs.toArray.size 0 = List.range vs.toArray.size := by rw [passing_all _ 0 _ rfl (Nat.zero_le _), List.range_eq_range']; rfl
  have hpl : (passing (fun _ => true) vs.toArray.size 0).length = ks.length := by rw [hpass, List.length_range, hlt8]
  refine h a' h₅ tk _ ps' F₅ N₅ ht₂ (GExt.push hgb) fun Q' E' hQ' => ?_
  have W5 := WS.in4_1
  have hat' := hat
  refine call_sum_walkS (W5.self 0 _ _ _ hat ⟨a', _, _, _, _, _, _, termAt ks, rfl, W5, hat', ?_, ?_, ?_, ?_⟩)
  · intro b hb
    show b < h₅.objs.size
    rw [hsz₅]
    rcases List.mem_cons.mp hb with rfl | hb
    · exact Nat.lt_succ_self _
    · rcases List.mem_cons.mp hb with rfl | hb
      · exact Nat.lt_succ_of_lt hag
      · exact Nat.lt_succ_of_lt (Nat.lt_trans (List.mem_range.mp hb) hag)
  · rintro i v ⟨j, hj, t, rfl⟩
    rw [hpass] at hj
    obtain ⟨hj1, hj2⟩ := List.getElem?_eq_some_iff.mp hj
    rw [List.getElem_range] at hj2
    subst hj2
    exact ⟨t, rfl⟩
  · intro j hj
    rw [hpl] at hj
    have b1 := term_bound h01 (j := j) (by omega)
    have b2 := preSum_bound (f := termAt ks) (fun j hj => term_bound h01 hj) (j + 1) (by omega)
    unfold InLong
    constructor <;> constructor <;> omega
  · rintro ⟨h', g', d', tk', os'⟩ t' hm
    have e2 : d' = s.drawn := hm.drawn
    have e3 : os' = s.os := hm.os
    subst e2 e3
    rw [hpl, preSum_term]
    have hh' : ∀ b o, b ≠ h₂.objs.size → b ≠ e → b ≠ it → h₅.get? b = some o → h'.get? b = some o := fun b o q1 q2 q3 ho => hm.heap b o (fun hb => by
      rcases List.mem_cons.mp hb with q | hb
      · exact q1 q
      · rcases List.mem_cons.mp hb with q | hb
        · exact q2 q
        · exact q3 (List.mem_singleton.mp hb)) ho
    refine hQ' t' h' tk' g' ⟨F₅.ns.at fun o ho => hh' L o (Nat.ne_of_lt F₂.ns.lt) hLe.symm hLi.symm ho, fun b o ho => hh' b o ?_ ?_ ?_ (F₅.keep b o ho), F₂.above⟩ (fun p hp => ⟨hh' p.1 p.2 ?_ ?_ ?_ (N₅ p hp).1, (N₅ p hp).2⟩) (GExt.moved hgb hm.gens)
    · exact Nat.ne_of_lt (Heap.lt_size (F₂.keep _ _ ho))
    · intro q; rw [q, hne] at ho; cases ho
    · intro q; rw [q, hni] at ho; cases ho
    · exact Nat.ne_of_lt (Heap.lt_size (N₂ p (.tail _ (.tail _ hp))).1)
    · exact Nat.ne_of_lt (Nat.lt_trans (hsmall _ p hp) le)
    · exact Nat.ne_of_lt (hsmall _ p hp)
end Mine
end
section
open PySem PySem.W PySem.Calls PySem.Spec PyProof.Rows
set_option maxHeartbeats 8000000
namespace Mine
section
variable {prog : Program} {w : World} {A : Around} {s : Shared} {env : Env} {h₀ : Heap}
/-- how a turn that may make generators ends -/
def TurnEnd (h₀ : Heap) (L : Addr) (J : (Str → Option Value) → List (Addr × Obj) → Prop) (own : List (Addr × Obj)) (adr : List Addr) (s : Shared) (f : Flow) (s₃ : Shared) : Prop :=
  f = .next ∧ ∃ h' tk' gens' m' nx, s₃ = { s with heap := h', toks := tk', gens := gens' } ∧ Fr h₀ L h' m' ∧ News h₀ L h' (nx ++ own) ∧ nx.map (·.1) = adr ∧ J m' nx ∧ GExt s.gens gens'
/-- the loop, where a turn may make generators -/
def LoopAtG (prog : Program) (w : World) (A : Around) (h₀ : Heap) (env : Env) (x : Str) (body : List Stmt) (Q : Flow → Shared → Prop) (E : Value → Shared → Prop) (it : Value) (s₂ : Shared) : Prop :=
  ∃ (I : Addr) (fp wr : List Addr) (n : Nat) (P : Nat → Value → Prop) (St : Nat → Heap → Prop) (m : Str → Option Value) (news : List (Addr × Obj)) (J : Nat → (Str → Option Value) → List (Addr × Obj) → Array GenState → Prop),
    it = .ref I ∧ Walks prog w A I fp wr n P St ∧ env.locals ∉ fp ∧ (∀ b ∈ wr, h₀.get? b = none) ∧ (∀ p ∈ news, p.1 ∉ fp) ∧ wr = fp ∧ St 0 s₂.heap ∧ Fr h₀ env.locals s₂.heap m ∧ News h₀ env.locals s₂.heap news ∧ J 0 m news s₂.gens ∧
    (∀ i v m₁ news₁ h tk gens own, i < n → P i v → J i m₁ news₁ gens → news₁.map (·.1) = news.map (·.1) → (∀ p ∈ own, p.1 ∈ fp) →
      Fr h₀ env.locals h (fun y => if y = x then some v else m₁ y) → News h₀ env.locals h (news₁ ++ own) →
      wpAny (model prog w) A (execs body env) (fun f s₃ => f = .next ∧ ∃ h' tk' gens' m' nx, s₃ = { s₂ with heap := h', toks := tk', gens := gens' } ∧ Fr h₀ env.locals h' m' ∧ News h₀ env.locals h' (nx ++ own) ∧ nx.map (·.1) = news.map (·.1) ∧ J (i + 1) m' nx gens') E { s₂ with heap := h, toks := tk, gens := gens }) ∧
    ∀ h' tk gens' m' news', Fr h₀ env.locals h' m' → News h₀ env.locals h' news' → J n m' news' gens' → Q .next { s₂ with heap := h', toks := tk, gens := gens' }
theorem For_G {E : Value → Shared → Prop} {Q : Flow → Shared → Prop} {x : Str} {px pos : Pos} {iter : Expr} {body : List Stmt} (h₀ : Heap) (hx : env.kindOf x = some .local)
    (hp : (env.scope.kind == .class || (env.scope.kind == .module && env.locals != env.globals)) = false)
    (h : wpAny (model prog w) A (eval iter env) (fun xv s₁ => wpAny (model prog w) A (pyIter xv) (fun it s₂ => LoopAtG prog w A h₀ env x body Q E it s₂) E s₁) E s)
    (hs : ∀ x, foldedSetIterable iter env x = pure x) (hE : PassesOwn (model prog w) A env E) :
    wpAny (model prog w) A (exec (.For (.Name x px) iter body [] pos) env) Q E s := by
  refine wpAny_For (wpAny_mono h (fun xv s₁ h₁ => wpAny_mono h₁ (fun it s₂ h₂ => ?_) fun _ _ e => e) fun _ _ e => e) hs
  obtain ⟨I, fp, wr, n, P, St, m, news, J, rfl, W, hLf, hwr, hnw, rfl, hst, F, N, h0, step, hQ⟩ := h₂
  have old : ∀ b o, h₀.get? b = some o → b ∉ wr := fun b o e hb => by rw [hwr b hb] at e; cases e
  have apart : ∀ {nx : List (Addr × Obj)}, nx.map (·.1) = news.map (·.1) → ∀ p ∈ nx, p.1 ∉ wr := fun e p hp hq => by
    have h1 : p.1 ∈ news.map (·.1) := e ▸ List.mem_map_of_mem hp
    obtain ⟨q, hq1, hq2⟩ := List.mem_map.mp h1
    exact hnw q hq1 (hq2 ▸ hq)
  refine codeAny_forLoop
    (fun k s' => ∃ h' tk gens' m' news' i, s' = { s₂ with heap := h', toks := tk, gens := gens' } ∧ St i h' ∧ Fr h₀ env.locals h' m' ∧ News h₀ env.locals h' news' ∧ news'.map (·.1) = news.map (·.1) ∧ J i m' news' gens' ∧ i ≤ n ∧ k = n + 1 - i) ?_ (n + 1)
    ⟨s₂.heap, s₂.toks, s₂.gens, m, news, 0, rfl, hst, F, N, rfl, h0, Nat.zero_le _, rfl⟩
  rintro k s' ⟨h', tk, gens', m', news', i, rfl, hst', F', N', hnw', hJ, hi, rfl⟩
  have next : ∀ h₁ : Heap, (∀ b o, b ∉ wr → h'.get? b = some o → h₁.get? b = some o) → Fr h₀ env.locals h₁ m' ∧ News h₀ env.locals h₁ news' := fun h₁ hk₁ =>
    ⟨⟨F'.ns.at' fun o e => hk₁ _ o hLf e, fun b o e => hk₁ b o (old b o e) (F'.keep b o e), F'.above⟩, fun p hp => ⟨hk₁ _ _ (apart hnw' p hp) (N' p hp).1, (N' p hp).2⟩⟩
  by_cases hlt : i < n
  · refine W.item i _ _ _ hlt hst' fun v h₁ tk₁ hP hst₁ hk₁ => ?_
    obtain ⟨F₁, N₁⟩ := next h₁ hk₁
    refine wpAny_assign_Name (wpAny_storeName_local hx F₁.ns (fun h₂ hn₂ hs₂ => ?_) hp)
    have F₂ := F₁.set hn₂ hs₂
    have Nown : News h₀ env.locals h₂ (ownOf h₀ wr h₂) := news_ownOf hLf
    refine wpAny_passesOwn hE (wpAny_mono (step i v m' news' h₂ _ gens' (ownOf h₀ wr h₂) hlt hP hJ hnw' ownOf_sub F₂ ((N₁.set hs₂).append Nown)) (fun f s₃ h₃ => ?_) fun _ _ e => e)
    obtain ⟨rfl, h₃', tk₃, gens₃, m₂, news₂, rfl, F₃, N₃, ha₃, hJ₃⟩ := h₃
    refine ⟨n + 1 - (i + 1), by omega, h₃', tk₃, gens₃, m₂, news₂, i + 1, rfl, ?_, F₃, (fun p hp => N₃ p (List.mem_append_left _ hp)), ha₃, hJ₃, hlt, rfl⟩
    refine W.frame _ _ _ hst₁ fun b hb o e => ?_
    have e₂ : h₂.get? b = some o := (hs₂.2 b fun q => hLf (q ▸ hb)).trans e
    exact (N₃ _ (List.mem_append_right _ (mem_ownOf hb (hwr b hb) e₂))).1
  · have hin : i = n := by omega
    subst hin
    refine W.done _ _ _ hst' fun h₁ tk₁ hk₁ => wpAny_execs_nil ?_
    obtain ⟨F₁, N₁⟩ := next h₁ hk₁
    exact hQ h₁ tk₁ gens' m' news' F₁ N₁ hJ
variable {x : Str} {body : List Stmt} {Q : Flow → Shared → Prop} {E : Value → Shared → Prop}
/-- a for over a range, whose turns may make generators -/
theorem loop_stepG {σ : Type} {r : Addr} {a₀ b₀ c₁ : Int} {t₀ u₀ v₀ : Tok} {n : Nat} {m₀ : Str → Option Value} (Led : σ → List (Addr × Obj)) (ps : σ → List (Str × Value)) (Facts : σ → Prop) (stored : List Str) (P : List Int → σ → Prop) (c₀ : σ)
    (hh : A.handled = none) (hr : IsRange s.heap r a₀ b₀ c₁ t₀ u₀ v₀) (hsmall : Builtin.Range.small a₀ b₀ c₁ = true) (hn : Builtin.Range.rangeSize a₀ b₀ c₁ = (n : Int)) (F : Fr h₀ env.locals s.heap m₀) (N : News h₀ env.locals s.heap (Led c₀)) (hf : Facts c₀) (hk : ∀ p ∈ ps c₀, m₀ p.1 = some p.2) (hp : P [] c₀)
    (turn : ∀ (c : σ) (i : Nat) t (u : Str → Option Value) h tk gens own, i < n → (Led c).map (·.1) = (Led c₀).map (·.1) → OwnOff own ((Led c₀).map (·.1)) → Facts c → P ((List.range i).map fun j : Nat => a₀ + (j : Int) * c₁) c → GExt s.gens gens →
      Fr h₀ env.locals h (fun y => if y = x then some (.int (a₀ + (i : Int) * c₁) t) else kstB (fun z => if stored.contains z then u z else m₀ z) (ps c) y) → News h₀ env.locals h (Led c ++ own) →
      wpAny (model prog w) A (execs body env) (TurnEnd h₀ env.locals (KstS Led ps Facts x stored m₀ P ((List.range (i + 1)).map fun j : Nat => a₀ + (j : Int) * c₁)) own ((Led c₀).map (·.1)) s) E { s with heap := h, toks := tk, gens := gens })
    (done : ∀ (c : σ) (u : Str → Option Value) h tk gens, Facts c → P ((List.range n).map fun j : Nat => a₀ + (j : Int) * c₁) c → GExt s.gens gens → Fr h₀ env.locals h (fun y => if y = x then u y else kstB (fun z => if stored.contains z then u z else m₀ z) (ps c) y) → News h₀ env.locals h (Led c) → Q .next { s with heap := h, toks := tk, gens := gens }) :
    wpAny (model prog w) A (pyIter (.ref r)) (fun it s₂ => LoopAtG prog w A h₀ env x body Q E it s₂) E s := by
  refine wpAny_pyIter_range hr hsmall ?_
  have W : Walks prog w A s.heap.objs.size [s.heap.objs.size] [s.heap.objs.size] n (fun i v => ∃ t, v = .int (a₀ + i * c₁) t)
      (fun i h => IsRangeIter h s.heap.objs.size (a₀ + (i : Nat) * c₁) ((n : Int) - (i : Nat)) c₁) := Walks.range hh _ a₀ c₁ n
  refine ⟨s.heap.objs.size, _, _, n, _, _, m₀, Led c₀, fun i m nx gens => KstS Led ps Facts x stored m₀ P ((List.range i).map fun j : Nat => a₀ + (j : Int) * c₁) m nx ∧ GExt s.gens gens, rfl, W, ?_, ?_, ?_, rfl, (by show IsRangeIter _ _ _ _ _; rw [hn]; simpa using Heap.get?_push_size _ rfl), F.push _,
    fun p hp => ⟨Heap.get?_push_of_some _ (N p hp).1, (N p hp).2⟩, ⟨⟨c₀, rfl, hf, hk, fun _ _ _ _ => rfl, by simpa using hp⟩, GExt.refl _⟩, ?_, ?_⟩
  · intro hm
    exact absurd F.ns.lt ((List.mem_singleton.mp hm) ▸ Nat.lt_irrefl _)
  · intro b hb
    rw [List.mem_singleton.mp hb]
    exact next_is_new F
  · intro p hp hI
    exact absurd (Heap.lt_size (N p hp).1) ((List.mem_singleton.mp hI) ▸ Nat.lt_irrefl _)
  · rintro i v m₁ nx h tk gens own hi ⟨t, rfl⟩ ⟨⟨c, rfl, hf', h1, h2, hp'⟩, hg⟩ ha hown F₁ N₁
    have hoff : OwnOff own ((Led c₀).map (·.1)) := fun p hp b hb e => by
      obtain ⟨q, hq, rfl⟩ := List.mem_map.mp hb
      have h1 := List.mem_singleton.mp (hown p hp)
      have h2 := Heap.lt_size (N q hq).1
      rw [← e, h1] at h2
      exact Nat.lt_irrefl _ h2
    exact turn c i t m₁ h tk gens own hi ha hoff hf' hp' hg (kst_fr h1 h2 F₁) N₁
  · rintro h tk gens m₁ nx F₁ N₁ ⟨⟨c, rfl, hf', h1, h2, hp'⟩, hg⟩
    exact done c m₁ h tk gens hf' hp' hg (kst_frOut h1 h2 F₁) N₁
end
end Mine
end
section
open PySem PySem.W PySem.Calls PySem.Spec PyProof.Rows
set_option maxHeartbeats 8000000
namespace Mine
theorem For_GF {prog : Program} {w : World} {A : Around} {s : Shared} {env : Env} {h₀ : Heap} {m : Str → Option Value} {E : Value → Shared → Prop} {Q : Flow → Shared → Prop} {x : Str} {px pos : Pos} {iter : Expr} {body : List Stmt} (_F : Fr h₀ env.locals s.heap m) (hx : env.kindOf x = some .local)
    (hp : (env.scope.kind == .class || (env.scope.kind == .module && env.locals != env.globals)) = false)
    (h : wpAny (model prog w) A (eval iter env) (fun xv s₁ => wpAny (model prog w) A (pyIter xv) (fun it s₂ => LoopAtG prog w A h₀ env x body Q E it s₂) E s₁) E s)
    (hs : ∀ x, foldedSetIterable iter env x = pure x := by intro _; rfl)
    (hE : PassesOwn (model prog w) A env E := by passes_own) :
    wpAny (model prog w) A (exec (.For (.Name x px) iter body [] pos) env) Q E s := For_G h₀ hx hp h hs hE
/-- the answer of a call that may make generators -/
abbrev GRet (h₀ : Heap) (L : Addr) (m : Str → Option Value) (g : Obj → List (Addr × Obj)) (s : Shared) (Q : Value → Shared → Prop) (R : Tok → Value) : Prop :=
  ∀ (t : Tok) (h' : Heap) (tk' : Nat) (ps' : Array Value) (gens' : Array GenState), Fr h₀ L h' m → News h₀ L h' (g (tabObj ps')) → TriplesOk ps'.toList → GExt s.gens gens' → Q (R t) { s with heap := h', toks := tk', gens := gens' }
/-- a def that may make generators, told once: the table 106 of the code 110 grows -/
abbrev ClG (w : World) (D : Nat) (f : Addr) (vs : List Value) (R : Tok → Value) : Prop :=
  ∀ (p : Program) (loose : List Str) (mean : ExcName → Option Value) (mg mb : Str → Option Value) (news : List (Addr × Obj)) (g : Obj → List (Addr × Obj)) (ps : Array Value) (dp un : Nat) (gd : Option (List Code)) (cn : Str) (cs : Scope) (a : Addr) (ccd : Value) (cl : List (Str × Addr)) (outer : List Env) (A₀ : Around) (base h₀ : Heap) (L : Addr) (m : Str → Option Value) (s : Shared) (Q E : Value → Shared → Prop),
    Below A₀ base outer h₀ → Fr h₀ L s.heap m → (hd.heap_1 w.params).In h₀ → News h₀ L s.heap news → UpdF 106 (tabObj ps) news g → TriplesOk ps.toList → Top p loose mean mg mb h₀ → cs.kind = .function → dp + D < recursionLimit → un + 8 * D < cLine →
    GRet h₀ L m g s Q R → wpAny (model PG w) (ktrTop dp un gd cn cs L a ccd cl outer) (call (.ref f) vs) Q E s
theorem ClG.use {w : World} {D : Nat} {f : Addr} {vs : List Value} {R : Tok → Value} (C : ClG w D f vs R) {p : Program} {loose : List Str} {mean : ExcName → Option Value} {mg mb : Str → Option Value} {news : List (Addr × Obj)} {g : Obj → List (Addr × Obj)} {ps : Array Value} {dp un : Nat} {gd : Option (List Code)} {cn : Str} {cs : Scope} {a : Addr} {ccd : Value} {cl : List (Str × Addr)} {outer : List Env} {A₀ : Around} {base h₀ : Heap} {L : Addr} {m : Str → Option Value} {s : Shared} {Q E : Value → Shared → Prop}
    (B : Below A₀ base outer h₀) (F : Fr h₀ L s.heap m) (X : (hd.heap_1 w.params).In h₀) (N : News h₀ L s.heap news) (U : UpdF 106 (tabObj ps) news g) (ht : TriplesOk ps.toList) (T : Top p loose mean mg mb h₀) (hk : cs.kind = .function) (hd : dp + D < recursionLimit) (hu : un + 8 * D < cLine)
    (hR : GRet h₀ L m g s Q R) : wpAny (model PG w) (ktrTop dp un gd cn cs L a ccd cl outer) (call (.ref f) vs) Q E s := C _ _ _ _ _ _ _ _ _ _ _ _ _ _ _ _ _ _ _ _ _ _ _ _ _ B F X N U ht T hk hd hu hR
theorem code_110 {w : World} {h : Heap} (X : (hd.heap_1 w.params).In h) : CodeHd h 110 106 := codeHd_of_K X (by kernel_rfl)
theorem news_ne {h₀ h : Heap} {L a b : Addr} {o o' : Obj} {news : List (Addr × Obj)} (N : News h₀ L h news) (ha : (a, o) ∈ news) (hb : (b, o') ∈ news) (hc : o.cls ≠ o'.cls) : a ≠ b := fun e => by
  have h1 := (N _ ha).1
  have h2 := (N _ hb).1
  simp only at h1 h2
  rw [e, h2] at h1
  cases h1
  exact hc rfl
theorem upd_mem {d : Addr} {o : Obj} {news : List (Addr × Obj)} {g : Obj → List (Addr × Obj)} (U : UpdF d o news g) : (d, o) ∈ news := by
  obtain ⟨own, rest, rfl, _⟩ := U.split
  exact List.mem_append_right _ (.head _)
theorem upd_memg {d : Addr} {o : Obj} {news : List (Addr × Obj)} {g : Obj → List (Addr × Obj)} (U : UpdF d o news g) (o' : Obj) : (d, o') ∈ g o' := by
  obtain ⟨own, rest, rfl, hg, _⟩ := U.split
  rw [hg]
  exact List.mem_append_right _ (.head _)
/-- the same path, from a later table -/
theorem upd_again {d : Addr} {o : Obj} {news : List (Addr × Obj)} {g : Obj → List (Addr × Obj)} (U : UpdF d o news g) (o' : Obj) : UpdF d o' (g o') g := by
  induction U with
  | head h => exact .head h
  | tail h _ ih => exact .tail h ih
theorem upd_keys {d : Addr} {o : Obj} {news : List (Addr × Obj)} {g : Obj → List (Addr × Obj)} (U : UpdF d o news g) (o' : Obj) : (g o').map (·.1) = news.map (·.1) := by
  obtain ⟨own, rest, rfl, hg, _⟩ := U.split
  rw [hg]
  simp
theorem upd_self {d : Addr} {o : Obj} {news : List (Addr × Obj)} {g : Obj → List (Addr × Obj)} (U : UpdF d o news g) : g o = news := by
  obtain ⟨own, rest, rfl, hg, _⟩ := U.split
  rw [hg]
end Mine
namespace Mine
theorem upd_append {d : Addr} {o : Obj} {news own : List (Addr × Obj)} {g : Obj → List (Addr × Obj)} (U : UpdF d o news g) (h : ∀ p ∈ own, p.1 ≠ d) : UpdF d o (news ++ own) (fun o' => g o' ++ own) := by
  induction U with
  | @head r hr =>
    refine .head fun p hp => ?_
    rcases List.mem_append.mp hp with q | q
    · exact hr p q
    · exact h p q
  | tail hp _ ih => exact .tail hp ih
theorem off_key {d : Addr} {o : Obj} {news own : List (Addr × Obj)} {g : Obj → List (Addr × Obj)} (U : UpdF d o news g) {o' : Obj} {l : Addr} (h : OwnOff own (l :: (g o').map (·.1))) : ∀ p ∈ own, p.1 ≠ d :=
  h.ne (List.mem_cons_of_mem _ (List.mem_map_of_mem (upd_memg U o')))
theorem upd_lt {d l : Addr} {o : Obj} {news : List (Addr × Obj)} {g : Obj → List (Addr × Obj)} (U : UpdF d o news g) (h : ∀ p ∈ news, p.1 < l) (o' : Obj) : ∀ p ∈ g o', p.1 < l := by
  intro p hp
  have h1 : p.1 ∈ (g o').map (·.1) := List.mem_map_of_mem hp
  rw [upd_keys U o'] at h1
  obtain ⟨q, hq, e⟩ := List.mem_map.mp h1
  have h2 := h q hq
  rw [e] at h2
  exact h2
theorem allLt_mem {d : Addr} {l : List (Addr × Obj)} (h : AllLt d l) : ∀ p ∈ l, p.1 < d := by
  induction l with
  | nil => exact fun _ hp => (nomatch hp)
  | cons q r ih =>
    intro p hp
    rcases List.mem_cons.mp hp with rfl | hp
    · exact h.1
    · exact ih h.2 p hp
end Mine
end
section
open PySem PySem.W PySem.Calls PySem.Spec PyProof.Rows
set_option maxHeartbeats 8000000
namespace Mine
/-- entering a def with cells from the caller of the claim -/
theorem code_topC {prog : Program} {w : World} {K : Frag} {s : Shared} {p : Program} {loose : List Str} {mean : ExcName → Option Value} {mg mb : Str → Option Value} {R : Result → Shared → Prop} {name : Str} {params : Arguments} {body : List Stmt} {scope : Scope} {doc pm cdv oc : Value} {od : Option Addr} {osl : Array (Option Value)} {f : Addr} {args : List Value} {binds : List (Str × Value)}
    (X : K.In s.heap) (T : Top p loose mean mg mb s.heap) (ho : K.lookup f = some ⟨oc, od, .func (fnOf name name params body scope .none .none doc pm .none cdv .none), osl⟩) (hcd : codeIn K cdv name = true)
    (hbind : bindArgs (Calls.docDef name params body scope pm cdv doc) ⟨args, []⟩ = pure binds)
    (hkind : ∀ x ∈ binds, scope.names.lookup x.1 = some .local ∨ (scope.names.lookup x.1 = some .cell ∧ ((cellsFrom (s.heap.objs.size + 1) scope.names []).lookup x.1).isSome = true))
    (hnd : ((cellsFrom 0 scope.names []).map (·.1)).Nodup)
    (h : ∀ h₁ tk cells, Fr s.heap s.heap.objs.size h₁ (bindL (envOfC name scope s.heap.objs.size f cdv).kindOf binds fun _ => none) → News s.heap s.heap.objs.size h₁ cells →
      CellsAre (bindC (envOfC name scope s.heap.objs.size f cdv).kindOf binds fun _ => none) (cellsFrom (s.heap.objs.size + 1) scope.names []) cells →
      wpAny (model prog w) (callerA.deeper (envOfC name scope s.heap.objs.size f cdv)) (execs body (envOfC name scope s.heap.objs.size f cdv))
        (fun f s' => R (.ok (.ret (match f with | .ret v => v | _ => .none))) s')
        (fun e s' => wpAny (model prog w) (callerA.deeper (envOfC name scope s.heap.objs.size f cdv)) (leaving (envOfC name scope s.heap.objs.size f cdv) e)
          (fun _ s'' => R (.error e) s'') (fun e' s'' => R (.error e') s'') s')
        { s with heap := h₁, toks := tk })
    (hco : scope.isCoroutine = false) (hgen : scope.isGenerator = false) (hk : scope.kind = .function) : codeAny (model prog w) callerA (.call (.ref f) ⟨args, []⟩) R s :=
  call_cellsN (by decide) (X _ _ ho) rfl T.nolimit (codeRec_of X hcd) hbind hkind hnd h hco hgen hk
end Mine
end
section
open PySem PySem.W PySem.Calls PySem.Spec PyProof.Rows
set_option maxHeartbeats 8000000
namespace Mine
def chunkOf (ks : List Int) (j : Nat) : List Int := (ks.drop (8 * j)).take 8
def chunkAt (ks : List Int) (j : Nat) : Int := num (chunkOf ks j)
def decBin (ks : List Int) : List Int := (List.range ((ks.length + 7) / 8)).map (chunkAt ks)
theorem small8 {n : Nat} (h : n ≤ 100) : Builtin.Range.small 0 (n : Int) 8 = true ∧ Builtin.Range.rangeSize 0 (n : Int) 8 = (((n + 7) / 8 : Nat) : Int) := by
  have key : ∀ k : Fin 101, Builtin.Range.small 0 ((k.val : Nat) : Int) 8 = true ∧ Builtin.Range.rangeSize 0 ((k.val : Nat) : Int) 8 = (((k.val + 7) / 8 : Nat) : Int) := by decide +kernel
  exact key ⟨n, by omega⟩
theorem num_nonneg_lt : ∀ (ks : List Int), (∀ k ∈ ks, k = 0 ∨ k = 1) → 0 ≤ num ks ∧ num ks < 2 ^ ks.length := by
  intro ks h
  rw [← List.reverse_reverse ks] at h ⊢
  generalize ks.reverse = qs at h ⊢
  induction qs with
  | nil => exact ⟨by decide, by decide⟩
  | cons k r ih =>
    rw [List.reverse_cons] at h ⊢
    rw [num_snoc, List.length_append, List.length_singleton, Int.pow_succ]
    have a := ih (fun x hx => h x (List.mem_append_left _ hx))
    have b := h k (by simp)
    omega
theorem chunkOf_01 {ks : List Int} (h : ∀ k ∈ ks, k = 0 ∨ k = 1) (j : Nat) : ∀ k ∈ chunkOf ks j, k = 0 ∨ k = 1 := fun k hk => h k (List.mem_of_mem_drop (List.mem_of_mem_take hk))
theorem chunkOf_len (ks : List Int) (j : Nat) : (chunkOf ks j).length ≤ 8 := by unfold chunkOf; rw [List.length_take]; omega
theorem chunkAt_byte {ks : List Int} (h : ∀ k ∈ ks, k = 0 ∨ k = 1) (j : Nat) : 0 ≤ chunkAt ks j ∧ chunkAt ks j < 256 := by
  have a := num_nonneg_lt _ (chunkOf_01 h j)
  have b := chunkOf_len ks j
  have c : (2:Int) ^ (chunkOf ks j).length ≤ 2 ^ 8 := by
    have key : ∀ n : Fin 9, (2:Int) ^ n.val ≤ 2 ^ 8 := by decide
    exact key ⟨_, by omega⟩
  exact ⟨a.1, Int.lt_of_lt_of_le a.2 c⟩
theorem decBin_in {ks : List Int} (h : ∀ k ∈ ks, k = 0 ∨ k = 1) : KBa.In (decBin ks) := by
  intro n hn
  obtain ⟨j, _, rfl⟩ := List.mem_map.mp hn
  exact chunkAt_byte h j
theorem clip_chunk {ks : List Int} {i : Nat} (hlt : i < (ks.length + 7) / 8) : List.take (clipAt ks.length (0 + (i : Int) * 8 + 8) - clipAt ks.length (0 + (i : Int) * 8)) (List.drop (clipAt ks.length (0 + (i : Int) * 8)) ks) = chunkOf ks i := by
  have e1 : clipAt ks.length (0 + (i : Int) * 8) = 8 * i := by unfold clipAt; omega
  have e2 : clipAt ks.length (0 + (i : Int) * 8 + 8) = min ks.length (8 * i + 8) := by unfold clipAt; omega
  rw [e1, e2]
  unfold chunkOf
  rw [List.take_eq_take_iff, List.length_drop]
  omega
local macro_rules | `(tactic| walk_at "call type:list") => `(tactic| (k_here; (with_reducible show wpAny _ _ (call (Value.type _) [Value.bytes _ _]) _ _ _); (rename (KBw.bInts (KBy.picked _ _ _) = _) => kbX); (have kbY := Eq.trans kbX (clip_chunk (by assumption))); k_dflt (refine' listBytes_K ?lF ?lN ?lh kbY ?lz ?_; (case lF => k_asm); (case lN => k_asm); (case lh => exact rfl); (case lz => exact Nat.le_trans (chunkOf_len _ _) (by decide))); clear kbX kbY; intro D' h' tk' ys' c' F' N' l1 i1; (try k_lt l1)))
local macro_rules | `(tactic| walk_at "call type:enumerate") => `(tactic| (k_here; (with_reducible show wpAny _ _ (call (Value.type _) [Value.ref _]) _ _ _); k_dflt (refine' enumRev_K ?F ?N ?m ?_; (case F => k_asm); (case N => k_asm); (case m => exact List.mem_cons_self ..)); intro e' h' F' N' l1))
local macro_rules | `(tactic| walk_at "exec For Name Call cons nil") => `(tactic| (k_here; (rename Fr _ _ _ _ => lF'); (with_unfolding_all refine' For_GF lF' ?k1 ?k2 ?_; (case k1 => exact rfl); (case k2 => exact rfl); k_whole)))
theorem c_decbin (w : World) (b : Array UInt8) (t : Tok) (ks : List Int) (kb : KBw.bInts b = ks) (kl : ks.length ≤ 100) (k01 : ∀ k ∈ ks, k = 0 ∨ k = 1) : ClG w 1 111 [.bytes b t] (fun t => .bytes (byteArr (decBin ks)) t) := by
  intro p loose mean mg mb news g ps dp un gd cn cs a ccd cl outer A₀ base h₀ L m s Q E B F X N U ht T hk hd hu hret
  refine wpAny_call ?_
  k_dflt cell_enter
  k_steps
  rename ∀ p, p ∈ news → _ => lo1
  have lo5 := fun o => upd_lt U lo1 o
  rename Fr _ _ _ _ => lF'
  rename News _ _ _ _ => lN'
  rename IsRange _ _ _ _ _ _ _ _ => rgX
  refine' loop_stepG (n := (ks.length + 7) / 8) (fun c : (List Value × List Int × Nat) × Array Value => (_, listOf c.fst.fst.toArray c.fst.snd.snd) :: g (tabObj c.snd)) (fun c => []) (fun c => IntsAre c.fst.fst c.fst.snd.fst ∧ TriplesOk c.snd.toList) [Str.ofString "chunk"] (fun pre c => c.1.2.1 = (List.range pre.length).map (chunkAt ks) ∧ c.1.2.1.length = pre.length) (([], [], 0), ps) (by rfl) rgX (small8 kl).1 (small8 kl).2 lF' ?hN ?kf ?kk ?kp ?_ ?_
  case hN => rw [upd_self U]; exact lN'
  case kf => exact ⟨.nil, ht⟩
  case kk => exact List.forall_mem_nil _
  case kp => exact ⟨rfl, rfl⟩
  · clear lF' lN' rgX
    rintro ⟨⟨us, ls, cn⟩, ps'⟩ i t u h tk gens own hlt hkeys hoff ⟨hfacts, ht'⟩ ⟨hP, hP2⟩ hgx F₁ N₁
    dsimp only [kstB] at hfacts ht' hP hP2 N₁ F₁ hoff
    simp only [List.map_cons] at hoff
    simp only [List.nil_append, List.cons_append, List.append_nil] at N₁
    rw [List.length_map, List.length_range] at hP hP2
    have kMark := kstMark
    have kLen := hfacts.length
    (try dsimp only)
    (try k_fold)
    k_steps
    rename Fr _ _ _ _ => lF'
    rename News _ _ _ _ => lN'
    have U₂ := upd_append (upd_again U (tabObj ps')) (off_key U hoff)
    rename IntsAre _ (chunkOf ks i) => iC
    refine' gen_K (c := 110) (P := 106) ?a1 ?a2 lF' lN' (by assumption) (code_110 (by assumption)) rfl (.tail ?n1 (.tail ?n2 U₂)) ht' (List.mem_cons_self ..) iC (chunkOf_01 k01 i) (chunkOf_len ks i) rfl ?a3 ?a4 ?a5 ?a6 ?a7 rfl ?a8 ?_ ?_
    case a1 => exact rfl
    case a2 => exact hd
    case n1 => exact news_ne lN' (List.mem_cons_self ..) (by first | exact .tail _ (.tail _ (upd_mem U₂))) (fun e => by cases e)
    case n2 => exact news_ne lN' (.tail _ (List.mem_cons_self ..)) (by first | exact .tail _ (.tail _ (upd_mem U₂))) (fun e => by cases e)
    case a3 => exact rfl
    case a4 => decide
    case a5 => decide +kernel
    case a6 => decide +kernel
    case a7 => decide +kernel
    case a8 => exact fun _ => rfl
    · clear hret
      k_steps
      refine ⟨_, _, _, _, rfl, rfl, (by k_asm), (by k_asm), ?_, ?_⟩
      · rename _ ∧ _ ∧ AllLt _ _ => q
        exact List.forall_mem_cons.mpr ⟨q.1, List.forall_mem_cons.mpr ⟨q.2.1, allLt_mem q.2.2⟩⟩
      · rename ∀ _, _ → _ => q
        exact q _ (List.mem_cons_self ..)
    · intro a' h₅ tk₅ gens₅ ps₅ F₅ N₅ ht₅ hg₅ hsum
      clear lF' lN'
      dsimp only at N₅ hsum
      have l5 := lo5 (tabObj ps₅)
      k_steps
      refine hsum _ _ fun t' h' tk' gens' F' N' hg' => ?_
      clear F₅ N₅ hsum
      (try dsimp only)
      (try k_fold)
      k_steps
      rename Fr _ _ _ _ => lF'
      rename News _ _ _ _ => lN'
      refine ⟨rfl, _, _, _, _, _, rfl, lF', ?n1, ?n2, ⟨((us ++ [Value.int (num (chunkOf ks i)) t'], ls ++ [chunkAt ks i], cn + 1), ps₅), rfl, ⟨?f1, ht₅⟩, List.forall_mem_nil _, ?f2, ?f3⟩, hgx.trans hg'⟩
      case n1 =>
        have e : (us ++ [Value.int (num (chunkOf ks i)) t']).toArray = us.toArray.push (Value.int (num (chunkOf ks i)) t') := by simp
        dsimp only
        rw [e]
        exact cb_drop lN' fun p hp => .tail _ hp
      case n2 =>
        show _ :: (g _).map _ = _ :: (g _).map _
        rw [upd_keys U, upd_keys U]
      case f1 => exact hfacts.append (by repeat constructor)
      case f2 =>
        intro z h1 _ h2
        have h3 : z ≠ Str.ofString "chunk" := fun q => by rw [q] at h2; exact absurd h2 (by decide)
        dsimp only
        rw [if_neg h3, if_neg h1, if_neg (by rw [h2]; exact Bool.false_ne_true)]
      case f3 =>
        dsimp only
        rw [List.length_map, List.length_range]
        refine ⟨?_, by simp [hP2]⟩
        rw [List.range_succ, List.map_append, hP]
        rfl
  · clear lF' lN' rgX
    rintro ⟨⟨us, ls, cn⟩, ps'⟩ u h tk gens ⟨hfacts, ht'⟩ ⟨hP, hP2⟩ hgx F₁ N₁
    dsimp only [kstB] at hfacts ht' hP hP2 N₁ F₁
    rw [List.length_map, List.length_range] at hP hP2
    have kMark := kstMark
    have hin : KBa.In ls := hP ▸ decBin_in k01
    have kLen := hfacts.length
    (try dsimp only)
    (try k_fold)
    k_steps
    subst hP
    exact hret _ _ _ _ _ (by k_asm) (by first | k_asm | (refine' cb_drop ?cbN ?cbS; (case cbN => assumption); (case cbS => kcj_all))) ht' hgx
end Mine
end
section
open PySem PySem.W PySem.Calls PySem.Spec PyProof.Rows
set_option maxHeartbeats 8000000
namespace Mine
def two (n : Nat) : List Int := match n with | 0 => [0, 0] | 1 => [0, 1] | 2 => [1, 0] | _ => [1, 1]
/-- the bits ahead of the path -/
def padOf (ks : List Int) : List Int := List.replicate ((4 - ks.length % 4) % 4) 0
def encBits (ks : List Int) : List Int := (if (padOf ks ++ ks).length % 8 = 4 then [0, 0] else [1, 0, 0, 0, 0, 0]) ++ two (ks.length % 4) ++ (padOf ks ++ ks)
def encKey (ks : List Int) : List Int := decBin (encBits ks)
theorem pad_fmod (n : Nat) : (4 - (n : Int)).fmod 4 = (((4 - n % 4) % 4 : Nat) : Int) := by
  rw [Int.fmod_eq_emod_of_nonneg _ (by decide)]
  omega
theorem padOf_in (ks : List Int) : KBa.In (padOf ks) := fun n hn => by
  have := (List.mem_replicate.mp hn).2
  subst this
  decide
theorem call_bytesPad {prog : Program} {w : World} {A : Around} {E : Value → Shared → Prop} {s : Shared} {ks : List Int} {t₀ : Tok} {Q : Value → Shared → Prop} (hQ : ∀ t k', Q (.bytes (byteArr (padOf ks)) t) { s with toks := k' }) : wpAny (model prog w) A (call (.type "bytes") [.int ((4 - (ks.length : Int)).fmod 4) t₀]) Q E s := by
  rw [pad_fmod]
  exact call_bytesInt (by omega) (by rw [Int.toNat_natCast]; exact hQ)
local macro_rules | `(tactic| walk_at "call type:bytes") => `(tactic| (k_here; (with_reducible show wpAny _ _ (call (Value.type "bytes") [Value.int _ _]) _ _ _); k_dflt (refine' call_bytesPad ?_); intro t9 tk9))
theorem two_01 (n : Nat) : ∀ k ∈ two n, k = 0 ∨ k = 1 := by
  unfold two
  split <;> decide
theorem two_len (n : Nat) : (two n).length = 2 := by
  unfold two
  split <;> rfl
theorem encBits_01 {ks : List Int} (h : ∀ k ∈ ks, k = 0 ∨ k = 1) : ∀ k ∈ encBits ks, k = 0 ∨ k = 1 := fun k hk => by
  rcases List.mem_append.mp hk with hk | hk
  · rcases List.mem_append.mp hk with hk | hk
    · split at hk <;> simp at hk <;> omega
    · exact two_01 _ k hk
  · rcases List.mem_append.mp hk with hk | hk
    · exact .inl (List.mem_replicate.mp hk).2
    · exact h k hk
theorem padOf_len (ks : List Int) : (padOf ks).length = (4 - ks.length % 4) % 4 := List.length_replicate
theorem encBits_len {ks : List Int} (h : ks.length ≤ 63) : (encBits ks).length ≤ 100 := by
  have a := padOf_len ks
  have b := two_len (ks.length % 4)
  unfold encBits
  rw [List.length_append, List.length_append, List.length_append, a, b]
  split <;> simp <;> omega
theorem fmod_nat (n k : Nat) (hk : 0 < k) : ((n : Nat) : Int).fmod (k : Int) = ((n % k : Nat) : Int) := by
  rw [Int.fmod_eq_emod_of_nonneg _ (by omega)]
  omega
theorem encBits4 {ks : List Int} (j : Nat) (h4 : ((ks.length : Nat) : Int).fmod 4 = (j : Int)) (h8 : (((padOf ks).length + ks.length : Nat) : Int).fmod 8 = 4) : encBits ks = ([0, 0] ++ two j) ++ (padOf ks ++ ks) := by
  have e4 := fmod_nat ks.length 4 (by decide)
  have e8 := fmod_nat ((padOf ks).length + ks.length) 8 (by decide)
  unfold encBits
  rw [if_pos (by rw [List.length_append]; simp only [Int.cast_ofNat_Int] at e8; omega), show ks.length % 4 = j by simp only [Int.cast_ofNat_Int] at e4; omega]
theorem encBits6 {ks : List Int} (j : Nat) (h4 : ((ks.length : Nat) : Int).fmod 4 = (j : Int)) (h8 : (((padOf ks).length + ks.length : Nat) : Int).fmod 8 ≠ 4) : encBits ks = ([1, 0, 0, 0, 0, 0] ++ two j) ++ (padOf ks ++ ks) := by
  have e4 := fmod_nat ks.length 4 (by decide)
  have e8 := fmod_nat ((padOf ks).length + ks.length) 8 (by decide)
  unfold encBits
  rw [if_neg (by rw [List.length_append]; simp only [Int.cast_ofNat_Int] at e8; omega), show ks.length % 4 = j by simp only [Int.cast_ofNat_Int] at e4; omega]
theorem c_enckey (w : World) (b : Array UInt8) (t : Tok) (ks : List Int) (kb : KBw.bInts b = ks) (kl : ks.length ≤ 63) (k01 : ∀ k ∈ ks, k = 0 ∨ k = 1) : ClG w 2 125 [.bytes b t] (fun t => .bytes (byteArr (encKey ks)) t) := by
  intro p loose mean mg mb news g ps dp un gd cn cs a ccd cl outer A₀ base h₀ L m s Q E B F X N U ht T hk hd hu hret
  refine wpAny_call ?_
  k_dflt cell_enter
  have kz := padOf_in ks
  have kz2 : (padOf ks).length = (4 - ks.length % 4) % 4 := List.length_replicate
  k_steps
  all_goals (try (exfalso; omega))
  all_goals (rename KBw.bInts (_ ++ (_ ++ _)) = _ => kbE)
  all_goals (first
    | (have kbF := kbE.trans (encBits4 0 (by assumption) (by assumption)).symm)
    | (have kbF := kbE.trans (encBits6 0 (by assumption) (by assumption)).symm)
    | (have kbF := kbE.trans (encBits4 1 (by assumption) (by assumption)).symm)
    | (have kbF := kbE.trans (encBits6 1 (by assumption) (by assumption)).symm)
    | (have kbF := kbE.trans (encBits4 2 (by assumption) (by assumption)).symm)
    | (have kbF := kbE.trans (encBits6 2 (by assumption) (by assumption)).symm)
    | (have kbF := kbE.trans (encBits4 3 (by assumption) (by assumption)).symm)
    | (have kbF := kbE.trans (encBits6 3 (by assumption) (by assumption)).symm))
  all_goals (
    refine ClG.use (c_decbin w _ _ _ kbF (encBits_len kl) (encBits_01 k01)) (by k_asm) (by k_asm) (by k_asm) (by k_asm) U ht (by k_asm) (by exact rfl) (by ktr_room) (by ktr_units) ?_
    (intro t9 h9 tk9 ps9 gens9 F9 N9 ht9 hg9)
    (try dsimp only)
    (try k_fold)
    k_steps
    exact hret _ _ _ _ _ (by k_asm) (by k_asm) ht9 hg9)
end Mine
end
section
open PySem PySem.W PySem.Calls PySem.Spec PyProof.Rows
set_option maxHeartbeats 8000000
namespace Mine
def exps : List Int := [128, 64, 32, 16, 8, 4, 2, 1]
def bitAt (c e : Int) : Int := if c / e % 2 = 1 then 1 else 0
def oct8 (c : Int) : List Int := exps.map (bitAt c)
def encBin (ks : List Int) : List Int := ks.flatMap oct8
theorem encBin_snoc (ks : List Int) (k : Int) : encBin (ks ++ [k]) = encBin ks ++ oct8 k := by simp [encBin]
theorem bitAt_in (c e : Int) : 0 ≤ bitAt c e ∧ bitAt c e < 256 := by unfold bitAt; split <;> decide
theorem encBin_in (ks : List Int) : KBa.In (encBin ks) := by
  intro n hn
  obtain ⟨k, _, hn⟩ := List.mem_flatMap.mp hn
  obtain ⟨e, _, rfl⟩ := List.mem_map.mp hn
  exact bitAt_in k e
theorem band_bit {n e : Int} (h0 : 0 ≤ n) (h1 : n < 256) (he : e ∈ exps) : bitAt n e = if Builtin.bitAnd n e = 0 then 0 else 1 := by
  have key : ∀ k : Fin 256, ∀ e ∈ exps, bitAt (k.val : Int) e = if Builtin.bitAnd (k.val : Int) e = 0 then 0 else 1 := by decide +kernel
  obtain ⟨k, rfl⟩ := Int.eq_ofNat_of_zero_le h0
  exact key ⟨k, by omega⟩ e he
theorem exps_len {pre post : List Int} {e : Int} (h : exps = pre ++ e :: post) : pre.length < 8 := by
  have := congrArg List.length h
  simp [exps] at this
  omega
theorem encbin_turn {ls pre' post' pre : List Int} {n e : Int} (heq : exps = pre' ++ e :: post') (h0 : 0 ≤ n) (h1 : n < 256) (hP : ls = encBin pre ++ pre'.map (bitAt n)) (hl : ls.length = 8 * pre.length + pre'.length) {v : Int} (hv : Builtin.bitAnd n e = 0 ∧ v = 0 ∨ ¬ Builtin.bitAnd n e = 0 ∧ v = 1) :
    ls ++ [v] = encBin pre ++ (pre' ++ [e]).map (bitAt n) ∧ (ls ++ [v]).length = 8 * pre.length + (pre' ++ [e]).length := by
  have he : bitAt n e = v := by
    rw [band_bit h0 h1 (by rw [heq]; simp)]
    rcases hv with ⟨a, b⟩ | ⟨a, b⟩ <;> simp [a, b]
  subst hP
  refine ⟨by simp [he], ?_⟩
  rw [List.length_append, hl]
  simp
  omega
theorem c_encbin (w : World) (b : Array UInt8) (t : Tok) (ks : List Int) (kb : KBw.bInts b = ks) (kl : ks.length ≤ 100) : Cl w 1 118 [.bytes b t] (fun t => .bytes (byteArr (encBin ks)) t) := by
  intro p loose mean mg mb news dp un gd cn cs a ccd cl outer A₀ base h₀ L m s Q E B F X N T hk hd hu hret
  refine wpAny_call ?_
  k_dflt cell_enter
  k_steps
  rename Fr _ _ _ _ => lF'
  rename News _ _ _ _ => lN'
  refine' KStb.kst_bytes (fun c : List Value × List Int × Nat => (_, listOf c.fst.toArray c.snd.snd) :: news) (fun c => []) (fun c => IntsAre c.fst c.snd.fst) [Str.ofString "exp"] (fun pre c => c.2.1 = encBin pre ∧ c.2.1.length = 8 * pre.length) ([], [], 0) kb rfl (by rfl) lF' lN' ?kf ?kk ?kp ?_ ?_
  case kf => exact .nil
  case kk => exact List.forall_mem_nil _
  case kp => exact ⟨rfl, rfl⟩
  · clear lF' lN'
    rintro ⟨us, ls, cn⟩ pre post n t u h tk own heq hlt h0 h256 hoff hfacts ⟨hP, hP2⟩ F₁ N₁
    dsimp only [kstB] at hfacts hP hP2 N₁ F₁ hoff
    simp only [List.map_cons] at hoff
    simp only [List.nil_append, List.cons_append, List.append_nil] at N₁
    have kMark := kstMark
    (try dsimp only)
    (try k_fold)
    k_steps
    rename Fr _ _ _ _ => lF'
    rename News _ _ _ _ => lN'
    refine' loop_tup (ns := exps) (fun c : List Value × List Int × Nat => (_, listOf c.fst.toArray c.snd.snd) :: (news ++ own)) (fun c => []) (fun c => IntsAre c.fst c.snd.fst) [] (fun done c => c.2.1 = encBin pre ++ done.map (bitAt n) ∧ c.2.1.length = 8 * pre.length + done.length) (us, ls, cn) (by rfl) (by (rename Frag.In _ _ => xX); exact xX _ _ (by k_is)) rfl rfl (by repeat constructor) lF' lN' ?kf ?kk ?kp ?_ ?_
    case kf => assumption
    case kk => exact List.forall_mem_nil _
    case kp => exact ⟨by simp [hP], by simp [hP2]⟩
    · clear lF' lN'
      rintro ⟨us', ls', cn'⟩ pre' post' e t' u' h' tk' own' heq' hoff' hfacts' ⟨hP', hP2'⟩ F₂ N₂
      dsimp only [kstB] at hfacts' hP' hP2' N₂ F₂ hoff'
      simp only [List.map_cons] at hoff'
      simp only [List.nil_append, List.cons_append, List.append_nil] at N₂
      have he := exps_len heq'
      have kLen := hfacts'.length
      (try dsimp only)
      (try k_fold)
      (k_with "state" => exact encbin_turn heq' h0 h256 hP' hP2' (by first | exact .inl ⟨by assumption, rfl⟩ | exact .inr ⟨by assumption, rfl⟩))
      k_steps
    · clear lF' lN'
      rintro ⟨us', ls', cn'⟩ u' h' tk' hfacts' ⟨hP', hP2'⟩ F₂ N₂
      dsimp only [kstB] at hfacts' hP' hP2' N₂ F₂
      (try dsimp only)
      (try k_fold)
      have kLen := hfacts'.length
      (k_with "state" => exact ⟨by rw [hP', encBin_snoc]; rfl, by rw [hP2', List.length_append]; simp [exps]; omega⟩)
      k_steps
  · clear lF' lN'
    rintro ⟨us, ls, cn⟩ u h tk hlen hfacts ⟨hP, hP2⟩ F₁ N₁
    dsimp only [kstB] at hfacts hP hP2 N₁ F₁
    have kMark := kstMark
    (try dsimp only)
    (try k_fold)
    have hin : KBa.In ls := hP ▸ encBin_in ks
    k_steps
    subst hP
    exact hret _ _ _ (by k_asm) (by first | k_asm | (refine' cb_drop ?cbN ?cbS; (case cbN => assumption); (case cbS => kcj_all)))
end Mine
end
section
open PySem PySem.W PySem.Calls PySem.Spec PyProof.Rows
set_option maxHeartbeats 8000000
namespace Mine
section
variable {prog : Program} {w : World} {A : Around} {E : Value → Shared → Prop} {s : Shared}
/-- the four words of two bits -/
def quads (t0 t1 t2 t3 : Tok) : Array Value := #[.bytes #[0, 0] t0, .bytes #[0, 1] t1, .bytes #[1, 0] t2, .bytes #[1, 1] t3]
def isB (c : Array UInt8) (v : Value) : Bool := match v with | .bytes b _ => decide (b.toList = c.toList) | _ => false
def padVal (a b : Int) : Nat := if a = 0 then (if b = 0 then 0 else 1) else (if b = 0 then 2 else 3)
theorem index_quads {l : Addr} {n : Nat} {t0 t1 t2 t3 t : Tok} {c : Array UInt8} {x y : Int} {Q : Value → Shared → Prop} (ho : s.heap.get? l = some { cls := .type "list", data := .seq (quads t0 t1 t2 t3) n }) (hc : KBw.bInts c = [x, y]) (hx : x = 0 ∨ x = 1) (hy : y = 0 ∨ y = 1)
    (h : ∀ t' k, Q (.int (padVal x y : Nat) t') { s with toks := k }) : wpAny (model prog w) A (call (.builtin "list.index") [.ref l, .bytes c t]) Q E s := by
  have e := mk_of hc
  have he : ∀ v, v ∈ quads t0 t1 t2 t3 → PySem.MeetsSeq.EqGives v (.bytes c t) (isB c v) := by
    intro v hv
    simp only [quads, List.mem_toArray, List.mem_cons, List.not_mem_nil, or_false] at hv
    rcases hv with rfl | rfl | rfl | rfl <;> exact fun _ _ _ _ _ _ h => eqBool_bytes h
  have go : ∀ (j : Nat) (hj : j < (quads t0 t1 t2 t3).size), isB c (quads t0 t1 t2 t3)[j] = true → (∀ m (hm : m < (quads t0 t1 t2 t3).size), m < j → isB c (quads t0 t1 t2 t3)[m] = false) → (j : Int) = (padVal x y : Nat) →
      wpAny (model prog w) A (call (.builtin "list.index") [.ref l, .bytes c t]) Q E s := fun j hj h1 h2 h3 => by
    have h4 : (j : Int) < 2 ^ 63 - 1 := by
      have : (quads t0 t1 t2 t3).size = 4 := rfl
      omega
    exact call_meets PySem.F.slot_list_index ⟨_, ho, rfl⟩ PySem.F.entry_list_index (PySem.F.args_list_index_2 _ _) (PySem.MeetsSeq.list_index l _ n (.bytes c t) (isB c) he j hj h4 h1 h2) ⟨ho, by rw [h3]; exact h _ _⟩
  have lt : ∀ m : Nat, m < (quads t0 t1 t2 t3).size → m < 4 := fun m h => h
  rcases hx with rfl | rfl <;> rcases hy with rfl | rfl <;> subst e
  · exact go 0 (by show _ < 4; decide) rfl (fun m hm h => absurd h (Nat.not_lt_zero _)) rfl
  · refine go 1 (by show _ < 4; decide) rfl (fun m hm h => ?_) rfl
    obtain rfl : m = 0 := by omega
    rfl
  · refine go 2 (by show _ < 4; decide) rfl (fun m hm h => ?_) rfl
    have : m = 0 ∨ m = 1 := by omega
    rcases this with rfl | rfl <;> rfl
  · refine go 3 (by show _ < 4; decide) rfl (fun m hm h => ?_) rfl
    have : m = 0 ∨ m = 1 ∨ m = 2 := by omega
    rcases this with rfl | rfl | rfl <;> rfl
end
theorem quads_K {w : World} {h : Heap} (X : (hd.heap_1 w.params).In h) : ∃ t0 t1 t2 t3, h.get? 53 = some { cls := .type "list", data := .seq (quads t0 t1 t2 t3) 0 } := ⟨248, 251, 254, 257, X _ _ (by kernel_rfl)⟩
section
variable {prog : Program} {w : World} {A : Around} {E : Value → Shared → Prop} {s : Shared} {h₀ : Heap} {L : Addr} {m : Str → Option Value}
theorem getm53 {pl : Sem Bool} {Q : Value × List Value → Shared → Prop} (F : Fr h₀ L s.heap m) (X : (hd.heap_1 w.params).In h₀) (h : Q (.builtin "list.index", [.ref 53]) s) : wpAny (model prog w) A (getMethod (.ref 53) (Str.ofString "index") pl) Q E s := by
  obtain ⟨t0, t1, t2, t3, e⟩ := quads_K X
  have e := F.keep _ _ e
  exact getMethod_list_of PySem.F.slot_list_index PySem.F.type_list_index ⟨_, e, rfl, _, rfl⟩ ⟨_, e, rfl⟩ h
theorem index53 {t : Tok} {c : Array UInt8} {x y : Int} {Q : Value → Shared → Prop} (F : Fr h₀ L s.heap m) (X : (hd.heap_1 w.params).In h₀) (hc : KBw.bInts c = [x, y]) (hx : x = 0 ∨ x = 1) (hy : y = 0 ∨ y = 1)
    (h : ∀ t' k, Q (.int (padVal x y : Nat) t') { s with toks := k }) : wpAny (model prog w) A (call (.builtin "list.index") [.ref 53, .bytes c t]) Q E s := by
  obtain ⟨t0, t1, t2, t3, e⟩ := quads_K X
  exact index_quads (F.keep _ _ e) hc hx hy h
end
theorem pick24 {p : List Int} (h : 4 ≤ p.length) : List.take (clipAt p.length 4 - clipAt p.length 2) (List.drop (clipAt p.length 2) p) = [p.getD 2 0, p.getD 3 0] := by
  have e2 : clipAt p.length 2 = 2 := by unfold clipAt; omega
  have e4 : clipAt p.length 4 = 4 := by unfold clipAt; omega
  rw [e2, e4]
  match p, h with
  | a :: b :: c :: d :: r, _ => rfl
theorem pick02 {p : List Int} (h : 4 ≤ p.length) : List.take (clipAt p.length 2 - clipAt p.length 0) (List.drop (clipAt p.length 0) p) = [p.getD 0 0, p.getD 1 0] := by
  have e2 : clipAt p.length 2 = 2 := by unfold clipAt; omega
  have e4 : clipAt p.length 0 = 0 := by unfold clipAt; omega
  rw [e2, e4]
  match p, h with
  | a :: b :: c :: d :: r, _ => rfl
end Mine
end
section
open PySem PySem.W PySem.Calls PySem.Spec PyProof.Rows
set_option maxHeartbeats 8000000
namespace Mine
/-- the bits behind the first half of an octet, where it is told over -/
def keyBits (ks : List Int) : List Int := if (encBin ks).getD 0 0 = 1 then (encBin ks).drop 4 else encBin ks
def keyOk (ks : List Int) : Bool := (keyBits ks).getD 0 0 == 0 && (keyBits ks).getD 1 0 == 0
def decKey (ks : List Int) : List Int := (keyBits ks).drop (4 + (4 - padVal ((keyBits ks).getD 2 0) ((keyBits ks).getD 3 0)) % 4)
theorem encBin_len (ks : List Int) : (encBin ks).length = 8 * ks.length := by
  induction ks with
  | nil => rfl
  | cons k r ih => show (oct8 k ++ encBin r).length = _; rw [List.length_append, ih]; simp [oct8, exps]; omega
theorem encBin_01 (ks : List Int) : ∀ k ∈ encBin ks, k = 0 ∨ k = 1 := fun k hk => by
  obtain ⟨c, _, hk⟩ := List.mem_flatMap.mp hk
  obtain ⟨e, _, rfl⟩ := List.mem_map.mp hk
  unfold bitAt
  split
  · exact .inr rfl
  · exact .inl rfl
theorem keyBits_01 (ks : List Int) : ∀ k ∈ keyBits ks, k = 0 ∨ k = 1 := fun k hk => by
  unfold keyBits at hk
  split at hk
  · exact encBin_01 ks k (List.mem_of_mem_drop hk)
  · exact encBin_01 ks k hk
theorem keyBits_len {ks : List Int} (h : 1 ≤ ks.length) : 4 ≤ (keyBits ks).length ∧ (keyBits ks).length ≤ 8 * ks.length := by
  have a := encBin_len ks
  unfold keyBits
  split
  · rw [List.length_drop]; omega
  · omega
theorem getD_01 {p : List Int} (h : ∀ k ∈ p, k = 0 ∨ k = 1) (i : Nat) : p.getD i 0 = 0 ∨ p.getD i 0 = 1 := by
  rw [List.getD_eq_getElem?_getD]
  cases e : p[i]? with
  | none => exact .inl rfl
  | some k => exact h k (List.mem_of_getElem? e)
theorem kb_one {ks : List Int} (h : (encBin ks).getD 0 0 = 1) : KBw.bInts (KBy.picked (byteArr (encBin ks)) (some 4) none) = keyBits ks := by
  rw [KBc.ints_picked (KBa.ints_make (encBin_in ks))]
  unfold keyBits
  rw [if_pos h]
  simp only [Option.elim]
  rw [KBc.clip_lit]
  rcases Nat.lt_or_ge (encBin ks).length 4 with q | q
  · rw [Nat.min_eq_right (Nat.le_of_lt q), List.drop_eq_nil_of_le (Nat.le_refl _), List.drop_eq_nil_of_le (Nat.le_of_lt q)]; exact List.take_nil
  · rw [Nat.min_eq_left q]
    exact List.take_of_length_le (by rw [List.length_drop]; omega)
theorem kb_two {ks : List Int} (h : (encBin ks).getD 0 0 ≠ 1) : KBw.bInts (byteArr (encBin ks)) = keyBits ks := by
  rw [KBa.ints_make (encBin_in ks)]
  unfold keyBits
  rw [if_neg h]
theorem c24 {b : Array UInt8} {p : List Int} (hb : KBw.bInts b = p) (h : 4 ≤ p.length) : KBw.bInts (KBy.picked b (some 2) (some 4)) = [p.getD 2 0, p.getD 3 0] := by
  rw [KBc.ints_picked hb]
  exact pick24 h
theorem c02 {b : Array UInt8} {p : List Int} (hb : KBw.bInts b = p) (h : 4 ≤ p.length) : KBw.bInts (KBy.picked b (some 0) (some 2)) = [p.getD 0 0, p.getD 1 0] := by
  rw [KBc.ints_picked hb]
  exact pick02 h
theorem c02_ok {ks : List Int} {b : Array UInt8} (hb : KBw.bInts b = keyBits ks) (h : 1 ≤ ks.length) : ((KBy.picked b (some 0) (some 2)).toList == #[0, 0].toList) = keyOk ks := by
  have e := mk_of (c02 hb (keyBits_len h).1)
  rw [e]
  unfold keyOk
  rcases getD_01 (keyBits_01 ks) 0 with q | q <;> rcases getD_01 (keyBits_01 ks) 1 with r | r <;> rw [q, r] <;> rfl
theorem cdrop {b : Array UInt8} {ks : List Int} (hb : KBw.bInts b = keyBits ks) {n : Int} (hn : n = (padVal ((keyBits ks).getD 2 0) ((keyBits ks).getD 3 0) : Nat)) : KBy.picked b (some (4 + (4 - n).fmod 4)) none = byteArr (decKey ks) := by
  refine mk_of ?_
  rw [KBc.ints_picked hb]
  subst hn
  unfold decKey
  have hp : ∀ a b, padVal a b ≤ 3 := fun a b => by unfold padVal; split <;> split <;> omega
  have h3 := hp ((keyBits ks).getD 2 0) ((keyBits ks).getD 3 0)
  generalize padVal ((keyBits ks).getD 2 0) ((keyBits ks).getD 3 0) = v at h3 ⊢
  have e : (4 + (4 - (v : Int)).fmod 4) = ((4 + (4 - v) % 4 : Nat) : Int) := by
    rw [Int.fmod_eq_emod_of_nonneg _ (by decide)]
    omega
  simp only [Option.elim]
  rw [e, clipAt_nat]
  rcases Nat.lt_or_ge (keyBits ks).length (4 + (4 - v) % 4) with q | q
  · rw [Nat.min_eq_right (Nat.le_of_lt q), List.drop_eq_nil_of_le (Nat.le_refl _), List.drop_eq_nil_of_le (Nat.le_of_lt q)]; exact List.take_nil
  · rw [Nat.min_eq_left q]
    exact List.take_of_length_le (by rw [List.length_drop]; omega)
local macro_rules | `(tactic| walk_at "call ref") => `(tactic| (k_here; (with_reducible show wpAny _ _ (call (Value.ref 118) [Value.bytes _ _]) _ _ _); (refine Cl.use (c_encbin _ _ _ _ (by assumption) (by assumption)) (by k_asm) (by k_asm) (by k_asm) (by k_asm) (by k_asm) (by exact rfl) (by ktr_room) (by ktr_units) ?_); intro t9 h9 tk9 F9 N9; (try dsimp only); (try k_fold)))
local macro_rules | `(tactic| walk_at "getMethod ref") => `(tactic| (k_here; (with_reducible show wpAny _ _ (getMethod (Value.ref 53) (Str.ofString "index") _) _ _ _); (refine getm53 (by k_asm) (by k_asm) ?_)))
theorem c_deckey (w : World) (b : Array UInt8) (t : Tok) (ks : List Int) (kb : KBw.bInts b = ks) (kl : ks.length ≤ 100) (k1 : 1 ≤ ks.length) (hok : keyOk ks = true) : Cl w 2 132 [.bytes b t] (fun t => .bytes (byteArr (decKey ks)) t) := by
  intro p loose mean mg mb news dp un gd cn cs a ccd cl outer A₀ base h₀ L m s Q E B F X N T hk hd hu hret
  refine wpAny_call ?_
  k_dflt cell_enter
  have kz := encBin_in ks
  have kz2 := encBin_len ks
  have hkl := keyBits_len k1
  k_steps
  · have hB := kb_one (ks := ks) (by assumption)
    refine index53 (by k_asm) (by k_asm) (c24 hB (keyBits_len k1).1) (getD_01 (keyBits_01 ks) 2) (getD_01 (keyBits_01 ks) 3) fun t5 k5 => ?_
    k_steps
    rw [cdrop hB rfl]
    exact hret _ _ _ (by k_asm) (by k_asm)
  · exfalso
    have hB := kb_one (ks := ks) (by assumption)
    have h5 := c02_ok hB k1
    rw [hok] at h5
    simp_all
  · have hB := kb_two (ks := ks) (by assumption)
    refine index53 (by k_asm) (by k_asm) (c24 hB (keyBits_len k1).1) (getD_01 (keyBits_01 ks) 2) (getD_01 (keyBits_01 ks) 3) fun t5 k5 => ?_
    k_steps
    rw [cdrop hB rfl]
    exact hret _ _ _ (by k_asm) (by k_asm)
  · exfalso
    have hB := kb_two (ks := ks) (by assumption)
    have h5 := c02_ok hB k1
    rw [hok] at h5
    simp_all
end Mine
end
section
open PySem PySem.W PySem.Calls PyProof.Rows
set_option maxHeartbeats 8000000
namespace Mine
theorem c_number (w : World) (b : Array UInt8) (t : Tok) : Cl w 1 181 [.bytes b t] (fun t => .int (num (KBw.bInts b)) t) := by
  intro p loose mean mg mb news dp un gd cn cs a ccd cl outer A₀ base h₀ L m s Q E B F X N T hk hd hu hret
  refine wpAny_call ?_
  k_dflt cell_enter
  (k_with "state" => exact (by (have e9 := num_snoc); simp only [e9]; simp_all))
  (k_with "pyIter bytes" => k_state (fun pre n => n = num pre) "number")
  k_steps
  all_goals (subst kInv; exact hret _ _ _ (by k_asm) (by k_asm))
end Mine
end
section
open PySem PySem.W PySem.Calls PySem.Spec PyProof.Rows
set_option maxHeartbeats 8000000
namespace Mine
open KTBy
section
variable {prog : Program} {w : World} {A : Around} {E : Value → Shared → Prop} {s : Shared}
/-- int.to_bytes, big, at a length that is no literal -/
theorem to_bigN {x : Int} {k : Nat} {t u v : Tok} {Q : Value → Shared → Prop} (hk : k ≤ 100) (h0 : 0 ≤ x) (h1 : x < 256 ^ k) (h : ∀ (b : Array UInt8) t' k', KBw.bInts b = (little k x).reverse → Q (.bytes b t') { s with toks := k' }) :
    wpAny (model prog w) A (call (.builtin "int.to_bytes") [.int x t, .int (k : Int) u, .str (PySem.Str.ofString "big") v]) Q E s := by
  have hb := bits_le (k := k) rfl h0 h1
  refine wpAny_call_entry slot (typeIs_int s x t) entry ?_ (args _ _ _)
  show wpAny _ _ (Builtin.Int.intOfSelf (.int x t) >>= fun y => _) _ _ s
  refine wpAny_bind (wpAny_of_eq (a := x) rfl ?_)
  show wpAny _ _ (Builtin.Int.intBindNamed "to_bytes" ["length", "byteorder", "signed"] 0 2 [.int (k : Int) u, .str (PySem.Str.ofString "big") v] [] >>= fun l => _) _ _ s
  refine wpAny_bind (wpAny_of_eq (a := [some (.int (k : Int) u), some (.str (PySem.Str.ofString "big") v), none]) (by kernel_rfl) ?_)
  refine wpAny_bind (wpAny_of_eq (a := (k : Int)) rfl ?_)
  refine if_not (by have a1 : ¬ ((k : Int) < -(2 ^ 63 : Int)) := by omega
                    have a2 : ¬ ((k : Int) ≥ 2 ^ 63) := by omega
                    simp only [decide_eq_false a1, decide_eq_false a2, Bool.or_self]) ?_
  refine wpAny_bind (wpAny_of_eq (a := PySem.Str.ofString "big") (by kernel_rfl) ?_)
  refine wpAny_bind (wpAny_of_eq (a := false) rfl ?_)
  refine wpAny_bind (wpAny_of_eq (a := false) (by kernel_rfl) ?_)
  refine wpAny_ite_false (decide_eq_false (by omega)) ?_
  refine wpAny_ite_false (decide_eq_false (by omega)) ?_
  refine wpAny_ite_false (decide_eq_false (by rw [sizeLine_eq]; omega)) ?_
  refine if_not (by have a1 : ¬ x < 0 := by omega
                    show (decide (x < 0) && !false) = false
                    rw [decide_eq_false a1, Bool.false_and]) ?_
  refine if_not (by have a1 : ¬ ((Builtin.Int.intBits x : Int) > 8 * (k : Int)) := by omega
                    show (_ && decide ((Builtin.Int.intBits x : Int) > 8 * (k : Int))) = false
                    rw [decide_eq_false a1, Bool.and_false]) ?_
  refine wpAny_bind (wpAny_mkBytes (wpAny_pure ⟨_, rfl, h _ _ _ ?_⟩) (by show (List.reverse (low x (Int.toNat (k : Int)))).length ≤ sizeLine; rw [List.length_reverse, low_length, Int.toNat_natCast, sizeLine_eq]; omega))
  show List.map _ (List.reverse (low x (Int.toNat (k : Int)))) = _
  rw [Int.toNat_natCast, List.map_reverse, low_ints h0 h1, ← little_eq]
end
end Mine
end
section
open PySem PySem.W PySem.Calls PySem.Spec PyProof.Rows
set_option maxHeartbeats 8000000
namespace Mine
def packCount (n : Nat) : Nat := (n + 3) / 4
def packHead (n : Nat) : Nat := if packCount n % 2 = 1 then n % 4 else 128 + n % 4
def packLen (n : Nat) : Nat := (packCount n + 2) / 2
def packNum (ks : List Int) : Int := (packHead ks.length : Int) * 16 ^ packCount ks.length + num ks
def lawPacked (ks : List Int) : List Int := (KTBy.little (packLen ks.length) (packNum ks)).reverse
theorem pack_fits {ks : List Int} (h : ks.length ≤ 63) (h01 : ∀ k ∈ ks, k = 0 ∨ k = 1) : 0 ≤ packNum ks ∧ packNum ks < 256 ^ packLen ks.length := by
  have key : ∀ n : Fin 64, ((packHead n.val : Int) + 1) * 16 ^ packCount n.val ≤ 256 ^ packLen n.val ∧ (2:Int) ^ n.val ≤ 16 ^ packCount n.val := by decide +kernel
  obtain ⟨k1, k2⟩ := key ⟨ks.length, by omega⟩
  obtain ⟨n1, n2⟩ := num_nonneg_lt ks h01
  simp only at k1 k2
  have h16 : (0:Int) ≤ 16 ^ packCount ks.length := Int.le_of_lt (Int.pow_pos (by decide))
  have hm : (0:Int) ≤ (packHead ks.length : Int) * 16 ^ packCount ks.length := Int.mul_nonneg (by omega) h16
  rw [Int.add_mul, Int.one_mul] at k1
  unfold packNum
  omega
theorem pack_bytes {prog : Program} {w : World} {A : Around} {E : Value → Shared → Prop} {s : Shared} {ks : List Int} {x y : Int} {t u v : Tok} {Q : Value → Shared → Prop} (hx : x = packNum ks) (hy : y = (packLen ks.length : Nat)) (hl : ks.length ≤ 63) (h01 : ∀ k ∈ ks, k = 0 ∨ k = 1) (h : ∀ t' k', Q (.bytes (byteArr (lawPacked ks)) t') { s with toks := k' }) :
    wpAny (model prog w) A (call (.builtin "int.to_bytes") [.int x t, .int y u, .str (PySem.Str.ofString "big") v]) Q E s := by
  subst hx hy
  have f := pack_fits hl h01
  refine to_bigN (by unfold packLen packCount; omega) f.1 f.2 fun b t' k' hb => ?_
  rw [mk_of hb]
  exact h t' k'
theorem fdiv_nat (n k : Nat) (hk : 0 < k) : ((n : Nat) : Int).fdiv (k : Int) = ((n / k : Nat) : Int) := by
  rw [Int.fdiv_eq_ediv_of_nonneg _ (by omega)]
  omega
theorem pack_count (n : Nat) : ((n : Int) + 3).fdiv 4 = (packCount n : Nat) := by
  have := fdiv_nat (n + 3) 4 (by decide)
  simpa [packCount] using this
theorem fmod_nat' (n k : Nat) (hk : 0 < k) : ((n : Nat) : Int).fmod (k : Int) = ((n % k : Nat) : Int) := by
  rw [Int.fmod_eq_emod_of_nonneg _ (by omega)]
  omega
theorem pack_odd {ks : List Int} (h : (((ks.length : Int) + 3).fdiv 4).fmod 2 = 1) : (ks.length : Int).fmod 4 * 16 ^ (((ks.length : Int) + 3).fdiv 4).toNat + num ks = packNum ks := by
  have e := fmod_nat' ks.length 4 (by decide)
  have e2 := fmod_nat' (packCount ks.length) 2 (by decide)
  rw [pack_count] at h ⊢
  simp only [Int.cast_ofNat_Int] at e e2
  rw [e2] at h
  rw [e, Int.toNat_natCast]
  unfold packNum packHead
  rw [if_pos (by omega)]
theorem pack_even {ks : List Int} (h : (((ks.length : Int) + 3).fdiv 4).fmod 2 ≠ 1) : (128 + (ks.length : Int).fmod 4) * 16 ^ (((ks.length : Int) + 3).fdiv 4).toNat + num ks = packNum ks := by
  have e := fmod_nat' ks.length 4 (by decide)
  have e2 := fmod_nat' (packCount ks.length) 2 (by decide)
  rw [pack_count] at h ⊢
  simp only [Int.cast_ofNat_Int] at e e2
  rw [e2] at h
  rw [e, Int.toNat_natCast]
  unfold packNum packHead
  rw [if_neg (by omega), Int.natCast_add]
  rfl
theorem pack_len (n : Nat) : (((n : Int) + 3).fdiv 4 + 2).fdiv 2 = (packLen n : Nat) := by
  rw [pack_count]
  have := fdiv_nat (packCount n + 2) 2 (by decide)
  simpa [packLen] using this
local macro_rules | `(tactic| walk_at "call ref") => `(tactic| (k_here; (with_reducible show wpAny _ _ (call (Value.ref 181) [Value.bytes _ _]) _ _ _); (refine Cl.use (c_number _ _ _) (by k_asm) (by k_asm) (by k_asm) (by k_asm) (by k_asm) (by exact rfl) (by ktr_room) (by ktr_units) ?_); intro t9 h9 tk9 F9 N9; (try dsimp only); (try k_fold)))
theorem c_packed (w : World) (b : Array UInt8) (t : Tok) (ks : List Int) (kb : KBw.bInts b = ks) (kl : ks.length ≤ 63) (k01 : ∀ k ∈ ks, k = 0 ∨ k = 1) : Cl w 2 188 [.bytes b t] (fun t => .bytes (byteArr (lawPacked ks)) t) := by
  intro p loose mean mg mb news dp un gd cn cs a ccd cl outer A₀ base h₀ L m s Q E B F X N T hk hd hu hret
  refine wpAny_call ?_
  k_dflt cell_enter
  k_steps
  all_goals rw [kb]
  · refine pack_bytes (pack_odd (by assumption)) (pack_len _) kl k01 fun t8 k8 => ?_
    k_steps
    exact hret _ _ _ (by k_asm) (by k_asm)
  · refine pack_bytes (pack_even (by assumption)) (pack_len _) kl k01 fun t8 k8 => ?_
    k_steps
    exact hret _ _ _ (by k_asm) (by k_asm)
end Mine
end
section
open PySem PySem.W PySem.Calls PySem.Spec PyProof.Rows
set_option maxHeartbeats 8000000
namespace Mine
theorem num_append (a : List Int) : ∀ b : List Int, num (a ++ b) = num a * 2 ^ b.length + num b := by
  intro b
  rw [← List.reverse_reverse b]
  generalize b.reverse = q
  induction q with
  | nil => simp [num]
  | cons k r ih =>
    rw [List.reverse_cons, ← List.append_assoc, num_snoc, ih, num_snoc, List.length_append, List.length_singleton, Int.pow_succ]
    rw [Int.add_mul, Int.mul_assoc, Int.add_assoc]
theorem num_zeros (n : Nat) : num (List.replicate n 0) = 0 := by
  induction n with
  | zero => rfl
  | succ n ih => rw [List.replicate_succ', num_snoc, ih]; rfl
theorem decBin_cons8 {a r : List Int} (ha : a.length = 8) : decBin (a ++ r) = num a :: decBin r := by
  unfold decBin
  rw [List.length_append, ha, show (8 + r.length + 7) / 8 = (r.length + 7) / 8 + 1 by omega, List.range_succ_eq_map, List.map_cons, List.map_map]
  congr 1
  · unfold chunkAt chunkOf
    rw [Nat.mul_zero, List.drop_zero, List.take_append_of_le_length (by omega), List.take_of_length_le (by omega)]
  · refine List.map_congr_left fun j _ => ?_
    show chunkAt (a ++ r) (j + 1) = chunkAt r j
    unfold chunkAt chunkOf
    rw [show 8 * (j + 1) = a.length + 8 * j by omega, List.drop_length_add_append]
theorem num_oct8 {k : Int} (h : 0 ≤ k ∧ k < 256) : num (oct8 k) = k := by
  have key : ∀ k : Fin 256, num (oct8 (k.val : Int)) = (k.val : Int) := by decide +kernel
  obtain ⟨j, rfl⟩ := Int.eq_ofNat_of_zero_le h.1
  exact key ⟨j, by omega⟩
theorem oct8_len (k : Int) : (oct8 k).length = 8 := rfl
theorem dec_enc {o : List Int} (h : KBa.In o) : decBin (encBin o) = o := by
  induction o with
  | nil => rfl
  | cons k r ih =>
    show decBin (oct8 k ++ encBin r) = _
    rw [decBin_cons8 (oct8_len k), num_oct8 (h k (List.mem_cons_self ..)), ih fun n hn => h n (.tail _ hn)]
theorem bit_fin {k : Int} (h : k = 0 ∨ k = 1) : ∃ f : Fin 2, k = (f.val : Int) := by
  rcases h with rfl | rfl
  · exact ⟨0, rfl⟩
  · exact ⟨1, rfl⟩
theorem oct8_num {a : List Int} (ha : a.length = 8) (h : ∀ k ∈ a, k = 0 ∨ k = 1) : oct8 (num a) = a := by
  match a, ha with
  | [a, b, c, d, e, f, g, i], _ =>
    simp only [List.mem_cons, List.not_mem_nil, or_false, forall_eq_or_imp, forall_eq] at h
    obtain ⟨h1, h2, h3, h4, h5, h6, h7, h8⟩ := h
    obtain ⟨a, rfl⟩ := bit_fin h1
    obtain ⟨b, rfl⟩ := bit_fin h2
    obtain ⟨c, rfl⟩ := bit_fin h3
    obtain ⟨d, rfl⟩ := bit_fin h4
    obtain ⟨e, rfl⟩ := bit_fin h5
    obtain ⟨f, rfl⟩ := bit_fin h6
    obtain ⟨g, rfl⟩ := bit_fin h7
    obtain ⟨i, rfl⟩ := bit_fin h8
    have key : ∀ a b c d e f g i : Fin 2, oct8 (num [(a.val : Int), b.val, c.val, d.val, e.val, f.val, g.val, i.val]) = [(a.val : Int), b.val, c.val, d.val, e.val, f.val, g.val, i.val] := by decide +kernel
    exact key a b c d e f g i
theorem split8 {bs : List Int} {m : Nat} (hl : bs.length = 8 * (m + 1)) : ∃ a r, bs = a ++ r ∧ a.length = 8 ∧ r.length = 8 * m :=
  ⟨bs.take 8, bs.drop 8, (List.take_append_drop 8 bs).symm, by rw [List.length_take]; omega, by rw [List.length_drop]; omega⟩
theorem encBin_decBin : ∀ (m : Nat) (bs : List Int), bs.length = 8 * m → (∀ k ∈ bs, k = 0 ∨ k = 1) → encBin (decBin bs) = bs
  | 0, bs, hl, _ => by
    obtain rfl : bs = [] := List.length_eq_zero_iff.mp hl
    rfl
  | m + 1, bs, hl, h => by
    obtain ⟨a, r, rfl, ha, hr⟩ := split8 hl
    rw [decBin_cons8 ha]
    show oct8 (num a) ++ encBin (decBin r) = _
    rw [oct8_num ha fun k hk => h k (List.mem_append_left _ hk), encBin_decBin m r hr fun k hk => h k (List.mem_append_right _ hk)]
theorem little_top : ∀ (m : Nat) (x y : Int), 0 ≤ x → x < 256 → 0 ≤ y → y < 256 ^ m → KTBy.little (m + 1) (x * 256 ^ m + y) = KTBy.little m y ++ [x]
  | 0, x, y, h0, h1, h2, h3 => by
    show [(x * 256 ^ 0 + y) % 256] = [x]
    rw [Int.pow_zero] at h3 ⊢
    congr 1
    omega
  | m + 1, x, y, h0, h1, h2, h3 => by
    have e : x * 256 ^ (m + 1) + y = 256 * (x * 256 ^ m) + y := by rw [Int.pow_succ, Int.mul_comm (256 ^ m) 256, ← Int.mul_assoc, Int.mul_comm x 256, Int.mul_assoc]
    have h3' : y / 256 < 256 ^ m := by rw [Int.pow_succ] at h3; omega
    show (x * 256 ^ (m + 1) + y) % 256 :: KTBy.little (m + 1) ((x * 256 ^ (m + 1) + y) / 256) = y % 256 :: KTBy.little m (y / 256) ++ [x]
    rw [e, show (256 * (x * 256 ^ m) + y) % 256 = y % 256 by omega, show (256 * (x * 256 ^ m) + y) / 256 = x * 256 ^ m + y / 256 by omega, little_top m x (y / 256) h0 h1 (by omega) h3']
    rfl
theorem decBin_little : ∀ (m : Nat) (bs : List Int), bs.length = 8 * m → (∀ k ∈ bs, k = 0 ∨ k = 1) → decBin bs = (KTBy.little m (num bs)).reverse
  | 0, bs, hl, _ => by
    obtain rfl : bs = [] := List.length_eq_zero_iff.mp hl
    rfl
  | m + 1, bs, hl, h => by
    obtain ⟨a, r, rfl, ha, hr⟩ := split8 hl
    have na := num_nonneg_lt a fun k hk => h k (List.mem_append_left _ hk)
    have nr := num_nonneg_lt r fun k hk => h k (List.mem_append_right _ hk)
    have e : (2 : Int) ^ (8 * m) = 256 ^ m := by rw [Int.pow_mul]; rfl
    rw [ha] at na
    rw [hr, e] at nr
    rw [decBin_cons8 ha, num_append, hr, e, little_top m _ _ na.1 na.2 nr.1 nr.2, List.reverse_append, decBin_little m r hr fun k hk => h k (List.mem_append_right _ hk)]
    rfl
theorem encBits_len8 {r : List Int} : (encBits r).length = 8 * packLen r.length := by
  have a := padOf_len r
  have b := two_len (r.length % 4)
  unfold encBits packLen packCount
  rw [List.length_append, List.length_append, List.length_append, a, b]
  split <;> simp <;> omega
theorem encBits_num {r : List Int} : num (encBits r) = packNum r := by
  have a := padOf_len r
  have k4 : ∀ j : Fin 4, num ([0, 0] ++ two j.val) = (j.val : Int) ∧ num ([1, 0, 0, 0, 0, 0] ++ two j.val) = 128 + (j.val : Int) := by decide
  obtain ⟨k1, k2⟩ := k4 ⟨r.length % 4, Nat.mod_lt _ (by decide)⟩
  have e : (2 : Int) ^ (padOf r ++ r).length = 16 ^ packCount r.length := by
    have : (padOf r ++ r).length = 4 * packCount r.length := by rw [List.length_append, a]; unfold packCount; omega
    rw [this, Int.pow_mul]
    rfl
  have ep : num (padOf r ++ r) = num r := by
    rw [num_append]
    unfold padOf
    rw [num_zeros, Int.zero_mul, Int.zero_add]
  have hl : (padOf r ++ r).length = 4 * packCount r.length := by rw [List.length_append, a]; unfold packCount; omega
  unfold encBits packNum packHead
  rw [num_append, e, ep]
  congr 2
  by_cases h : packCount r.length % 2 = 1
  · rw [if_pos (by rw [hl]; omega), if_pos h]; exact k1
  · rw [if_neg (by rw [hl]; omega), if_neg h]; exact k2
theorem enc_packed {r : List Int} (h01 : ∀ k ∈ r, k = 0 ∨ k = 1) (hl : r.length ≤ 63) : lawPacked r = encKey r := by
  unfold lawPacked encKey
  rw [decBin_little _ _ encBits_len8 (encBits_01 h01), encBits_num]
theorem enc_in {r : List Int} (h01 : ∀ k ∈ r, k = 0 ∨ k = 1) : KBa.In (encKey r) := decBin_in (encBits_01 h01)
theorem enc_len {r : List Int} (hl : r.length ≤ 63) : 1 ≤ (encKey r).length ∧ (encKey r).length ≤ 10 := by
  have := encBits_len8 (r := r)
  unfold encKey decBin
  rw [List.length_map, List.length_range]
  unfold packLen packCount at this
  omega
theorem encBin_encKey {r : List Int} (h01 : ∀ k ∈ r, k = 0 ∨ k = 1) : encBin (encKey r) = encBits r := encBin_decBin _ _ encBits_len8 (encBits_01 h01)
theorem keyBits_enc {r : List Int} (h01 : ∀ k ∈ r, k = 0 ∨ k = 1) : keyBits (encKey r) = [0, 0] ++ two (r.length % 4) ++ (padOf r ++ r) := by
  unfold keyBits
  rw [encBin_encKey h01]
  unfold encBits
  split <;> simp
theorem enc_ok {r : List Int} (h01 : ∀ k ∈ r, k = 0 ∨ k = 1) (hl : r.length ≤ 63) : keyOk (encKey r) = true := by
  unfold keyOk
  rw [keyBits_enc h01]
  simp
theorem enc_dec {r : List Int} (h01 : ∀ k ∈ r, k = 0 ∨ k = 1) (hl : r.length ≤ 63) : decKey (encKey r) = r := by
  have a := padOf_len r
  have k4 : ∀ j : Fin 4, ∃ x y, two j.val = [x, y] ∧ padVal x y = j.val := by
    have : ∀ j : Fin 4, two j.val = [(two j.val).getD 0 0, (two j.val).getD 1 0] ∧ padVal ((two j.val).getD 0 0) ((two j.val).getD 1 0) = j.val := by decide
    exact fun j => ⟨_, _, this j⟩
  obtain ⟨x, y, e, p⟩ := k4 ⟨r.length % 4, Nat.mod_lt _ (by decide)⟩
  simp only at e p
  unfold decKey
  rw [keyBits_enc h01, e]
  simp only [List.cons_append, List.nil_append, List.getD_cons_succ, List.getD_cons_zero, p]
  rw [Nat.add_comm 4]
  simp only [List.drop_succ_cons]
  rw [← a, List.drop_left]
end Mine
end
section
open PySem PySem.W PySem.Calls PySem.Spec PyProof.Rows
set_option maxHeartbeats 8000000
namespace Mine
/-- bytes(list of bits): a row that is told by what it holds alone -/
theorem make_row {prog : Program} {w : World} {A : Around} {E : Value → Shared → Prop} {s : Shared} {h₀ : Heap} {L D : Addr} {m : Str → Option Value} {news : List (Addr × Obj)} {vs : List Value} {ns : List Int} {Q : Value → Shared → Prop} (F : Fr h₀ L s.heap m) (N : News h₀ L s.heap news) (hh : A.handled = none) (hl : s.heap.IsList D vs.toArray) (hi : IntsAre vs ns) (h01 : ∀ k ∈ ns, k = 0 ∨ k = 1) (hn : ns.length ≤ 63)
    (h : ∀ (r : List Int) h' t' k, KBa.In r → (∀ k ∈ r, k = 0 ∨ k = 1) → r.length ≤ 63 → Fr h₀ L h' m → News h₀ L h' news → Q (.bytes (byteArr r) t') { s with heap := h', toks := k }) : wpAny (model prog w) A (call (.type "bytes") [.ref D]) Q E s := by
  have hin : KBa.In ns := fun k hk => by rcases h01 k hk with q | q <;> rw [q] <;> decide
  exact KBa.make_K F N hh hl hi hin (by omega) fun h' t' k F' N' _ => h ns h' t' k hin h01 hn F' N'
section
variable {prog : Program} {w : World} {A : Around} {E : Value → Shared → Prop} {s : Shared} {b : Array UInt8} {t u : Tok} {Q : Value → Shared → Prop}
theorem ne_same (h : Q (.bool false) s) : wpAny (model prog w) A (compareOp .NotEq (.bytes b t) (.bytes b u)) Q E s := PySem.W.ne_bytes (by simpa using h)
theorem eq_same (h : Q (.bool true) s) : wpAny (model prog w) A (compareOp .Eq (.bytes b t) (.bytes b u)) Q E s := PySem.W.eq_bytes (by simpa using h)
end
theorem l_packed (w : World) (t : Tok) (r : List Int) (hin : KBa.In r) (hl : r.length ≤ 63) (h01 : ∀ k ∈ r, k = 0 ∨ k = 1) : Cl w 2 188 [.bytes (byteArr r) t] (fun t => .bytes (byteArr (encKey r)) t) := by
  have := c_packed w _ t r (KBa.ints_make hin) hl h01
  rw [enc_packed h01 hl] at this
  exact this
theorem l_enckey (w : World) (t : Tok) (r : List Int) (hin : KBa.In r) (hl : r.length ≤ 63) (h01 : ∀ k ∈ r, k = 0 ∨ k = 1) : ClG w 2 125 [.bytes (byteArr r) t] (fun t => .bytes (byteArr (encKey r)) t) := c_enckey w _ t r (KBa.ints_make hin) hl h01
theorem l_deckey (w : World) (t : Tok) (r : List Int) (hl : r.length ≤ 63) (h01 : ∀ k ∈ r, k = 0 ∨ k = 1) : Cl w 2 132 [.bytes (byteArr (encKey r)) t] (fun t => .bytes (byteArr r) t) := by
  have := c_deckey w _ t (encKey r) (KBa.ints_make (enc_in h01)) (by have := enc_len hl; omega) (enc_len hl).1 (enc_ok h01 hl)
  rw [enc_dec h01 hl] at this
  exact this
theorem abs_bits {ns : List Int} {n : Nat} : ∀ k ∈ (ns.take n).map (fun k : Int => (if k < 0 then -k else k).fmod 2), k = 0 ∨ k = 1 := fun k hk => by
  obtain ⟨j, _, rfl⟩ := List.mem_map.mp hk
  rw [Int.fmod_eq_emod_of_nonneg _ (by decide)]
  omega
end Mine
end
section
open PySem PySem.W PySem.Calls PySem.Spec PyProof.Rows
set_option maxHeartbeats 8000000
namespace Mine
/-- _law_octets on the law's own list -/
def OctOn (w : World) (l : Addr) (vs : List Value) : Prop := ClO w 1 240 [.ref l] l vs.toArray
theorem OctOn.of {w : World} {l : Addr} {vs : List Value} {ns : List Int} (hi : IntsAre vs ns) (hn : ns.length ≤ 63) : OctOn w l vs := c_octets w l vs ns hi hn
theorem OctOn.use {w : World} {l : Addr} {vs : List Value} (C : OctOn w l vs) {p : Program} {loose : List Str} {mean : ExcName → Option Value} {mg mb : Str → Option Value} {e₁ e₂ : Addr} {o₁ o₂ : Obj} {dp un : Nat} {gd : Option (List Code)} {cn : Str} {cs : Scope} {a : Addr} {ccd : Value} {cl : List (Str × Addr)} {h₀ : Heap} {L : Addr} {m : Str → Option Value} {s : Shared} {Q E : Value → Shared → Prop}
    (B : Below callerA h₀ [] h₀) (F : Fr h₀ L s.heap m) (X : (hd.heap_1 w.params).In h₀) (N : News h₀ L s.heap [(e₁, o₁), (e₂, o₂)]) (T : Top p loose mean mg mb h₀) (hk : cs.kind = .function) (hd : dp + 1 < recursionLimit) (hu : un + 8 * 1 < cLine) (hl : h₀.IsList l vs.toArray)
    (hR : ∀ (o : List Int) (t : Tok) (h' : Heap) (tk' : Nat), KBa.In o → o.length ≤ 100 → Fr h₀ L h' m → News h₀ L h' [(e₁, o₁), (e₂, o₂)] → Q (.bytes (byteArr o) t) { s with heap := h', toks := tk' }) :
    wpAny (model PG w) (ktrTop dp un gd cn cs L a ccd cl []) (call (.ref 240) [.ref l]) Q E s := C _ _ _ _ _ _ _ _ _ _ _ _ _ _ _ _ _ _ _ _ _ _ _ B F X N T hk hd hu hl hR
end Mine
end
section
local macro_rules | `(tactic| walk_at "pad") => `(tactic| fail "pad")
open PySem PySem.W PySem.Calls PySem.Spec PyProof.Rows
set_option maxHeartbeats 8000000
namespace Mine
/-- the bits as signs -/
def signStr (bs : List Int) : Str := ⟨(bs.map fun b => if b = 1 then 49 else 48).toArray⟩
theorem signStr_size (bs : List Int) : (signStr bs).cps.size = bs.length := by simp [signStr]
theorem signStr_append (xs ys : List Int) : signStr xs ++ signStr ys = signStr (xs ++ ys) := by
  apply PySem.Str.ext'
  rw [PySem.Str.cps_append]
  simp [signStr]
theorem signStr_length (xs : List Int) : (signStr xs).length = xs.length := by simp [PySem.Str.length, signStr]
theorem sign_one : Str.ofString "1" = signStr [1] := by decide +kernel
theorem sign_zero : Str.ofString "0" = signStr [0] := by decide +kernel
theorem oct8_take {n : Int} {i : Nat} (hi : i < 8) (h0 : 0 ≤ n) : (oct8 n).take (i + 1) = (oct8 n).take i ++ [if (n.fdiv (2 ^ (7 - (0 + (i : Int) * 1)).toNat)).fmod 2 = 1 then 1 else 0] := by
  have e : ∀ k : Fin 8, exps[k.val]? = some (2 ^ (7 - (0 + (k.val : Int) * 1)).toNat) := by decide
  have e1 := e ⟨i, hi⟩
  rw [List.take_add_one]
  congr 1
  unfold oct8
  rw [List.getElem?_map, e1]
  simp only [Option.map_some, Option.toList_some]
  unfold bitAt
  have hp : (0:Int) ≤ 2 ^ (7 - (0 + (i : Int) * 1)).toNat := by
    have q : ∀ k : Fin 8, (0:Int) ≤ 2 ^ (7 - (0 + (k.val : Int) * 1)).toNat := by decide
    exact q ⟨i, hi⟩
  rw [Int.fdiv_eq_ediv_of_nonneg _ hp, Int.fmod_eq_emod_of_nonneg _ (by decide)]
theorem sign_turn {pre : List Int} {n : Int} {i : Nat} {x' v : Str} (hi : i < 8) (h0 : 0 ≤ n) (hP : x' = signStr (encBin pre ++ (oct8 n).take i)) (hl : x'.length = 8 * pre.length + i)
    (hv : v = Str.ofString "1" ∧ (n.fdiv (2 ^ (7 - (0 + (i : Int) * 1)).toNat)).fmod 2 = 1 ∨ v = Str.ofString "0" ∧ (n.fdiv (2 ^ (7 - (0 + (i : Int) * 1)).toNat)).fmod 2 ≠ 1) {k : Nat} (hk : k = i + 1) :
    x' ++ v = signStr (encBin pre ++ (oct8 n).take k) ∧ (x' ++ v).length = 8 * pre.length + k := by
  subst hk
  rw [oct8_take hi h0, ← List.append_assoc, PySem.Str.length_append, hl]
  subst hP
  rcases hv with ⟨rfl, q⟩ | ⟨rfl, q⟩
  · rw [if_pos q, sign_one, signStr_append, signStr_length]
    exact ⟨rfl, by simp; omega⟩
  · rw [if_neg q, sign_zero, signStr_append, signStr_length]
    exact ⟨rfl, by simp; omega⟩
local macro_rules | `(tactic| walk_at "exec For Name Call cons nil") => `(tactic| (k_here; (rename Fr _ _ _ _ => lF'); (with_unfolding_all refine' For_hid lF' ?k1 ?k2 ?_; (case k1 => exact rfl); (case k2 => exact rfl); k_whole)))
theorem c_signs (w : World) (b : Array UInt8) (t : Tok) (ks : List Int) (kb : KBw.bInts b = ks) (kl : ks.length ≤ 100) : Cl w 1 195 [.bytes b t] (fun t => .str (signStr (encBin ks)) t) := by
  intro p loose mean mg mb news dp un gd cn cs a ccd cl outer A₀ base h₀ L m s Q E B F X N T hk hd hu hret
  refine wpAny_call ?_
  k_dflt cell_enter
  k_steps
  rename Fr _ _ _ _ => lF'
  rename News _ _ _ _ => lN'
  refine' KStb.kst_bytes (fun c : Str × Tok => news) (fun c => [(Str.ofString "signs", .str c.1 c.2)]) (fun c => True) [Str.ofString "k"] (fun pre c => c.1 = signStr (encBin pre) ∧ c.1.length = 8 * pre.length) (Str.ofString "", _) kb rfl (by rfl) lF' lN' ?kf (List.forall_mem_cons.mpr ⟨if_pos rfl, List.forall_mem_nil _⟩) ?kp ?_ ?_
  case kf => exact trivial
  case kp => exact ⟨(by decide +kernel : Str.ofString "" = signStr (encBin [])), (by decide +kernel : (Str.ofString "").length = 8 * 0)⟩
  · clear lF' lN'
    rintro ⟨x, tx⟩ pre post n t u h tk own heq hlt h0 h256 hoff hfacts ⟨hP, hP2⟩ F₁ N₁
    dsimp only [kstB] at hfacts hP hP2 N₁ F₁ hoff
    have kMark := kstMark
    have kpl : pre.length < ks.length := by rw [heq]; simp
    (try dsimp only)
    (try k_fold)
    k_steps
    rename Fr _ _ _ _ => lF'
    rename News _ _ _ _ => lN'
    rename IsRange _ _ _ _ _ _ _ _ => rgX
    refine un_hid ?_
    refine' loop_step (n := 8) (fun c : Str × Tok => news ++ own) (fun c => [(Str.ofString "signs", .str c.1 c.2)]) (fun c => True) [] (fun pre' c => c.1 = signStr (encBin pre ++ (oct8 n).take pre'.length) ∧ c.1.length = 8 * pre.length + pre'.length) (x, tx) (by rfl) rgX (by decide +kernel) (by decide +kernel) lF' ?hN ?kf ?kk ?kp ?_ ?_
    case hN => exact lN'
    case kf => exact trivial
    case kk => exact List.forall_mem_cons.mpr ⟨by first | exact if_pos rfl | (simp; decide +kernel), List.forall_mem_nil _⟩
    case kp => exact ⟨by simp [hP], by simp [hP2]⟩
    · clear lF' lN' rgX
      rintro ⟨x', tx'⟩ i t' u' h' tk' own' hlt' hoff' hfacts' ⟨hP', hP2'⟩ F₂ N₂
      dsimp only [kstB] at hfacts' hP' hP2' N₂ F₂ hoff'
      rw [List.length_map, List.length_range] at hP' hP2'
      have kl9 : x'.length ≤ 1000 := by omega
      (try dsimp only)
      (try k_fold)
      (k_with "state" => exact sign_turn hlt' h0 hP' hP2' (by first | exact .inl ⟨rfl, by assumption⟩ | exact .inr ⟨rfl, by assumption⟩) (by simp))
      k_steps
    · clear lF' lN' rgX
      rintro ⟨x', tx'⟩ u' h' tk' hfacts' ⟨hP', hP2'⟩ F₂ N₂
      dsimp only [kstB] at hfacts' hP' hP2' N₂ F₂
      rw [List.length_map, List.length_range] at hP' hP2'
      (try dsimp only)
      (try k_fold)
      (k_with "state" => exact ⟨by rw [hP', encBin_snoc]; rfl, by rw [hP2', List.length_append]; simp; omega⟩)
      k_steps
  · clear lF' lN'
    rintro ⟨x, tx⟩ u h tk hlen hfacts ⟨hP, hP2⟩ F₁ N₁
    dsimp only [kstB] at hfacts hP hP2 N₁ F₁
    have kMark := kstMark
    (try dsimp only)
    (try k_fold)
    k_steps
    subst hP
    exact hret _ _ _ (by k_asm) (by k_asm)
end Mine
end
section
open PySem PySem.W PySem.Calls PySem.Spec PyProof.Rows
set_option maxHeartbeats 8000000
namespace Mine
section
variable {prog : Program} {w : World} {A : Around} {E : Value → Shared → Prop} {s : Shared} {h₀ : Heap} {L : Addr} {m : Str → Option Value} {news : List (Addr × Obj)}
theorem sign_at {bs : List Int} {j : Nat} {v : Value} (hv : SignAt (signStr bs) j v) (h01 : ∀ k ∈ bs, k = 0 ∨ k = 1) : ∃ b u, bs[j]? = some b ∧ v = .str (signStr [b]) u ∧ (b = 0 ∨ b = 1) := by
  obtain ⟨c, u, hc, rfl⟩ := hv
  unfold signStr at hc
  simp only [List.getElem?_toArray, List.getElem?_map] at hc
  cases e : bs[j]? with
  | none => rw [e] at hc; cases hc
  | some b =>
    rw [e] at hc
    refine ⟨b, u, rfl, ?_, h01 b (List.mem_of_getElem? e)⟩
    have hc' : (if b = 1 then 49 else 48) = c := Option.some.inj hc
    subst hc'
    simp [signStr]
def valOf (v : Value) : Int := match v with | .str x _ => if x = signStr [1] then 1 else 0 | _ => 0
theorem valOf_sign {b : Int} {u : Tok} (hb : b = 0 ∨ b = 1) : valOf (.str (signStr [b]) u) = b := by
  have e0 : signStr [0] ≠ signStr [1] := by decide +kernel
  unfold valOf
  rcases hb with rfl | rfl
  · exact if_neg e0
  · exact if_pos rfl
theorem paired_ints : ∀ {vs l : List Value} {bs : List Int}, Paired (fun v y => ∃ u', y = Value.int (valOf v) u') vs l → vs.length = bs.length → (∀ (j : Nat) (v : Value), vs[j]? = some v → ∃ (b : Int) (u : Tok), bs[j]? = some b ∧ v = Value.str (signStr [b]) u ∧ (b = 0 ∨ b = 1)) → IntsAre l bs
  | _, _, [], .nil, _, _ => .nil
  | _, _, _ :: _, .nil, h, _ => by simp at h
  | _, _, [], .cons _ _, h, _ => by simp at h
  | v :: vs, y :: l, b :: bs, .cons hf hp, h, hv => by
    obtain ⟨b', u, e1, e2, hb⟩ := hv 0 v rfl
    have e3 : b = b' := by simpa using e1
    subst e3
    obtain ⟨u', rfl⟩ := hf
    rw [e2, valOf_sign hb]
    exact .cons _ _ (paired_ints hp (by simpa using h) fun j v' hj => hv (j + 1) v' (by simpa using hj))
theorem comp_signs {bs : List Int} {t : Tok} {k₁ k₂ k₃ : Nat} {p₁ p₂ p₃ p₄ p₅ p₆ : Pos} {env : Env} {scope : Scope} {Q : Value → Shared → Prop} (h01 : ∀ k ∈ bs, k = 0 ∨ k = 1) (hl : bs.length ≤ 1000) (F : Fr h₀ L s.heap m) (N : News h₀ L s.heap news)
    (hh : A.handled = none) (hkf : scope.kind = .function) (ha : scope.names.lookup (Str.ofString "sign") = some .local)
    (h : ∀ D h' tk ys c, Fr h₀ L h' m → News h₀ L h' ((D, listOf ys.toArray c) :: news) → (∀ p ∈ news, p.1 ≠ D) → IntsAre ys bs → Q (.ref D) { s with heap := h', toks := tk }) :
    wpAny (model prog w) A (pyIter (.str (signStr bs) t)) (CompPost prog w A env scope (Str.ofString "sign") [] (.IfExp (.Compare (.Name (Str.ofString "sign") p₁) [.Eq] [.Constant (.str (Str.ofString "1")) k₁ p₂] p₃) (.Constant (.int 1) k₂ p₄) (.Constant (.int 0) k₃ p₅) p₆) Q) E s := by
  refine wpAny_pyIter_str fun o St W hst => ?_
  have hsz : (signStr bs).cps.size = bs.length := signStr_size bs
  refine ⟨fun _ => true, fun v y => ∃ u', y = Value.int (valOf v) u', s.heap.objs.size, _, _, _, _, _, rfl, W A hh, by rw [hsz, sizeLine_eq]; omega, hst, ?_, ?_, ?_⟩
  · intro b hb
    rw [List.mem_singleton.mp hb]
    show _ < (s.heap.push o).objs.size
    rw [Heap.size_push]
    exact Nat.lt_succ_self _
  · refine ⟨fun C i v s₃ m₃ E' _ _ _ _ _ => ?_, fun C i v s₃ m₃ E' hP _ hn hm _ _ => ?_⟩
    · simp only [List.forIn_nil]
      exact wpAny_pure ⟨rfl, _, _, rfl, fun _ _ e => e⟩
    · obtain ⟨b, u, _, rfl, hb⟩ := sign_at hP h01
      refine wpAny_IfExp (wpAny_isTrue_Compare1 (wpAny_Name (wpAny_loadName_local hkf ha hn hm ?_)))
      refine wpAny_Constant_str (P.eq_str (wpAny_truthy_bool ?_))
      rcases hb with rfl | rfl
      · have e : ((signStr [0]).cps.toList == (Str.ofString "1").cps.toList) = false := by decide +kernel
        rw [e]
        exact wpAny_Constant_int ⟨⟨_, by rw [valOf_sign (.inl rfl)]⟩, _, _, rfl, fun _ _ e => e⟩
      · have e : ((signStr [1]).cps.toList == (Str.ofString "1").cps.toList) = true := by decide +kernel
        rw [e]
        exact wpAny_Constant_int ⟨⟨_, by rw [valOf_sign (.inr rfl)]⟩, _, _, rfl, fun _ _ e => e⟩
  · intro D h' tk ys vs hD hl' hpl hlen hPs hpair hk
    obtain ⟨n, hpl⟩ := hpl
    have hws : ∀ b ob, s.heap.get? b = some ob → h'.get? b = some ob := fun b ob e => hk b ob (fun hm => absurd (Heap.lt_size e) ((List.mem_singleton.mp hm) ▸ Nat.lt_irrefl _)) (Heap.get?_push_of_some _ e)
    have hDn : s.heap.get? D = none := by
      cases e : s.heap.get? D with
      | none => rfl
      | some ob =>
        have e2 : (s.heap.push o).get? D = some ob := Heap.get?_push_of_some _ e
        have e3 : (s.heap.push o).get? D = none := hD
        rw [e3] at e2
        cases e2
    have hne : ∀ p ∈ news, p.1 ≠ D := fun p hp q => by
      have e2 := (N p hp).1
      rw [q, hDn] at e2
      cases e2
    refine h D h' tk ys.toList n (F.keeps hws) (fun p hp => ?_) hne (paired_ints (vs := vs) (by rw [List.filter_eq_self.mpr (fun _ _ => rfl)] at hpair; exact hpair) (by rw [hlen, hsz]) fun j v hj => sign_at (hPs j v hj) h01)
    rcases List.mem_cons.mp hp with rfl | hp
    · refine ⟨by rw [Array.toArray_toList]; exact hpl, fun q => ?_, ?_⟩
      · obtain ⟨_, _, _, e, _⟩ := F.ns
        rw [show D = L from q] at hDn
        rw [hDn] at e
        cases e
      · cases e : h₀.get? D with
        | none => rfl
        | some ob =>
          have e2 := F.keep _ _ e
          rw [hDn] at e2
          cases e2
    · exact ⟨hws _ _ (N p hp).1, (N p hp).2⟩
end
end Mine
end
section
open PySem PySem.W PySem.Calls PySem.Spec PyProof.Rows
set_option maxHeartbeats 8000000
namespace Mine
local macro_rules | `(tactic| walk_at "pyIter str") => `(tactic| (k_here; (with_reducible show wpAny _ _ (pyIter (Value.str (signStr _) _)) (CompPost _ _ _ _ _ _ _ _ _) _ _); (rename Fr _ _ _ _ => lF'); (rename News _ _ _ _ => lN'); (refine comp_signs (by assumption) (by assumption) lF' lN' (by exact rfl) (by exact rfl) (by decide +kernel) ?_); intro D' h' tk' ys' c' F' N' l1 i1))
theorem c_row (w : World) (bs : List Int) (t : Tok) (kl : bs.length ≤ 1000) (k01 : ∀ k ∈ bs, k = 0 ∨ k = 1) : Cl w 1 200 [.str (signStr bs) t] (fun t => .bytes (byteArr bs) t) := by
  intro p loose mean mg mb news dp un gd cn cs a ccd cl outer A₀ base h₀ L m s Q E B F X N T hk hd hu hret
  refine wpAny_call ?_
  k_dflt cell_enter
  have kin : KBa.In bs := fun k hk => by rcases k01 k hk with q | q <;> rw [q] <;> decide
  k_steps
  exact hret _ _ _ (by k_asm) (by first | k_asm | (refine' cb_drop ?cbN ?cbS; (case cbN => assumption); (case cbS => kcj_all)))
end Mine
end
section
open PySem PySem.W PySem.Calls PySem.Spec PyProof.Rows
set_option maxHeartbeats 8000000
namespace Mine
section
variable {w : World} {p : Program} {loose : List Str} {mean : ExcName → Option Value} {mg mb : Str → Option Value} {news : List (Addr × Obj)} {dp un : Nat} {gd : Option (List Code)} {cn : Str} {cs : Scope} {a : Addr} {ccd : Value} {cl : List (Str × Addr)} {outer : List Env} {A₀ : Around} {base h₀ : Heap} {L : Addr} {m : Str → Option Value} {s : Shared} {Q E : Value → Shared → Prop}
theorem use_encbin {b : Array UInt8} {t : Tok} {ks : List Int} (kb : KBw.bInts b = ks) (kl : ks.length ≤ 100)
    (B : Below A₀ base outer h₀) (F : Fr h₀ L s.heap m) (X : (hd.heap_1 w.params).In h₀) (N : News h₀ L s.heap news) (T : Top p loose mean mg mb h₀) (hk : cs.kind = .function) (hd : dp + 1 < recursionLimit) (hu : un + 8 * 1 < cLine)
    (hR : KBa.In (encBin ks) → (encBin ks).length = 8 * ks.length → CbRet h₀ L m news s Q fun t => .bytes (byteArr (encBin ks)) t) : wpAny (model PG w) (ktrTop dp un gd cn cs L a ccd cl outer) (call (.ref 118) [.bytes b t]) Q E s :=
  Cl.use (c_encbin w b t ks kb kl) B F X N T hk hd hu (hR (encBin_in ks) (encBin_len ks))
theorem use_signs {b : Array UInt8} {t : Tok} {ks : List Int} (kb : KBw.bInts b = ks) (kl : ks.length ≤ 100)
    (B : Below A₀ base outer h₀) (F : Fr h₀ L s.heap m) (X : (hd.heap_1 w.params).In h₀) (N : News h₀ L s.heap news) (T : Top p loose mean mg mb h₀) (hk : cs.kind = .function) (hd : dp + 1 < recursionLimit) (hu : un + 8 * 1 < cLine)
    (hR : (encBin ks).length ≤ 1000 → (∀ k ∈ encBin ks, k = 0 ∨ k = 1) → CbRet h₀ L m news s Q fun t => .str (signStr (encBin ks)) t) : wpAny (model PG w) (ktrTop dp un gd cn cs L a ccd cl outer) (call (.ref 195) [.bytes b t]) Q E s :=
  Cl.use (c_signs w b t ks kb kl) B F X N T hk hd hu (hR (by rw [encBin_len]; omega) (encBin_01 ks))
theorem use_row {bs : List Int} {t : Tok} (kl : bs.length ≤ 1000) (k01 : ∀ k ∈ bs, k = 0 ∨ k = 1)
    (B : Below A₀ base outer h₀) (F : Fr h₀ L s.heap m) (X : (hd.heap_1 w.params).In h₀) (N : News h₀ L s.heap news) (T : Top p loose mean mg mb h₀) (hk : cs.kind = .function) (hd : dp + 1 < recursionLimit) (hu : un + 8 * 1 < cLine)
    (hR : KBa.In bs → CbRet h₀ L m news s Q fun t => .bytes (byteArr bs) t) : wpAny (model PG w) (ktrTop dp un gd cn cs L a ccd cl outer) (call (.ref 200) [.str (signStr bs) t]) Q E s :=
  Cl.use (c_row w bs t kl k01) B F X N T hk hd hu (hR fun k hk => by rcases k01 k hk with q | q <;> rw [q] <;> decide)
end
end Mine
end
section
open PySem PySem.W PySem.Calls PySem.Spec PyProof.Rows
set_option maxHeartbeats 8000000
namespace Mine
section
variable {prog : Program} {w : World} {A₀ A : Around} {s : Shared} {base h₀ g₀ : Heap} {outer : List Env} {L a : Addr} {m : Str → Option Value} {cn : Str} {cs : Scope} {ccd : Value} {cl : List (Str × Addr)} {news : List (Addr × Obj)} {K : Frag} {p : Program} {loose : List Str} {mean : ExcName → Option Value} {mg mb : Str → Option Value}
    {R : Result → Shared → Prop} {name qual : Str} {params : Arguments} {body : List Stmt} {scope : Scope} {dV kV doc pm cdv ct oc : Value} {an od : Option Addr} {osl : Array (Option Value)} {f : Addr} {args : Args} {binds : List (Str × Value)}
/-- entering a def that may catch, from a frame with cells -/
theorem code_defS0X (B : Below A₀ base [] h₀) (F : Fr h₀ L s.heap m) (X₀ : K.In h₀) (N : News h₀ L s.heap news) (T : Top p loose mean mg mb h₀) (hA : A.frames = some [envX cn cs L a ccd cl])
    (ho : K.lookup f = some ⟨oc, od, .func (fnOf name qual params body scope dV kV doc pm an cdv ct), osl⟩) (hcd : codeIn K cdv qual = true) (hroom : A.depth < recursionLimit)
    (hbind : BindsTo s (fnOf name qual params body scope dV kV doc pm an cdv ct) args binds) (hloc : ∀ y ∈ binds, scope.names.lookup y.1 = some .local)
    (h : ∀ g L' h₁, Fr h₀ L g m → Fr g L' h₁ (fun y => binds.reverse.lookup y) → News g L' h₁ news → Below A base [envX cn cs L a ccd cl] g → K.In g → Top p loose mean mg mb g → KtsDicts ([envX cn cs L a ccd cl].filterMap (·.frame)) g →
      wpAny (model prog w) (A.deeper (envOf qual scope L' f cdv)) (execs body (envOf qual scope L' f cdv))
        (fun fl s' => LeaveS0 ([envX cn cs L a ccd cl].filterMap (·.frame)) h₀ L m g R (match fl with | .ret v => v | _ => .none) s')
        (fun e s' => wpAny (model prog w) (A.deeper (envOf qual scope L' f cdv)) (leaving (envOf qual scope L' f cdv) e) (fun _ s'' => R (.error e) s'') (fun e' s'' => R (.error e') s'') s')
        { s with heap := h₁, toks := s.toks + binds.length })
    (hck : cs.kind = .function) (hco : scope.isCoroutine = false) (hgen : scope.isGenerator = false) (hk : scope.kind = .function)
    (hcell : ∀ x ∈ scope.names, x.2 ≠ .cell) : codeAny (model prog w) A (.call (.ref f) args) R s := by
  have X := X₀.keeps F.keep
  have memL : ∀ b, b ∈ ([envX cn cs L a ccd cl].filterMap (·.frame)) → b = L := fun b hb => List.mem_singleton.mp hb
  refine codeAny_call_def (fd := fnOf name qual params body scope dV kV doc pm an cdv ct) (body := body) (binds := binds) hroom (X _ _ ho) rfl (T.nolimit.keeps F.keep) (codeRec_of X hcd) rfl hbind hcell hloc (fun h₁ hns hk₁ => ?_) hco hgen hk
  obtain ⟨oL, es, ep, hLg, hLd, hN, hNs, st, B₂⟩ := kts_enter (A := { A with frames := some [envOf cn cs L a ccd] }) B F N rfl hck
  have B₃ : Below A base [envX cn cs L a ccd cl] (hideAll s.heap (news.map (·.1))) := ⟨hA, B₂.stays, B₂.frames⟩
  refine wpAny_mono (h _ s.heap.objs.size h₁ ⟨hN _ hLg, st, F.above⟩ ⟨hns, fun b o e => hk₁ b o (of_hideAll _ e), Nat.le_of_eq (hideAll_size _ _)⟩
    (fun p hp => ⟨hk₁ _ _ (N p hp).1, Nat.ne_of_lt (Heap.lt_size (N p hp).1), hideAll_none _ (List.mem_map_of_mem hp)⟩) B₃ (X₀.keeps st) (T.keeps st) (fun b hb => by
      rw [memL b hb]
      exact ⟨oL, es, ep, hLg, hLd⟩)) (fun fl s' hl => ?_) fun _ _ y => y
  obtain ⟨g', L', m', news', T', F', N', k⟩ := hl
  have nL₀ : h₀.get? L = none := kts_self F
  obtain ⟨sl, hs⟩ := T'.up hLg
  refine k ⟨hNs sl _ (F'.keep _ _ hs), fun b o e => F'.keep b o (T'.other b o (st b o e) (fun q => ?_)), F.above⟩ fun p hp => ⟨(N' p hp).1, fun q => ?_, ?_⟩
  · rw [memL _ q, nL₀] at e
    cases e
  · have := (N' p hp).2.2
    rw [q, hs] at this
    cases this
  · cases q : h₀.get? p.1 with
    | none => rfl
    | some o =>
      obtain ⟨sl', hs'⟩ := T'.up (st _ _ q)
      have := (N' p hp).2.2
      rw [hs'] at this
      cases this
end
end Mine
end
section
open PySem PySem.W PySem.Calls PySem.Spec PyProof.Rows
set_option maxHeartbeats 2000000
namespace Mine
def optV (r : Option (List Int)) (t : Tok) : Value := match r with | some ks => .bytes (byteArr ks) t | none => .none
def lawRead (ks : List Int) : Option (List Int) := if keyOk ks then some (decKey ks) else none
local macro_rules | `(tactic| walk_at "call ref") => `(tactic| (k_here; (with_reducible show wpAny _ _ (call (Value.ref 132) _) _ _ _); (refine wpAny_call ?_); k_dflt cell_enter))
local macro_rules | `(tactic| walk_at "call ref") => `(tactic| (k_here; (with_reducible show wpAny _ _ (call (Value.ref 118) _) _ _ _); k_dflt (refine use_encbin (by assumption) (by assumption) (by k_asm) (by k_asm) (by k_asm) (by k_asm) (by k_asm) (by exact rfl) (by ktr_room) (by ktr_units) ?_); intro kz9 kl9 t9 h9 tk9 F9 N9; (try dsimp only); (try k_fold)))
theorem no_one {ks : List Int} (h : (encBin ks).getD (Int.toNat 0) 0 = 1) (k1 : 1 ≤ ks.length) (hok : keyOk ks = false) (h5 : ((KBy.picked (KBy.picked (byteArr (encBin ks)) (some 4) none) (some 0) (some 2)).toList == #[0, 0].toList) = true) : False := by
  rw [c02_ok (kb_one h) k1, hok] at h5
  cases h5
theorem no_two {ks : List Int} (h : ¬ (encBin ks).getD (Int.toNat 0) 0 = 1) (k1 : 1 ≤ ks.length) (hok : keyOk ks = false) (h5 : ((KBy.picked (byteArr (encBin ks)) (some 0) (some 2)).toList == #[0, 0].toList) = true) : False := by
  rw [c02_ok (kb_two h) k1, hok] at h5
  cases h5
local macro_rules | `(tactic| walk_at "getMethod ref") => `(tactic| (k_here; first
  | exact (no_one (by with_reducible assumption) (by with_reducible assumption) (by with_reducible assumption) (by with_reducible assumption)).elim
  | exact (no_two (by with_reducible assumption) (by with_reducible assumption) (by with_reducible assumption) (by with_reducible assumption)).elim))
theorem c_toldNo (w : World) (b : Array UInt8) (t : Tok) (ks : List Int) (kb : KBw.bInts b = ks) (kl : ks.length ≤ 100) (k1 : 1 ≤ ks.length) (hok : keyOk ks = false) : ClL w 3 214 [.bytes b t] (fun _ => .none) := by
  intro p loose mean mg mb news dp un gd cn cs a ccd cl h₀ L m s Q E B F X N T hk hd hu hret
  refine wpAny_call ?_
  have hfk : ScopeKind.function = ScopeKind.function := rfl
  k_dflt (refine' code_defS0X ?k1 ?k2 ?k3 ?k4 ?k5 ?kA ?k6 ?k7 ?k8 ?k9 ?kB ?_ ?cK ?c2 ?c3 ?c4 ?c5; (case kA => exact rfl); (case k2 => k_asm); (case k1 => k_asm); (case k3 => k_asm); (case k4 => k_asm); (case k5 => k_asm); (case k6 => k_is); (case k7 => k_is); (case k8 => ktr_room); (case k9 => exact BindsTo.of_eq rfl); (case kB => exact locs rfl); (case cK => assumption); (case c2 => exact rfl); (case c3 => exact rfl); (case c4 => exact rfl); (case c5 => decide); k_whole; intro g' L' h' FG' F' N' B' X' T' D'; (try dsimp only); (try k_lift B'); (try k_fold))
  k_steps
  all_goals exact hret 0 _ _ (by k_asm) (by first | k_asm | (refine' cb_drop ?cbN ?cbS; (case cbN => assumption); (case cbS => kcj_all)))
local macro_rules | `(tactic| walk_at "call ref") => `(tactic| (k_here; (with_reducible show wpAny _ _ (call (Value.ref 132) _) _ _ _); k_dflt (refine Cl.use (c_deckey _ _ _ _ (by assumption) (by assumption) (by assumption) (by assumption)) (by k_asm) (by k_asm) (by k_asm) (by k_asm) (by k_asm) (by exact rfl) (by ktr_room) (by ktr_units) ?_); intro t9 h9 tk9 F9 N9; (try dsimp only); (try k_fold)))
theorem c_toldYes (w : World) (b : Array UInt8) (t : Tok) (ks : List Int) (kb : KBw.bInts b = ks) (kl : ks.length ≤ 100) (k1 : 1 ≤ ks.length) (hok : keyOk ks = true) : ClL w 3 214 [.bytes b t] (fun t => .bytes (byteArr (decKey ks)) t) := by
  intro p loose mean mg mb news dp un gd cn cs a ccd cl h₀ L m s Q E B F X N T hk hd hu hret
  refine wpAny_call ?_
  have hfk : ScopeKind.function = ScopeKind.function := rfl
  k_dflt (refine' code_defS0X ?k1 ?k2 ?k3 ?k4 ?k5 ?kA ?k6 ?k7 ?k8 ?k9 ?kB ?_ ?cK ?c2 ?c3 ?c4 ?c5; (case kA => exact rfl); (case k2 => k_asm); (case k1 => k_asm); (case k3 => k_asm); (case k4 => k_asm); (case k5 => k_asm); (case k6 => k_is); (case k7 => k_is); (case k8 => ktr_room); (case k9 => exact BindsTo.of_eq rfl); (case kB => exact locs rfl); (case cK => assumption); (case c2 => exact rfl); (case c3 => exact rfl); (case c4 => exact rfl); (case c5 => decide); k_whole; intro g' L' h' FG' F' N' B' X' T' D'; (try dsimp only); (try k_lift B'); (try k_fold))
  k_steps
  all_goals exact hret _ _ _ (by k_asm) (by first | k_asm | (refine' cb_drop ?cbN ?cbS; (case cbN => assumption); (case cbS => kcj_all)))
theorem c_told (w : World) (b : Array UInt8) (t : Tok) (ks : List Int) (kb : KBw.bInts b = ks) (kl : ks.length ≤ 100) (k1 : 1 ≤ ks.length) : ClL w 3 214 [.bytes b t] (optV (lawRead ks)) := by
  cases h : keyOk ks with
  | true =>
    have := c_toldYes w b t ks kb kl k1 h
    unfold lawRead
    rw [h]
    exact this
  | false =>
    have := c_toldNo w b t ks kb kl k1 h
    unfold lawRead
    rw [h]
    exact this
end Mine
end
section
open PySem PySem.W PySem.Calls PySem.Spec PyProof.Rows
set_option maxHeartbeats 1000000
namespace Mine
theorem indices_plain (lo hi : Option Int) (n : Nat) : Builtin.Str.strSliceIndices lo hi 1 n = (List.range (hi.elim n (clipAt n) - lo.elim 0 (clipAt n))).map (lo.elim 0 (clipAt n) + ·) := by
  rw [← sliceRange_one]
  unfold Builtin.Str.strSliceIndices
  cases lo <;> cases hi <;> simp [clipAt_cast]
theorem slice_sign (bs : List Int) (lo hi : Option Int) : Txt.slice (signStr bs) lo hi = signStr ((bs.drop (lo.elim 0 (clipAt bs.length))).take (hi.elim bs.length (clipAt bs.length) - lo.elim 0 (clipAt bs.length))) := by
  have hl : (signStr bs).length = bs.length := signStr_length bs
  have ha : lo.elim 0 (clipAt bs.length) ≤ bs.length := by cases lo <;> simp [clipAt]; omega
  have hb : hi.elim bs.length (clipAt bs.length) ≤ bs.length := by cases hi <;> simp [clipAt]; omega
  unfold Txt.slice
  rw [hl, indices_plain]
  generalize lo.elim 0 (clipAt bs.length) = a at ha ⊢
  generalize hi.elim bs.length (clipAt bs.length) = b at hb ⊢
  split
  · rename_i h
    simp at h
    have e1 : a = 0 ∨ bs.length = 0 := by omega
    have e2 : b - a = bs.length := h
    rw [e2]
    rcases e1 with e | e
    · rw [e, List.drop_zero, List.take_length]
    · rw [List.length_eq_zero_iff.mp e]; simp
  · rw [pick_run]
    apply PySem.Str.ext'
    simp [signStr, List.map_take, List.map_drop]
end Mine
end
section
open PySem PySem.W PySem.Calls PySem.Spec PyProof.Rows
set_option maxHeartbeats 1000000
namespace Mine
/-- a slice of a row -/
def cutS (bs : List Int) (lo hi : Option Int) : List Int := (bs.drop (lo.elim 0 (clipAt bs.length))).take (hi.elim bs.length (clipAt bs.length) - lo.elim 0 (clipAt bs.length))
theorem cutS_len (bs : List Int) (lo hi : Option Int) : (cutS bs lo hi).length ≤ bs.length := by
  unfold cutS
  rw [List.length_take, List.length_drop]
  omega
theorem item_sign {bs : List Int} (h : 1 ≤ bs.length) : Txt.item (signStr bs) 0 = signStr [bs.getD 0 0] := by
  match bs, h with
  | b :: r, _ =>
    apply PySem.Str.ext'
    have e : seqIndex? 0 ((⟨((if b = 1 then 49 else 48) :: List.map (fun b => if b = 1 then 49 else 48) r).toArray⟩ : Str).length) = some 0 := by
      unfold seqIndex?
      simp [PySem.Str.length]
      try omega
    simp [Txt.item, signStr, Txt.charAt, e]
section
variable {prog : Program} {w : World} {A : Around} {E : Value → Shared → Prop} {s : Shared} {value slice : Expr} {bs : List Int} {t : Tok} {h₀ : Heap} {L : Addr} {m : Str → Option Value} {news : List (Addr × Obj)} {Q : Value → Shared → Prop}
theorem sign_size (hl : bs.length ≤ 1000) : (signStr bs).length ≤ sizeLine := by rw [signStr_length, sizeLine_eq]; omega
theorem sgn_sn {i : Int} {ui : Tok} (hF : Fr h₀ L s.heap m) (hN : News h₀ L s.heap news) (hl : bs.length ≤ 1000) (h : ∀ h' t' k, Fr h₀ L h' m → News h₀ L h' news → Q (.str (signStr (cutS bs (some i) none)) t') { s with heap := h', toks := k })
    (hs : subscripted slice false (.str (signStr bs) t) (.ref s.heap.objs.size) = operate [.ref s.heap.objs.size, .str (signStr bs) t] (getItem (.str (signStr bs) t) (.ref s.heap.objs.size)) := by with_unfolding_all rfl)
    (ht : ∀ r, letTemporaryGo value (.str (signStr bs) t) r = pure () := by intro _; with_unfolding_all rfl) :
    wpAny (model prog w) A (subscriptTail value slice (.str (signStr bs) t) (.ref s.heap.objs.size)) Q E { s with heap := s.heap.push { cls := .type "slice", data := .fields #[.int i ui, .none, .none] } } :=
  slice_strN_sn_len hF hN (fun h' t' k a b _ => by rw [slice_sign]; exact h h' t' k a b) hs ht (sign_size hl)
theorem sgn_ns {j : Int} {uj : Tok} (hF : Fr h₀ L s.heap m) (hN : News h₀ L s.heap news) (hl : bs.length ≤ 1000) (h : ∀ h' t' k, Fr h₀ L h' m → News h₀ L h' news → Q (.str (signStr (cutS bs none (some j))) t') { s with heap := h', toks := k })
    (hs : subscripted slice false (.str (signStr bs) t) (.ref s.heap.objs.size) = operate [.ref s.heap.objs.size, .str (signStr bs) t] (getItem (.str (signStr bs) t) (.ref s.heap.objs.size)) := by with_unfolding_all rfl)
    (ht : ∀ r, letTemporaryGo value (.str (signStr bs) t) r = pure () := by intro _; with_unfolding_all rfl) :
    wpAny (model prog w) A (subscriptTail value slice (.str (signStr bs) t) (.ref s.heap.objs.size)) Q E { s with heap := s.heap.push { cls := .type "slice", data := .fields #[.none, .int j uj, .none] } } :=
  slice_strN_ns_len hF hN (fun h' t' k a b _ => by rw [slice_sign]; exact h h' t' k a b) hs ht (sign_size hl)
theorem sgn_ss {i j : Int} {ui uj : Tok} (hF : Fr h₀ L s.heap m) (hN : News h₀ L s.heap news) (hl : bs.length ≤ 1000) (h : ∀ h' t' k, Fr h₀ L h' m → News h₀ L h' news → Q (.str (signStr (cutS bs (some i) (some j))) t') { s with heap := h', toks := k })
    (hs : subscripted slice false (.str (signStr bs) t) (.ref s.heap.objs.size) = operate [.ref s.heap.objs.size, .str (signStr bs) t] (getItem (.str (signStr bs) t) (.ref s.heap.objs.size)) := by with_unfolding_all rfl)
    (ht : ∀ r, letTemporaryGo value (.str (signStr bs) t) r = pure () := by intro _; with_unfolding_all rfl) :
    wpAny (model prog w) A (subscriptTail value slice (.str (signStr bs) t) (.ref s.heap.objs.size)) Q E { s with heap := s.heap.push { cls := .type "slice", data := .fields #[.int i ui, .int j uj, .none] } } :=
  slice_strN_ss_len hF hN (fun h' t' k a b _ => by rw [slice_sign]; exact h h' t' k a b) hs ht (sign_size hl)
theorem sgn_item {u : Tok} (h1 : 1 ≤ bs.length) (h : ∀ t' k, Q (.str (signStr [bs.getD 0 0]) t') { s with toks := k })
    (hs : subscripted slice false (.str (signStr bs) t) (.int 0 u) = operate [.str (signStr bs) t, .int 0 u] (getItem (.str (signStr bs) t) (.int 0 u)) := by with_unfolding_all rfl)
    (ht : ∀ r, letTemporaryGo value (.str (signStr bs) t) r = pure () := by intro _; with_unfolding_all rfl) :
    wpAny (model prog w) A (subscriptTail value slice (.str (signStr bs) t) (.int 0 u)) Q E s :=
  item_str (by decide) (by rw [signStr_length]; omega) (by rw [signStr_length]; omega) (fun _ => by rw [item_sign h1]; exact h _ _) hs ht
end
end Mine
end
section
open PySem PySem.W PySem.Calls PySem.Spec PyProof.Rows PyProof.V
namespace Mine
abbrev signD : List (PyData × PyData) := putD (.str (Str.ofString "11")) (.int 1) (putD (.str (Str.ofString "10")) (.int 2) (putD (.str (Str.ofString "01")) (.int 3) (putD (.str (Str.ofString "00")) (.int 0) [])))
theorem ne_01_00 : ¬ Str.ofString "01" = Str.ofString "00" := by decide +kernel
theorem ne_10_00 : ¬ Str.ofString "10" = Str.ofString "00" := by decide +kernel
theorem ne_11_00 : ¬ Str.ofString "11" = Str.ofString "00" := by decide +kernel
theorem ne_10_01 : ¬ Str.ofString "10" = Str.ofString "01" := by decide +kernel
theorem ne_11_01 : ¬ Str.ofString "11" = Str.ofString "01" := by decide +kernel
theorem ne_11_10 : ¬ Str.ofString "11" = Str.ofString "10" := by decide +kernel
theorem signD_eq : signD = [(.str (Str.ofString "00"), .int 0), (.str (Str.ofString "01"), .int 3), (.str (Str.ofString "10"), .int 2), (.str (Str.ofString "11"), .int 1)] := by
  have a1 := ne_01_00
  have a2 := ne_10_00
  have a3 := ne_11_00
  have a4 := ne_10_01
  have a5 := ne_11_01
  have a6 := ne_11_10
  have e : ∀ a b : Str, PySem.Spec.same (.str a) (.str b) = decide (a = b) := same_str
  unfold signD putD
  generalize Str.ofString "00" = s0 at *
  generalize Str.ofString "01" = s1 at *
  generalize Str.ofString "10" = s2 at *
  generalize Str.ofString "11" = s3 at *
  simp [e, a1, a2, a3, a4, a5, a6, Ne.symm a1, Ne.symm a2, Ne.symm a3, Ne.symm a4, Ne.symm a5, Ne.symm a6]
theorem look00 : PySem.Spec.lookup (.str (Str.ofString "00")) signD = some (.int 0) := by
  have e : ∀ a b : Str, PySem.Spec.same (.str a) (.str b) = decide (a = b) := same_str
  rw [signD_eq]
  simp [PySem.Spec.lookup, e]
theorem look01 : PySem.Spec.lookup (.str (Str.ofString "01")) signD = some (.int 3) := by
  have e : ∀ a b : Str, PySem.Spec.same (.str a) (.str b) = decide (a = b) := same_str
  have a1 := ne_01_00
  rw [signD_eq]
  generalize Str.ofString "00" = s0 at *
  simp [PySem.Spec.lookup, e, Ne.symm a1]
theorem look10 : PySem.Spec.lookup (.str (Str.ofString "10")) signD = some (.int 2) := by
  have e : ∀ a b : Str, PySem.Spec.same (.str a) (.str b) = decide (a = b) := same_str
  have a2 := ne_10_00
  have a4 := ne_10_01
  rw [signD_eq]
  generalize Str.ofString "00" = s0 at *
  generalize Str.ofString "01" = s1 at *
  simp [PySem.Spec.lookup, e, Ne.symm a2, Ne.symm a4]
theorem look11 : PySem.Spec.lookup (.str (Str.ofString "11")) signD = some (.int 1) := by
  have e : ∀ a b : Str, PySem.Spec.same (.str a) (.str b) = decide (a = b) := same_str
  have a3 := ne_11_00
  have a5 := ne_11_01
  have a6 := ne_11_10
  rw [signD_eq]
  generalize Str.ofString "00" = s0 at *
  generalize Str.ofString "01" = s1 at *
  generalize Str.ofString "10" = s2 at *
  simp [PySem.Spec.lookup, e, Ne.symm a3, Ne.symm a5, Ne.symm a6]
theorem getItem_sign {prog : Program} {w : World} {A : Around} {E : Value → Shared → Prop} {s : Shared} {d : Addr} {D : List (PyData × PyData)} {x : Str} {u : Tok} {i : Int} {Q : Value → Shared → Prop}
    (T : TabAt (strKind prog w) PyData.str s.heap d D) (hl : PySem.Spec.lookup (.str x) D = some (.int i)) (h : ∀ t, Q (.int i t) { s with toks := s.toks + 1 }) : wpAny (model prog w) A (getItem (.ref d) (.str x u)) Q E s :=
  getItem_tab PyProof.V.same_str (strKind_is _ _ _ _) T hl fun v hv => by
    obtain ⟨t, rfl⟩ := PyProof.V.Flat.int_inv hv
    exact h t
end Mine
end
section
open PySem PySem.W PySem.Calls PySem.Spec PyProof.Rows
set_option maxHeartbeats 1000000
namespace Mine
theorem clip_nat (n i : Nat) : clipAt n (i : Int) = min i n := by
  unfold clipAt
  omega
theorem cut_from (bs : List Int) (i : Nat) : cutS bs (some (i : Int)) none = bs.drop i := by
  unfold cutS
  simp only [Option.elim]
  rw [clip_nat]
  rcases Nat.lt_or_ge bs.length i with q | q
  · rw [Nat.min_eq_right (Nat.le_of_lt q), List.drop_eq_nil_of_le (Nat.le_refl _), List.drop_eq_nil_of_le (Nat.le_of_lt q)]; exact List.take_nil
  · rw [Nat.min_eq_left q]
    exact List.take_of_length_le (by rw [List.length_drop]; omega)
theorem cut_02 {bs : List Int} (h : 2 ≤ bs.length) : cutS bs none (some 2) = [bs.getD 0 0, bs.getD 1 0] := by
  match bs, h with
  | a :: b :: r, _ =>
    unfold cutS
    simp only [Option.elim]
    rw [show (2 : Int) = ((2 : Nat) : Int) from rfl, clip_nat, Nat.min_eq_left (by simp)]
    rfl
theorem cut_24 {bs : List Int} (h : 4 ≤ bs.length) : cutS bs (some 2) (some 4) = [bs.getD 2 0, bs.getD 3 0] := by
  match bs, h with
  | a :: b :: c :: d :: r, _ =>
    unfold cutS
    simp only [Option.elim]
    rw [show (2 : Int) = ((2 : Nat) : Int) from rfl, show (4 : Int) = ((4 : Nat) : Int) from rfl, clip_nat, clip_nat, Nat.min_eq_left (by simp), Nat.min_eq_left (by simp)]
    rfl
theorem sign1 {b : Int} : (signStr [b] == Str.ofString "1") = decide (b = 1) := by
  by_cases h : b = 1
  · subst h; decide +kernel
  · have : signStr [b] = signStr [0] := by simp [signStr, h]
    rw [this, decide_eq_false h]
    decide +kernel
theorem sign00 {a b : Int} (ha : a = 0 ∨ a = 1) (hb : b = 0 ∨ b = 1) : (signStr [a, b] != Str.ofString "00") = !(a == 0 && b == 0) := by
  rcases ha with rfl | rfl <;> rcases hb with rfl | rfl <;> decide +kernel
/-- how many signs are left out -/
def offAt (a b : Int) : Nat := (4 - padVal a b) % 4
theorem look_sign {a b : Int} (ha : a = 0 ∨ a = 1) (hb : b = 0 ∨ b = 1) : PySem.Spec.lookup (.str (signStr [a, b])) signD = some (.int (offAt a b : Nat)) := by
  have e1 : signStr [0, 0] = Str.ofString "00" := by decide +kernel
  have e2 : signStr [0, 1] = Str.ofString "01" := by decide +kernel
  have e3 : signStr [1, 0] = Str.ofString "10" := by decide +kernel
  have e4 : signStr [1, 1] = Str.ofString "11" := by decide +kernel
  rcases ha with rfl | rfl <;> rcases hb with rfl | rfl
  · rw [e1]; exact look00
  · rw [e2]; exact look01
  · rw [e3]; exact look10
  · rw [e4]; exact look11
/-- the signs that are read: all, or those behind the first four -/
structure Kb (ks bs : List Int) : Prop where
  eq : bs = keyBits ks
  len : 4 ≤ bs.length
  le : bs.length ≤ 1000
theorem Kb.one {ks : List Int} (h : (encBin ks).getD 0 0 = 1) (k1 : 1 ≤ ks.length) (kl : ks.length ≤ 100) : Kb ks (cutS (encBin ks) (some 4) none) := by
  have e : cutS (encBin ks) (some 4) none = keyBits ks := by
    rw [show (4 : Int) = ((4 : Nat) : Int) from rfl, cut_from]
    unfold keyBits
    rw [if_pos h]
  have := keyBits_len k1
  exact ⟨e, by rw [e]; omega, by rw [e]; omega⟩
theorem Kb.two {ks : List Int} (h : ¬ (encBin ks).getD 0 0 = 1) (k1 : 1 ≤ ks.length) (kl : ks.length ≤ 100) : Kb ks (encBin ks) := by
  have e : encBin ks = keyBits ks := by
    unfold keyBits
    rw [if_neg h]
  have := keyBits_len k1
  rw [← e] at this
  exact ⟨e, by omega, by omega⟩
theorem Kb.ok {ks bs : List Int} (k : Kb ks bs) : keyOk ks = (bs.getD 0 0 == 0 && bs.getD 1 0 == 0) := by
  rw [k.eq]; rfl
theorem Kb.bit {ks bs : List Int} (k : Kb ks bs) (i : Nat) : bs.getD i 0 = 0 ∨ bs.getD i 0 = 1 := by
  rw [k.eq]; exact getD_01 (keyBits_01 ks) i
theorem Kb.dec {ks bs : List Int} (k : Kb ks bs) : cutS bs (some (4 + (offAt (bs.getD 2 0) (bs.getD 3 0) : Nat))) none = decKey ks := by
  rw [show (4 : Int) + (offAt (bs.getD 2 0) (bs.getD 3 0) : Nat) = ((4 + offAt (bs.getD 2 0) (bs.getD 3 0) : Nat) : Int) by omega, cut_from, k.eq]
  rfl
theorem Kb.dec01 {ks bs : List Int} (_ : Kb ks bs) : ∀ b ∈ decKey ks, b = 0 ∨ b = 1 := fun b hb => keyBits_01 ks b (List.mem_of_mem_drop hb)
theorem Kb.decLen {ks bs : List Int} (k : Kb ks bs) : (decKey ks).length ≤ 1000 := by
  unfold decKey
  rw [List.length_drop, ← k.eq]
  have := k.le
  omega
section
variable {prog : Program} {w : World} {A : Around} {E : Value → Shared → Prop} {s : Shared} {value slice : Expr} {ks bs : List Int} {t : Tok} {h₀ : Heap} {L : Addr} {m : Str → Option Value} {news : List (Addr × Obj)} {Q : Value → Shared → Prop}
theorem kb_first {u : Tok} {b : Int} (h1 : b = 1 → Q (.bool true) s) (h2 : ¬ b = 1 → Q (.bool false) s) : wpAny (model prog w) A (compareOp .Eq (.str (signStr [b]) t) (.str (Str.ofString "1") u)) Q E s := by
  refine PyProof.Rows.eq_str ?_
  rw [sign1]
  by_cases h : b = 1
  · rw [decide_eq_true h]; exact h1 h
  · rw [decide_eq_false h]; exact h2 h
theorem kb_02 {uj : Tok} (c : Kb ks bs) (hF : Fr h₀ L s.heap m) (hN : News h₀ L s.heap news) (h : ∀ h' t' k, Fr h₀ L h' m → News h₀ L h' news → Q (.str (signStr [bs.getD 0 0, bs.getD 1 0]) t') { s with heap := h', toks := k })
    (hs : subscripted slice false (.str (signStr bs) t) (.ref s.heap.objs.size) = operate [.ref s.heap.objs.size, .str (signStr bs) t] (getItem (.str (signStr bs) t) (.ref s.heap.objs.size)) := by with_unfolding_all rfl)
    (ht : ∀ r, letTemporaryGo value (.str (signStr bs) t) r = pure () := by intro _; with_unfolding_all rfl) :
    wpAny (model prog w) A (subscriptTail value slice (.str (signStr bs) t) (.ref s.heap.objs.size)) Q E { s with heap := s.heap.push { cls := .type "slice", data := .fields #[.none, .int 2 uj, .none] } } :=
  sgn_ns hF hN c.le (fun h' t' k a b => by rw [cut_02 (by have := c.len; omega)]; exact h h' t' k a b) hs ht
theorem kb_24 {ui uj : Tok} (c : Kb ks bs) (hF : Fr h₀ L s.heap m) (hN : News h₀ L s.heap news) (h : ∀ h' t' k, Fr h₀ L h' m → News h₀ L h' news → Q (.str (signStr [bs.getD 2 0, bs.getD 3 0]) t') { s with heap := h', toks := k })
    (hs : subscripted slice false (.str (signStr bs) t) (.ref s.heap.objs.size) = operate [.ref s.heap.objs.size, .str (signStr bs) t] (getItem (.str (signStr bs) t) (.ref s.heap.objs.size)) := by with_unfolding_all rfl)
    (ht : ∀ r, letTemporaryGo value (.str (signStr bs) t) r = pure () := by intro _; with_unfolding_all rfl) :
    wpAny (model prog w) A (subscriptTail value slice (.str (signStr bs) t) (.ref s.heap.objs.size)) Q E { s with heap := s.heap.push { cls := .type "slice", data := .fields #[.int 2 ui, .int 4 uj, .none] } } :=
  sgn_ss hF hN c.le (fun h' t' k a b => by rw [cut_24 c.len]; exact h h' t' k a b) hs ht
theorem kb_rest {ui : Tok} (c : Kb ks bs) (hF : Fr h₀ L s.heap m) (hN : News h₀ L s.heap news) (h : ∀ h' t' k, Fr h₀ L h' m → News h₀ L h' news → Q (.str (signStr (decKey ks)) t') { s with heap := h', toks := k })
    (hs : subscripted slice false (.str (signStr bs) t) (.ref s.heap.objs.size) = operate [.ref s.heap.objs.size, .str (signStr bs) t] (getItem (.str (signStr bs) t) (.ref s.heap.objs.size)) := by with_unfolding_all rfl)
    (ht : ∀ r, letTemporaryGo value (.str (signStr bs) t) r = pure () := by intro _; with_unfolding_all rfl) :
    wpAny (model prog w) A (subscriptTail value slice (.str (signStr bs) t) (.ref s.heap.objs.size)) Q E { s with heap := s.heap.push { cls := .type "slice", data := .fields #[.int (4 + (offAt (bs.getD 2 0) (bs.getD 3 0) : Nat)) ui, .none, .none] } } :=
  sgn_sn hF hN c.le (fun h' t' k a b => by rw [c.dec]; exact h h' t' k a b) hs ht
theorem kb_00 {u : Tok} (c : Kb ks bs) (h1 : keyOk ks = true → Q (.bool false) s) (h2 : keyOk ks = false → Q (.bool true) s) : wpAny (model prog w) A (compareOp .NotEq (.str (signStr [bs.getD 0 0, bs.getD 1 0]) t) (.str (Str.ofString "00") u)) Q E s := by
  refine PyProof.Rows.ne_str ?_
  rw [sign00 (c.bit 0) (c.bit 1), ← c.ok]
  cases h : keyOk ks
  · exact h2 h
  · exact h1 h
theorem kb_look {d : Addr} {u : Tok} (c : Kb ks bs) (T : TabAt (strKind prog w) PyData.str s.heap d signD) (h : ∀ t, Q (.int (offAt (bs.getD 2 0) (bs.getD 3 0) : Nat) t) { s with toks := s.toks + 1 }) : wpAny (model prog w) A (getItem (.ref d) (.str (signStr [bs.getD 2 0, bs.getD 3 0]) u)) Q E s :=
  getItem_sign T (look_sign (c.bit 2) (c.bit 3)) h
end
end Mine
end
section
open PySem PySem.W PySem.Calls PySem.Spec PyProof.Rows PySem.SeqAt
set_option maxHeartbeats 1000000
namespace Mine
/-- a tuple as it is made -/
abbrev tupOf (vs : List Value) : Obj := { cls := .type "tuple", data := .seq vs.toArray }
section
variable {prog : Program} {w : World} {A : Around} {E : Value → Shared → Prop} {s : Shared} {h₀ : Heap} {L : Addr} {m : Str → Option Value} {news : List (Addr × Obj)} {Q : Value → Shared → Prop}
theorem at_bytes {A : Around} {s : Shared} (x : Array UInt8) (t u : Tok) : EqAt A s (.bytes x t) (.bytes x u) true := fun prog w E Q h => by
  unfold eqBool
  refine wpAny_holding ?_
  refine wpAny_ite_split (fun hab => ?_) (fun _ => ?_)
  · exact wpAny_bind (wpAny_rule (wpAny_pure h))
  · exact wpAny_bind (show wpAny _ _ (compareOp .Eq (.bytes x t) (.bytes x u)) _ _ _ from eq_same (wpAny_truthy_bool h))
theorem at_int {A : Around} {s : Shared} (k : Int) (t u : Tok) : EqAt A s (.int k t) (.int k u) true := by
  have := EqAt.int_int (A := A) (s := s) k t k u
  rwa [beq_self_eq_true] at this
theorem at_none {A : Around} {s : Shared} : EqAt A s .none .none true := EqAt.same _
theorem ne_tup3 {a b : Addr} {x1 x2 x3 y1 y2 y3 : Value} (hl : s.heap.IsTuple a #[x1, x2, x3]) (hb : s.heap.IsTuple b #[y1, y2, y3]) (hu : A.units < cLine) (e1 : EqAt A.in1 s x1 y1 true) (e2 : EqAt A.in1 s x2 y2 true) (e3 : EqAt A.in1 s x3 y3 true)
    (h : Q (.bool false) s) : wpAny (model prog w) A (compareOp .NotEq (.ref a) (.ref b)) Q E s := by
  refine RcNeAt.tuples (e := fun _ => true) hl hb hu (fun j h1 h2 => ?_) prog w E Q h
  have : j < 3 := h1
  match j, this with
  | 0, _ => exact e1
  | 1, _ => exact e2
  | 2, _ => exact e3
theorem eq_tup3 {a b : Addr} {x1 x2 x3 y1 y2 y3 : Value} (hl : s.heap.IsTuple a #[x1, x2, x3]) (hb : s.heap.IsTuple b #[y1, y2, y3]) (hu : A.units < cLine) (e1 : EqAt A.in1 s x1 y1 true) (e2 : EqAt A.in1 s x2 y2 true) (e3 : EqAt A.in1 s x3 y3 true)
    (h : Q (.bool true) s) : wpAny (model prog w) A (compareOp .Eq (.ref a) (.ref b)) Q E s := by
  refine RcAt.tuples (e := fun _ => true) hl hb hu (fun j h1 h2 => ?_) prog w E Q h
  have : j < 3 := h1
  match j, this with
  | 0, _ => exact e1
  | 1, _ => exact e2
  | 2, _ => exact e3
theorem tup_at {a : Addr} {vs : List Value} (N : News h₀ L s.heap news) (hm : (a, tupOf vs) ∈ news) : s.heap.IsTuple a vs.toArray := ⟨_, N.get hm, rfl, _, rfl⟩
end
end Mine
end
section
open PySem PySem.W PySem.Calls PySem.Spec PyProof.Rows
set_option maxHeartbeats 1000000
namespace Mine
inductive Parsed where
  | kv (path rest : List Int)
  | branch (l r : List Int)
  | leaf (v : List Int)
  | noNode
  | noPath
/-- the path's octets in a kv node -/
def kvPath (o : List Int) : List Int := (o.drop 1).take (o.length - 33)
def parsed (o : List Int) : Parsed :=
  if o.getD 0 9 = 1 ∧ o.length = 65 then .branch ((o.drop 1).take 32) (o.drop 33)
  else if o.getD 0 9 = 0 ∧ 33 < o.length then (if keyOk (kvPath o) = true then .kv (decKey (kvPath o)) (o.drop (o.length - 32)) else .noPath)
  else if o.getD 0 9 = 2 ∧ 1 < o.length then .leaf (o.drop 1)
  else .noNode
/-- what a caller is told of a parsed node -/
def RetP (h₀ : Heap) (L : Addr) (m : Str → Option Value) (news : List (Addr × Obj)) (s : Shared) (Q : Value → Shared → Prop) : Parsed → Prop
  | .noNode => ∀ t h' tk', Fr h₀ L h' m → News h₀ L h' news → Q (.str (Str.ofString "no node") t) { s with heap := h', toks := tk' }
  | .noPath => ∀ t h' tk', Fr h₀ L h' m → News h₀ L h' news → Q (.str (Str.ofString "no path") t) { s with heap := h', toks := tk' }
  | .branch l r => ∀ d t1 t2 t3 h' tk', Fr h₀ L h' m → News h₀ L h' ((d, tupOf [.int 1 t1, .bytes (byteArr l) t2, .bytes (byteArr r) t3]) :: news) → Q (.ref d) { s with heap := h', toks := tk' }
  | .kv p r => ∀ d t1 t2 t3 h' tk', Fr h₀ L h' m → News h₀ L h' ((d, tupOf [.int 0 t1, .bytes (byteArr p) t2, .bytes (byteArr r) t3]) :: news) → Q (.ref d) { s with heap := h', toks := tk' }
  | .leaf v => ∀ d t1 t3 h' tk', Fr h₀ L h' m → News h₀ L h' ((d, tupOf [.int 2 t1, .none, .bytes (byteArr v) t3]) :: news) → Q (.ref d) { s with heap := h', toks := tk' }
abbrev ClP (w : World) (D : Nat) (f : Addr) (vs : List Value) (r : Parsed) : Prop :=
  ∀ (p : Program) (loose : List Str) (mean : ExcName → Option Value) (mg mb : Str → Option Value) (news : List (Addr × Obj)) (dp un : Nat) (gd : Option (List Code)) (cn : Str) (cs : Scope) (a : Addr) (ccd : Value) (cl : List (Str × Addr)) (outer : List Env) (A₀ : Around) (base h₀ : Heap) (L : Addr) (m : Str → Option Value) (s : Shared) (Q E : Value → Shared → Prop),
    Below A₀ base outer h₀ → Fr h₀ L s.heap m → (hd.heap_1 w.params).In h₀ → News h₀ L s.heap news → Top p loose mean mg mb h₀ → cs.kind = .function → dp + D < recursionLimit → un + 8 * D < cLine →
    RetP h₀ L m news s Q r → wpAny (model PG w) (ktrTop dp un gd cn cs L a ccd cl outer) (call (.ref f) vs) Q E s
end Mine
end
section
open PySem PySem.W PySem.Calls PySem.Spec PyProof.Rows
set_option maxHeartbeats 1000000
namespace Mine
section
variable {b : Array UInt8} {o : List Int}
theorem pick_from (kb : KBw.bInts b = o) (i : Nat) : KBy.picked b (some (i : Int)) none = byteArr (o.drop i) := by
  have e := KBc.ints_picked (lo := some (i : Int)) (hi := none) kb
  simp only [Option.elim] at e
  rw [clip_nat] at e
  rw [mk_of e]
  congr 1
  rcases Nat.lt_or_ge o.length i with q | q
  · rw [Nat.min_eq_right (Nat.le_of_lt q), List.drop_eq_nil_of_le (Nat.le_refl _), List.drop_eq_nil_of_le (Nat.le_of_lt q)]; exact List.take_nil
  · rw [Nat.min_eq_left q]
    exact List.take_of_length_le (by rw [List.length_drop]; omega)
theorem pick_mid (kb : KBw.bInts b = o) (i j : Nat) (hj : j ≤ o.length) (hi : i ≤ o.length) : KBy.picked b (some (i : Int)) (some (j : Int)) = byteArr ((o.drop i).take (j - i)) := by
  have e := KBc.ints_picked (lo := some (i : Int)) (hi := some (j : Int)) kb
  simp only [Option.elim] at e
  rw [clip_nat, clip_nat, Nat.min_eq_left hi, Nat.min_eq_left hj] at e
  exact mk_of e
theorem pick_to (kb : KBw.bInts b = o) (j : Nat) : KBy.picked b none (some (j : Int)) = byteArr (o.take j) := by
  have e := KBc.ints_picked (lo := none) (hi := some (j : Int)) kb
  simp only [Option.elim] at e
  rw [clip_nat, Nat.sub_zero, List.drop_zero] at e
  rw [mk_of e]
  congr 1
  rcases Nat.lt_or_ge o.length j with q | q
  · rw [Nat.min_eq_right (Nat.le_of_lt q), List.take_length, List.take_of_length_le (Nat.le_of_lt q)]
  · rw [Nat.min_eq_left q]
theorem clip_neg (n i : Nat) (h : i ≤ n) (h0 : 0 < i) : clipAt n (-(i : Int)) = n - i := by
  unfold clipAt
  omega
theorem pick_end (kb : KBw.bInts b = o) (i : Nat) (h : i ≤ o.length) (h0 : 0 < i) : KBy.picked b (some (-(i : Int))) none = byteArr (o.drop (o.length - i)) := by
  have e := KBc.ints_picked (lo := some (-(i : Int))) (hi := none) kb
  simp only [Option.elim] at e
  rw [clip_neg _ _ h h0] at e
  rw [mk_of e]
  congr 1
  exact List.take_of_length_le (by rw [List.length_drop]; omega)
theorem pick_neg (kb : KBw.bInts b = o) (i j : Nat) (h : j ≤ o.length) (h0 : 0 < j) (hi : i ≤ o.length) : KBy.picked b (some (i : Int)) (some (-(j : Int))) = byteArr ((o.drop i).take (o.length - j - i)) := by
  have e := KBc.ints_picked (lo := some (i : Int)) (hi := some (-(j : Int))) kb
  simp only [Option.elim] at e
  rw [clip_neg _ _ h h0, clip_nat, Nat.min_eq_left hi] at e
  exact mk_of e
theorem one_byte {x : Array UInt8} {l : List Int} (hx : KBw.bInts x = l) (c : UInt8) : (x.toList == [c]) = decide (l = [(c.toNat : Int)]) := by
  subst hx
  obtain ⟨xs⟩ := x
  match xs with
  | [] => simp [KBw.bInts]
  | [a] =>
    by_cases h : a = c
    · subst h; simp [KBw.bInts]
    · have h2 : ¬ a.toNat = c.toNat := fun q => h (UInt8.toNat_inj.mp q)
      have h3 : ¬ (a.toNat : Int) = (c.toNat : Int) := fun q => h2 (by omega)
      simp [KBw.bInts, h, h3]
  | a :: a' :: r => simp [KBw.bInts]
theorem take_one (o : List Int) (k : Int) (hk : k ≠ 9) : o.take 1 = [k] ↔ o.getD 0 9 = k := by
  match o with
  | [] => simp; exact fun h => hk h.symm
  | a :: r => simp
end
section
variable {prog : Program} {w : World} {A : Around} {E : Value → Shared → Prop} {s : Shared} {b : Array UInt8} {o : List Int} {t u : Tok} {Q : Value → Shared → Prop}
theorem first_is {c : UInt8} (k : Int) (kb : KBw.bInts b = o) (hc : (c.toNat : Int) = k) (hk : k ≠ 9) (h1 : o.getD 0 9 = k → Q (.bool true) s) (h2 : o.getD 0 9 ≠ k → Q (.bool false) s) :
    wpAny (model prog w) A (compareOp .Eq (.bytes (KBy.picked b none (some 1)) t) (.bytes #[c] u)) Q E s := by
  refine PySem.W.eq_bytes ?_
  have e : KBw.bInts (KBy.picked b none (some ((1 : Nat) : Int))) = o.take 1 := by
    have e := KBc.ints_picked (lo := none) (hi := some ((1 : Nat) : Int)) kb
    simp only [Option.elim] at e
    rw [clip_nat, Nat.sub_zero, List.drop_zero] at e
    rw [e]
    rcases Nat.lt_or_ge o.length 1 with q | q
    · rw [Nat.min_eq_right (Nat.le_of_lt q), List.take_length, List.take_of_length_le (Nat.le_of_lt q)]
    · rw [Nat.min_eq_left q]
  have e2 := one_byte e c
  rw [hc] at e2
  show Q (.bool ((KBy.picked b none (some 1)).toList == [c])) s
  rw [show ((KBy.picked b none (some 1)).toList == [c]) = decide (o.take 1 = [k]) from e2]
  by_cases h : o.getD 0 9 = k
  · rw [decide_eq_true ((take_one o k hk).mpr h)]; exact h1 h
  · rw [decide_eq_false (fun q => h ((take_one o k hk).mp q))]; exact h2 h
end
section
variable {h₀ : Heap} {L : Addr} {m : Str → Option Value} {news : List (Addr × Obj)} {s : Shared} {Q : Value → Shared → Prop} {r : Parsed} {d : Addr} {t1 t2 t3 : Tok} {h' : Heap} {tk' : Nat} {x y : Array UInt8}
theorem ret_none (hr : RetP h₀ L m news s Q r) (e : r = .noNode) (F : Fr h₀ L h' m) (N : News h₀ L h' news) : Q (.str (Str.ofString "no node") t1) { s with heap := h', toks := tk' } := by
  subst e; exact hr _ _ _ F N
theorem ret_path (hr : RetP h₀ L m news s Q r) (e : r = .noPath) (F : Fr h₀ L h' m) (N : News h₀ L h' news) : Q (.str (Str.ofString "no path") t1) { s with heap := h', toks := tk' } := by
  subst e; exact hr _ _ _ F N
theorem ret_branch {l v : List Int} (hr : RetP h₀ L m news s Q r) (e : r = .branch l v) (e1 : x = byteArr l) (e2 : y = byteArr v) (F : Fr h₀ L h' m) (N : News h₀ L h' ((d, tupOf [.int 1 t1, .bytes x t2, .bytes y t3]) :: news)) : Q (.ref d) { s with heap := h', toks := tk' } := by
  subst e e1 e2; exact hr _ _ _ _ _ _ F N
theorem ret_kv {l v : List Int} (hr : RetP h₀ L m news s Q r) (e : r = .kv l v) (e1 : x = byteArr l) (e2 : y = byteArr v) (F : Fr h₀ L h' m) (N : News h₀ L h' ((d, tupOf [.int 0 t1, .bytes x t2, .bytes y t3]) :: news)) : Q (.ref d) { s with heap := h', toks := tk' } := by
  subst e e1 e2; exact hr _ _ _ _ _ _ F N
theorem ret_leaf {v : List Int} (hr : RetP h₀ L m news s Q r) (e : r = .leaf v) (e2 : y = byteArr v) (F : Fr h₀ L h' m) (N : News h₀ L h' ((d, tupOf [.int 2 t1, .none, .bytes y t3]) :: news)) : Q (.ref d) { s with heap := h', toks := tk' } := by
  subst e e2; exact hr _ _ _ _ _ F N
end
section
variable {o : List Int}
theorem is_branch (h : o.getD 0 9 = 1) (hl : o.length = 65) : parsed o = .branch ((o.drop 1).take 32) (o.drop 33) := by unfold parsed; rw [if_pos ⟨h, hl⟩]
theorem is_kv (h : o.getD 0 9 = 0) (hl : 33 < o.length) (hk : keyOk (kvPath o) = true) : parsed o = .kv (decKey (kvPath o)) (o.drop (o.length - 32)) := by
  unfold parsed; rw [if_neg (by omega), if_pos ⟨h, hl⟩, if_pos hk]
theorem is_noPath (h : o.getD 0 9 = 0) (hl : 33 < o.length) (hk : keyOk (kvPath o) = false) : parsed o = .noPath := by
  unfold parsed; rw [if_neg (by omega), if_pos ⟨h, hl⟩, if_neg (by rw [hk]; decide)]
theorem is_leaf (h : o.getD 0 9 = 2) (hl : 1 < o.length) : parsed o = .leaf (o.drop 1) := by
  unfold parsed; rw [if_neg (by omega), if_neg (by omega), if_pos ⟨h, hl⟩]
theorem is_none (h1 : ¬ (o.getD 0 9 = 1 ∧ o.length = 65)) (h2 : ¬ (o.getD 0 9 = 0 ∧ 33 < o.length)) (h3 : ¬ (o.getD 0 9 = 2 ∧ 1 < o.length)) : parsed o = .noNode := by
  unfold parsed; rw [if_neg h1, if_neg h2, if_neg h3]
end
end Mine
end
section
open PySem PySem.W PySem.Calls PySem.Spec PyProof.Rows
set_option maxHeartbeats 2000000
namespace Mine
local macro_rules | `(tactic| walk_at "call ref") => `(tactic| (k_here; (with_reducible show wpAny _ _ (call (Value.ref 195) _) _ _ _); k_dflt (refine use_signs (by assumption) (by assumption) (by k_asm) (by k_asm) (by k_asm) (by k_asm) (by k_asm) (by exact rfl) (by ktr_room) (by ktr_units) ?_); intro kl9 k19 t9 h9 tk9 F9 N9; (try dsimp only); (try k_fold)))
local macro_rules | `(tactic| walk_at "call ref") => `(tactic| (k_here; (with_reducible show wpAny _ _ (call (Value.ref 200) _) _ _ _); k_dflt (refine use_row (Kb.decLen (by assumption)) (Kb.dec01 (by assumption)) (by k_asm) (by k_asm) (by k_asm) (by k_asm) (by k_asm) (by exact rfl) (by ktr_room) (by ktr_units) ?_); intro kz9 t9 h9 tk9 F9 N9; (try dsimp only); (try k_fold)))
local macro_rules | `(tactic| walk_at "subscriptTail Name Constant str int") => `(tactic| (refine sgn_item (by omega) ?_; intro t9 k9))
local macro_rules | `(tactic| walk_at "compareOp Eq str str") => `(tactic| (k_here; (refine kb_first ?_ ?_); all_goals intro kF9))
local macro_rules | `(tactic| walk_at "compareOp NotEq str str") => `(tactic| (k_here; (refine kb_00 (by assumption) ?_ ?_); all_goals intro kO9))
local macro_rules | `(tactic| walk_at "getItem ref str") => `(tactic| (k_here; k_dflt (refine' kb_look ?k1 ?k2 ?_; (case k1 => assumption); (case k2 => k_tabat); k_whole); intro tf1))
local macro_rules | `(tactic| walk_at "subscriptTail Name Slice str ref") => `(tactic| ((with_reducible show wpAny _ _ (subscriptTail _ (Expr.Slice (some (Expr.Constant _ _ _)) none none _) _ _) _ _ _); (with_reducible rename Fr _ _ _ _ => F'); (with_reducible rename News _ _ _ _ => N'); refine sgn_sn (s := ⟨_, _, _, _, _⟩) F' N' (by assumption) ?_; (have kB := Kb.one (by assumption) (by assumption) (by assumption)); intro h' t' k' F' N'))
local macro_rules | `(tactic| walk_at "subscriptTail Name Slice str ref") => `(tactic| ((with_reducible show wpAny _ _ (subscriptTail _ (Expr.Slice none (some _) none _) _ _) _ _ _); (with_reducible rename Fr _ _ _ _ => F'); (with_reducible rename News _ _ _ _ => N'); (try (have kB := Kb.two (by assumption) (by assumption) (by assumption))); refine kb_02 (s := ⟨_, _, _, _, _⟩) (by assumption) F' N' ?_; intro h' t' k' F' N'))
local macro_rules | `(tactic| walk_at "subscriptTail Name Slice str ref") => `(tactic| ((with_reducible show wpAny _ _ (subscriptTail _ (Expr.Slice (some _) (some _) none _) _ _) _ _ _); (with_reducible rename Fr _ _ _ _ => F'); (with_reducible rename News _ _ _ _ => N'); refine kb_24 (s := ⟨_, _, _, _, _⟩) (by assumption) F' N' ?_; intro h' t' k' F' N'))
local macro_rules | `(tactic| walk_at "subscriptTail Name Slice str ref") => `(tactic| ((with_reducible show wpAny _ _ (subscriptTail _ (Expr.Slice (some (Expr.BinOp _ _ _ _)) none none _) _ _) _ _ _); (with_reducible rename Fr _ _ _ _ => F'); (with_reducible rename News _ _ _ _ => N'); refine kb_rest (s := ⟨_, _, _, _, _⟩) (by assumption) F' N' ?_; intro h' t' k' F' N'))
theorem opt_yes {ks : List Int} (h : keyOk ks = true) : optV (lawRead ks) = fun t => .bytes (byteArr (decKey ks)) t := by unfold lawRead; rw [h]; rfl
theorem opt_no {ks : List Int} (h : keyOk ks = false) : optV (lawRead ks) = fun _ => .none := by unfold lawRead; rw [h]; rfl
theorem c_read (w : World) (b : Array UInt8) (t : Tok) (ks : List Int) (kb : KBw.bInts b = ks) (kl : ks.length ≤ 100) (k1 : 1 ≤ ks.length) : Cl w 2 207 [.bytes b t] (optV (lawRead ks)) := by
  intro p loose mean mg mb news dp un gd cn cs a ccd cl outer A₀ base h₀ L m s Q E B F X N T hk hd hu hret
  refine wpAny_call ?_
  k_dflt cell_enter
  have kz2 := encBin_len ks
  k_steps
  all_goals first
    | (rw [opt_yes (by assumption)] at hret; exact hret _ _ _ (by k_asm) (by first | k_asm | (refine' cb_drop ?cbN ?cbS; (case cbN => assumption); (case cbS => kcj_all))))
    | (rw [opt_no (by assumption)] at hret; exact hret 0 _ _ (by k_asm) (by first | k_asm | (refine' cb_drop ?cbN ?cbS; (case cbN => assumption); (case cbS => kcj_all))))
end Mine
end
section
open PySem PySem.W PySem.Calls PySem.Spec PyProof.Rows
set_option maxHeartbeats 2000000
namespace Mine
theorem kv_ints {b : Array UInt8} {o : List Int} (kb : KBw.bInts b = o) (h : 33 < o.length) : KBw.bInts (KBy.picked b (some 1) (some ((o.length : Int) - 32))) = kvPath o := by
  have e := KBc.ints_picked kb (some ((1 : Nat) : Int)) (some ((o.length - 32 : Nat) : Int))
  simp only [Option.elim] at e
  rw [clip_nat, clip_nat, Nat.min_eq_left (by omega), Nat.min_eq_left (by omega)] at e
  rw [show ((o.length - 32 : Nat) : Int) = (o.length : Int) - 32 by omega] at e
  exact e
theorem pick_len32 {b : Array UInt8} {o : List Int} (kb : KBw.bInts b = o) (h : 33 < o.length) : KBy.picked b (some ((o.length : Int) - 32)) none = byteArr (o.drop (o.length - 32)) := by
  rw [show (o.length : Int) - 32 = ((o.length - 32 : Nat) : Int) by omega]
  exact pick_from kb _
theorem kvPath_len {o : List Int} (h : 33 < o.length) : 1 ≤ (kvPath o).length ∧ (kvPath o).length ≤ o.length := by
  unfold kvPath
  rw [List.length_take, List.length_drop]
  omega
section
variable {w : World} {p : Program} {loose : List Str} {mean : ExcName → Option Value} {mg mb : Str → Option Value} {news : List (Addr × Obj)} {dp un : Nat} {gd : Option (List Code)} {cn : Str} {cs : Scope} {a : Addr} {ccd : Value} {cl : List (Str × Addr)} {outer : List Env} {A₀ : Around} {base h₀ : Heap} {L : Addr} {m : Str → Option Value} {s : Shared} {Q E : Value → Shared → Prop}
theorem use_read {b : Array UInt8} {t : Tok} {o : List Int} (kb : KBw.bInts b = o) (h : 33 < o.length) (kl : o.length ≤ 100)
    (B : Below A₀ base outer h₀) (F : Fr h₀ L s.heap m) (X : (hd.heap_1 w.params).In h₀) (N : News h₀ L s.heap news) (T : Top p loose mean mg mb h₀) (hk : cs.kind = .function) (hd : dp + 2 < recursionLimit) (hu : un + 8 * 2 < cLine)
    (hY : keyOk (kvPath o) = true → CbRet h₀ L m news s Q fun t => .bytes (byteArr (decKey (kvPath o))) t) (hN : keyOk (kvPath o) = false → CbRet h₀ L m news s Q fun _ => .none) : wpAny (model PG w) (ktrTop dp un gd cn cs L a ccd cl outer) (call (.ref 207) [.bytes (KBy.picked b (some 1) (some ((o.length : Int) - 32))) t]) Q E s := by
  have l := kvPath_len h
  refine Cl.use (c_read w _ t (kvPath o) (kv_ints kb h) (by omega) l.1) B F X N T hk hd hu ?_
  cases e : keyOk (kvPath o) with
  | true => rw [opt_yes e]; exact hY e
  | false => rw [opt_no e]; exact hN e
end
local macro_rules | `(tactic| walk_at "compareOp Eq bytes bytes") => `(tactic| (k_here; first
  | (refine first_is 1 (by assumption) rfl (by decide) ?_ (fun e => absurd (by assumption) e); intro e9)
  | (refine first_is 1 (by assumption) rfl (by decide) (fun e => absurd e (by assumption)) ?_; intro e9)
  | (refine first_is 1 (by assumption) rfl (by decide) ?_ ?_; all_goals intro e9)
  | (refine first_is 0 (by assumption) rfl (by decide) (fun e => absurd e (by omega)) ?_; intro e9)
  | (refine first_is 0 (by assumption) rfl (by decide) ?_ ?_; all_goals intro e9)
  | (refine first_is 2 (by assumption) rfl (by decide) (fun e => absurd e (by omega)) ?_; intro e9)
  | (refine first_is 2 (by assumption) rfl (by decide) ?_ ?_; all_goals intro e9)))
local macro_rules | `(tactic| walk_at "call ref") => `(tactic| (k_here; (with_reducible show wpAny _ _ (call (Value.ref 207) _) _ _ _); k_dflt (refine use_read (by assumption) (by omega) (by assumption) (by k_asm) (by k_asm) (by k_asm) (by k_asm) (by k_asm) (by exact rfl) (by ktr_room) (by ktr_units) ?_ ?_); all_goals (intro kO9 t9 h9 tk9 F9 N9; (try dsimp only); (try k_fold))))
theorem c_due (w : World) (b : Array UInt8) (t : Tok) (o : List Int) (kb : KBw.bInts b = o) (kl : o.length ≤ 100) : ClP w 3 228 [.bytes b t] (parsed o) := by
  intro p loose mean mg mb news dp un gd cn cs a ccd cl outer A₀ base h₀ L m s Q E B F X N T hk hd hu hret
  refine wpAny_call ?_
  k_dflt cell_enter
  k_steps
  all_goals first
    | exact ret_none hret (is_none (by omega) (by omega) (by omega)) (by k_asm) (by first | k_asm | (refine' cb_drop ?cbN ?cbS; (case cbN => assumption); (case cbS => kcj_all)))
    | exact ret_path hret (is_noPath (by assumption) (by omega) (by assumption)) (by k_asm) (by first | k_asm | (refine' cb_drop ?cbN ?cbS; (case cbN => assumption); (case cbS => kcj_all)))
    | exact ret_branch hret (is_branch (by assumption) (by omega)) (pick_mid kb 1 33 (by omega) (by omega)) (pick_from kb 33) (by k_asm) (by first | k_asm | (refine' cb_drop ?cbN ?cbS; (case cbN => assumption); (case cbS => kcj_all)))
    | exact ret_kv hret (is_kv (by assumption) (by omega) (by assumption)) rfl (pick_len32 kb (by omega)) (by k_asm) (by first | k_asm | (refine' cb_drop ?cbN ?cbS; (case cbN => assumption); (case cbS => kcj_all)))
    | exact ret_leaf hret (is_leaf (by assumption) (by omega)) (pick_from kb 1) (by k_asm) (by first | k_asm | (refine' cb_drop ?cbN ?cbS; (case cbN => assumption); (case cbS => kcj_all)))
end Mine
end
section
open PySem PySem.W PySem.Calls PySem.Spec PyProof.Rows
set_option maxHeartbeats 1000000
namespace Mine
section
variable {prog : Program} {w : World} {A : Around} {E : Value → Shared → Prop} {s : Shared} {b : Array UInt8} {o : List Int} {t u : Tok} {value slice : Expr} {Q : Value → Shared → Prop}
theorem item0 (kb : KBw.bInts b = o) (kl : o.length ≤ 1000) (h1 : 1 ≤ o.length) (h : ∀ t' k, Q (.int (o.getD 0 9) t') { s with toks := k })
    (hs : subscripted slice false (.bytes b t) (.int 0 u) = operate [.bytes b t, .int 0 u] (getItem (.bytes b t) (.int 0 u)) := by with_unfolding_all rfl)
    (ht : ∀ r, letTemporaryGo value (.bytes b t) r = pure () := by intro _; with_unfolding_all rfl) : wpAny (model prog w) A (subscriptTail value slice (.bytes b t) (.int 0 u)) Q E s := by
  have e : o.getD (0 : Int).toNat 0 = o.getD 0 9 := by
    match o, h1 with
    | a :: r, _ => rfl
  exact KBw.item_K kb (by omega) (by decide) (by omega) (fun t' k _ _ => by rw [e]; exact h t' k) hs ht
theorem empty_beq (kb : KBw.bInts b = o) : (b.toList == ([] : List UInt8)) = decide (o.length = 0) := by
  subst kb
  obtain ⟨xs⟩ := b
  cases xs <;> simp [KBw.bInts]
theorem eq_empty (kb : KBw.bInts b = o) (h1 : o.length = 0 → Q (.bool true) s) (h2 : 1 ≤ o.length → Q (.bool false) s) : wpAny (model prog w) A (compareOp .Eq (.bytes b t) (.bytes #[] u)) Q E s := by
  refine PySem.W.eq_bytes ?_
  show Q (.bool (b.toList == ([] : List UInt8))) s
  rw [empty_beq kb]
  by_cases h : o.length = 0
  · rw [decide_eq_true h]; exact h1 h
  · rw [decide_eq_false h]; exact h2 (by omega)
theorem ne_empty (kb : KBw.bInts b = o) (h1 : o.length = 0 → Q (.bool false) s) (h2 : 1 ≤ o.length → Q (.bool true) s) : wpAny (model prog w) A (compareOp .NotEq (.bytes b t) (.bytes #[] u)) Q E s := by
  refine PySem.W.ne_bytes ?_
  show Q (.bool (!(b.toList == ([] : List UInt8)))) s
  rw [empty_beq kb]
  by_cases h : o.length = 0
  · rw [decide_eq_true h]; exact h1 h
  · rw [decide_eq_false h]; exact h2 (by omega)
end
end Mine
end
section
open PySem PySem.W PySem.Calls PySem.Spec PyProof.Rows
set_option maxHeartbeats 2000000
namespace Mine
abbrev ClPL (w : World) (D : Nat) (f : Addr) (vs : List Value) (r : Parsed) : Prop :=
  ∀ (p : Program) (loose : List Str) (mean : ExcName → Option Value) (mg mb : Str → Option Value) (news : List (Addr × Obj)) (dp un : Nat) (gd : Option (List Code)) (cn : Str) (cs : Scope) (a : Addr) (ccd : Value) (cl : List (Str × Addr)) (h₀ : Heap) (L : Addr) (m : Str → Option Value) (s : Shared) (Q E : Value → Shared → Prop),
    Below callerA h₀ [] h₀ → Fr h₀ L s.heap m → (hd.heap_1 w.params).In h₀ → News h₀ L s.heap news → Top p loose mean mg mb h₀ → cs.kind = .function → dp + D < recursionLimit → un + 8 * D < cLine →
    RetP h₀ L m news s Q r → wpAny (model PG w) (ktrTop dp un gd cn cs L a ccd cl []) (call (.ref f) vs) Q E s
local macro_rules | `(tactic| walk_at "call ref") => `(tactic| (k_here; (with_reducible show wpAny _ _ (call (Value.ref 118) _) _ _ _); k_dflt (refine use_encbin (by assumption) (by assumption) (by k_asm) (by k_asm) (by k_asm) (by k_asm) (by k_asm) (by exact rfl) (by ktr_room) (by ktr_units) ?_); intro kz9 kl9 t9 h9 tk9 F9 N9; (try dsimp only); (try k_fold)))
local macro_rules | `(tactic| walk_at "call ref") => `(tactic| (k_here; (with_reducible show wpAny _ _ (call (Value.ref 153) _) _ _ _); (refine wpAny_call ?_); k_dflt cell_enter))
theorem kv_neg {b : Array UInt8} {o : List Int} (kb : KBw.bInts b = o) (h : 33 < o.length) : KBw.bInts (KBy.picked b (some 1) (some (-32))) = kvPath o := by
  have e := KBc.ints_picked kb (some ((1 : Nat) : Int)) (some (-((32 : Nat) : Int)))
  simp only [Option.elim] at e
  rw [clip_nat, clip_neg _ _ (by omega) (by decide), Nat.min_eq_left (by omega)] at e
  rw [show o.length - 32 - 1 = o.length - 33 by omega] at e
  exact e
theorem key_split {M : Model} {A : Around} {E : Value → Shared → Prop} {s : Shared} {Q : Value → Shared → Prop} {b : Array UInt8} {o : List Int} {t : Tok} (kb : KBw.bInts b = o) (hl : 33 < o.length) (kl : o.length ≤ 100)
    (h1 : KBw.bInts (KBy.picked b (some 1) (some (-32))) = kvPath o → (kvPath o).length ≤ 100 → 1 ≤ (kvPath o).length → keyOk (kvPath o) = true → wpAny M A (call (.ref 132) [.bytes (KBy.picked b (some 1) (some (-32))) t]) Q E s)
    (h2 : KBw.bInts (KBy.picked b (some 1) (some (-32))) = kvPath o → (kvPath o).length ≤ 100 → 1 ≤ (kvPath o).length → keyOk (kvPath o) = false → wpAny M A (call (.ref 132) [.bytes (KBy.picked b (some 1) (some (-32))) t]) Q E s) :
    wpAny M A (call (.ref 132) [.bytes (KBy.picked b (some 1) (some (-32))) t]) Q E s := by
  have l := kvPath_len hl
  cases e : keyOk (kvPath o) with
  | true => exact h1 (kv_neg kb hl) (by omega) l.1 e
  | false => exact h2 (kv_neg kb hl) (by omega) l.1 e
local macro_rules | `(tactic| walk_at "call ref") => `(tactic| (k_here; (with_reducible show wpAny _ _ (call (Value.ref 132) _) _ _ _); (refine key_split (by assumption) (by omega) (by assumption) ?_ ?_); all_goals (intro i9 l9 n9 k9; first | (k_dflt (refine Cl.use (c_deckey _ _ _ _ i9 l9 n9 k9) (by k_asm) (by k_asm) (by k_asm) (by k_asm) (by k_asm) (by exact rfl) (by ktr_room) (by ktr_units) ?_); intro t9 h9 tk9 F9 N9; (try dsimp only); (try k_fold)) | ((refine wpAny_call ?_); k_dflt cell_enter))))
local macro_rules | `(tactic| walk_at "compareOp Eq bytes bytes") => `(tactic| (k_here; (refine eq_empty (by assumption) ?_ ?_); all_goals intro e9))
local macro_rules | `(tactic| walk_at "subscriptTail") => `(tactic| (k_here; (with_reducible show wpAny _ _ (subscriptTail (Expr.Name (Str.ofString "node") _) _ (Value.bytes _ _) (Value.int 0 _)) _ _ _); (refine item0 (by assumption) (by omega) (by assumption) ?_); intro t9 k9))
local macro_rules | `(tactic| walk_at "getMethod ref") => `(tactic| (k_here; first
  | exact (no_one (by with_reducible assumption) (by with_reducible assumption) (by with_reducible assumption) (by with_reducible assumption)).elim
  | exact (no_two (by with_reducible assumption) (by with_reducible assumption) (by with_reducible assumption) (by with_reducible assumption)).elim))
theorem c_parsed (w : World) (b : Array UInt8) (t : Tok) (o : List Int) (kb : KBw.bInts b = o) (kl : o.length ≤ 100) : ClPL w 4 221 [.bytes b t] (parsed o) := by
  intro p loose mean mg mb news dp un gd cn cs a ccd cl h₀ L m s Q E B F X N T hk hd hu hret
  refine wpAny_call ?_
  have hfk : ScopeKind.function = ScopeKind.function := rfl
  k_dflt (refine' code_defS0X ?k1 ?k2 ?k3 ?k4 ?k5 ?kA ?k6 ?k7 ?k8 ?k9 ?kB ?_ ?cK ?c2 ?c3 ?c4 ?c5; (case kA => exact rfl); (case k2 => k_asm); (case k1 => k_asm); (case k3 => k_asm); (case k4 => k_asm); (case k5 => k_asm); (case k6 => k_is); (case k7 => k_is); (case k8 => ktr_room); (case k9 => exact BindsTo.of_eq rfl); (case kB => exact locs rfl); (case cK => assumption); (case c2 => exact rfl); (case c3 => exact rfl); (case c4 => exact rfl); (case c5 => decide); k_whole; intro g' L' h' FG' F' N' B' X' T' D'; (try dsimp only); (try k_lift B'); (try k_fold))
  k_steps
  all_goals first
    | (with_reducible refine' ret_none hret ?a ?b ?c; (case a => exact is_none (by omega) (by omega) (by omega)); (case b => k_asm); (case c => (first | k_asm | (refine' cb_drop ?cbN ?cbS; (case cbN => assumption); (case cbS => kcj_all)))))
    | (with_reducible refine' ret_path hret ?a ?b ?c; (case a => exact is_noPath (by omega) (by omega) (by assumption)); (case b => k_asm); (case c => (first | k_asm | (refine' cb_drop ?cbN ?cbS; (case cbN => assumption); (case cbS => kcj_all)))))
    | (refine' ret_branch hret ?a ?d ?e ?b ?c; (case c => (first | k_asm | (refine' cb_drop ?cbN ?cbS; (case cbN => assumption); (case cbS => kcj_all)))); (case a => exact is_branch (by omega) (by omega)); (case d => exact pick_mid kb 1 33 (by omega) (by omega)); (case e => exact pick_from kb 33); (case b => k_asm))
    | (refine' ret_kv hret ?a ?d ?e ?b ?c; (case c => (first | k_asm | (refine' cb_drop ?cbN ?cbS; (case cbN => assumption); (case cbS => kcj_all)))); (case a => exact is_kv (by omega) (by omega) (by assumption)); (case d => exact rfl); (case e => exact pick_end kb 32 (by omega) (by decide)); (case b => k_asm))
    | (refine' ret_leaf hret ?a ?d ?b ?c; (case c => (first | k_asm | (refine' cb_drop ?cbN ?cbS; (case cbN => assumption); (case cbS => kcj_all)))); (case a => exact is_leaf (by omega) (by omega)); (case d => exact pick_from kb 1); (case b => k_asm))
end Mine
end
section
open PySem PySem.W PySem.Calls PySem.Spec PyProof.Rows
set_option maxHeartbeats 2000000
namespace Mine
local macro_rules | `(tactic| walk_at "call ref") => `(tactic| (k_here; (with_reducible show wpAny _ _ (call (Value.ref 132) _) _ _ _); k_dflt (refine Cl.use (c_deckey _ _ _ _ (kv_neg (by assumption) (by omega)) (by assumption) (by assumption) (by assumption)) (by k_asm) (by k_asm) (by k_asm) (by k_asm) (by k_asm) (by exact rfl) (by ktr_room) (by ktr_units) ?_); intro t9 h9 tk9 F9 N9; (try dsimp only); (try k_fold)))
local macro_rules | `(tactic| walk_at "compareOp Eq bytes bytes") => `(tactic| (k_here; (refine eq_empty (by assumption) (fun e => absurd e (by omega)) ?_); intro e9))
local macro_rules | `(tactic| walk_at "subscriptTail") => `(tactic| (k_here; (with_reducible show wpAny _ _ (subscriptTail (Expr.Name (Str.ofString "node") _) _ (Value.bytes _ _) (Value.int 0 _)) _ _ _); (refine item0 (by assumption) (by omega) (by assumption) ?_); intro t9 k9))
local macro_rules | `(tactic| walk_at "exec Raise some none") => `(tactic| (k_here; exfalso; omega))
theorem c_parseKv (w : World) (b : Array UInt8) (t : Tok) (o : List Int) (kb : KBw.bInts b = o) (kl : o.length ≤ 100) (h0 : o.getD 0 9 = 0) (hl : 33 < o.length) (hk : keyOk (kvPath o) = true) : ClP w 4 153 [.bytes b t] (.kv (decKey (kvPath o)) (o.drop (o.length - 32))) := by
  intro p loose mean mg mb news dp un gd cn cs a ccd cl outer A₀ base h₀ L m s Q E B F X N T hkf hd hu hret
  have l1 : 1 ≤ (kvPath o).length := (kvPath_len hl).1
  have l2 : (kvPath o).length ≤ 100 := Nat.le_trans (kvPath_len hl).2 kl
  refine wpAny_call ?_
  k_dflt cell_enter
  k_steps
  all_goals (refine' ret_kv hret rfl ?d ?e ?b ?c; (case c => (first | k_asm | (refine' cb_drop ?cbN ?cbS; (case cbN => assumption); (case cbS => kcj_all)))); (case d => exact rfl); (case e => exact pick_end kb 32 (by omega) (by decide)); (case b => k_asm))
theorem c_parseBranch (w : World) (b : Array UInt8) (t : Tok) (o : List Int) (kb : KBw.bInts b = o) (h0 : o.getD 0 9 = 1) (hl : o.length = 65) : ClP w 4 153 [.bytes b t] (.branch ((o.drop 1).take 32) (o.drop 33)) := by
  intro p loose mean mg mb news dp un gd cn cs a ccd cl outer A₀ base h₀ L m s Q E B F X N T hkf hd hu hret
  refine wpAny_call ?_
  k_dflt cell_enter
  k_steps
  all_goals (refine' ret_branch hret rfl ?d ?e ?b ?c; (case c => (first | k_asm | (refine' cb_drop ?cbN ?cbS; (case cbN => assumption); (case cbS => kcj_all)))); (case d => exact pick_mid kb 1 33 (by omega) (by omega)); (case e => exact pick_from kb 33); (case b => k_asm))
theorem c_parseLeaf (w : World) (b : Array UInt8) (t : Tok) (o : List Int) (kb : KBw.bInts b = o) (kl : o.length ≤ 200) (h0 : o.getD 0 9 = 2) (hl : 1 < o.length) : ClP w 4 153 [.bytes b t] (.leaf (o.drop 1)) := by
  intro p loose mean mg mb news dp un gd cn cs a ccd cl outer A₀ base h₀ L m s Q E B F X N T hkf hd hu hret
  refine wpAny_call ?_
  k_dflt cell_enter
  k_steps
  all_goals (refine' ret_leaf hret rfl ?d ?b ?c; (case c => (first | k_asm | (refine' cb_drop ?cbN ?cbS; (case cbN => assumption); (case cbS => kcj_all)))); (case d => exact pick_from kb 1); (case b => k_asm))
end Mine
end
section
local macro_rules | `(tactic| walk_at "pad") => `(tactic| fail "pad")
open PySem PySem.W PySem.Calls PySem.Spec PyProof.Rows
set_option maxHeartbeats 2000000
namespace Mine
theorem ret_bytes {h₀ : Heap} {L : Addr} {m : Str → Option Value} {news : List (Addr × Obj)} {s : Shared} {Q : Value → Shared → Prop} {l : List Int} {x : Array UInt8} {t : Tok} {h' : Heap} {k : Nat} (hret : CbRet h₀ L m news s Q fun t => .bytes (byteArr l) t) (e : KBw.bInts x = l) (F : Fr h₀ L h' m) (N : News h₀ L h' news) : Q (.bytes x t) { s with heap := h', toks := k } := by
  rw [mk_of e]
  exact hret _ _ _ F N
local macro_rules | `(tactic| walk_at "call ref") => `(tactic| (k_here; (with_reducible show wpAny _ _ (call (Value.ref 139) _) _ _ _); (refine wpAny_call ?_); k_dflt cell_enter))
local macro_rules | `(tactic| walk_at "call ref") => `(tactic| (k_here; (with_reducible show wpAny _ _ (call (Value.ref 146) _) _ _ _); (refine wpAny_call ?_); k_dflt cell_enter))
local macro_rules | `(tactic| walk_at "exec Raise some none") => `(tactic| (k_here; exfalso; omega))
local macro_rules | `(tactic| walk_at "compareOp Eq bytes bytes") => `(tactic| (k_here; (refine eq_empty (by assumption) (fun e => absurd e (by omega)) ?_); intro e9))
theorem c_encLeaf (w : World) (b : Array UInt8) (t : Tok) (o : List Int) (kb : KBw.bInts b = o) (kl : o.length ≤ 200) (k1 : 1 ≤ o.length) : Cl w 2 174 [.bytes b t] (fun t => .bytes (byteArr ([2] ++ o)) t) := by
  intro p loose mean mg mb news dp un gd cn cs a ccd cl outer A₀ base h₀ L m s Q E B F X N T hk hd hu hret
  have hfk : ScopeKind.function = ScopeKind.function := rfl
  refine wpAny_call ?_
  k_dflt cell_enter
  k_steps
  rename KBw.bInts (_ ++ _) = _ => kbE
  exact ret_bytes hret kbE (by k_asm) (by first | k_asm | (refine' cb_drop ?cbN ?cbS; (case cbN => assumption); (case cbS => kcj_all)))
theorem c_encBranch (w : World) (b1 b2 : Array UInt8) (t1 t2 : Tok) (o1 o2 : List Int) (kb1 : KBw.bInts b1 = o1) (kb2 : KBw.bInts b2 = o2) (kl1 : o1.length = 32) (kl2 : o2.length = 32) : Cl w 2 167 [.bytes b1 t1, .bytes b2 t2] (fun t => .bytes (byteArr ([1] ++ o1 ++ o2)) t) := by
  intro p loose mean mg mb news dp un gd cn cs a ccd cl outer A₀ base h₀ L m s Q E B F X N T hk hd hu hret
  have hfk : ScopeKind.function = ScopeKind.function := rfl
  refine wpAny_call ?_
  k_dflt cell_enter
  k_steps
  rename KBw.bInts (_ ++ _) = _ => kbE
  exact ret_bytes hret kbE (by k_asm) (by first | k_asm | (refine' cb_drop ?cbN ?cbS; (case cbN => assumption); (case cbS => kcj_all)))
local macro_rules | `(tactic| walk_at "call ref") => `(tactic| (k_here; (with_reducible show wpAny _ _ (call (Value.ref 125) _) _ _ _); k_dflt (refine ClG.use (c_enckey _ _ _ _ (by assumption) (by assumption) (by assumption)) (by k_asm) (by k_asm) (by k_asm) (by k_asm) (by first | assumption | k_updF) (by assumption) (by k_asm) (by exact rfl) (by ktr_room) (by ktr_units) ?_); intro t9 h9 tk9 ps9 gens9 F9 N9 ht9 hg9; (try dsimp only at N9); (try dsimp only); (try k_fold)))
theorem ret_bytesG {h₀ : Heap} {L : Addr} {m : Str → Option Value} {g : Obj → List (Addr × Obj)} {s : Shared} {Q : Value → Shared → Prop} {l : List Int} {x : Array UInt8} {t : Tok} {h' : Heap} {k : Nat} {ps' : Array Value} {gens' : Array GenState} (hret : GRet h₀ L m g s Q fun t => .bytes (byteArr l) t) (e : KBw.bInts x = l) (F : Fr h₀ L h' m) (N : News h₀ L h' (g (tabObj ps'))) (ht : TriplesOk ps'.toList) (hg : GExt s.gens gens') : Q (.bytes x t) { s with heap := h', toks := k, gens := gens' } := by
  rw [mk_of e]
  exact hret _ _ _ _ _ F N ht hg
theorem c_encKv (w : World) (b1 b2 : Array UInt8) (t1 t2 : Tok) (r o2 : List Int) (kb1 : KBw.bInts b1 = r) (kb2 : KBw.bInts b2 = o2) (kl : r.length ≤ 63) (k01 : ∀ k ∈ r, k = 0 ∨ k = 1) (k1 : 1 ≤ r.length) (kl2 : o2.length = 32) : ClG w 4 160 [.bytes b1 t1, .bytes b2 t2] (fun t => .bytes (byteArr ([0] ++ encKey r ++ o2)) t) := by
  intro p loose mean mg mb news g ps dp un gd cn cs a ccd cl outer A₀ base h₀ L m s Q E B F X N U ht T hk hd hu hret
  have hfk : ScopeKind.function = ScopeKind.function := rfl
  have kin := enc_in k01
  have kel := (enc_len kl).2
  refine wpAny_call ?_
  k_dflt cell_enter
  k_steps
  rename KBw.bInts (_ ++ _) = _ => kbE
  exact ret_bytesG hret kbE (by k_asm) (by k_asm) (by assumption) (by assumption)
end Mine
end
section
open PySem PySem.W PySem.Calls PySem.Spec PyProof.Rows
set_option maxHeartbeats 8000000
namespace Mine
/-- a literal, told as a number between -/
theorem abs32 {M : Model} {A : Around} {E : Value → Shared → Prop} {s : Shared} {f : Addr} {v : Value} {t : Tok} {Q : Value → Shared → Prop} (h : ∀ n : Int, 32 ≤ n → n ≤ 32 → wpAny M A (call (.ref f) [v, .int n t]) Q E s) : wpAny M A (call (.ref f) [v, .int 32 t]) Q E s := h 32 (by decide) (by decide)
end Mine
end
section
open PySem PySem.W PySem.Calls PySem.Spec PyProof.Rows
set_option maxHeartbeats 2000000
namespace Mine
local macro_rules | `(tactic| walk_at "call ref") => `(tactic| (k_here; (with_reducible show wpAny _ _ (call (Value.ref _) _) _ _ _); (try ((with_reducible show wpAny _ _ (call (Value.ref 146) _) _ _ _); (refine abs32 ?_); intro n9 lo9 hi9)); (refine wpAny_call ?_); k_dflt cell_enter))
local macro_rules | `(tactic| walk_at "compareOp Eq bytes bytes") => `(tactic| (k_here; first | (refine eq_same ?_) | (refine eq_empty (by assumption) (fun e => absurd e (by omega)) ?_; intro e9) | (refine eq_empty (by assumption) ?_ (fun e => absurd e (by omega)); intro e9)))
local macro_rules | `(tactic| walk_at "call ref") => `(tactic| (k_here; (with_reducible show wpAny _ _ (call (Value.ref 125) _) _ _ _); exfalso; omega))
local macro_rules | `(tactic| walk_at "enter refused") => `(tactic| k_dflt (refine' code_defS0X ?k1 ?k2 ?k3 ?k4 ?k5 ?kA ?k6 ?k7 ?k8 ?k9 ?kB ?_ ?cK ?c2 ?c3 ?c4 ?c5; (case kA => exact rfl); (case k2 => k_asm); (case k1 => k_asm); (case k3 => k_asm); (case k4 => k_asm); (case k5 => k_asm); (case k6 => k_is); (case k7 => k_is); (case k8 => ktr_room); (case k9 => exact BindsTo.of_eq rfl); (case kB => exact locs rfl); (case cK => assumption); (case c2 => exact rfl); (case c3 => exact rfl); (case c4 => exact rfl); (case c5 => decide); k_whole; intro g' L' h' FG' F' N' B' X' T' D'; (try dsimp only); (try k_lift B'); (try k_fold)))
theorem c_refA (w : World) (row sh : List Int) (b1 b2 : Array UInt8) (t t1 t2 : Tok) (h1 : KBw.bInts b1 = row) (l1 : row.length ≤ 63) (n1 : 1 ≤ row.length) (h2 : KBw.bInts b2 = sh) (l2 : sh.length ≤ 31) : ClL w 4 235 [.int 0 t, .bytes b1 t1, .bytes b2 t2] (fun _ => .bool true) := by
  intro p loose mean mg mb news dp un gd cn cs a ccd cl h₀ L m s Q E B F X N T hk hd hu hret
  have hfk : ScopeKind.function = ScopeKind.function := rfl
  refine wpAny_call ?_
  walk_at "enter refused"
  k_steps
  all_goals first | exact hret 0 _ _ (by k_asm) (by first | k_asm | (refine' cb_drop ?cbN ?cbS; (case cbN => assumption); (case cbS => kcj_all))) | (exfalso; omega)
theorem c_refB (w : World) (row : List Int) (x : Str) (b1 : Array UInt8) (t t1 t2 : Tok) (h1 : KBw.bInts b1 = row) (l1 : row.length ≤ 63) (n1 : 1 ≤ row.length) : ClL w 4 235 [.int 0 t, .bytes b1 t1, .str x t2] (fun _ => .bool true) := by
  intro p loose mean mg mb news dp un gd cn cs a ccd cl h₀ L m s Q E B F X N T hk hd hu hret
  have hfk : ScopeKind.function = ScopeKind.function := rfl
  refine wpAny_call ?_
  walk_at "enter refused"
  k_steps
  all_goals first | exact hret 0 _ _ (by k_asm) (by first | k_asm | (refine' cb_drop ?cbN ?cbS; (case cbN => assumption); (case cbS => kcj_all))) | (exfalso; omega)
theorem c_refC (w : World) (o : List Int) (b2 : Array UInt8) (t t1 t2 : Tok) (h2 : KBw.bInts b2 = o) (l2 : o.length = 32) : ClL w 4 235 [.int 0 t, .bytes #[] t1, .bytes b2 t2] (fun _ => .bool true) := by
  intro p loose mean mg mb news dp un gd cn cs a ccd cl h₀ L m s Q E B F X N T hk hd hu hret
  have hfk : ScopeKind.function = ScopeKind.function := rfl
  refine wpAny_call ?_
  walk_at "enter refused"
  k_steps
  all_goals first | exact hret 0 _ _ (by k_asm) (by first | k_asm | (refine' cb_drop ?cbN ?cbS; (case cbN => assumption); (case cbS => kcj_all))) | (exfalso; omega)
theorem c_refD (w : World) (sh o : List Int) (b1 b2 : Array UInt8) (t t1 t2 : Tok) (h1 : KBw.bInts b1 = sh) (l1 : sh.length ≤ 31) (h2 : KBw.bInts b2 = o) (l2 : o.length = 32) : ClL w 4 235 [.int 1 t, .bytes b1 t1, .bytes b2 t2] (fun _ => .bool true) := by
  intro p loose mean mg mb news dp un gd cn cs a ccd cl h₀ L m s Q E B F X N T hk hd hu hret
  have hfk : ScopeKind.function = ScopeKind.function := rfl
  refine wpAny_call ?_
  walk_at "enter refused"
  k_steps
  all_goals first | exact hret 0 _ _ (by k_asm) (by first | k_asm | (refine' cb_drop ?cbN ?cbS; (case cbN => assumption); (case cbS => kcj_all))) | (exfalso; omega)
theorem c_refE (w : World) (o q : List Int) (b1 b2 : Array UInt8) (t t1 t2 : Tok) (h1 : KBw.bInts b1 = o) (l1 : o.length = 32) (h2 : KBw.bInts b2 = q) (l2 : q.length = 33) : ClL w 4 235 [.int 1 t, .bytes b1 t1, .bytes b2 t2] (fun _ => .bool true) := by
  intro p loose mean mg mb news dp un gd cn cs a ccd cl h₀ L m s Q E B F X N T hk hd hu hret
  have hfk : ScopeKind.function = ScopeKind.function := rfl
  refine wpAny_call ?_
  walk_at "enter refused"
  k_steps
  all_goals first | exact hret 0 _ _ (by k_asm) (by first | k_asm | (refine' cb_drop ?cbN ?cbS; (case cbN => assumption); (case cbS => kcj_all))) | (exfalso; omega)
theorem c_refF (w : World) (o : List Int) (x : Str) (b2 : Array UInt8) (t t1 t2 : Tok) (h2 : KBw.bInts b2 = o) (l2 : o.length = 32) : ClL w 4 235 [.int 1 t, .str x t1, .bytes b2 t2] (fun _ => .bool true) := by
  intro p loose mean mg mb news dp un gd cn cs a ccd cl h₀ L m s Q E B F X N T hk hd hu hret
  have hfk : ScopeKind.function = ScopeKind.function := rfl
  refine wpAny_call ?_
  walk_at "enter refused"
  k_steps
  all_goals first | exact hret 0 _ _ (by k_asm) (by first | k_asm | (refine' cb_drop ?cbN ?cbS; (case cbN => assumption); (case cbS => kcj_all))) | (exfalso; omega)
theorem c_refG (w : World) (o : List Int) (b2 : Array UInt8) (t t1 t2 : Tok) (h2 : KBw.bInts b2 = o) (l2 : o.length = 32) : ClL w 4 235 [.int 2 t, .bytes #[] t1, .bytes b2 t2] (fun _ => .bool true) := by
  intro p loose mean mg mb news dp un gd cn cs a ccd cl h₀ L m s Q E B F X N T hk hd hu hret
  have hfk : ScopeKind.function = ScopeKind.function := rfl
  refine wpAny_call ?_
  walk_at "enter refused"
  k_steps
  all_goals first | exact hret 0 _ _ (by k_asm) (by first | k_asm | (refine' cb_drop ?cbN ?cbS; (case cbN => assumption); (case cbS => kcj_all))) | (exfalso; omega)
theorem c_refH (w : World) (o : List Int) (x : Str) (b2 : Array UInt8) (t t1 t2 : Tok) (h2 : KBw.bInts b2 = o) (l2 : o.length = 32) : ClL w 4 235 [.int 2 t, .str x t1, .bytes b2 t2] (fun _ => .bool true) := by
  intro p loose mean mg mb news dp un gd cn cs a ccd cl h₀ L m s Q E B F X N T hk hd hu hret
  have hfk : ScopeKind.function = ScopeKind.function := rfl
  refine wpAny_call ?_
  walk_at "enter refused"
  k_steps
  all_goals first | exact hret 0 _ _ (by k_asm) (by first | k_asm | (refine' cb_drop ?cbN ?cbS; (case cbN => assumption); (case cbS => kcj_all))) | (exfalso; omega)
end Mine
end
section
open PySem PySem.W PySem.Calls PySem.Spec PyProof.Rows PyProof.V
set_option maxHeartbeats 1000000
namespace Mine
open Builtin in
theorem meets_rev (b : Array UInt8) (t u : Tok) (a : Addr) :
    Meets («bytes.__getitem__» ⟨[.bytes b t, .ref a], []⟩) (fun _ R s => s.heap.IsSliceOf a .none .none (.int (-1) u) ∧ b.size = 32 ∧ ∀ t' k, R (.ok (.ret (.bytes (Bytes.sliced b 31 (-1) (-1)) t'))) { s with toks := k }) := by
  refine .of_wp fun prog w A R s hS => ?_
  obtain ⟨⟨o, ho, hc, hd⟩, hsz, h⟩ := hS
  have hT : s.TypeIs (.ref a) "slice" := ⟨o, ho, hc⟩
  have hb : sliceBounds none none (some (-1)) b.size = (31, -1, -1) := by rw [hsz]; decide
  show wpAny _ _ (Bytes.payload (.bytes b t) >>= fun r => _) _ _ s
  refine wpAny_bind (wpAny_of_eq (a := b) rfl ?_)
  show wpAny _ _ (Bytes.subscript? (.ref a) >>= fun r => _) _ _ s
  refine wpAny_bind ?_
  unfold Bytes.subscript?
  refine wpAny_bind (wpAny_specialOf hT slice_no_index (wpAny_pure ?_))
  refine wpAny_bind (wpAny_typeOf hT ?_)
  show wpAny _ _ (Bytes.sliceParts (.ref a) >>= fun r => _) _ _ s
  refine wpAny_bind ?_
  unfold Bytes.sliceParts
  refine wpAny_bind (wpAny_field (x := .int (-1) u) ho hd rfl ?_)
  kby_int
  refine wpAny_ite (KBy.ite_no (show ¬ ((rawInt (-1) == rawInt 0) = true) by decide) ?_)
  refine wpAny_bind (wpAny_field (x := .none) ho hd rfl ?_)
  kby_none
  refine wpAny_bind (wpAny_field (x := .none) ho hd rfl ?_)
  kby_none
  refine wpAny_pure ?_
  have go : wpAny (model prog w) A.in1 (sliceIndices (rawPart none) (rawPart none) (rawPart (some (-1))) b.size) (fun r s' => r = sliceBounds none none (some (-1)) b.size ∧ s' = s) (fun _ _ => False) s :=
    wpAny_of_eq (sliceIndices_raw none none (some (-1)) b.size (by decide)) ⟨rfl, rfl⟩
  refine wpAny_bind (wpAny_mono go (fun r s' hr => ?_) fun _ _ e => e.elim)
  obtain ⟨hr1, hr2⟩ := hr
  subst hr1 hr2
  rw [hb]
  refine wpAny_ite (KBy.ite_no (by simp) ?_)
  refine wpAny_bind (wpAny_mkBytes (wpAny_pure ⟨_, rfl, h _ _⟩) ?_)
  unfold Bytes.sliced
  rw [List.size_toArray]
  refine Nat.le_trans (List.length_filterMap_le _ _) ?_
  rw [sizeLine_eq]
  decide
theorem sliced_size {b : Array UInt8} (h : b.size = 32) : (Builtin.Bytes.sliced b 31 (-1) (-1)).size = 32 := by
  unfold Builtin.Bytes.sliced
  rw [List.size_toArray]
  have e : ∀ l : List Nat, (∀ i ∈ l, i < b.size) → (l.filterMap (b[·]?)).length = l.length := by
    intro l
    induction l with
    | nil => intro _; rfl
    | cons i r ih =>
      intro hl
      have hi := hl i (List.mem_cons_self ..)
      rw [List.filterMap_cons]
      simp only [Array.getElem?_eq_getElem hi, List.length_cons]
      rw [ih fun j hj => hl j (.tail _ hj)]
  rw [e _ (by rw [h]; decide)]
  decide
section
variable {prog : Program} {w : World} {A : Around} {E : Value → Shared → Prop} {s : Shared} {value slice : PySem.Expr} {b c : Array UInt8} {t u : Tok} {h₀ : Heap} {L : Addr} {m : PySem.Str → Option Value} {news : List (Addr × Obj)} {Q : Value → Shared → Prop} {ks xs ys : List Int}
theorem slice_rev (hF : Fr h₀ L s.heap m) (hN : News h₀ L s.heap news) (hk : KBw.bInts b = ks) (hl : ks.length = 32)
    (h : ∀ r h' t' k, KBa.In r → r.length = 32 → Fr h₀ L h' m → News h₀ L h' news → Q (.bytes (byteArr r) t') { s with heap := h', toks := k })
    (hs : subscripted slice false (.bytes b t) (.ref s.heap.objs.size) = operate [.ref s.heap.objs.size, .bytes b t] (getItem (.bytes b t) (.ref s.heap.objs.size)) := by with_unfolding_all rfl)
    (ht : ∀ r, letTemporaryGo value (.bytes b t) r = pure () := by intro _; with_unfolding_all rfl) :
    wpAny (model prog w) A (subscriptTail value slice (.bytes b t) (.ref s.heap.objs.size)) Q E { s with heap := s.heap.push { cls := .type "slice", data := .fields #[.none, .none, .int (-1) u] } } := by
  have hb : b.size = 32 := by rw [← KBw.ints_length b, hk, hl]
  refine tail_of_ItemOn ⟨"bytes", _, FB.slot_bytes_getitem.lookup, typeIs_bytes _ _ _, getItem_meets (typeIs_bytes _ _ _) (by decide) FB.slot_bytes_getitem FB.entry_bytes_getitem (FB.args_bytes_getitem_2 _ _) (meets_rev b t u _)
    ⟨Heap.IsSliceOf.new _ _ _ _, hb, fun t' k => ?_⟩⟩ hs ht
  have e := mk_of (b := Builtin.Bytes.sliced b 31 (-1) (-1)) rfl
  rw [e]
  exact h _ _ _ _ (in_of rfl) (by rw [KBw.ints_length, sliced_size hb]) (hF.push _) (News.pushKeep hN _)
/-- the first n octets, told by their number alone -/
theorem slice_abs {uj : Tok} {j : Int} (n : Nat) (hj : j = (n : Int)) (hF : Fr h₀ L s.heap m) (hN : News h₀ L s.heap news) (hk : KBw.bInts b = ks) (hz : ks.length ≤ 16777216)
    (h : ∀ r h' t' k, KBa.In r → r.length ≤ n → (n ≤ ks.length → r.length = n) → Fr h₀ L h' m → News h₀ L h' news → Q (.bytes (byteArr r) t') { s with heap := h', toks := k })
    (hs : subscripted slice false (.bytes b t) (.ref s.heap.objs.size) = operate [.ref s.heap.objs.size, .bytes b t] (getItem (.bytes b t) (.ref s.heap.objs.size)) := by with_unfolding_all rfl)
    (ht : ∀ r, letTemporaryGo value (.bytes b t) r = pure () := by intro _; with_unfolding_all rfl) :
    wpAny (model prog w) A (subscriptTail value slice (.bytes b t) (.ref s.heap.objs.size)) Q E { s with heap := s.heap.push { cls := .type "slice", data := .fields #[.none, .int j uj, .none] } } := by
  subst hj
  refine KBc.slice_K hF hN hk .none (.int _ _) hz (fun h' t' k F' N' _ => ?_) hs ht
  rw [pick_to hk]
  exact h _ _ _ _ (fun x hx => in_of hk x (List.mem_of_mem_take hx)) (by rw [List.length_take]; omega) (fun q => by rw [List.length_take]; omega) F' N'
theorem slice_take {uj : Tok} {j : Int} (n : Nat) (hj : j = (n : Int)) (hF : Fr h₀ L s.heap m) (hN : News h₀ L s.heap news) (hk : KBw.bInts b = ks) (hz : ks.length ≤ 16777216)
    (h : ∀ h' t' k, KBa.In (ks.take n) → (ks.take n).length ≤ n → Fr h₀ L h' m → News h₀ L h' news → Q (.bytes (byteArr (ks.take n)) t') { s with heap := h', toks := k })
    (hs : subscripted slice false (.bytes b t) (.ref s.heap.objs.size) = operate [.ref s.heap.objs.size, .bytes b t] (getItem (.bytes b t) (.ref s.heap.objs.size)) := by with_unfolding_all rfl)
    (ht : ∀ r, letTemporaryGo value (.bytes b t) r = pure () := by intro _; with_unfolding_all rfl) :
    wpAny (model prog w) A (subscriptTail value slice (.bytes b t) (.ref s.heap.objs.size)) Q E { s with heap := s.heap.push { cls := .type "slice", data := .fields #[.none, .int j uj, .none] } } := by
  subst hj
  refine KBc.slice_K hF hN hk .none (.int _ _) hz (fun h' t' k F' N' _ => ?_) hs ht
  rw [pick_to hk]
  exact h _ _ _ (fun x hx => in_of hk x (List.mem_of_mem_take hx)) (by rw [List.length_take]; omega) F' N'
theorem add_arr (k1 : KBw.bInts b = xs) (k2 : KBw.bInts c = ys) (hz : xs.length + ys.length ≤ 16777216) (h : ∀ t' k, KBa.In (xs ++ ys) → Q (.bytes (byteArr (xs ++ ys)) t') { s with toks := k }) :
    wpAny (model prog w) A (binaryOp .Add (.bytes b t) (.bytes c u)) Q E s := by
  refine KBa.add_K k1 k2 (by first | exact hz | omega) fun t' k e => ?_
  rw [mk_of e]
  exact h t' k fun n hn => by
    rcases List.mem_append.mp hn with q | q
    · exact in_of k1 n q
    · exact in_of k2 n q
theorem ne_opt {r : Option (List Int)} (h : Q (.bool false) s) : wpAny (model prog w) A (compareOp .NotEq (optV r t) (optV r u)) Q E s := by
  cases r with
  | none => exact PySem.SeqAt.RcNeAt.none_none prog w E Q h
  | some x => exact ne_same h
end
end Mine
end
section
open PySem PySem.W PySem.Calls PySem.Spec PyProof.Rows
set_option maxHeartbeats 1000000
namespace Mine
/-- behind a statement of the law that only asks: all stands as it stood -/
def CutPost (h₀ : Heap) (L : Addr) (m : Str → Option Value) (s : Shared) (gs : Array GenState) (o : Obj) (f : Flow) (s' : Shared) : Prop :=
  f = .next ∧ ∃ h' k' ps' gens', s' = { s with heap := h', toks := k', gens := gens' } ∧ Fr h₀ L h' m ∧ News h₀ L h' [(106, tabObj ps'), (L + 1, o)] ∧ TriplesOk ps'.toList ∧ GExt gs gens'
theorem cut_done {h₀ : Heap} {L : Addr} {m : Str → Option Value} {s : Shared} {gs gens' : Array GenState} {o : Obj} {h' : Heap} {k' : Nat} {ps' : Array Value} (F : Fr h₀ L h' m) (N : News h₀ L h' [(106, tabObj ps'), (L + 1, o)]) (ht : TriplesOk ps'.toList) (hg : GExt gs gens') :
    CutPost h₀ L m s gs o .next { s with heap := h', toks := k', gens := gens' } := ⟨rfl, h', k', ps', gens', rfl, F, N, ht, hg⟩
theorem cut_exec {M : Model} {A : Around} {E : Value → Shared → Prop} {s : Shared} {Q : Flow → Shared → Prop} {st : Stmt} {env : Env} {h₀ : Heap} {L : Addr} {m : Str → Option Value} {gs : Array GenState} {o : Obj} {ps : Array Value}
    (_ : Fr h₀ L s.heap m) (_ : News h₀ L s.heap [(106, tabObj ps), (L + 1, o)]) (_ : GExt gs s.gens)
    (h : wpAny M A (exec st env) (CutPost h₀ L m s gs o) E s)
    (k : ∀ h' k' ps' gens', Fr h₀ L h' m → News h₀ L h' [(106, tabObj ps'), (L + 1, o)] → TriplesOk ps'.toList → GExt gs gens' → Q .next { s with heap := h', toks := k', gens := gens' }) : wpAny M A (exec st env) Q E s :=
  wpAny_mono h (fun f s' hp => by
    obtain ⟨rfl, h', k', ps', gens', rfl, F, N, ht, hg⟩ := hp
    exact k h' k' ps' gens' F N ht hg) fun _ _ x => x
section
variable {prog : Program} {w : World} {A : Around} {E : Value → Shared → Prop} {s : Shared} {b c : Array UInt8} {t u : Tok} {Q : Value → Shared → Prop} {xs ys : List Int}
theorem add_one {k8 : UInt8} {k : Int} (hk : (k8.toNat : Int) = k) (k2 : KBa.In ys) (hz : ys.length ≤ 1000) (h : ∀ t' k', KBa.In (k :: ys) → Q (.bytes (byteArr (k :: ys)) t') { s with toks := k' }) :
    wpAny (model prog w) A (binaryOp .Add (.bytes [k8].toArray t) (.bytes (byteArr ys) u)) Q E s := by
  subst hk
  exact add_arr (xs := [(k8.toNat : Int)]) rfl (KBa.ints_make k2) (by simp; omega) fun t' k' hi => h t' k' hi
theorem add_0 (k2 : KBa.In ys) (hz : ys.length ≤ 1000) (h : ∀ t' k', KBa.In (0 :: ys) → Q (.bytes (byteArr (0 :: ys)) t') { s with toks := k' }) : wpAny (model prog w) A (binaryOp .Add (.bytes [0].toArray t) (.bytes (byteArr ys) u)) Q E s := add_one (k := 0) rfl k2 hz h
theorem add_1 (k2 : KBa.In ys) (hz : ys.length ≤ 1000) (h : ∀ t' k', KBa.In (1 :: ys) → Q (.bytes (byteArr (1 :: ys)) t') { s with toks := k' }) : wpAny (model prog w) A (binaryOp .Add (.bytes [1].toArray t) (.bytes (byteArr ys) u)) Q E s := add_one (k := 1) rfl k2 hz h
theorem add_2 (k2 : KBa.In ys) (hz : ys.length ≤ 1000) (h : ∀ t' k', KBa.In (2 :: ys) → Q (.bytes (byteArr (2 :: ys)) t') { s with toks := k' }) : wpAny (model prog w) A (binaryOp .Add (.bytes [2].toArray t) (.bytes (byteArr ys) u)) Q E s := add_one (k := 2) rfl k2 hz h
theorem add_tail {k : Int} (k1 : KBa.In (k :: xs)) (k2 : KBa.In ys) (hz : xs.length + ys.length ≤ 1000) (h : ∀ t' k', KBa.In (k :: (xs ++ ys)) → Q (.bytes (byteArr (k :: (xs ++ ys))) t') { s with toks := k' }) :
    wpAny (model prog w) A (binaryOp .Add (.bytes (byteArr (k :: xs)) t) (.bytes (byteArr ys) u)) Q E s :=
  add_arr (KBa.ints_make k1) (KBa.ints_make k2) (by simp; omega) fun t' k' hi => h t' k' hi
theorem add_lits {l : List UInt8} (k1 : KBa.In xs) (hz : xs.length + l.length ≤ 1000) (h : ∀ z t' k', KBa.In z → z.length = xs.length + l.length → Q (.bytes (byteArr z) t') { s with toks := k' }) :
    wpAny (model prog w) A (binaryOp .Add (.bytes (byteArr xs) t) (.bytes l.toArray u)) Q E s :=
  add_arr (KBa.ints_make k1) (KBw.ints_list l) (by simp; omega) fun t' k' hi => h _ t' k' hi (by simp)
end
theorem bi0 : KBw.bInts #[0] = [0] := rfl
theorem bi1 : KBw.bInts #[1] = [1] := rfl
theorem bi2 : KBw.bInts #[2] = [2] := rfl
theorem bi49 : KBw.bInts #[49] = [49] := rfl
theorem ne_sameS {prog : Program} {w : World} {A : Around} {E : Value → Shared → Prop} {s : Shared} {x : Str} {t u : Tok} {Q : Value → Shared → Prop} (h : Q (.bool false) s) : wpAny (model prog w) A (compareOp .NotEq (.str x t) (.str x u)) Q E s :=
  PyProof.Rows.ne_str (by simpa using h)
/-- what a call from the law's frame wants of the state -/
structure StdA (D : Nat) (w : World) (p : Program) (loose : List Str) (mean : ExcName → Option Value) (mg mb : Str → Option Value) (news : List (Addr × Obj)) (dp un : Nat) (cs : Scope) (h₀ : Heap) (L : Addr) (m : Str → Option Value) (s : Shared) : Prop where
  B : Below callerA h₀ [] h₀
  F : Fr h₀ L s.heap m
  X : (hd.heap_1 w.params).In h₀
  N : News h₀ L s.heap news
  T : Top p loose mean mg mb h₀
  hk : cs.kind = .function
  hd : dp + D < recursionLimit
  hu : un + 8 * D < cLine
section
variable {w : World} {p : Program} {loose : List Str} {mean : ExcName → Option Value} {mg mb : Str → Option Value} {news : List (Addr × Obj)} {g : Obj → List (Addr × Obj)} {ps : Array Value} {dp un : Nat} {gd : Option (List Code)} {cn : Str} {cs : Scope} {a : Addr} {ccd : Value} {cl : List (Str × Addr)} {h₀ : Heap} {L : Addr} {m : Str → Option Value} {s : Shared} {Q E : Value → Shared → Prop} {o c d r : List Int} {t t1 t2 : Tok}
theorem use_told (ho : KBa.In o) (kl : o.length ≤ 100) (k1 : 1 ≤ o.length)
    (S : StdA 3 w p loose mean mg mb news dp un cs h₀ L m s) 
    (hR : CbRet h₀ L m news s Q (optV (lawRead o))) : wpAny (model PG w) (ktrTop dp un gd cn cs L a ccd cl []) (call (.ref 214) [.bytes (byteArr o) t]) Q E s :=
  c_told w _ t o (KBa.ints_make ho) kl k1 _ _ _ _ _ _ _ _ _ _ _ _ _ _ _ _ _ _ _ _ S.B S.F S.X S.N S.T S.hk S.hd S.hu hR
theorem use_readO (ho : KBa.In o) (kl : o.length ≤ 100) (k1 : 1 ≤ o.length)
    (S : StdA 2 w p loose mean mg mb news dp un cs h₀ L m s) 
    (hR : CbRet h₀ L m news s Q (optV (lawRead o))) : wpAny (model PG w) (ktrTop dp un gd cn cs L a ccd cl []) (call (.ref 207) [.bytes (byteArr o) t]) Q E s :=
  Cl.use (c_read w _ t o (KBa.ints_make ho) kl k1) S.B S.F S.X S.N S.T S.hk S.hd S.hu hR
theorem use_parsed (ho : KBa.In o) (kl : o.length ≤ 100)
    (S : StdA 4 w p loose mean mg mb news dp un cs h₀ L m s) 
    (hR : ∀ x, parsed o = x → RetP h₀ L m news s Q x) : wpAny (model PG w) (ktrTop dp un gd cn cs L a ccd cl []) (call (.ref 221) [.bytes (byteArr o) t]) Q E s :=
  c_parsed w _ t o (KBa.ints_make ho) kl _ _ _ _ _ _ _ _ _ _ _ _ _ _ _ _ _ _ _ _ S.B S.F S.X S.N S.T S.hk S.hd S.hu (hR _ rfl)
theorem use_due {x : Parsed} (e : parsed o = x) (ho : KBa.In o) (kl : o.length ≤ 100)
    (S : StdA 3 w p loose mean mg mb news dp un cs h₀ L m s) 
    (hR : RetP h₀ L m news s Q x) : wpAny (model PG w) (ktrTop dp un gd cn cs L a ccd cl []) (call (.ref 228) [.bytes (byteArr o) t]) Q E s := by
  subst e
  exact c_due w _ t o (KBa.ints_make ho) kl _ _ _ _ _ _ _ _ _ _ _ _ _ _ _ _ _ _ _ _ _ _ _ S.B S.F S.X S.N S.T S.hk S.hd S.hu hR
theorem use_parseKv (hc : KBa.In c) (lc : c.length = 32) (lr : r.length ≤ 63) (r01 : ∀ k ∈ r, k = 0 ∨ k = 1)
    (S : StdA 4 w p loose mean mg mb news dp un cs h₀ L m s) 
    (hR : RetP h₀ L m news s Q (.kv r c)) : wpAny (model PG w) (ktrTop dp un gd cn cs L a ccd cl []) (call (.ref 153) [.bytes (byteArr (0 :: (encKey r ++ c))) t]) Q E s := by
  have le := enc_len lr
  have hl : ([0] ++ encKey r ++ c).length = 33 + (encKey r).length := by simp [lc]; omega
  have hp : kvPath ([0] ++ encKey r ++ c) = encKey r := by
    unfold kvPath
    rw [hl, show 33 + (encKey r).length - 33 = (encKey r).length by omega, List.append_assoc]
    exact List.take_left
  have hi : KBa.In ([0] ++ encKey r ++ c) := fun n hn => by
    simp only [List.append_assoc, List.mem_append, List.mem_singleton] at hn
    rcases hn with rfl | q | q
    · decide
    · exact enc_in r01 n q
    · exact hc n q
  have := c_parseKv w _ t ([0] ++ encKey r ++ c) (KBa.ints_make hi) (by omega) rfl (by omega) (by rw [hp]; exact enc_ok r01 lr)
  rw [hp, enc_dec r01 lr, hl, show 33 + (encKey r).length - 32 = ([0] ++ encKey r).length by simp; omega, List.drop_left] at this
  exact this _ _ _ _ _ _ _ _ _ _ _ _ _ _ _ _ _ _ _ _ _ _ _ S.B S.F S.X S.N S.T S.hk S.hd S.hu hR
theorem use_parseBranch (hc : KBa.In c) (lc : c.length = 32) (hd9 : KBa.In d) (ld : d.length = 32)
    (S : StdA 4 w p loose mean mg mb news dp un cs h₀ L m s) 
    (hR : RetP h₀ L m news s Q (.branch c d)) : wpAny (model PG w) (ktrTop dp un gd cn cs L a ccd cl []) (call (.ref 153) [.bytes (byteArr (1 :: (c ++ d))) t]) Q E s := by
  have hi : KBa.In ([1] ++ c ++ d) := fun n hn => by
    simp only [List.append_assoc, List.mem_append, List.mem_singleton] at hn
    rcases hn with rfl | q | q
    · decide
    · exact hc n q
    · exact hd9 n q
  have := c_parseBranch w _ t ([1] ++ c ++ d) (KBa.ints_make hi) rfl (by simp [lc, ld])
  have e1 : (([1] ++ c ++ d).drop 1).take 32 = c := by
    rw [List.append_assoc]
    show (c ++ d).take 32 = c
    rw [← lc, List.take_left]
  have e2 : ([1] ++ c ++ d).drop 33 = d := by
    rw [show 33 = ([1] ++ c).length by simp [lc], List.drop_left]
  rw [e1, e2] at this
  exact this _ _ _ _ _ _ _ _ _ _ _ _ _ _ _ _ _ _ _ _ _ _ _ S.B S.F S.X S.N S.T S.hk S.hd S.hu hR
theorem use_parseLeaf (ho : KBa.In o) (lo : o.length ≤ 100) (l1 : 1 ≤ o.length)
    (S : StdA 4 w p loose mean mg mb news dp un cs h₀ L m s) 
    (hR : RetP h₀ L m news s Q (.leaf o)) : wpAny (model PG w) (ktrTop dp un gd cn cs L a ccd cl []) (call (.ref 153) [.bytes (byteArr (2 :: o)) t]) Q E s := by
  have hi : KBa.In ([2] ++ o) := fun n hn => by
    simp only [List.mem_append, List.mem_singleton] at hn
    rcases hn with rfl | q
    · decide
    · exact ho n q
  exact c_parseLeaf w _ t ([2] ++ o) (KBa.ints_make hi) (by simp; omega) rfl (by simp; omega) _ _ _ _ _ _ _ _ _ _ _ _ _ _ _ _ _ _ _ _ _ _ _ S.B S.F S.X S.N S.T S.hk S.hd S.hu hR
theorem use_enckey (lr : r.length ≤ 63) (r01 : ∀ k ∈ r, k = 0 ∨ k = 1) (hr : KBa.In r)
    (S : StdA 2 w p loose mean mg mb news dp un cs h₀ L m s) (U : UpdF 106 (tabObj ps) news g) (ht : TriplesOk ps.toList) 
    (hR : KBa.In (encKey r) → (encKey r).length ≤ 10 → GRet h₀ L m g s Q fun t => .bytes (byteArr (encKey r)) t) : wpAny (model PG w) (ktrTop dp un gd cn cs L a ccd cl []) (call (.ref 125) [.bytes (byteArr r) t1]) Q E s :=
  ClG.use (l_enckey w t1 r hr lr r01) S.B S.F S.X S.N U ht S.T S.hk S.hd S.hu (hR (enc_in r01) (enc_len lr).2)
theorem use_encKv (lr : r.length ≤ 63) (r01 : ∀ k ∈ r, k = 0 ∨ k = 1) (r1 : 1 ≤ r.length) (hr : KBa.In r) (hc : KBa.In c) (lc : c.length = 32)
    (S : StdA 4 w p loose mean mg mb news dp un cs h₀ L m s) (U : UpdF 106 (tabObj ps) news g) (ht : TriplesOk ps.toList) 
    (hR : GRet h₀ L m g s Q fun t => .bytes (byteArr (0 :: (encKey r ++ c))) t) : wpAny (model PG w) (ktrTop dp un gd cn cs L a ccd cl []) (call (.ref 160) [.bytes (byteArr r) t1, .bytes (byteArr c) t2]) Q E s :=
  ClG.use (c_encKv w _ _ t1 t2 r c (KBa.ints_make hr) (KBa.ints_make hc) lr r01 r1 lc) S.B S.F S.X S.N U ht S.T S.hk S.hd S.hu hR
theorem use_encBranch (hc : KBa.In c) (lc : c.length = 32) (hd9 : KBa.In d) (ld : d.length = 32)
    (S : StdA 2 w p loose mean mg mb news dp un cs h₀ L m s) 
    (hR : CbRet h₀ L m news s Q fun t => .bytes (byteArr (1 :: (c ++ d))) t) : wpAny (model PG w) (ktrTop dp un gd cn cs L a ccd cl []) (call (.ref 167) [.bytes (byteArr c) t1, .bytes (byteArr d) t2]) Q E s :=
  Cl.use (c_encBranch w _ _ t1 t2 c d (KBa.ints_make hc) (KBa.ints_make hd9) lc ld) S.B S.F S.X S.N S.T S.hk S.hd S.hu hR
theorem use_encLeaf (ho : KBa.In o) (lo : o.length ≤ 100) (l1 : 1 ≤ o.length)
    (S : StdA 2 w p loose mean mg mb news dp un cs h₀ L m s) 
    (hR : CbRet h₀ L m news s Q fun t => .bytes (byteArr (2 :: o)) t) : wpAny (model PG w) (ktrTop dp un gd cn cs L a ccd cl []) (call (.ref 174) [.bytes (byteArr o) t]) Q E s :=
  Cl.use (c_encLeaf w _ t o (KBa.ints_make ho) (by omega) l1) S.B S.F S.X S.N S.T S.hk S.hd S.hu hR
theorem use_decbin {b : Array UInt8} (kb : KBw.bInts b = o) (lo : o.length ≤ 100) (o01 : ∀ k ∈ o, k = 0 ∨ k = 1)
    (S : StdA 1 w p loose mean mg mb news dp un cs h₀ L m s) (U : UpdF 106 (tabObj ps) news g) (ht : TriplesOk ps.toList) 
    (hR : GRet h₀ L m g s Q fun t => .bytes (byteArr (decBin o)) t) : wpAny (model PG w) (ktrTop dp un gd cn cs L a ccd cl []) (call (.ref 111) [.bytes b t]) Q E s :=
  ClG.use (c_decbin w _ t o kb lo o01) S.B S.F S.X S.N U ht S.T S.hk S.hd S.hu hR
theorem use_decenc (ho : KBa.In o) (lo : o.length ≤ 12)
    (S : StdA 1 w p loose mean mg mb news dp un cs h₀ L m s) (U : UpdF 106 (tabObj ps) news g) (ht : TriplesOk ps.toList) 
    (hR : GRet h₀ L m g s Q fun t => .bytes (byteArr o) t) : wpAny (model PG w) (ktrTop dp un gd cn cs L a ccd cl []) (call (.ref 111) [.bytes (byteArr (encBin o)) t]) Q E s := by
  refine use_decbin (KBa.ints_make (encBin_in o)) (by rw [encBin_len]; omega) (encBin_01 o) S U ht ?_
  rw [dec_enc ho]
  exact hR
theorem use_packed (lr : r.length ≤ 63) (r01 : ∀ k ∈ r, k = 0 ∨ k = 1) (hr : KBa.In r) (S : StdA 2 w p loose mean mg mb news dp un cs h₀ L m s)
    (hR : CbRet h₀ L m news s Q fun t => .bytes (byteArr (encKey r)) t) : wpAny (model PG w) (ktrTop dp un gd cn cs L a ccd cl []) (call (.ref 188) [.bytes (byteArr r) t]) Q E s :=
  Cl.use (l_packed w t r hr lr r01) S.B S.F S.X S.N S.T S.hk S.hd S.hu hR
theorem use_deckey (lr : r.length ≤ 63) (r01 : ∀ k ∈ r, k = 0 ∨ k = 1) (S : StdA 2 w p loose mean mg mb news dp un cs h₀ L m s)
    (hR : CbRet h₀ L m news s Q fun t => .bytes (byteArr r) t) : wpAny (model PG w) (ktrTop dp un gd cn cs L a ccd cl []) (call (.ref 132) [.bytes (byteArr (encKey r)) t]) Q E s :=
  Cl.use (l_deckey w t r lr r01) S.B S.F S.X S.N S.T S.hk S.hd S.hu hR
theorem use_number {b : Array UInt8} (S : StdA 1 w p loose mean mg mb news dp un cs h₀ L m s)
    (hR : CbRet h₀ L m news s Q fun t => .int (num (KBw.bInts b)) t) : wpAny (model PG w) (ktrTop dp un gd cn cs L a ccd cl []) (call (.ref 181) [.bytes b t]) Q E s :=
  Cl.use (c_number w b t) S.B S.F S.X S.N S.T S.hk S.hd S.hu hR
theorem use_encbinA (ho : KBa.In o) (lo : o.length ≤ 100) (S : StdA 1 w p loose mean mg mb news dp un cs h₀ L m s)
    (hR : CbRet h₀ L m news s Q fun t => .bytes (byteArr (encBin o)) t) : wpAny (model PG w) (ktrTop dp un gd cn cs L a ccd cl []) (call (.ref 118) [.bytes (byteArr o) t]) Q E s :=
  use_encbin (KBa.ints_make ho) lo S.B S.F S.X S.N S.T S.hk S.hd S.hu fun _ _ => hR
theorem use_signsA (ho : KBa.In o) (lo : o.length ≤ 100) (S : StdA 1 w p loose mean mg mb news dp un cs h₀ L m s)
    (hR : CbRet h₀ L m news s Q fun t => .str (signStr (encBin o)) t) : wpAny (model PG w) (ktrTop dp un gd cn cs L a ccd cl []) (call (.ref 195) [.bytes (byteArr o) t]) Q E s :=
  use_signs (KBa.ints_make ho) lo S.B S.F S.X S.N S.T S.hk S.hd S.hu fun _ _ => hR
theorem use_rowA (lo : o.length ≤ 100) (S : StdA 1 w p loose mean mg mb news dp un cs h₀ L m s)
    (hR : CbRet h₀ L m news s Q fun t => .bytes (byteArr (encBin o)) t) : wpAny (model PG w) (ktrTop dp un gd cn cs L a ccd cl []) (call (.ref 200) [.str (signStr (encBin o)) t]) Q E s :=
  use_row (by rw [encBin_len]; omega) (encBin_01 o) S.B S.F S.X S.N S.T S.hk S.hd S.hu fun _ => hR
end
end Mine
end
section
open PySem PySem.W PySem.Calls PySem.Spec PyProof.Rows
set_option maxHeartbeats 1000000
namespace Mine
section
variable {w : World} {p : Program} {loose : List Str} {mean : ExcName → Option Value} {mg mb : Str → Option Value} {news : List (Addr × Obj)} {dp un : Nat} {gd : Option (List Code)} {cn : Str} {cs : Scope} {a : Addr} {ccd : Value} {cl : List (Str × Addr)} {h₀ : Heap} {L : Addr} {m : Str → Option Value} {s : Shared} {Q E : Value → Shared → Prop} {t t1 t2 : Tok}
theorem use_refA {row sh : List Int} (h1 : KBa.In row) (l1 : row.length ≤ 63) (n1 : 1 ≤ row.length) (h2 : KBa.In sh) (l2 : sh.length ≤ 31)
    (S : StdA 4 w p loose mean mg mb news dp un cs h₀ L m s) 
    (hR : CbRet h₀ L m news s Q fun _ => .bool true) : wpAny (model PG w) (ktrTop dp un gd cn cs L a ccd cl []) (call (.ref 235) [.int 0 t, .bytes (byteArr row) t1, .bytes (byteArr sh) t2]) Q E s :=
  c_refA w row sh _ _ t t1 t2 (KBa.ints_make h1) l1 n1 (KBa.ints_make h2) l2 _ _ _ _ _ _ _ _ _ _ _ _ _ _ _ _ _ _ _ _ S.B S.F S.X S.N S.T S.hk S.hd S.hu hR
theorem use_refB {row : List Int} {x : Str} (h1 : KBa.In row) (l1 : row.length ≤ 63) (n1 : 1 ≤ row.length)
    (S : StdA 4 w p loose mean mg mb news dp un cs h₀ L m s) 
    (hR : CbRet h₀ L m news s Q fun _ => .bool true) : wpAny (model PG w) (ktrTop dp un gd cn cs L a ccd cl []) (call (.ref 235) [.int 0 t, .bytes (byteArr row) t1, .str x t2]) Q E s :=
  c_refB w row x _ t t1 t2 (KBa.ints_make h1) l1 n1 _ _ _ _ _ _ _ _ _ _ _ _ _ _ _ _ _ _ _ _ S.B S.F S.X S.N S.T S.hk S.hd S.hu hR
theorem use_refC {o : List Int} (h2 : KBa.In o) (l2 : o.length = 32)
    (S : StdA 4 w p loose mean mg mb news dp un cs h₀ L m s) 
    (hR : CbRet h₀ L m news s Q fun _ => .bool true) : wpAny (model PG w) (ktrTop dp un gd cn cs L a ccd cl []) (call (.ref 235) [.int 0 t, .bytes #[] t1, .bytes (byteArr o) t2]) Q E s :=
  c_refC w o _ t t1 t2 (KBa.ints_make h2) l2 _ _ _ _ _ _ _ _ _ _ _ _ _ _ _ _ _ _ _ _ S.B S.F S.X S.N S.T S.hk S.hd S.hu hR
theorem use_refD {sh o : List Int} (h1 : KBa.In sh) (l1 : sh.length ≤ 31) (h2 : KBa.In o) (l2 : o.length = 32)
    (S : StdA 4 w p loose mean mg mb news dp un cs h₀ L m s) 
    (hR : CbRet h₀ L m news s Q fun _ => .bool true) : wpAny (model PG w) (ktrTop dp un gd cn cs L a ccd cl []) (call (.ref 235) [.int 1 t, .bytes (byteArr sh) t1, .bytes (byteArr o) t2]) Q E s :=
  c_refD w sh o _ _ t t1 t2 (KBa.ints_make h1) l1 (KBa.ints_make h2) l2 _ _ _ _ _ _ _ _ _ _ _ _ _ _ _ _ _ _ _ _ S.B S.F S.X S.N S.T S.hk S.hd S.hu hR
theorem use_refE {o q : List Int} (h1 : KBa.In o) (l1 : o.length = 32) (h2 : KBa.In q) (l2 : q.length = 33)
    (S : StdA 4 w p loose mean mg mb news dp un cs h₀ L m s) 
    (hR : CbRet h₀ L m news s Q fun _ => .bool true) : wpAny (model PG w) (ktrTop dp un gd cn cs L a ccd cl []) (call (.ref 235) [.int 1 t, .bytes (byteArr o) t1, .bytes (byteArr q) t2]) Q E s :=
  c_refE w o q _ _ t t1 t2 (KBa.ints_make h1) l1 (KBa.ints_make h2) l2 _ _ _ _ _ _ _ _ _ _ _ _ _ _ _ _ _ _ _ _ S.B S.F S.X S.N S.T S.hk S.hd S.hu hR
theorem use_refF {o : List Int} {x : Str} (h2 : KBa.In o) (l2 : o.length = 32)
    (S : StdA 4 w p loose mean mg mb news dp un cs h₀ L m s) 
    (hR : CbRet h₀ L m news s Q fun _ => .bool true) : wpAny (model PG w) (ktrTop dp un gd cn cs L a ccd cl []) (call (.ref 235) [.int 1 t, .str x t1, .bytes (byteArr o) t2]) Q E s :=
  c_refF w o x _ t t1 t2 (KBa.ints_make h2) l2 _ _ _ _ _ _ _ _ _ _ _ _ _ _ _ _ _ _ _ _ S.B S.F S.X S.N S.T S.hk S.hd S.hu hR
theorem use_refG {o : List Int} (h2 : KBa.In o) (l2 : o.length = 32)
    (S : StdA 4 w p loose mean mg mb news dp un cs h₀ L m s) 
    (hR : CbRet h₀ L m news s Q fun _ => .bool true) : wpAny (model PG w) (ktrTop dp un gd cn cs L a ccd cl []) (call (.ref 235) [.int 2 t, .bytes #[] t1, .bytes (byteArr o) t2]) Q E s :=
  c_refG w o _ t t1 t2 (KBa.ints_make h2) l2 _ _ _ _ _ _ _ _ _ _ _ _ _ _ _ _ _ _ _ _ S.B S.F S.X S.N S.T S.hk S.hd S.hu hR
theorem use_refH {o : List Int} {x : Str} (h2 : KBa.In o) (l2 : o.length = 32)
    (S : StdA 4 w p loose mean mg mb news dp un cs h₀ L m s) 
    (hR : CbRet h₀ L m news s Q fun _ => .bool true) : wpAny (model PG w) (ktrTop dp un gd cn cs L a ccd cl []) (call (.ref 235) [.int 2 t, .str x t1, .bytes (byteArr o) t2]) Q E s :=
  c_refH w o x _ t t1 t2 (KBa.ints_make h2) l2 _ _ _ _ _ _ _ _ _ _ _ _ _ _ _ _ _ _ _ _ S.B S.F S.X S.N S.T S.hk S.hd S.hu hR
end
end Mine
end
section
open PySem PySem.W PySem.Calls PySem.Spec PyProof.Rows
set_option maxHeartbeats 1000000
namespace Mine
/-- where the eights of a row begin -/
def offs (r : List Int) : List Int := (List.range ((r.length + 7) / 8)).map fun j => ((8 * j : Nat) : Int)
def chunkG (r : List Int) (k : Int) : Int := num ((r.drop k.toNat).take 8)
theorem offs_chunks (r : List Int) : (offs r).map (chunkG r) = decBin r := by
  unfold offs decBin
  rw [List.map_map]
  refine List.map_congr_left fun j _ => ?_
  show chunkG r ((8 * j : Nat) : Int) = chunkAt r j
  unfold chunkG chunkAt chunkOf
  rw [Int.toNat_natCast]
theorem offs_mem {r : List Int} {k : Int} (h : k ∈ offs r) : ∃ j : Nat, k = ((8 * j : Nat) : Int) ∧ 8 * j < r.length + 7 := by
  obtain ⟨j, hj, rfl⟩ := List.mem_map.mp h
  have := List.mem_range.mp hj
  exact ⟨j, rfl, by omega⟩
theorem chunk_eq {r : List Int} {k : Int} (hk : k ∈ offs r) (hi : KBa.In r) : chunkG r k = num (KBw.bInts (KBy.picked (byteArr r) (some k) (some (k + 8)))) := by
  obtain ⟨j, rfl, _⟩ := offs_mem hk
  rw [KBc.ints_picked (KBa.ints_make hi)]
  simp only [Option.elim]
  rw [show ((8 * j : Nat) : Int) + 8 = ((8 * j + 8 : Nat) : Int) by omega, clip_nat, clip_nat]
  unfold chunkG
  rw [Int.toNat_natCast]
  congr 1
  rcases Nat.lt_or_ge r.length (8 * j) with q | q
  · rw [Nat.min_eq_right (Nat.le_of_lt q), List.drop_eq_nil_of_le (Nat.le_refl _), List.drop_eq_nil_of_le (Nat.le_of_lt q), List.take_nil, List.take_nil]
  · rw [Nat.min_eq_left q, List.take_eq_take_iff, List.length_drop]
    omega
section
variable {prog : Program} {w : World} {A : Around} {E : Value → Shared → Prop} {s s₁ : Shared} {h₀ : Heap} {L : Addr} {m : Str → Option Value} {env : Env} {elt iter : Expr} {x : Str} {px : Pos} {scope : Scope} {cl : List (Str × Addr)} {pos : Pos} {news : List (Addr × Obj)}
/-- the source of a comprehension: a range by eights -/
def Src8 (prog : Program) (w : World) (A : Around) (h₀ : Heap) (L : Addr) (m : Str → Option Value) (env : Env) (elt : Expr) (x : Str) (scope : Scope) (cl : List (Str × Addr)) (Fin : Shared → List Value → List (Addr × Obj) → Prop) (xv : Value) (s₁ : Shared) : Prop :=
  ∃ r b t u v n news, xv = .ref r ∧ A.handled = none ∧ Fr h₀ L s₁.heap m ∧ News h₀ L s₁.heap news ∧ IsRange s₁.heap r 0 b 8 t u v ∧ Builtin.Range.small 0 b 8 = true ∧ Builtin.Range.rangeSize 0 b 8 = ((n : Nat) : Int) ∧ n ≤ sizeLine ∧
    ∀ s₂ : Shared, (∃ h, s₂ = { s₁ with heap := h }) → LCg.CompRest prog w A h₀ L m env elt x scope cl s₂ (fun _ => True) (fun i v => i < n ∧ ∃ t, v = .int (0 + (i : Int) * 8) t) (Fin s₂) n 0 [] news
theorem Src8.row {r : Addr} {ks : List Int} {t u v : Tok} {Fin : Shared → List Value → List (Addr × Obj) → Prop} (hh : A.handled = none) (F : Fr h₀ L s₁.heap m) (N : News h₀ L s₁.heap news) (hr : IsRange s₁.heap r 0 (ks.length : Int) 8 t u v) (hl : ks.length ≤ 63)
    (turn : ∀ g k t I oI C oC D m₂ ys h tk (E' : Value → Shared → Prop), k ∈ offs ks → LCg.NsObj oC m₂ → m₂ x = some (.int k t) → Fr h₀ L h m → News h₀ L h ((I, oI) :: (C, oC) :: (D, LCg.lst ys) :: news) → LCg.Off3 I C D news → ((@Ne Nat I C) ∧ (@Ne Nat I D) ∧ (@Ne Nat C D)) → KPfMark →
      wpAny (model prog w) A (eval elt (compEnvC scope cl C env)) (LCg.CompEnd h₀ L m { { s₁ with heap := g } with heap := h, toks := tk } I oI C oC D (LCg.lst ys) (fun _ => True) (fun y news' => KCfEl news (chunkG ks k) y news')) E' { { s₁ with heap := g } with heap := h, toks := tk })
    (fin : ∀ g ys, IntsAre ys (decBin ks) → Fin { s₁ with heap := g } ys news) : Src8 prog w A h₀ L m env elt x scope cl Fin (.ref r) s₁ := by
  have sm := small8 (n := ks.length) (by omega)
  refine ⟨r, _, t, u, v, (ks.length + 7) / 8, news, rfl, hh, F, N, hr, sm.1, sm.2, by rw [sizeLine_eq]; omega, ?_⟩
  rintro _ ⟨g, rfl⟩
  refine kcf_rest (ks := offs ks) (chunkG ks) (by unfold offs; rw [List.length_map, List.length_range]) (fun i v _ hv => ?_) (turn g) (fun ys hy => ?_)
  · obtain ⟨hi, t, rfl⟩ := hv
    refine ⟨((8 * i : Nat) : Int), t, ?_, by congr 1; omega⟩
    unfold offs
    rw [List.getElem?_map, List.getElem?_range hi]
    rfl
  · rw [offs_chunks] at hy
    exact fin g ys hy
theorem comp8 {Q : Value → Shared → Prop} (F₀ : Fr h₀ L s.heap m)
    (hclos : closureFor scope env = pure cl) (hcell : ∀ y ∈ scope.names, y.2 ≠ .cell) (hkind : scope.kind = .function)
    (hnames : ∀ y ∈ scope.names, y.2 = .local → scope.names.lookup y.1 = some .local) (hx : scope.names.lookup x = some .local)
    (h : wpAny (model prog w) A (eval iter env) (Src8 prog w A h₀ L m env elt x scope cl (fun s₂ => LCg.FinE h₀ L m s₂ Q)) E s)
    (hs : ∀ x, foldedSetIterable iter env x = pure x := by intro _; rfl) :
    wpAny (model prog w) A (eval (.ListComp elt [⟨.Name x px, iter, [], 0⟩] scope pos) env) Q E s := by
  rw [eval_ListComp]
  refine wpAny_comprehension_free (use := none) rfl hs hclos hkind hnames (wpAny_mono h (fun xv s₁ h₁ => ?_) fun _ _ e => e)
  obtain ⟨r, b, t, u, v, n, news, rfl, hh, F, N, hr, hsm, hn, hsz, R⟩ := h₁
  refine wpAny_pyIter_range hr hsm ?_
  refine LCg.block_U ((Walks.range hh s₁.heap.objs.size 0 8 n).bound) hsz (fun i h st => ⟨_, st⟩) (fun i h h' o nw st e e' _ _ _ => ?_) hcell hkind hx ?_ (fun b hb => ?_)
    (F.keeps fun _ _ e => Heap.get?_push_of_some _ e) (N.grown fun _ _ e => Heap.get?_push_of_some _ e) (Nat.ne_of_lt F.ns.lt) (next_is_new F) (fun p hp => Nat.ne_of_lt (Heap.lt_size (N p hp).1)) trivial (R _ ⟨_, rfl⟩) ?_
  · have st' : h.get? s₁.heap.objs.size = some _ := st
    show h'.get? s₁.heap.objs.size = some _
    rw [e', ← e]
    exact st'
  · show IsRangeIter _ _ _ _ _
    rw [hn]
    simpa using Heap.get?_push_size _ rfl
  · rw [List.mem_singleton.mp hb]
    show s₁.heap.objs.size < (s₁.heap.push _).objs.size
    rw [Heap.size_push]
    exact Nat.lt_succ_self _
  · intro D C h tk m' ys news' F' N' o1 hns hC₀ hD₀ hCL hDL hCD offC fin
    refine ⟨m', hns, fun h'' hs'' => fin D h'' tk (F'.change hs'' hCL hC₀) (fun p hp => ⟨hs''.extBut _ _ ?_ (N' p hp).1, (N' p hp).2⟩) o1⟩
    rcases List.mem_cons.mp hp with rfl | hp
    · exact Ne.symm hCD
    · exact offC p hp
/-- bytes(list of the eights' numbers) -/
theorem make_eights {D : Addr} {vs : List Value} {r : List Int} {Q : Value → Shared → Prop} (F : Fr h₀ L s.heap m) (N : News h₀ L s.heap news) (hh : A.handled = none) (hl : s.heap.IsList D vs.toArray) (hi : IntsAre vs (decBin r)) (h01 : ∀ k ∈ r, k = 0 ∨ k = 1) (hn : r.length ≤ 63)
    (h : ∀ h' t' k, Fr h₀ L h' m → News h₀ L h' news → Q (.bytes (byteArr (decBin r)) t') { s with heap := h', toks := k }) : wpAny (model prog w) A (call (.type "bytes") [.ref D]) Q E s :=
  KBa.make_K F N hh hl hi (decBin_in h01) (by unfold decBin; rw [List.length_map, List.length_range]; omega) fun h' t' k F' N' _ => h h' t' k F' N'
end
end Mine
end
section
open PySem PySem.W PySem.Calls PyProof.Rows
set_option maxHeartbeats 8000000
namespace Mine
theorem goodWG_ends {c : ClaimW} {s₀ s₁ s' : Shared} {args : List WData} {vs : List Value} {as : List Addr} {r : Result} (hsame : c.same = none) (hwi : c.within = []) (hi : ∀ a b, c.ident a b = true)
    (hrd : ReadsAllW c.records (classAt s₀.heap) s₁.heap vs args as) (hold : ∀ a ∈ as, ∃ o, s₁.heap.get? a = some o) (hos₁ : s₁.os = s₀.os)
    (g : GoodWG c (classAt s₀.heap) (ExcName.means s₀.heap) args s₁ r s') : c.Ends s₀ args vs s₁ r s' ∧ s'.os = s₀.os ∧ AllBare s'.gens := by
  obtain ⟨hcase, hK, hos, hg'⟩ := g
  refine ⟨?_, hos.trans hos₁, hg'⟩
  rcases hcase with ⟨v, d, bs, rfl, hnr, hrv, hpost, hun⟩ | ⟨e, ob, cls, rfl, he, hcls, hpr, hnew⟩
  · refine .inl ⟨v, rfl, hnr, ⟨d, args, bs, as, hrv, hrd.keepsK fun b o e hc => hK.get_of_cls e hc, hpost, fun hu => ⟨(hun hu).1, (hun hu).2, fun a ha hb => ?_⟩, fun _ _ => hi _ _⟩, (fun i h => by rw [hsame] at h; cases h), (fun b o hb' _ _ => hK.old b o hb'), fun i h => by rw [hwi] at h; cases h⟩
    obtain ⟨o, ho⟩ := hold a hb
    rw [(hun hu).2 a ha] at ho
    cases ho
  · exact .inr ⟨e, ob, cls, rfl, he, hcls, hpr, hnew, fun b o hb' => hK.old b o hb'⟩
theorem forget_finished {y : GenState} (h : y.forget = .finished) : y = .finished := by
  cases y <;> first | rfl | (simp [GenState.forget] at h)
/-- a call that makes generators, behind a top that left finished ones -/
theorem callFrom_M {c : ClaimW} {tree : List Value → Sem Fin} {w : World} {s : Shared} {free : Addr → Prop} {gens : Prop} {kept : Heap → Prop} (hz : s.asleep) (hG : ∀ g ∈ s.gens, g = .finished)
    (hspec : ∀ args, c.pre args = true → WData.layableAll args = true → ∀ ord : List DictEntry → List DictEntry, (∀ l, (ord l).Perm l) →
      ∃ vs s₁, layAllW c.records (classAt s.heap) w.params ord args s = some (vs, s₁) ∧
        wpAny (model c.prog w) callerA (tree vs) (fun fin s' => ∃ f, fin = .done f ∧ (c.Ends s args vs s₁ (.ok f) s' ∧ s'.os = s.os ∧ AllBare s'.gens ∧ GExt s.gens s'.gens ∧ kept s'.heap)) (fun _ _ => False) s₁) :
    c.CallFrom (fun vs => ⟨tree vs, .builtin "claim.caller" {}, default, []⟩) w free gens kept s := by
  intro args hpre hlay ord hord
  obtain ⟨vs, s₁, hlaid, hcode⟩ := hspec args hpre hlay ord hord
  have hal := layAllW_rest _ _ _ hlaid
  obtain ⟨k, r, s', s'', hrun, hsched, hfo, hcase, hos, hge, hkp⟩ := thread_ends_bothG (prog := c.prog) (w := w) (t := tree vs) (s := s₁)
    (R := fun r s' => c.Ends s args vs s₁ r s' ∧ s'.os = s.os ∧ GExt s.gens s'.gens ∧ kept s'.heap) (Shared.asleep_of_life hal.2.2.2 hz)
    (wpAny_mono hcode (fun fin s' ⟨f, e, h1, h2, h3, h4, h5⟩ => ⟨f, e, ⟨h1, h2, h4, h5⟩, leftWithCleanup_false_of_bare h3⟩) fun _ _ h => h.elim)
  obtain ⟨eh, _, _, eo, eg⟩ := Shared.forget_eq hfo
  have hcase := hcase.congr eh
  have hkp : kept s'.heap := by first | exact eh ▸ hkp | (rw [eh]; exact hkp)
  have hos' : s'.os = s.os := eo.trans hos
  have hlife : s'.heap.life = s.heap.life := (runN_life _ _ _ hrun).trans hal.2.2.2
  refine ⟨vs, s₁, hlaid, k, _, s', hsched, ?_, (fun _ i x hx => ?_), hkp, by rw [hlife], Shared.rest_eq hos'⟩
  · rcases hcase with ⟨v, rfl, d1, d2, d3, d4, d5⟩ | ⟨e, ob, cls, rfl, d1, d2, d3, d4, d5⟩
    · exact .inl ⟨v, rfl, d1, d2, d3, fun b o y _ => d4 b o y, d5⟩
    · exact .inr ⟨e, ob, cls, rfl, d1, d2, d3, d4, fun b o y _ => d5 b o y⟩
  · have hx1 : x = .finished := hG x (Array.mem_of_getElem? hx)
    subst hx1
    have h2 := hge.1 i _ hx
    have h3 : (s'.gens.map GenState.forget)[i]? = (s''.gens.map GenState.forget)[i]? := by rw [eg]
    rw [Array.getElem?_map, Array.getElem?_map, h2] at h3
    cases e : s'.gens[i]? with
    | none => rw [e] at h3; cases h3
    | some y =>
      rw [e] at h3
      rw [forget_finished (Option.some.inj h3)]
theorem open_anyM {r : RowW} {run : Value → List Value → Sem Value} {tree : List Value → Sem Fin} {q : Program} {loose defs kps : List Str} {writes : Bool} {Xt : Shared → Bool} {XP : (Str → Option Value) → Heap → Prop} {α : Type} {Yf : Shared → α} {Ya : World → α} {YP : World → Heap → Prop} {N : Nat}
    (left : LeftO r.prog q loose Xt Yf Ya N false) (hY : ∀ w s, Yf s = Ya w → YP w s.heap) (hYk : ∀ w h h', YP w h → (∀ b o, h.get? b = some o → h'.get? b = some o) → YP w h') (hX : ∀ s, Xt s = true → XP (s.heap.nsMap mainGlobals) s.heap) (hXk : ∀ mg h h', XP mg h → (∀ b o, h.get? b = some o → h'.get? b = some o) → XP mg h')
    (hRf : ∀ s, Xt s = true → RecFacts r.records s.heap) (hwr : (!writes || r.records.isEmpty) = true) (ok : (chainsOk q && opensWell r.prog && (frees r && r.within.isEmpty)) = true) (hb : r.prog.bare) (hw : r.promised)
    (ht : ∀ vs (w : World) (s : Shared) mg f (Q : Fin → Shared → Prop) (E : Value → Shared → Prop), s.heap.Ns mainGlobals mg → mg r.name = some f → wpAny (model r.prog w) callerA (run f vs) (fun v s' => Q (.done (.ret v)) s') E s → wpAny (model r.prog w) callerA (tree vs) Q E s)
    (pin : ∀ w s, s.heap.isNs mainGlobals = true → Ground q loose [] XP w s (s.heap.nsMap mainGlobals) (s.heap.nsMap builtinsNs) s.heap → ∀ n ∈ defs, isTheDefsW r.prog s.heap n)
    (call : ∀ (w : World) (s₀ s₁ : Shared) (mg mb : Str → Option Value), Ground q loose r.records XP w s₀ mg mb s₁.heap → YP w s₁.heap → ∀ (args : List WData) (vs : List Value) (as : List Addr),
      r.claim.pre args = true → WData.layableAll args = true → AllBare s₁.gens → ReadsAllW r.records (classAt s₀.heap) s₁.heap vs args as → WellAll w.params s₁.heap vs args → (∀ a ∈ as, (a == sysModules) = false) → ∃ f, mg r.name = some f ∧
        wpAny (model r.prog w) callerA (run f vs) (fun v s' => GoodWG r.claim (classAt s₀.heap) (ExcName.means s₀.heap) args s₁ (.ok (.ret v)) s' ∧ GExt s₁.gens s'.gens) (fun _ _ => False) s₁) : r.claim.HoldsOpenBy (fun vs => ⟨tree vs, .builtin "claim.caller" {}, default, []⟩) defs kps writes := by
  obtain ⟨ok, k5⟩ := Bool.and_eq_true_iff.mp ok
  obtain ⟨hch, o1⟩ := Bool.and_eq_true_iff.mp ok
  obtain ⟨k5, k6⟩ := Bool.and_eq_true_iff.mp k5
  obtain ⟨hsame, hu, ha, hap, hm⟩ := frees_parts k5
  refine ⟨⟨hb, o1, by show r.makers.map _ = []; rw [hm]; rfl⟩, hw.witness, fun w => ⟨(left.behind hX hch w).1, fun s' hs' => ?_⟩⟩
  obtain ⟨s₀, hf, hg0, s, hT, hz, _, hg, G00, y⟩ := (left.behind (XP := fun mg h => XP mg h ∧ RecFacts r.records h) (fun s hs => ⟨hX s hs, hRf s hs⟩) hch w).2 s' hs'
  have G0 : Ground q loose [] XP w s (s.heap.nsMap mainGlobals) (s.heap.nsMap builtinsNs) s.heap := ⟨G00.T, G00.B, G00.D, G00.TE, G00.TD, G00.W, G00.X.1, G00.cls, G00.has, G00.apart, G00.once, G00.K⟩
  have RF := G00.X.2
  have hT' := hT
  have hG : ∀ g ∈ s.gens, g = .finished := by
    obtain ⟨_, _, _, _, _, _, _, _, _, hgd, _⟩ := hT'
    intro g hgm
    have := hgd g hgm
    cases g <;> first | rfl | exact this.elim
  refine ⟨s₀, hf, hg0, s, hT, pin w s hg G0, RF.1, RF.2.1, ?_⟩
  have G : Ground q loose r.records XP w s _ _ s.heap := RF.ground G0
  refine callFrom_M (c := r.claim) hz hG fun args hpre hlay ord hord => ?_
  obtain ⟨⟨vs, s₁⟩, hlaid⟩ := Option.isSome_iff_exists.mp (layAllW_isSome (P := w.params) (ord := ord) G.has args r.args s (pre_splitW hpre).1)
  have keeps := layAllW_keeps _ _ _ hlaid
  have hal := layAllW_rest _ _ _ hlaid
  obtain ⟨as, hrd, hin, hold⟩ := reads_layAllW hord _ _ _ hlaid hlay s₁.heap (fun _ _ e => e)
  have hgs : s₁.gens = s.gens := hal.1
  have hbare : AllBare s₁.gens := fun g hgm => by
    rw [hG g (hgs ▸ hgm)]
    rfl
  have G₁ := G.keeps hXk keeps
  obtain ⟨f, hf, h⟩ := call w s s₁ _ _ G₁ (hYk _ _ _ (hY w s y) keeps) args vs as hpre hlay hbare hrd (well_layAllW hord args s _ hlaid _ fun _ _ e => e)
    (fun a ha => beq_eq_false_iff_ne.mpr fun e => by have := (hin.2.2 a ha).1; subst e; exact absurd G.low (Nat.not_lt.mpr this))
  have hi := ident_freeW hu ha hap
  have hwi : r.claim.within = [] := List.isEmpty_iff.mp k6
  refine ⟨vs, s₁, hlaid, ht vs w s₁ _ f _ _ G₁.T.g hf (wpAny_mono h (fun v s' g => ⟨_, rfl, ?_⟩) fun _ _ g => g)⟩
  have z := goodWG_ends (c := r.claim) hsame hwi hi hrd hold hal.2.2.1 g.1
  exact ⟨z.1, z.2.1, z.2.2, hgs ▸ g.2, fun q => ⟨namesKept_of hT hg kps keeps g.1.2.1.old, noTable hwr q⟩⟩
/-- what the law's walk is to show -/
abbrev WalkM (q : Program) (loose : List Str) (XP : (Str → Option Value) → Heap → Prop) (YP : World → Heap → Prop) (r : RowW) (d : DefRec) (kwd : List (Str × Expr)) (run : Value → List Value → Sem Value) : Prop :=
  ∀ (w : World) (s₀ s₁ : Shared) (mg mb : Str → Option Value), Ground q loose r.records XP w s₀ mg mb s₁.heap → YP w s₁.heap → ∀ (a : Addr) (o : Obj) (pm cd doc dV kV : Value), s₁.heap.get? a = some o →
    o.data = .func { docDef d.name d.params d.body d.scope pm cd doc with defaults := dV, kwdefaults := kV } → s₁.heap.CodeRec cd d.name → Dflts mg s₁.heap d.params kwd dV kV → mg d.name = some (.ref a) → AllBare s₁.gens →
    ∀ (args : List WData) (vals : List Value) (as : List Addr), r.claim.pre args = true → WData.layableAll args = true → ReadsAllW r.records (classAt s₀.heap) s₁.heap vals args as → WellAll w.params s₁.heap vals args → (∀ a ∈ as, (a == sysModules) = false) →
      wpAny (model r.prog w) callerA (run (.ref a) vals) (fun v s' => GoodWG r.claim (classAt s₀.heap) (ExcName.means s₀.heap) args s₁ (.ok (.ret v)) s' ∧ GExt s₁.gens s'.gens) (fun _ _ => False) s₁
theorem holds_openM {r : OpenRow} {q : Program} {loose : List Str} {Xt : Shared → Bool} {XP : (Str → Option Value) → Heap → Prop} {α : Type} {Yf : Shared → α} {Ya : World → α} {YP : World → Heap → Prop} {d : DefRec} {kwd : List (Str × Expr)} {N : Nat}
    (left : LeftO r.prog q loose Xt Yf Ya N false) (hY : ∀ w s, Yf s = Ya w → YP w s.heap) (hYk : ∀ w h h', YP w h → (∀ b o, h.get? b = some o → h'.get? b = some o) → YP w h')
    (hX : ∀ s, Xt s = true → XP (s.heap.nsMap mainGlobals) s.heap) (hXk : ∀ mg h h', XP mg h → (∀ b o, h.get? b = some o → h'.get? b = some o) → XP mg h')
    (hdef : defOf q r.name = some (d, kwd)) (hp : r.prog.theDef r.name = some (d.params, d.body, d.scope)) (hk : kwWritten? d.params.kwonlyargs d.params.kw_defaults = some kwd) (hRf : ∀ s, Xt s = true → RecFacts r.records s.heap) (hwr : (!r.writes || r.records.isEmpty) = true)
    (k1 : r.wellSaid = true) (ok : (chainsOk q && opensWell r.prog && (frees r.toRowW && r.within.isEmpty)) = true) (hb : r.prog.bare) (hw : r.toRowW.promised)
    (call : WalkM q loose XP YP r.toRowW d kwd fun f vs => PySem.call f vs) : r.Holds := by
  refine ⟨k1, hw, open_anyM (r := r.toRowW) (run := fun f vs => PySem.call f vs) (tree := fun vs => do match ← nsGet mainNs r.name with
      | some f => do ret (← PySem.call f vs)
      | none => unsupported "claim.caller:no-such-global") left hY hYk hX hXk hRf hwr ok hb hw
    (fun vs w s mg f Q E hg hf h => wpAny_bind (wpAny_nsGet hg (by rw [hf]; exact wpAny_bind (wpAny_mono h (fun _ _ x => wpAny_pure x) fun _ _ x => x))))
    (fun w s hg G n hn => ?_) fun w s₀ s₁ mg mb G Y args vs as hpre hlay hg hrd hwl hlo => ?_⟩
  · obtain rfl : n = r.name := by split at hn <;> simp_all
    exact pinned_of_view hg G hdef hp hk
  · obtain ⟨a, o, pm, cd, doc, dV, kV, h1, h2, h3, h4, h5⟩ := G.fn hdef
    exact ⟨.ref a, h1, call w s₀ s₁ mg mb G Y a o pm cd doc dV kV h2 h3 h4 h5 (defOf_name hdef ▸ h1) hg args vs as hpre hlay hrd hwl hlo⟩
end Mine
end
section
open PySem PySem.W PySem.Calls PySem.Spec PyProof.Rows
set_option maxHeartbeats 4000000
set_option compiler.extract_closed false
namespace Mine
local macro_rules | `(tactic| walk_at "std") => `(tactic| exact ⟨by k_asm, by k_asm, by k_asm, by k_asm, by k_asm, rfl, by ktr_room, by ktr_units⟩)
local macro_rules | `(tactic| walk_at "in C") => `(tactic| (intro t9 h9 tk9 F9 N9; (try dsimp only); (try k_fold)))
local macro_rules | `(tactic| walk_at "in G") => `(tactic| (intro t9 h9 tk9 ps9 gens9 F9 N9 ht9 hg9; (try dsimp only at N9); (try dsimp only); (try k_fold)))
def LawDone (s₁ : Shared) (v : Value) (s' : Shared) : Prop :=
  v = .bool true ∧ (∀ b o, b ≠ 106 → s₁.heap.get? b = some o → s'.heap.get? b = some o) ∧ GrownAll [(110, 106)] s'.heap ∧ s'.os = s₁.os ∧ GExt s₁.gens s'.gens
theorem law_done {s₁ : Shared} {h' : Heap} {gens' : Array GenState} {k : Nat} {L : Addr} {m : Str → Option Value} {ps : Array Value} {news : List (Addr × Obj)} (F : Fr (ghostOf s₁.heap [(110, 106)]) L h' m) (N : News (ghostOf s₁.heap [(110, 106)]) L h' news) (hm : (106, tabObj ps) ∈ news) (hg : GExt s₁.gens gens') :
    LawDone s₁ (.bool true) { s₁ with heap := h', gens := gens', toks := k } :=
  ⟨rfl, fun b o hb e => F.keep b o (ghost_ne e (by simpa using hb)), ⟨GrownAt.of N hm, trivial⟩, rfl, hg⟩
local macro_rules | `(tactic| walk_at "call type:bytes") => `(tactic| (k_here; (with_reducible show wpAny _ _ (call (Value.type "bytes") [Value.ref _]) _ _ _); k_dflt (refine' make_row ?kbaF ?kbaN ?kbah ?kbal ?kbai ?kba01 ?kban ?_; (case kbaF => k_asm); (case kbaN => k_asm); (case kbah => rfl); (case kbal => kba_isList); (case kbai => kba_listInts); (case kba01 => exact abs_bits); (case kban => first | (simp only [List.length_map, List.length_take]; omega) | kba_size)); intro rR h' t' k' inR k01R klR F' N'))
local macro_rules | `(tactic| walk_at "call ref") => `(tactic| (k_here; (with_reducible show wpAny _ _ (call (Value.ref 125) _) _ _ _); k_dflt (refine use_enckey (by assumption) (by assumption) (by assumption) (by walk_at "std") (by k_updF) (by assumption) ?_); intro inE9 lE9; walk_at "in G"))
local macro_rules | `(tactic| walk_at "call ref") => `(tactic| (k_here; (with_reducible show wpAny _ _ (call (Value.ref 188) _) _ _ _); k_dflt (refine use_packed (by assumption) (by assumption) (by assumption) (by walk_at "std") ?_); walk_at "in C"))
local macro_rules | `(tactic| walk_at "call ref") => `(tactic| (k_here; (with_reducible show wpAny _ _ (call (Value.ref 132) _) _ _ _); k_dflt (refine use_deckey (by assumption) (by assumption) (by walk_at "std") ?_); walk_at "in C"))
local macro_rules | `(tactic| walk_at "call ref") => `(tactic| (k_here; (with_reducible show wpAny _ _ (call (Value.ref 240) _) _ _ _); (rename OctOn _ _ _ => cO); k_dflt (refine OctOn.use cO (by k_asm) (by k_asm) (by k_asm) (by first | k_asm | (refine' cb_drop ?cbN ?cbS; (case cbN => assumption); (case cbS => kcj_all))) (by k_asm) (by exact rfl) (by ktr_room) (by ktr_units) (by assumption) ?_); intro oO t9 h9 tk9 inO lO F9 N9; (try dsimp only); (try k_fold)))
local macro_rules | `(tactic| walk_at "call ref") => `(tactic| (k_here; (with_reducible show wpAny _ _ (call (Value.ref 214) _) _ _ _); k_dflt (refine use_told (by assumption) (by assumption) (by assumption) (by walk_at "std") ?_); walk_at "in C"))
local macro_rules | `(tactic| walk_at "call ref") => `(tactic| (k_here; (with_reducible show wpAny _ _ (call (Value.ref 207) _) _ _ _); k_dflt (refine use_readO (by assumption) (by assumption) (by assumption) (by walk_at "std") ?_); walk_at "in C"))
local macro_rules | `(tactic| walk_at "call ref") => `(tactic| (k_here; (with_reducible show wpAny _ _ (call (Value.ref 118) _) _ _ _); k_dflt (refine use_encbinA (by assumption) (by omega) (by walk_at "std") ?_); walk_at "in C"))
local macro_rules | `(tactic| walk_at "call ref") => `(tactic| (k_here; (with_reducible show wpAny _ _ (call (Value.ref 195) _) _ _ _); k_dflt (refine use_signsA (by assumption) (by omega) (by walk_at "std") ?_); walk_at "in C"))
local macro_rules | `(tactic| walk_at "call ref") => `(tactic| (k_here; (with_reducible show wpAny _ _ (call (Value.ref 200) _) _ _ _); k_dflt (refine use_rowA (by omega) (by walk_at "std") ?_); walk_at "in C"))
local macro_rules | `(tactic| walk_at "call ref") => `(tactic| (k_here; (with_reducible show wpAny _ _ (call (Value.ref 111) _) _ _ _); k_dflt (refine use_decbin (KBa.ints_make (by assumption)) (by omega) (by assumption) (by walk_at "std") (by k_updF) (by assumption) ?_); walk_at "in G"))
local macro_rules | `(tactic| walk_at "call ref") => `(tactic| (k_here; (with_reducible show wpAny _ _ (call (Value.ref 111) [Value.bytes (byteArr (encBin _)) _]) _ _ _); k_dflt (refine use_decenc (by assumption) (by omega) (by walk_at "std") (by k_updF) (by assumption) ?_); walk_at "in G"))
local macro_rules | `(tactic| walk_at "call ref") => `(tactic| (k_here; (with_reducible show wpAny _ _ (call (Value.ref 221) _) _ _ _); k_dflt (refine use_parsed (by assumption) (by assumption) (by walk_at "std") ?_); intro x9 hP9; cases x9; all_goals (dsimp only [RetP]; intros); (try dsimp only); (try k_fold)))
local macro_rules | `(tactic| walk_at "call ref") => `(tactic| (k_here; (with_reducible show wpAny _ _ (call (Value.ref 228) _) _ _ _); k_dflt (refine use_due (by assumption) (by assumption) (by assumption) (by walk_at "std") ?_); dsimp only [RetP]; intros; (try dsimp only); (try k_fold)))
local macro_rules | `(tactic| walk_at "call ref") => `(tactic| (k_here; (with_reducible show wpAny _ _ (call (Value.ref 160) _) _ _ _); k_dflt (refine use_encKv (by assumption) (by assumption) (by assumption) (by assumption) (by assumption) (by assumption) (by walk_at "std") (by k_updF) (by assumption) ?_); walk_at "in G"))
local macro_rules | `(tactic| walk_at "call ref") => `(tactic| (k_here; (with_reducible show wpAny _ _ (call (Value.ref 167) _) _ _ _); k_dflt (refine use_encBranch (by assumption) (by assumption) (by assumption) (by assumption) (by walk_at "std") ?_); walk_at "in C"))
local macro_rules | `(tactic| walk_at "call ref") => `(tactic| (k_here; (with_reducible show wpAny _ _ (call (Value.ref 174) _) _ _ _); k_dflt (refine use_encLeaf (by assumption) (by assumption) (by assumption) (by walk_at "std") ?_); walk_at "in C"))
local macro_rules | `(tactic| walk_at "call ref") => `(tactic| (k_here; (with_reducible show wpAny _ _ (call (Value.ref 153) [Value.bytes (byteArr (0 :: _)) _]) _ _ _); k_dflt (refine use_parseKv (by assumption) (by assumption) (by assumption) (by assumption) (by walk_at "std") ?_); dsimp only [RetP]; intros; (try dsimp only); (try k_fold)))
local macro_rules | `(tactic| walk_at "call ref") => `(tactic| (k_here; (with_reducible show wpAny _ _ (call (Value.ref 153) [Value.bytes (byteArr (1 :: _)) _]) _ _ _); k_dflt (refine use_parseBranch (by assumption) (by assumption) (by assumption) (by assumption) (by walk_at "std") ?_); dsimp only [RetP]; intros; (try dsimp only); (try k_fold)))
local macro_rules | `(tactic| walk_at "call ref") => `(tactic| (k_here; (with_reducible show wpAny _ _ (call (Value.ref 153) [Value.bytes (byteArr (2 :: _)) _]) _ _ _); k_dflt (refine use_parseLeaf (by assumption) (by assumption) (by assumption) (by walk_at "std") ?_); dsimp only [RetP]; intros; (try dsimp only); (try k_fold)))
local macro_rules | `(tactic| walk_at "call ref") => `(tactic| (k_here; (with_reducible show wpAny _ _ (call (Value.ref 235) [Value.int 0 _, Value.bytes (byteArr _) _, Value.bytes (byteArr _) _]) _ _ _); k_dflt (refine use_refA (by first | assumption | omega | (simp; omega)) (by first | assumption | omega | (simp; omega)) (by first | assumption | omega | (simp; omega)) (by first | assumption | omega | (simp; omega)) (by first | assumption | omega | (simp; omega)) (by walk_at "std") ?_); walk_at "in C"))
local macro_rules | `(tactic| walk_at "call ref") => `(tactic| (k_here; (with_reducible show wpAny _ _ (call (Value.ref 235) [Value.int 0 _, Value.bytes (byteArr _) _, Value.str _ _]) _ _ _); k_dflt (refine use_refB (by first | assumption | omega | (simp; omega)) (by first | assumption | omega | (simp; omega)) (by first | assumption | omega | (simp; omega)) (by walk_at "std") ?_); walk_at "in C"))
local macro_rules | `(tactic| walk_at "call ref") => `(tactic| (k_here; (with_reducible show wpAny _ _ (call (Value.ref 235) [Value.int 0 _, Value.bytes #[] _, _]) _ _ _); k_dflt (refine use_refC (by first | assumption | omega | (simp; omega)) (by first | assumption | omega | (simp; omega)) (by walk_at "std") ?_); walk_at "in C"))
local macro_rules | `(tactic| walk_at "call ref") => `(tactic| (k_here; (with_reducible show wpAny _ _ (call (Value.ref 235) [Value.int 1 _, Value.bytes (byteArr _) _, Value.bytes (byteArr _) _]) _ _ _); k_dflt (refine use_refD (by first | assumption | omega | (simp; omega)) (by first | assumption | omega | (simp; omega)) (by first | assumption | omega | (simp; omega)) (by first | assumption | omega | (simp; omega)) (by walk_at "std") ?_); walk_at "in C"))
local macro_rules | `(tactic| walk_at "call ref") => `(tactic| (k_here; (with_reducible show wpAny _ _ (call (Value.ref 235) [Value.int 1 _, Value.bytes (byteArr _) _, Value.bytes (byteArr _) _]) _ _ _); k_dflt (refine use_refE (by first | assumption | omega | (simp; omega)) (by first | assumption | omega | (simp; omega)) (by first | assumption | omega | (simp; omega)) (by first | assumption | omega | (simp; omega)) (by walk_at "std") ?_); walk_at "in C"))
local macro_rules | `(tactic| walk_at "call ref") => `(tactic| (k_here; (with_reducible show wpAny _ _ (call (Value.ref 235) [Value.int 1 _, Value.str _ _, _]) _ _ _); k_dflt (refine use_refF (by first | assumption | omega | (simp; omega)) (by first | assumption | omega | (simp; omega)) (by walk_at "std") ?_); walk_at "in C"))
local macro_rules | `(tactic| walk_at "call ref") => `(tactic| (k_here; (with_reducible show wpAny _ _ (call (Value.ref 235) [Value.int 2 _, Value.bytes #[] _, _]) _ _ _); k_dflt (refine use_refG (by first | assumption | omega | (simp; omega)) (by first | assumption | omega | (simp; omega)) (by walk_at "std") ?_); walk_at "in C"))
local macro_rules | `(tactic| walk_at "call ref") => `(tactic| (k_here; (with_reducible show wpAny _ _ (call (Value.ref 235) [Value.int 2 _, Value.str _ _, _]) _ _ _); k_dflt (refine use_refH (by first | assumption | omega | (simp; omega)) (by first | assumption | omega | (simp; omega)) (by walk_at "std") ?_); walk_at "in C"))
local macro_rules | `(tactic| walk_at "compareOp NotEq bytes bytes") => `(tactic| (k_here; first | refine ne_same ?_ | ((refine ne_empty (KBa.ints_make (by assumption)) ?_ ?_); all_goals intro e9)))
local macro_rules | `(tactic| walk_at "compareOp Eq bytes bytes") => `(tactic| (k_here; first | refine eq_same ?_ | ((refine eq_empty (KBa.ints_make (by assumption)) ?_ ?_); all_goals intro e9)))
local macro_rules | `(tactic| walk_at "compareOp NotEq str str") => `(tactic| (k_here; refine ne_sameS ?_))
local macro_rules | `(tactic| walk_at "compareOp NotEq") => `(tactic| (k_here; (with_reducible show wpAny _ _ (compareOp CmpOp.NotEq (optV _ _) (optV _ _)) _ _ _); refine ne_opt ?_))
local macro_rules | `(tactic| walk_at "compareOp NotEq ref ref") => `(tactic| (k_here; k_dflt (refine ne_tup3 (tup_at (by k_asm) (by k_mem)) (tup_at (by k_asm) (by k_mem)) (by ke_room) (by first | exact at_int _ _ _ | exact at_bytes _ _ _ | exact at_none) (by first | exact at_int _ _ _ | exact at_bytes _ _ _ | exact at_none) (by first | exact at_int _ _ _ | exact at_bytes _ _ _ | exact at_none) ?_)))
local macro_rules | `(tactic| walk_at "compareOp Eq ref ref") => `(tactic| (k_here; k_dflt (refine eq_tup3 (tup_at (by k_asm) (by k_mem)) (tup_at (by k_asm) (by k_mem)) (by ke_room) (by first | exact at_int _ _ _ | exact at_bytes _ _ _ | exact at_none) (by first | exact at_int _ _ _ | exact at_bytes _ _ _ | exact at_none) (by first | exact at_int _ _ _ | exact at_bytes _ _ _ | exact at_none) ?_)))
local macro_rules | `(tactic| walk_at "binaryOp Add bytes bytes") => `(tactic| (k_here; (with_reducible show wpAny _ _ (binaryOp Operator.Add (Value.bytes (byteArr _) _) (Value.bytes (List.toArray _) _)) _ _ _); (refine add_lits (by assumption) (by simp; omega) ?_); intro z9 t9 k9 inA9 lA9; (try simp only [List.length_cons, List.length_nil, Nat.zero_add, Nat.reduceAdd] at lA9)))
local macro_rules | `(tactic| walk_at "binaryOp Add bytes bytes") => `(tactic| (k_here; (with_reducible show wpAny _ _ (binaryOp Operator.Add (Value.bytes (byteArr (_ :: _)) _) (Value.bytes (byteArr _) _)) _ _ _); (refine add_tail (by assumption) (by assumption) (by omega) ?_); intro t9 k9 inA9))
local macro_rules | `(tactic| walk_at "binaryOp Add bytes bytes") => `(tactic| (k_here; (with_reducible show wpAny _ _ (binaryOp Operator.Add (Value.bytes (List.toArray [_]) _) (Value.bytes (byteArr _) _)) _ _ _); (first | refine add_0 (by assumption) (by omega) ?_ | refine add_1 (by assumption) (by omega) ?_ | refine add_2 (by assumption) (by omega) ?_); intro t9 k9 inA9))
local macro_rules | `(tactic| walk_at "subscriptTail") => `(tactic| (k_here; (with_reducible show wpAny _ _ (subscriptTail _ (Expr.Slice none (some (Expr.Constant (Const.int 9) _ _)) none _) (Value.bytes _ _) (Value.ref _)) _ _ _); (with_reducible rename Fr _ _ _ _ => F'); (with_reducible rename News _ _ _ _ => N'); (refine slice_take (s := ⟨_, _, _, _, _⟩) 9 rfl F' N' (KBa.ints_make (by assumption)) (by omega) ?_); intro h9 t9 k9 inT9 lT9 F' N'))
local macro_rules | `(tactic| walk_at "subscriptTail") => `(tactic| (k_here; (with_reducible show wpAny _ _ (subscriptTail _ (Expr.Slice none (some (Expr.Constant (Const.int 32) _ _)) none _) (Value.bytes _ _) (Value.ref _)) _ _ _); (with_reducible rename Fr _ _ _ _ => F'); (with_reducible rename News _ _ _ _ => N'); (refine slice_abs (s := ⟨_, _, _, _, _⟩) 32 rfl F' N' (KBa.ints_make (by assumption)) (by first | omega | (simp; omega)) ?_); intro c9 h9 t9 k9 inC9 lC9 eC9 F' N'; (replace eC9 := eC9 (by omega)); clear lC9))
local macro_rules | `(tactic| walk_at "subscriptTail") => `(tactic| (k_here; (with_reducible show wpAny _ _ (subscriptTail _ (Expr.Slice none (some (Expr.Constant (Const.int 31) _ _)) none _) (Value.bytes _ _) (Value.ref _)) _ _ _); (with_reducible rename Fr _ _ _ _ => F'); (with_reducible rename News _ _ _ _ => N'); (refine slice_abs (s := ⟨_, _, _, _, _⟩) 31 rfl F' N' (KBa.ints_make (by assumption)) (by first | omega | (simp; omega)) ?_); intro c9 h9 t9 k9 inC9 lC9 eC9 F' N'; clear eC9))
local macro_rules | `(tactic| walk_at "subscriptTail") => `(tactic| (k_here; (with_reducible show wpAny _ _ (subscriptTail _ (Expr.Slice none none (some _) _) (Value.bytes _ _) (Value.ref _)) _ _ _); (with_reducible rename Fr _ _ _ _ => F'); (with_reducible rename News _ _ _ _ => N'); (refine slice_rev (s := ⟨_, _, _, _, _⟩) F' N' (KBa.ints_make (by assumption)) (by assumption) ?_); intro c9 h9 t9 k9 inC9 lC9 F' N'))
local macro_rules | `(tactic| walk_at "exec If") => `(tactic| (k_here; (fail_if_success (with_reducible show wpAny _ _ _ (CutPost _ _ _ _ _ _) _ _)); k_dflt (refine cut_exec (by with_reducible assumption) (by first | with_reducible assumption | (refine' cb_drop ?cbN ?cbS; (case cbN => assumption); (case cbS => kcj_all))) (by first | assumption | exact GExt.trans (by assumption) (by assumption)) ?_ ?_); rotate_left; (intro h9 tk9 ps9 gens9 F9 N9 ht9 hg9); all_goals (try dsimp only)))
local macro_rules | `(tactic| walk_at "eval ListComp") => `(tactic| (k_here; (with_reducible show wpAny _ _ (eval (Expr.ListComp (Expr.Call (Expr.Name (Str.ofString "_law_number") _) _ _ _) _ _ _) _) _ _ _); k_dflt (refine comp8 (F₀ := by k_asm) (by with_unfolding_all rfl) (by decide) (by rfl) (by decide) (by rfl) ?_)))
local macro_rules | `(tactic| walk_at "Src8") => `(tactic| (k_dflt (refine Src8.row (by rfl) (by k_asm) (by k_asm) (by assumption) (by assumption) (fun g' k' t' I' oI' C' oC' D' m' ys' h' tk' E' hk' hC' hx' F' N' off' ne' hMark' => ?_) (fun g' ys' hi8' => ?_)); (all_goals (try (simp only [LCg.Off3, and_true] at off'))); all_goals (try k_fold)))
local macro_rules | `(tactic| walk_at "KCfEl") => `(tactic| (refine kcf_el (chunk_eq (by assumption) (by assumption)) (by with_unfolding_all rfl) (by with_unfolding_all rfl)))
local macro_rules | `(tactic| walk_at "call ref") => `(tactic| (k_here; (with_reducible show wpAny _ _ (call (Value.ref 181) _) _ _ _); k_dflt (refine use_number (by walk_at "std") ?_); walk_at "in C"))
local macro_rules | `(tactic| walk_at "call type:bytes") => `(tactic| (k_here; (with_reducible show wpAny _ _ (call (Value.type "bytes") [Value.ref _]) _ _ _); (with_reducible rename IntsAre _ (decBin _) => i8); k_dflt (refine' make_eights ?kbaF ?kbaN ?kbah ?kbal ?kbai ?kba01 ?kban ?_; (case kbaF => k_asm); (case kbaN => k_asm); (case kbah => rfl); (case kbal => kba_isList); (case kbai => assumption); (case kba01 => assumption); (case kban => assumption)); intro h' t' k' F' N'))
local macro_rules | `(tactic| walk_at "CutPost") => `(tactic| (k_dflt (exact cut_done (by k_asm) (by first | with_reducible assumption | (refine' cb_drop ?cbN ?cbS; (case cbN => assumption); (case cbS => kcj_all))) (by assumption) (by first | assumption | exact GExt.trans (by assumption) (by assumption)))))
theorem c_lawTop (w : World) (s₁ : Shared) (p : Program) (loose : List Str) (mean : ExcName → Option Value) (mg mb : Str → Option Value) (X : (hd.heap_1 w.params).In s₁.heap) (T : Top p loose mean mg mb s₁.heap) (hP : s₁.heap.get? 106 = some (tabObj #[]))
    (l : Addr) (vs : List Value) (ns : List Int) (hl : s₁.heap.IsList l vs.toArray) (hi : IntsAre vs ns) (hn : ns.length ≤ 63) : wpAny (model PG w) callerA (call (.ref 245) [.ref l]) (LawDone s₁) (fun _ _ => False) s₁ := by
  refine wpAny_call ?_
  refine code_topC (f := 245) X T (by k_is) (by k_is) rfl (kinds_of (by kinds_ok)) (by decide) (fun h₁ tk₁ cells F N0 X0 => ?_) rfl rfl rfl
  cells_open X0
  have hT9 : TabsAt [(110, 106)] s₁.heap := List.forall_mem_cons.mpr ⟨⟨codeHd_of_K X (by kernel_rfl), hP⟩, fun _ h => nomatch h⟩
  have l0 := ghost_lt hT9 F
  have X' := ghost_K hT9 X (by kernel_rfl)
  have T' := ghost_top hT9 T
  have K' := ghost_below hT9
  have N' := ghost_news hT9 F N0
  have F' := ghost_fr hT9 F
  have hl' := ghost_list hT9 hl
  simp only [tabNews, List.map_cons, List.map_nil, List.nil_append, List.cons_append] at N' l0
  k_lt l0
  clear N0 F hl X T
  have ht0 : TriplesOk (#[] : Array Value).toList := trivial
  have hg0 : GExt s₁.gens s₁.gens := GExt.refl _
  have cO : OctOn w l vs := OctOn.of hi hn
  k_steps
  all_goals (try dsimp only)
  all_goals first | exact law_done (by k_asm) (by k_asm) (by k_mem) (by first | assumption | exact GExt.trans (by assumption) (by assumption))
end Mine
end
section
open PySem PySem.W PySem.Calls PySem.Spec PyProof.Rows
set_option maxHeartbeats 4000000
namespace Mine
theorem is_245 {w : World} {h : Heap} {mg : Str → Option Value} {a : Addr} (X : (hd.heap_1 w.params).In h) (g : h.Ns mainGlobals mg) (e : mg (Str.ofString "law") = some (.ref a)) : a = 245 := by
  obtain ⟨o, es, ep, ho, hdd, _, hn⟩ := g
  have hk : ((hd.heap_1 w.params).lookup mainGlobals).map (fun o => match o.data with | .dict es _ => nsFind es (Str.ofString "law") | _ => none) = some (some (.ref 245)) := by kernel_rfl
  cases hl : (hd.heap_1 w.params).lookup mainGlobals with
  | none => rw [hl] at hk; cases hk
  | some o' =>
    rw [hl] at hk
    have e2 := X _ _ hl
    rw [ho] at e2
    cases e2
    rw [Option.map_some, hdd] at hk
    have e3 : nsFind es (Str.ofString "law") = some (.ref 245) := Option.some.inj hk
    rw [hn, e] at e3
    cases e3
    rfl
theorem walkM {d : DefRec} {kwd : List (Str × Expr)} (hdef : defOf qv (Str.ofString "law") = some (d, kwd)) : WalkM qv looseN (XL qv lv) Hk.says PySem.Challenge.rw_iu0034_01.row.toRowW d kwd fun f vs => PySem.call f vs := by
  intro w s₀ s₁ mg mb G Y a o pm cd doc dV kV ho hd0 hcd hD hmg hg args vals as hpre hlay hrd hwl hlo
  have X : (hd.heap_1 w.params).In s₁.heap := km_in_of Y
  have hP := km_tabs_of Y 106 (List.mem_cons_self ..)
  have T := G.T
  rw [defOf_name hdef] at hmg
  have ea := is_245 X T.g hmg
  subst ea
  wrow_args hpre hlay hrd hwl hlo
  refine wpAny_mono (c_lawTop w s₁ _ _ _ _ _ X T hP _ _ _ (by assumption) (by assumption) (by omega)) (fun v s' hdn => ?_) (fun _ _ x => x)
  obtain ⟨rfl, hk, hgr, hos, hge⟩ := hdn
  have hc : CodeHd s₁.heap 110 106 := codeHd_of_K X (by kernel_rfl)
  obtain ⟨ps, hps⟩ := hgr.1
  refine ⟨⟨.inl ⟨.bool true, .bool true, [], rfl, raisesW_false ?_, .bool true, ?_, unshared_nil⟩, ⟨fun b o e => ?_, fun b o e => ?_⟩, hos, hge.2 hg⟩, hge⟩
  · wrow_none_raised
  · wrow_post
  · by_cases hb : b = 106
    · subst hb
      rw [hP] at e
      cases e
      exact .inr (.inl ⟨(hc.tab hP).isCodeTable, rfl, #[], ps, rfl, by rw [Array.empty_append]; exact hps⟩)
    · exact .inl (hk b o hb e)
  · by_cases hb : b = 106
    · subst hb
      exact ⟨_, hps⟩
    · exact ⟨o, hk b o hb e⟩
end Mine
end
section
open PySem PySem.W PySem.Calls PySem.Spec PyProof.Rows
set_option maxHeartbeats 8000000
namespace Mine
theorem holds_of_left (left : LeftO PG qv looseN XtN Hk.obs Hk.val 5588 false) : PySem.Challenge.rw_iu0034_01.Holds := by
  w_on
  refine holds_law (by kernel_rfl) fun said => ?_
  refine holds_openM (q := qv) (loose := looseN) (Xt := XtN) (XP := XL qv lv) (Yf := Hk.obs) (Ya := Hk.val) (YP := Hk.says) (N := 5588) left Hk.of Hk.keeps (fun s e => xl_of s (Bool.and_eq_true_iff.mp e).1) XL.keeps (by rfl) (by rfl) (by rfl) (fun s e => recFacts_of (Bool.and_eq_true_iff.mp e).2) rfl (by first | assumption | decide +kernel) (by decide +kernel) ⟨rfl, rfl, rfl, rfl, rfl, by decide +kernel⟩ ?hw ?hc
  case hw => w_witness2
  case hc => exact walkM (by rfl)
end Mine
end
open PySem PySem.W PyProof.Rows
theorem PySem.Challenge.cw_iu0034_01_holds : PySem.Challenge.rw_iu0034_01.Holds := by
  exact Mine.holds_of_left (Mine.left_of Mine.top_all)
