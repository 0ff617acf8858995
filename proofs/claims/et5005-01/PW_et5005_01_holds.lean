import PyProof.Rows.All
import Wide.All
import OpenK.AllK
import Wide.FinOn
import Lean
import PySem.Challenge.RW_et5005_01
open PySem PySem.W PySem.Calls PyProof.Rows
set_option Elab.async false
set_option maxRecDepth 100000
set_option linter.unusedVariables false
set_option maxHeartbeats 4000000
namespace Mine
def stAt (i : Nat) : Stmt := (PySem.Challenge.pw_et5005_01.main.body.drop i).headD (.Pass ⟨0, 0, 0, 0⟩)
def fBod : Stmt → List Stmt
  | .FunctionDef _ _ b _ _ _ _ _ _ _ => b
  | _ => []
def fPar : Stmt → Arguments
  | .FunctionDef _ a _ _ _ _ _ _ _ _ => a
  | _ => ⟨[], [], none, [], [], none, []⟩
def fSco : Stmt → Scope
  | .FunctionDef _ _ _ _ _ _ s _ _ _ => s
  | _ => ⟨.module, [], false, false, []⟩
abbrev c3 : Stmt := Subtype.val (⟨_, by conv => lhs; whnf⟩ : {x : Stmt // stAt 3 = x})
abbrev bod_is_valid_table_name : List Stmt := Subtype.val (⟨_, by conv => lhs; whnf⟩ : {x : List Stmt // fBod (stAt 5) = x})
abbrev par_is_valid_table_name : Arguments := Subtype.val (⟨_, by conv => lhs; whnf⟩ : {x : Arguments // fPar (stAt 5) = x})
abbrev sco_is_valid_table_name : Scope := Subtype.val (⟨_, by conv => lhs; whnf⟩ : {x : Scope // fSco (stAt 5) = x})
abbrev bod_make_table_key : List Stmt := Subtype.val (⟨_, by conv => lhs; whnf⟩ : {x : List Stmt // fBod (stAt 6) = x})
abbrev par_make_table_key : Arguments := Subtype.val (⟨_, by conv => lhs; whnf⟩ : {x : Arguments // fPar (stAt 6) = x})
abbrev sco_make_table_key : Scope := Subtype.val (⟨_, by conv => lhs; whnf⟩ : {x : Scope // fSco (stAt 6) = x})
abbrev bod_is_valid_layer_name : List Stmt := Subtype.val (⟨_, by conv => lhs; whnf⟩ : {x : List Stmt // fBod (stAt 7) = x})
abbrev par_is_valid_layer_name : Arguments := Subtype.val (⟨_, by conv => lhs; whnf⟩ : {x : Arguments // fPar (stAt 7) = x})
abbrev sco_is_valid_layer_name : Scope := Subtype.val (⟨_, by conv => lhs; whnf⟩ : {x : Scope // fSco (stAt 7) = x})
abbrev bod_is_adsk_special_layer : List Stmt := Subtype.val (⟨_, by conv => lhs; whnf⟩ : {x : List Stmt // fBod (stAt 8) = x})
abbrev par_is_adsk_special_layer : Arguments := Subtype.val (⟨_, by conv => lhs; whnf⟩ : {x : Arguments // fPar (stAt 8) = x})
abbrev sco_is_adsk_special_layer : Scope := Subtype.val (⟨_, by conv => lhs; whnf⟩ : {x : Scope // fSco (stAt 8) = x})
abbrev bod_is_valid_block_name : List Stmt := Subtype.val (⟨_, by conv => lhs; whnf⟩ : {x : List Stmt // fBod (stAt 9) = x})
abbrev par_is_valid_block_name : Arguments := Subtype.val (⟨_, by conv => lhs; whnf⟩ : {x : Arguments // fPar (stAt 9) = x})
abbrev sco_is_valid_block_name : Scope := Subtype.val (⟨_, by conv => lhs; whnf⟩ : {x : Scope // fSco (stAt 9) = x})
abbrev bod_is_valid_vport_name : List Stmt := Subtype.val (⟨_, by conv => lhs; whnf⟩ : {x : List Stmt // fBod (stAt 10) = x})
abbrev par_is_valid_vport_name : Arguments := Subtype.val (⟨_, by conv => lhs; whnf⟩ : {x : Arguments // fPar (stAt 10) = x})
abbrev sco_is_valid_vport_name : Scope := Subtype.val (⟨_, by conv => lhs; whnf⟩ : {x : Scope // fSco (stAt 10) = x})
abbrev bod_law_pieces : List Stmt := Subtype.val (⟨_, by conv => lhs; whnf⟩ : {x : List Stmt // fBod (stAt 12) = x})
abbrev par_law_pieces : Arguments := Subtype.val (⟨_, by conv => lhs; whnf⟩ : {x : Arguments // fPar (stAt 12) = x})
abbrev sco_law_pieces : Scope := Subtype.val (⟨_, by conv => lhs; whnf⟩ : {x : Scope // fSco (stAt 12) = x})
abbrev bod_law_bad : List Stmt := Subtype.val (⟨_, by conv => lhs; whnf⟩ : {x : List Stmt // fBod (stAt 13) = x})
abbrev par_law_bad : Arguments := Subtype.val (⟨_, by conv => lhs; whnf⟩ : {x : Arguments // fPar (stAt 13) = x})
abbrev sco_law_bad : Scope := Subtype.val (⟨_, by conv => lhs; whnf⟩ : {x : Scope // fSco (stAt 13) = x})
abbrev bod_law_fine : List Stmt := Subtype.val (⟨_, by conv => lhs; whnf⟩ : {x : List Stmt // fBod (stAt 14) = x})
abbrev par_law_fine : Arguments := Subtype.val (⟨_, by conv => lhs; whnf⟩ : {x : Arguments // fPar (stAt 14) = x})
abbrev sco_law_fine : Scope := Subtype.val (⟨_, by conv => lhs; whnf⟩ : {x : Scope // fSco (stAt 14) = x})
abbrev bod_law_small : List Stmt := Subtype.val (⟨_, by conv => lhs; whnf⟩ : {x : List Stmt // fBod (stAt 15) = x})
abbrev par_law_small : Arguments := Subtype.val (⟨_, by conv => lhs; whnf⟩ : {x : Arguments // fPar (stAt 15) = x})
abbrev sco_law_small : Scope := Subtype.val (⟨_, by conv => lhs; whnf⟩ : {x : Scope // fSco (stAt 15) = x})
abbrev bod_law_great : List Stmt := Subtype.val (⟨_, by conv => lhs; whnf⟩ : {x : List Stmt // fBod (stAt 16) = x})
abbrev par_law_great : Arguments := Subtype.val (⟨_, by conv => lhs; whnf⟩ : {x : Arguments // fPar (stAt 16) = x})
abbrev sco_law_great : Scope := Subtype.val (⟨_, by conv => lhs; whnf⟩ : {x : Scope // fSco (stAt 16) = x})
abbrev bod_law_word : List Stmt := Subtype.val (⟨_, by conv => lhs; whnf⟩ : {x : List Stmt // fBod (stAt 18) = x})
abbrev par_law_word : Arguments := Subtype.val (⟨_, by conv => lhs; whnf⟩ : {x : Arguments // fPar (stAt 18) = x})
abbrev sco_law_word : Scope := Subtype.val (⟨_, by conv => lhs; whnf⟩ : {x : Scope // fSco (stAt 18) = x})
abbrev bod_law_without : List Stmt := Subtype.val (⟨_, by conv => lhs; whnf⟩ : {x : List Stmt // fBod (stAt 19) = x})
abbrev par_law_without : Arguments := Subtype.val (⟨_, by conv => lhs; whnf⟩ : {x : Arguments // fPar (stAt 19) = x})
abbrev sco_law_without : Scope := Subtype.val (⟨_, by conv => lhs; whnf⟩ : {x : Scope // fSco (stAt 19) = x})
abbrev bod_law_table : List Stmt := Subtype.val (⟨_, by conv => lhs; whnf⟩ : {x : List Stmt // fBod (stAt 20) = x})
abbrev par_law_table : Arguments := Subtype.val (⟨_, by conv => lhs; whnf⟩ : {x : Arguments // fPar (stAt 20) = x})
abbrev sco_law_table : Scope := Subtype.val (⟨_, by conv => lhs; whnf⟩ : {x : Scope // fSco (stAt 20) = x})
abbrev bod_law_special : List Stmt := Subtype.val (⟨_, by conv => lhs; whnf⟩ : {x : List Stmt // fBod (stAt 21) = x})
abbrev par_law_special : Arguments := Subtype.val (⟨_, by conv => lhs; whnf⟩ : {x : Arguments // fPar (stAt 21) = x})
abbrev sco_law_special : Scope := Subtype.val (⟨_, by conv => lhs; whnf⟩ : {x : Scope // fSco (stAt 21) = x})
abbrev bod_law_block : List Stmt := Subtype.val (⟨_, by conv => lhs; whnf⟩ : {x : List Stmt // fBod (stAt 22) = x})
abbrev par_law_block : Arguments := Subtype.val (⟨_, by conv => lhs; whnf⟩ : {x : Arguments // fPar (stAt 22) = x})
abbrev sco_law_block : Scope := Subtype.val (⟨_, by conv => lhs; whnf⟩ : {x : Scope // fSco (stAt 22) = x})
abbrev bod_law_vport : List Stmt := Subtype.val (⟨_, by conv => lhs; whnf⟩ : {x : List Stmt // fBod (stAt 23) = x})
abbrev par_law_vport : Arguments := Subtype.val (⟨_, by conv => lhs; whnf⟩ : {x : Arguments // fPar (stAt 23) = x})
abbrev sco_law_vport : Scope := Subtype.val (⟨_, by conv => lhs; whnf⟩ : {x : Scope // fSco (stAt 23) = x})
abbrev bod_law_asked : List Stmt := Subtype.val (⟨_, by conv => lhs; whnf⟩ : {x : List Stmt // fBod (stAt 24) = x})
abbrev par_law_asked : Arguments := Subtype.val (⟨_, by conv => lhs; whnf⟩ : {x : Arguments // fPar (stAt 24) = x})
abbrev sco_law_asked : Scope := Subtype.val (⟨_, by conv => lhs; whnf⟩ : {x : Scope // fSco (stAt 24) = x})
abbrev bod_law_no_key : List Stmt := Subtype.val (⟨_, by conv => lhs; whnf⟩ : {x : List Stmt // fBod (stAt 25) = x})
abbrev par_law_no_key : Arguments := Subtype.val (⟨_, by conv => lhs; whnf⟩ : {x : Arguments // fPar (stAt 25) = x})
abbrev sco_law_no_key : Scope := Subtype.val (⟨_, by conv => lhs; whnf⟩ : {x : Scope // fSco (stAt 25) = x})
abbrev bod_law : List Stmt := Subtype.val (⟨_, by conv => lhs; whnf⟩ : {x : List Stmt // fBod (stAt 26) = x})
abbrev par_law : Arguments := Subtype.val (⟨_, by conv => lhs; whnf⟩ : {x : Arguments // fPar (stAt 26) = x})
abbrev sco_law : Scope := Subtype.val (⟨_, by conv => lhs; whnf⟩ : {x : Scope // fSco (stAt 26) = x})
def K (P : Params) : Frag := (((nat_lit 2), (@PySem.Obj.mk @PySem.Value.none none (@PySem.Data.dict (List.toArray ((@PySem.DictEntry.mk (@PySem.PyData.keyHash P (@PySem.Str.ofString "type.__subclasses__.Exception.0")) (@PySem.Value.str (@PySem.Str.ofString "type.__subclasses__.Exception.0") 205) (@PySem.Value.int (24 : Int) 0)) :: ((@PySem.DictEntry.mk (@PySem.PyData.keyHash P (@PySem.Str.ofString "type.__subclasses__.Exception.n")) (@PySem.Value.str (@PySem.Str.ofString "type.__subclasses__.Exception.n") 206) (@PySem.Value.int (1 : Int) 0)) :: []))) 2) (List.toArray []))) :: (((nat_lit 3), (@PySem.Obj.mk (@PySem.Value.type "dict") none (@PySem.Data.dict (List.toArray ((@PySem.DictEntry.mk (@PySem.PyData.keyHash P (@PySem.Str.ofString "__name__")) (@PySem.Value.str (@PySem.Str.ofString "__name__") 165) (@PySem.Value.str (@PySem.Str.ofString "law_et5005_01") 293)) :: ((@PySem.DictEntry.mk (@PySem.PyData.keyHash P (@PySem.Str.ofString "__doc__")) (@PySem.Value.str (@PySem.Str.ofString "__doc__") 166) @PySem.Value.none) :: ((@PySem.DictEntry.mk (@PySem.PyData.keyHash P (@PySem.Str.ofString "__package__")) (@PySem.Value.str (@PySem.Str.ofString "__package__") 167) @PySem.Value.none) :: ((@PySem.DictEntry.mk (@PySem.PyData.keyHash P (@PySem.Str.ofString "__loader__")) (@PySem.Value.str (@PySem.Str.ofString "__loader__") 168) (@PySem.Value.builtin "__main__.__loader__#opaque")) :: ((@PySem.DictEntry.mk (@PySem.PyData.keyHash P (@PySem.Str.ofString "__spec__")) (@PySem.Value.str (@PySem.Str.ofString "__spec__") 169) @PySem.Value.none) :: ((@PySem.DictEntry.mk (@PySem.PyData.keyHash P (@PySem.Str.ofString "__annotations__")) (@PySem.Value.str (@PySem.Str.ofString "__annotations__") 170) (@PySem.Value.ref 6)) :: ((@PySem.DictEntry.mk (@PySem.PyData.keyHash P (@PySem.Str.ofString "__builtins__")) (@PySem.Value.str (@PySem.Str.ofString "__builtins__") 171) (@PySem.Value.ref 4)) :: ((@PySem.DictEntry.mk (@PySem.PyData.keyHash P (@PySem.Str.ofString "__file__")) (@PySem.Value.str (@PySem.Str.ofString "__file__") 173) (@PySem.Value.str (@PySem.Str.ofString "/claim/cut.py") 172)) :: ((@PySem.DictEntry.mk (@PySem.PyData.keyHash P (@PySem.Str.ofString "__cached__")) (@PySem.Value.str (@PySem.Str.ofString "__cached__") 174) @PySem.Value.none) :: ((@PySem.DictEntry.mk (@PySem.PyData.keyHash P (@PySem.Str.ofString "DXFError")) (@PySem.Value.str (@PySem.Str.ofString "DXFError") 208) (@PySem.Value.ref 24)) :: ((@PySem.DictEntry.mk (@PySem.PyData.keyHash P (@PySem.Str.ofString "DXFTypeError")) (@PySem.Value.str (@PySem.Str.ofString "DXFTypeError") 224) (@PySem.Value.ref 37)) :: ((@PySem.DictEntry.mk (@PySem.PyData.keyHash P (@PySem.Str.ofString "INVALID_LAYER_NAME_CHARACTERS")) (@PySem.Value.str (@PySem.Str.ofString "INVALID_LAYER_NAME_CHARACTERS") 247) (@PySem.Value.ref 40)) :: ((@PySem.DictEntry.mk (@PySem.PyData.keyHash P (@PySem.Str.ofString "is_valid_table_name")) (@PySem.Value.str (@PySem.Str.ofString "is_valid_table_name") 257) (@PySem.Value.ref 47)) :: ((@PySem.DictEntry.mk (@PySem.PyData.keyHash P (@PySem.Str.ofString "make_table_key")) (@PySem.Value.str (@PySem.Str.ofString "make_table_key") 264) (@PySem.Value.ref 54)) :: ((@PySem.DictEntry.mk (@PySem.PyData.keyHash P (@PySem.Str.ofString "is_valid_layer_name")) (@PySem.Value.str (@PySem.Str.ofString "is_valid_layer_name") 271) (@PySem.Value.ref 61)) :: ((@PySem.DictEntry.mk (@PySem.PyData.keyHash P (@PySem.Str.ofString "is_adsk_special_layer")) (@PySem.Value.str (@PySem.Str.ofString "is_adsk_special_layer") 278) (@PySem.Value.ref 68)) :: ((@PySem.DictEntry.mk (@PySem.PyData.keyHash P (@PySem.Str.ofString "is_valid_block_name")) (@PySem.Value.str (@PySem.Str.ofString "is_valid_block_name") 285) (@PySem.Value.ref 75)) :: ((@PySem.DictEntry.mk (@PySem.PyData.keyHash P (@PySem.Str.ofString "is_valid_vport_name")) (@PySem.Value.str (@PySem.Str.ofString "is_valid_vport_name") 292) (@PySem.Value.ref 82)) :: ((@PySem.DictEntry.mk (@PySem.PyData.keyHash P (@PySem.Str.ofString "_law_pieces")) (@PySem.Value.str (@PySem.Str.ofString "_law_pieces") 300) (@PySem.Value.ref 89)) :: ((@PySem.DictEntry.mk (@PySem.PyData.keyHash P (@PySem.Str.ofString "_law_bad")) (@PySem.Value.str (@PySem.Str.ofString "_law_bad") 306) (@PySem.Value.ref 96)) :: ((@PySem.DictEntry.mk (@PySem.PyData.keyHash P (@PySem.Str.ofString "_law_fine")) (@PySem.Value.str (@PySem.Str.ofString "_law_fine") 312) (@PySem.Value.ref 103)) :: ((@PySem.DictEntry.mk (@PySem.PyData.keyHash P (@PySem.Str.ofString "_law_small")) (@PySem.Value.str (@PySem.Str.ofString "_law_small") 318) (@PySem.Value.ref 110)) :: ((@PySem.DictEntry.mk (@PySem.PyData.keyHash P (@PySem.Str.ofString "_law_great")) (@PySem.Value.str (@PySem.Str.ofString "_law_great") 324) (@PySem.Value.ref 117)) :: ((@PySem.DictEntry.mk (@PySem.PyData.keyHash P (@PySem.Str.ofString "_law_more")) (@PySem.Value.str (@PySem.Str.ofString "_law_more") 331) (@PySem.Value.ref 118)) :: ((@PySem.DictEntry.mk (@PySem.PyData.keyHash P (@PySem.Str.ofString "_law_word")) (@PySem.Value.str (@PySem.Str.ofString "_law_word") 341) (@PySem.Value.ref 125)) :: ((@PySem.DictEntry.mk (@PySem.PyData.keyHash P (@PySem.Str.ofString "_law_without")) (@PySem.Value.str (@PySem.Str.ofString "_law_without") 351) (@PySem.Value.ref 132)) :: ((@PySem.DictEntry.mk (@PySem.PyData.keyHash P (@PySem.Str.ofString "_law_table")) (@PySem.Value.str (@PySem.Str.ofString "_law_table") 357) (@PySem.Value.ref 137)) :: ((@PySem.DictEntry.mk (@PySem.PyData.keyHash P (@PySem.Str.ofString "_law_special")) (@PySem.Value.str (@PySem.Str.ofString "_law_special") 364) (@PySem.Value.ref 144)) :: ((@PySem.DictEntry.mk (@PySem.PyData.keyHash P (@PySem.Str.ofString "_law_block")) (@PySem.Value.str (@PySem.Str.ofString "_law_block") 371) (@PySem.Value.ref 151)) :: ((@PySem.DictEntry.mk (@PySem.PyData.keyHash P (@PySem.Str.ofString "_law_vport")) (@PySem.Value.str (@PySem.Str.ofString "_law_vport") 377) (@PySem.Value.ref 156)) :: ((@PySem.DictEntry.mk (@PySem.PyData.keyHash P (@PySem.Str.ofString "_law_asked")) (@PySem.Value.str (@PySem.Str.ofString "_law_asked") 383) (@PySem.Value.ref 161)) :: ((@PySem.DictEntry.mk (@PySem.PyData.keyHash P (@PySem.Str.ofString "_law_no_key")) (@PySem.Value.str (@PySem.Str.ofString "_law_no_key") 390) (@PySem.Value.ref 168)) :: ((@PySem.DictEntry.mk (@PySem.PyData.keyHash P (@PySem.Str.ofString "law")) (@PySem.Value.str (@PySem.Str.ofString "law") 401) (@PySem.Value.ref 175)) :: [])))))))))))))))))))))))))))))))))) 33) (List.toArray []))) :: (((nat_lit 15), (@PySem.Obj.mk (@PySem.Value.type "tuple") none (@PySem.Data.seq (List.toArray ((@PySem.Value.type "Exception") :: [])) 0) (List.toArray []))) :: (((nat_lit 22), (@PySem.Obj.mk (@PySem.Value.type "tuple") none (@PySem.Data.seq (List.toArray []) 0) (List.toArray []))) :: (((nat_lit 23), (@PySem.Obj.mk (@PySem.Value.type "dict") none (@PySem.Data.dict (List.toArray ((@PySem.DictEntry.mk (@PySem.PyData.keyHash P (@PySem.Str.ofString "__module__")) (@PySem.Value.str (@PySem.Str.ofString "__module__") 196) (@PySem.Value.str (@PySem.Str.ofString "ezdxf.lldxf.const") 187)) :: ((@PySem.DictEntry.mk (@PySem.PyData.keyHash P (@PySem.Str.ofString "__firstlineno__")) (@PySem.Value.str (@PySem.Str.ofString "__firstlineno__") 200) (@PySem.Value.int (2 : Int) 199)) :: ((@PySem.DictEntry.mk (@PySem.PyData.keyHash P (@PySem.Str.ofString "__static_attributes__")) (@PySem.Value.str (@PySem.Str.ofString "__static_attributes__") 201) (@PySem.Value.ref 22)) :: ((@PySem.DictEntry.mk (@PySem.PyData.keyHash P (@PySem.Str.ofString "__weakref__")) (@PySem.Value.str (@PySem.Str.ofString "__weakref__") 203) (@PySem.Value.ref 25)) :: ((@PySem.DictEntry.mk (@PySem.PyData.keyHash P (@PySem.Str.ofString "__doc__")) (@PySem.Value.str (@PySem.Str.ofString "__doc__") 204) @PySem.Value.none) :: [])))))) 3) (List.toArray []))) :: (((nat_lit 24), (@PySem.Obj.mk (@PySem.Value.type "type") none (@PySem.Data.cls (@PySem.ClassData.mk (@PySem.Str.ofString "DXFError") ((@PySem.Value.type "Exception") :: []) ((@PySem.Value.ref 24) :: ((@PySem.Value.type "Exception") :: ((@PySem.Value.type "BaseException") :: ((@PySem.Value.type "object") :: [])))) 23 (@PySem.Str.ofString "DXFError") @Bool.true [] ((@PySem.Value.ref 37) :: []) @Bool.false none @Bool.false)) (List.toArray ((some (@PySem.Value.ref 15)) :: (none :: ((some (@PySem.Value.str (@PySem.Str.ofString "DXFError") 189)) :: ((some (@PySem.Value.str (@PySem.Str.ofString "DXFError") 197)) :: ((some (@PySem.Value.builtin "Exception.__new__")) :: ((some (@PySem.Value.bool @Bool.true)) :: []))))))))) :: (((nat_lit 25), (@PySem.Obj.mk (@PySem.Value.type "getset_descriptor") none (@PySem.Data.fields (List.toArray ((@PySem.Value.str (@PySem.Str.ofString "__weakref__") 202) :: ((@PySem.Value.ref 24) :: ((@PySem.Value.builtin "ExceptionGroup.__weakref__") :: (@PySem.Value.none :: [])))))) (List.toArray []))) :: (((nat_lit 28), (@PySem.Obj.mk (@PySem.Value.type "tuple") none (@PySem.Data.seq (List.toArray ((@PySem.Value.ref 24) :: [])) 0) (List.toArray []))) :: (((nat_lit 35), (@PySem.Obj.mk (@PySem.Value.type "tuple") none (@PySem.Data.seq (List.toArray []) 0) (List.toArray []))) :: (((nat_lit 36), (@PySem.Obj.mk (@PySem.Value.type "dict") none (@PySem.Data.dict (List.toArray ((@PySem.DictEntry.mk (@PySem.PyData.keyHash P (@PySem.Str.ofString "__module__")) (@PySem.Value.str (@PySem.Str.ofString "__module__") 216) (@PySem.Value.str (@PySem.Str.ofString "ezdxf.lldxf.const") 187)) :: ((@PySem.DictEntry.mk (@PySem.PyData.keyHash P (@PySem.Str.ofString "__firstlineno__")) (@PySem.Value.str (@PySem.Str.ofString "__firstlineno__") 220) (@PySem.Value.int (4 : Int) 219)) :: ((@PySem.DictEntry.mk (@PySem.PyData.keyHash P (@PySem.Str.ofString "__static_attributes__")) (@PySem.Value.str (@PySem.Str.ofString "__static_attributes__") 221) (@PySem.Value.ref 35)) :: ((@PySem.DictEntry.mk (@PySem.PyData.keyHash P (@PySem.Str.ofString "__doc__")) (@PySem.Value.str (@PySem.Str.ofString "__doc__") 222) @PySem.Value.none) :: []))))) 2) (List.toArray []))) :: (((nat_lit 37), (@PySem.Obj.mk (@PySem.Value.type "type") none (@PySem.Data.cls (@PySem.ClassData.mk (@PySem.Str.ofString "DXFTypeError") ((@PySem.Value.ref 24) :: []) ((@PySem.Value.ref 37) :: ((@PySem.Value.ref 24) :: ((@PySem.Value.type "Exception") :: ((@PySem.Value.type "BaseException") :: ((@PySem.Value.type "object") :: []))))) 36 (@PySem.Str.ofString "DXFTypeError") @Bool.true [] [] @Bool.false none @Bool.false)) (List.toArray ((some (@PySem.Value.ref 28)) :: (none :: ((some (@PySem.Value.str (@PySem.Str.ofString "DXFTypeError") 209)) :: ((some (@PySem.Value.str (@PySem.Str.ofString "DXFTypeError") 217)) :: ((some (@PySem.Value.builtin "Exception.__new__")) :: ((some (@PySem.Value.bool @Bool.true)) :: []))))))))) :: (((nat_lit 41), (@PySem.Obj.mk (@PySem.Value.type "tuple") none (@PySem.Data.seq (List.toArray []) 0) (List.toArray []))) :: (((nat_lit 43), (@PySem.Obj.mk (@PySem.Value.type "tuple") none (@PySem.Data.seq (List.toArray ((@PySem.Value.str (@PySem.Str.ofString "name") 253) :: ((@PySem.Value.str (@PySem.Str.ofString "chars") 254) :: []))) 0) (List.toArray []))) :: (((nat_lit 44), (@PySem.Obj.mk (@PySem.Value.type "tuple") none (@PySem.Data.seq (List.toArray []) 0) (List.toArray []))) :: (((nat_lit 46), (@PySem.Obj.mk (@PySem.Value.type "code") none (@PySem.Data.fields (List.toArray ((@PySem.Value.str (@PySem.Str.ofString "is_valid_table_name") 250) :: ((@PySem.Value.str (@PySem.Str.ofString "is_valid_table_name") 251) :: ((@PySem.Value.str (@PySem.Str.ofString "/claim/cut.py") 252) :: ((@PySem.Value.int (8 : Int) 0) :: ((@PySem.Value.int (1 : Int) 0) :: ((@PySem.Value.int (0 : Int) 0) :: ((@PySem.Value.int (0 : Int) 0) :: ((@PySem.Value.int (3 : Int) 0) :: ((@PySem.Value.ref 41) :: ((@PySem.Value.bool @Bool.true) :: ((@PySem.Value.int (181 : Int) 0) :: ((@PySem.Value.ref 42) :: (@PySem.Value.none :: ((@PySem.Value.ref 43) :: ((@PySem.Value.ref 44) :: ((@PySem.Value.ref 45) :: ((@PySem.Value.int (255 : Int) 0) :: ((@PySem.Value.int (8 : Int) 0) :: ((@PySem.Value.str (@PySem.Str.ofString "/claim/cut.py") 256) :: []))))))))))))))))))))) (List.toArray []))) :: (((nat_lit 47), (@PySem.Obj.mk (@PySem.Value.type "function") none (@PySem.Data.func (@PySem.FuncData.mk (@PySem.Str.ofString "is_valid_table_name") (@PySem.Str.ofString "is_valid_table_name") par_is_valid_table_name (@PySem.FuncBody.stmts bod_is_valid_table_name) sco_is_valid_table_name 3 [] @PySem.Value.none @PySem.Value.none @PySem.Value.none (@PySem.Value.str (@PySem.Str.ofString "ezdxf.lldxf.validator") 248) none (@PySem.Value.ref 46) @PySem.Value.none 0)) (List.toArray []))) :: (((nat_lit 48), (@PySem.Obj.mk (@PySem.Value.type "tuple") none (@PySem.Data.seq (List.toArray []) 0) (List.toArray []))) :: (((nat_lit 50), (@PySem.Obj.mk (@PySem.Value.type "tuple") none (@PySem.Data.seq (List.toArray ((@PySem.Value.str (@PySem.Str.ofString "name") 261) :: [])) 0) (List.toArray []))) :: (((nat_lit 51), (@PySem.Obj.mk (@PySem.Value.type "tuple") none (@PySem.Data.seq (List.toArray []) 0) (List.toArray []))) :: (((nat_lit 53), (@PySem.Obj.mk (@PySem.Value.type "code") none (@PySem.Data.fields (List.toArray ((@PySem.Value.str (@PySem.Str.ofString "make_table_key") 258) :: ((@PySem.Value.str (@PySem.Str.ofString "make_table_key") 259) :: ((@PySem.Value.str (@PySem.Str.ofString "/claim/cut.py") 260) :: ((@PySem.Value.int (14 : Int) 0) :: ((@PySem.Value.int (1 : Int) 0) :: ((@PySem.Value.int (0 : Int) 0) :: ((@PySem.Value.int (0 : Int) 0) :: ((@PySem.Value.int (3 : Int) 0) :: ((@PySem.Value.ref 48) :: ((@PySem.Value.bool @Bool.true) :: ((@PySem.Value.int (181 : Int) 0) :: ((@PySem.Value.ref 49) :: (@PySem.Value.none :: ((@PySem.Value.ref 50) :: ((@PySem.Value.ref 51) :: ((@PySem.Value.ref 52) :: ((@PySem.Value.int (262 : Int) 0) :: ((@PySem.Value.int (14 : Int) 0) :: ((@PySem.Value.str (@PySem.Str.ofString "/claim/cut.py") 263) :: []))))))))))))))))))))) (List.toArray []))) :: (((nat_lit 54), (@PySem.Obj.mk (@PySem.Value.type "function") none (@PySem.Data.func (@PySem.FuncData.mk (@PySem.Str.ofString "make_table_key") (@PySem.Str.ofString "make_table_key") par_make_table_key (@PySem.FuncBody.stmts bod_make_table_key) sco_make_table_key 3 [] @PySem.Value.none @PySem.Value.none @PySem.Value.none (@PySem.Value.str (@PySem.Str.ofString "ezdxf.lldxf.validator") 248) none (@PySem.Value.ref 53) @PySem.Value.none 0)) (List.toArray []))) :: (((nat_lit 55), (@PySem.Obj.mk (@PySem.Value.type "tuple") none (@PySem.Data.seq (List.toArray []) 0) (List.toArray []))) :: (((nat_lit 57), (@PySem.Obj.mk (@PySem.Value.type "tuple") none (@PySem.Data.seq (List.toArray ((@PySem.Value.str (@PySem.Str.ofString "name") 268) :: [])) 0) (List.toArray []))) :: (((nat_lit 58), (@PySem.Obj.mk (@PySem.Value.type "tuple") none (@PySem.Data.seq (List.toArray []) 0) (List.toArray []))) :: (((nat_lit 60), (@PySem.Obj.mk (@PySem.Value.type "code") none (@PySem.Data.fields (List.toArray ((@PySem.Value.str (@PySem.Str.ofString "is_valid_layer_name") 265) :: ((@PySem.Value.str (@PySem.Str.ofString "is_valid_layer_name") 266) :: ((@PySem.Value.str (@PySem.Str.ofString "/claim/cut.py") 267) :: ((@PySem.Value.int (18 : Int) 0) :: ((@PySem.Value.int (1 : Int) 0) :: ((@PySem.Value.int (0 : Int) 0) :: ((@PySem.Value.int (0 : Int) 0) :: ((@PySem.Value.int (3 : Int) 0) :: ((@PySem.Value.ref 55) :: ((@PySem.Value.bool @Bool.true) :: ((@PySem.Value.int (181 : Int) 0) :: ((@PySem.Value.ref 56) :: (@PySem.Value.none :: ((@PySem.Value.ref 57) :: ((@PySem.Value.ref 58) :: ((@PySem.Value.ref 59) :: ((@PySem.Value.int (269 : Int) 0) :: ((@PySem.Value.int (18 : Int) 0) :: ((@PySem.Value.str (@PySem.Str.ofString "/claim/cut.py") 270) :: []))))))))))))))))))))) (List.toArray []))) :: (((nat_lit 61), (@PySem.Obj.mk (@PySem.Value.type "function") none (@PySem.Data.func (@PySem.FuncData.mk (@PySem.Str.ofString "is_valid_layer_name") (@PySem.Str.ofString "is_valid_layer_name") par_is_valid_layer_name (@PySem.FuncBody.stmts bod_is_valid_layer_name) sco_is_valid_layer_name 3 [] @PySem.Value.none @PySem.Value.none @PySem.Value.none (@PySem.Value.str (@PySem.Str.ofString "ezdxf.lldxf.validator") 248) none (@PySem.Value.ref 60) @PySem.Value.none 0)) (List.toArray []))) :: (((nat_lit 62), (@PySem.Obj.mk (@PySem.Value.type "tuple") none (@PySem.Data.seq (List.toArray []) 0) (List.toArray []))) :: (((nat_lit 64), (@PySem.Obj.mk (@PySem.Value.type "tuple") none (@PySem.Data.seq (List.toArray ((@PySem.Value.str (@PySem.Str.ofString "name") 275) :: [])) 0) (List.toArray []))) :: (((nat_lit 65), (@PySem.Obj.mk (@PySem.Value.type "tuple") none (@PySem.Data.seq (List.toArray []) 0) (List.toArray []))) :: (((nat_lit 67), (@PySem.Obj.mk (@PySem.Value.type "code") none (@PySem.Data.fields (List.toArray ((@PySem.Value.str (@PySem.Str.ofString "is_adsk_special_layer") 272) :: ((@PySem.Value.str (@PySem.Str.ofString "is_adsk_special_layer") 273) :: ((@PySem.Value.str (@PySem.Str.ofString "/claim/cut.py") 274) :: ((@PySem.Value.int (22 : Int) 0) :: ((@PySem.Value.int (1 : Int) 0) :: ((@PySem.Value.int (0 : Int) 0) :: ((@PySem.Value.int (0 : Int) 0) :: ((@PySem.Value.int (3 : Int) 0) :: ((@PySem.Value.ref 62) :: ((@PySem.Value.bool @Bool.true) :: ((@PySem.Value.int (181 : Int) 0) :: ((@PySem.Value.ref 63) :: (@PySem.Value.none :: ((@PySem.Value.ref 64) :: ((@PySem.Value.ref 65) :: ((@PySem.Value.ref 66) :: ((@PySem.Value.int (276 : Int) 0) :: ((@PySem.Value.int (22 : Int) 0) :: ((@PySem.Value.str (@PySem.Str.ofString "/claim/cut.py") 277) :: []))))))))))))))))))))) (List.toArray []))) :: (((nat_lit 68), (@PySem.Obj.mk (@PySem.Value.type "function") none (@PySem.Data.func (@PySem.FuncData.mk (@PySem.Str.ofString "is_adsk_special_layer") (@PySem.Str.ofString "is_adsk_special_layer") par_is_adsk_special_layer (@PySem.FuncBody.stmts bod_is_adsk_special_layer) sco_is_adsk_special_layer 3 [] @PySem.Value.none @PySem.Value.none @PySem.Value.none (@PySem.Value.str (@PySem.Str.ofString "ezdxf.lldxf.validator") 248) none (@PySem.Value.ref 67) @PySem.Value.none 0)) (List.toArray []))) :: (((nat_lit 69), (@PySem.Obj.mk (@PySem.Value.type "tuple") none (@PySem.Data.seq (List.toArray []) 0) (List.toArray []))) :: (((nat_lit 71), (@PySem.Obj.mk (@PySem.Value.type "tuple") none (@PySem.Data.seq (List.toArray ((@PySem.Value.str (@PySem.Str.ofString "name") 282) :: [])) 0) (List.toArray []))) :: (((nat_lit 72), (@PySem.Obj.mk (@PySem.Value.type "tuple") none (@PySem.Data.seq (List.toArray []) 0) (List.toArray []))) :: (((nat_lit 74), (@PySem.Obj.mk (@PySem.Value.type "code") none (@PySem.Data.fields (List.toArray ((@PySem.Value.str (@PySem.Str.ofString "is_valid_block_name") 279) :: ((@PySem.Value.str (@PySem.Str.ofString "is_valid_block_name") 280) :: ((@PySem.Value.str (@PySem.Str.ofString "/claim/cut.py") 281) :: ((@PySem.Value.int (26 : Int) 0) :: ((@PySem.Value.int (1 : Int) 0) :: ((@PySem.Value.int (0 : Int) 0) :: ((@PySem.Value.int (0 : Int) 0) :: ((@PySem.Value.int (3 : Int) 0) :: ((@PySem.Value.ref 69) :: ((@PySem.Value.bool @Bool.true) :: ((@PySem.Value.int (181 : Int) 0) :: ((@PySem.Value.ref 70) :: (@PySem.Value.none :: ((@PySem.Value.ref 71) :: ((@PySem.Value.ref 72) :: ((@PySem.Value.ref 73) :: ((@PySem.Value.int (283 : Int) 0) :: ((@PySem.Value.int (26 : Int) 0) :: ((@PySem.Value.str (@PySem.Str.ofString "/claim/cut.py") 284) :: []))))))))))))))))))))) (List.toArray []))) :: (((nat_lit 75), (@PySem.Obj.mk (@PySem.Value.type "function") none (@PySem.Data.func (@PySem.FuncData.mk (@PySem.Str.ofString "is_valid_block_name") (@PySem.Str.ofString "is_valid_block_name") par_is_valid_block_name (@PySem.FuncBody.stmts bod_is_valid_block_name) sco_is_valid_block_name 3 [] @PySem.Value.none @PySem.Value.none @PySem.Value.none (@PySem.Value.str (@PySem.Str.ofString "ezdxf.lldxf.validator") 248) none (@PySem.Value.ref 74) @PySem.Value.none 0)) (List.toArray []))) :: (((nat_lit 76), (@PySem.Obj.mk (@PySem.Value.type "tuple") none (@PySem.Data.seq (List.toArray []) 0) (List.toArray []))) :: (((nat_lit 78), (@PySem.Obj.mk (@PySem.Value.type "tuple") none (@PySem.Data.seq (List.toArray ((@PySem.Value.str (@PySem.Str.ofString "name") 289) :: [])) 0) (List.toArray []))) :: (((nat_lit 79), (@PySem.Obj.mk (@PySem.Value.type "tuple") none (@PySem.Data.seq (List.toArray []) 0) (List.toArray []))) :: (((nat_lit 81), (@PySem.Obj.mk (@PySem.Value.type "code") none (@PySem.Data.fields (List.toArray ((@PySem.Value.str (@PySem.Str.ofString "is_valid_vport_name") 286) :: ((@PySem.Value.str (@PySem.Str.ofString "is_valid_vport_name") 287) :: ((@PySem.Value.str (@PySem.Str.ofString "/claim/cut.py") 288) :: ((@PySem.Value.int (31 : Int) 0) :: ((@PySem.Value.int (1 : Int) 0) :: ((@PySem.Value.int (0 : Int) 0) :: ((@PySem.Value.int (0 : Int) 0) :: ((@PySem.Value.int (3 : Int) 0) :: ((@PySem.Value.ref 76) :: ((@PySem.Value.bool @Bool.true) :: ((@PySem.Value.int (181 : Int) 0) :: ((@PySem.Value.ref 77) :: (@PySem.Value.none :: ((@PySem.Value.ref 78) :: ((@PySem.Value.ref 79) :: ((@PySem.Value.ref 80) :: ((@PySem.Value.int (290 : Int) 0) :: ((@PySem.Value.int (31 : Int) 0) :: ((@PySem.Value.str (@PySem.Str.ofString "/claim/cut.py") 291) :: []))))))))))))))))))))) (List.toArray []))) :: (((nat_lit 82), (@PySem.Obj.mk (@PySem.Value.type "function") none (@PySem.Data.func (@PySem.FuncData.mk (@PySem.Str.ofString "is_valid_vport_name") (@PySem.Str.ofString "is_valid_vport_name") par_is_valid_vport_name (@PySem.FuncBody.stmts bod_is_valid_vport_name) sco_is_valid_vport_name 3 [] @PySem.Value.none @PySem.Value.none @PySem.Value.none (@PySem.Value.str (@PySem.Str.ofString "ezdxf.lldxf.validator") 248) none (@PySem.Value.ref 81) @PySem.Value.none 0)) (List.toArray []))) :: (((nat_lit 83), (@PySem.Obj.mk (@PySem.Value.type "tuple") none (@PySem.Data.seq (List.toArray []) 0) (List.toArray []))) :: (((nat_lit 85), (@PySem.Obj.mk (@PySem.Value.type "tuple") none (@PySem.Data.seq (List.toArray []) 0) (List.toArray []))) :: (((nat_lit 86), (@PySem.Obj.mk (@PySem.Value.type "tuple") none (@PySem.Data.seq (List.toArray []) 0) (List.toArray []))) :: (((nat_lit 88), (@PySem.Obj.mk (@PySem.Value.type "code") none (@PySem.Data.fields (List.toArray ((@PySem.Value.str (@PySem.Str.ofString "_law_pieces") 295) :: ((@PySem.Value.str (@PySem.Str.ofString "_law_pieces") 296) :: ((@PySem.Value.str (@PySem.Str.ofString "/claim/cut.py") 297) :: ((@PySem.Value.int (37 : Int) 0) :: ((@PySem.Value.int (0 : Int) 0) :: ((@PySem.Value.int (0 : Int) 0) :: ((@PySem.Value.int (0 : Int) 0) :: ((@PySem.Value.int (3 : Int) 0) :: ((@PySem.Value.ref 83) :: ((@PySem.Value.bool @Bool.true) :: ((@PySem.Value.int (181 : Int) 0) :: ((@PySem.Value.ref 84) :: (@PySem.Value.none :: ((@PySem.Value.ref 85) :: ((@PySem.Value.ref 86) :: ((@PySem.Value.ref 87) :: ((@PySem.Value.int (298 : Int) 0) :: ((@PySem.Value.int (37 : Int) 0) :: ((@PySem.Value.str (@PySem.Str.ofString "/claim/cut.py") 299) :: []))))))))))))))))))))) (List.toArray []))) :: (((nat_lit 89), (@PySem.Obj.mk (@PySem.Value.type "function") none (@PySem.Data.func (@PySem.FuncData.mk (@PySem.Str.ofString "_law_pieces") (@PySem.Str.ofString "_law_pieces") par_law_pieces (@PySem.FuncBody.stmts bod_law_pieces) sco_law_pieces 3 [] @PySem.Value.none @PySem.Value.none @PySem.Value.none (@PySem.Value.str (@PySem.Str.ofString "law_et5005_01") 293) none (@PySem.Value.ref 88) @PySem.Value.none 0)) (List.toArray []))) :: (((nat_lit 90), (@PySem.Obj.mk (@PySem.Value.type "tuple") none (@PySem.Data.seq (List.toArray []) 0) (List.toArray []))) :: (((nat_lit 92), (@PySem.Obj.mk (@PySem.Value.type "tuple") none (@PySem.Data.seq (List.toArray []) 0) (List.toArray []))) :: (((nat_lit 93), (@PySem.Obj.mk (@PySem.Value.type "tuple") none (@PySem.Data.seq (List.toArray []) 0) (List.toArray []))) :: (((nat_lit 95), (@PySem.Obj.mk (@PySem.Value.type "code") none (@PySem.Data.fields (List.toArray ((@PySem.Value.str (@PySem.Str.ofString "_law_bad") 301) :: ((@PySem.Value.str (@PySem.Str.ofString "_law_bad") 302) :: ((@PySem.Value.str (@PySem.Str.ofString "/claim/cut.py") 303) :: ((@PySem.Value.int (39 : Int) 0) :: ((@PySem.Value.int (0 : Int) 0) :: ((@PySem.Value.int (0 : Int) 0) :: ((@PySem.Value.int (0 : Int) 0) :: ((@PySem.Value.int (3 : Int) 0) :: ((@PySem.Value.ref 90) :: ((@PySem.Value.bool @Bool.true) :: ((@PySem.Value.int (181 : Int) 0) :: ((@PySem.Value.ref 91) :: (@PySem.Value.none :: ((@PySem.Value.ref 92) :: ((@PySem.Value.ref 93) :: ((@PySem.Value.ref 94) :: ((@PySem.Value.int (304 : Int) 0) :: ((@PySem.Value.int (39 : Int) 0) :: ((@PySem.Value.str (@PySem.Str.ofString "/claim/cut.py") 305) :: []))))))))))))))))))))) (List.toArray []))) :: (((nat_lit 96), (@PySem.Obj.mk (@PySem.Value.type "function") none (@PySem.Data.func (@PySem.FuncData.mk (@PySem.Str.ofString "_law_bad") (@PySem.Str.ofString "_law_bad") par_law_bad (@PySem.FuncBody.stmts bod_law_bad) sco_law_bad 3 [] @PySem.Value.none @PySem.Value.none @PySem.Value.none (@PySem.Value.str (@PySem.Str.ofString "law_et5005_01") 293) none (@PySem.Value.ref 95) @PySem.Value.none 0)) (List.toArray []))) :: (((nat_lit 97), (@PySem.Obj.mk (@PySem.Value.type "tuple") none (@PySem.Data.seq (List.toArray []) 0) (List.toArray []))) :: (((nat_lit 99), (@PySem.Obj.mk (@PySem.Value.type "tuple") none (@PySem.Data.seq (List.toArray []) 0) (List.toArray []))) :: (((nat_lit 100), (@PySem.Obj.mk (@PySem.Value.type "tuple") none (@PySem.Data.seq (List.toArray []) 0) (List.toArray []))) :: (((nat_lit 102), (@PySem.Obj.mk (@PySem.Value.type "code") none (@PySem.Data.fields (List.toArray ((@PySem.Value.str (@PySem.Str.ofString "_law_fine") 307) :: ((@PySem.Value.str (@PySem.Str.ofString "_law_fine") 308) :: ((@PySem.Value.str (@PySem.Str.ofString "/claim/cut.py") 309) :: ((@PySem.Value.int (41 : Int) 0) :: ((@PySem.Value.int (0 : Int) 0) :: ((@PySem.Value.int (0 : Int) 0) :: ((@PySem.Value.int (0 : Int) 0) :: ((@PySem.Value.int (3 : Int) 0) :: ((@PySem.Value.ref 97) :: ((@PySem.Value.bool @Bool.true) :: ((@PySem.Value.int (181 : Int) 0) :: ((@PySem.Value.ref 98) :: (@PySem.Value.none :: ((@PySem.Value.ref 99) :: ((@PySem.Value.ref 100) :: ((@PySem.Value.ref 101) :: ((@PySem.Value.int (310 : Int) 0) :: ((@PySem.Value.int (41 : Int) 0) :: ((@PySem.Value.str (@PySem.Str.ofString "/claim/cut.py") 311) :: []))))))))))))))))))))) (List.toArray []))) :: (((nat_lit 103), (@PySem.Obj.mk (@PySem.Value.type "function") none (@PySem.Data.func (@PySem.FuncData.mk (@PySem.Str.ofString "_law_fine") (@PySem.Str.ofString "_law_fine") par_law_fine (@PySem.FuncBody.stmts bod_law_fine) sco_law_fine 3 [] @PySem.Value.none @PySem.Value.none @PySem.Value.none (@PySem.Value.str (@PySem.Str.ofString "law_et5005_01") 293) none (@PySem.Value.ref 102) @PySem.Value.none 0)) (List.toArray []))) :: (((nat_lit 104), (@PySem.Obj.mk (@PySem.Value.type "tuple") none (@PySem.Data.seq (List.toArray []) 0) (List.toArray []))) :: (((nat_lit 106), (@PySem.Obj.mk (@PySem.Value.type "tuple") none (@PySem.Data.seq (List.toArray []) 0) (List.toArray []))) :: (((nat_lit 107), (@PySem.Obj.mk (@PySem.Value.type "tuple") none (@PySem.Data.seq (List.toArray []) 0) (List.toArray []))) :: (((nat_lit 109), (@PySem.Obj.mk (@PySem.Value.type "code") none (@PySem.Data.fields (List.toArray ((@PySem.Value.str (@PySem.Str.ofString "_law_small") 313) :: ((@PySem.Value.str (@PySem.Str.ofString "_law_small") 314) :: ((@PySem.Value.str (@PySem.Str.ofString "/claim/cut.py") 315) :: ((@PySem.Value.int (43 : Int) 0) :: ((@PySem.Value.int (0 : Int) 0) :: ((@PySem.Value.int (0 : Int) 0) :: ((@PySem.Value.int (0 : Int) 0) :: ((@PySem.Value.int (3 : Int) 0) :: ((@PySem.Value.ref 104) :: ((@PySem.Value.bool @Bool.true) :: ((@PySem.Value.int (181 : Int) 0) :: ((@PySem.Value.ref 105) :: (@PySem.Value.none :: ((@PySem.Value.ref 106) :: ((@PySem.Value.ref 107) :: ((@PySem.Value.ref 108) :: ((@PySem.Value.int (316 : Int) 0) :: ((@PySem.Value.int (43 : Int) 0) :: ((@PySem.Value.str (@PySem.Str.ofString "/claim/cut.py") 317) :: []))))))))))))))))))))) (List.toArray []))) :: (((nat_lit 110), (@PySem.Obj.mk (@PySem.Value.type "function") none (@PySem.Data.func (@PySem.FuncData.mk (@PySem.Str.ofString "_law_small") (@PySem.Str.ofString "_law_small") par_law_small (@PySem.FuncBody.stmts bod_law_small) sco_law_small 3 [] @PySem.Value.none @PySem.Value.none @PySem.Value.none (@PySem.Value.str (@PySem.Str.ofString "law_et5005_01") 293) none (@PySem.Value.ref 109) @PySem.Value.none 0)) (List.toArray []))) :: (((nat_lit 111), (@PySem.Obj.mk (@PySem.Value.type "tuple") none (@PySem.Data.seq (List.toArray []) 0) (List.toArray []))) :: (((nat_lit 113), (@PySem.Obj.mk (@PySem.Value.type "tuple") none (@PySem.Data.seq (List.toArray []) 0) (List.toArray []))) :: (((nat_lit 114), (@PySem.Obj.mk (@PySem.Value.type "tuple") none (@PySem.Data.seq (List.toArray []) 0) (List.toArray []))) :: (((nat_lit 116), (@PySem.Obj.mk (@PySem.Value.type "code") none (@PySem.Data.fields (List.toArray ((@PySem.Value.str (@PySem.Str.ofString "_law_great") 319) :: ((@PySem.Value.str (@PySem.Str.ofString "_law_great") 320) :: ((@PySem.Value.str (@PySem.Str.ofString "/claim/cut.py") 321) :: ((@PySem.Value.int (45 : Int) 0) :: ((@PySem.Value.int (0 : Int) 0) :: ((@PySem.Value.int (0 : Int) 0) :: ((@PySem.Value.int (0 : Int) 0) :: ((@PySem.Value.int (3 : Int) 0) :: ((@PySem.Value.ref 111) :: ((@PySem.Value.bool @Bool.true) :: ((@PySem.Value.int (181 : Int) 0) :: ((@PySem.Value.ref 112) :: (@PySem.Value.none :: ((@PySem.Value.ref 113) :: ((@PySem.Value.ref 114) :: ((@PySem.Value.ref 115) :: ((@PySem.Value.int (322 : Int) 0) :: ((@PySem.Value.int (45 : Int) 0) :: ((@PySem.Value.str (@PySem.Str.ofString "/claim/cut.py") 323) :: []))))))))))))))))))))) (List.toArray []))) :: (((nat_lit 117), (@PySem.Obj.mk (@PySem.Value.type "function") none (@PySem.Data.func (@PySem.FuncData.mk (@PySem.Str.ofString "_law_great") (@PySem.Str.ofString "_law_great") par_law_great (@PySem.FuncBody.stmts bod_law_great) sco_law_great 3 [] @PySem.Value.none @PySem.Value.none @PySem.Value.none (@PySem.Value.str (@PySem.Str.ofString "law_et5005_01") 293) none (@PySem.Value.ref 116) @PySem.Value.none 0)) (List.toArray []))) :: (((nat_lit 118), (@PySem.Obj.mk (@PySem.Value.type "list") none (@PySem.Data.seq (List.toArray ((@PySem.Value.int (2053 : Int) 325) :: ((@PySem.Value.int (181 : Int) 326) :: ((@PySem.Value.int (9 : Int) 327) :: ((@PySem.Value.int (4327 : Int) 328) :: ((@PySem.Value.int (611 : Int) 329) :: ((@PySem.Value.int (77 : Int) 330) :: []))))))) 0) (List.toArray []))) :: (((nat_lit 119), (@PySem.Obj.mk (@PySem.Value.type "tuple") none (@PySem.Data.seq (List.toArray []) 0) (List.toArray []))) :: (((nat_lit 121), (@PySem.Obj.mk (@PySem.Value.type "tuple") none (@PySem.Data.seq (List.toArray ((@PySem.Value.str (@PySem.Str.ofString "number") 335) :: ((@PySem.Value.str (@PySem.Str.ofString "rest") 336) :: ((@PySem.Value.str (@PySem.Str.ofString "word") 337) :: ((@PySem.Value.str (@PySem.Str.ofString "k") 338) :: []))))) 0) (List.toArray []))) :: (((nat_lit 122), (@PySem.Obj.mk (@PySem.Value.type "tuple") none (@PySem.Data.seq (List.toArray []) 0) (List.toArray []))) :: (((nat_lit 124), (@PySem.Obj.mk (@PySem.Value.type "code") none (@PySem.Data.fields (List.toArray ((@PySem.Value.str (@PySem.Str.ofString "_law_word") 332) :: ((@PySem.Value.str (@PySem.Str.ofString "_law_word") 333) :: ((@PySem.Value.str (@PySem.Str.ofString "/claim/cut.py") 334) :: ((@PySem.Value.int (48 : Int) 0) :: ((@PySem.Value.int (1 : Int) 0) :: ((@PySem.Value.int (0 : Int) 0) :: ((@PySem.Value.int (0 : Int) 0) :: ((@PySem.Value.int (3 : Int) 0) :: ((@PySem.Value.ref 119) :: ((@PySem.Value.bool @Bool.true) :: ((@PySem.Value.int (181 : Int) 0) :: ((@PySem.Value.ref 120) :: (@PySem.Value.none :: ((@PySem.Value.ref 121) :: ((@PySem.Value.ref 122) :: ((@PySem.Value.ref 123) :: ((@PySem.Value.int (339 : Int) 0) :: ((@PySem.Value.int (48 : Int) 0) :: ((@PySem.Value.str (@PySem.Str.ofString "/claim/cut.py") 340) :: []))))))))))))))))))))) (List.toArray []))) :: (((nat_lit 125), (@PySem.Obj.mk (@PySem.Value.type "function") none (@PySem.Data.func (@PySem.FuncData.mk (@PySem.Str.ofString "_law_word") (@PySem.Str.ofString "_law_word") par_law_word (@PySem.FuncBody.stmts bod_law_word) sco_law_word 3 [] @PySem.Value.none @PySem.Value.none @PySem.Value.none (@PySem.Value.str (@PySem.Str.ofString "law_et5005_01") 293) none (@PySem.Value.ref 124) @PySem.Value.none 0)) (List.toArray []))) :: (((nat_lit 126), (@PySem.Obj.mk (@PySem.Value.type "tuple") none (@PySem.Data.seq (List.toArray []) 0) (List.toArray []))) :: (((nat_lit 128), (@PySem.Obj.mk (@PySem.Value.type "tuple") none (@PySem.Data.seq (List.toArray ((@PySem.Value.str (@PySem.Str.ofString "word") 345) :: ((@PySem.Value.str (@PySem.Str.ofString "mark") 346) :: ((@PySem.Value.str (@PySem.Str.ofString "rest") 347) :: ((@PySem.Value.str (@PySem.Str.ofString "k") 348) :: []))))) 0) (List.toArray []))) :: (((nat_lit 129), (@PySem.Obj.mk (@PySem.Value.type "tuple") none (@PySem.Data.seq (List.toArray []) 0) (List.toArray []))) :: (((nat_lit 131), (@PySem.Obj.mk (@PySem.Value.type "code") none (@PySem.Data.fields (List.toArray ((@PySem.Value.str (@PySem.Str.ofString "_law_without") 342) :: ((@PySem.Value.str (@PySem.Str.ofString "_law_without") 343) :: ((@PySem.Value.str (@PySem.Str.ofString "/claim/cut.py") 344) :: ((@PySem.Value.int (55 : Int) 0) :: ((@PySem.Value.int (2 : Int) 0) :: ((@PySem.Value.int (0 : Int) 0) :: ((@PySem.Value.int (0 : Int) 0) :: ((@PySem.Value.int (3 : Int) 0) :: ((@PySem.Value.ref 126) :: ((@PySem.Value.bool @Bool.true) :: ((@PySem.Value.int (181 : Int) 0) :: ((@PySem.Value.ref 127) :: (@PySem.Value.none :: ((@PySem.Value.ref 128) :: ((@PySem.Value.ref 129) :: ((@PySem.Value.ref 130) :: ((@PySem.Value.int (349 : Int) 0) :: ((@PySem.Value.int (55 : Int) 0) :: ((@PySem.Value.str (@PySem.Str.ofString "/claim/cut.py") 350) :: []))))))))))))))))))))) (List.toArray []))) :: (((nat_lit 132), (@PySem.Obj.mk (@PySem.Value.type "function") none (@PySem.Data.func (@PySem.FuncData.mk (@PySem.Str.ofString "_law_without") (@PySem.Str.ofString "_law_without") par_law_without (@PySem.FuncBody.stmts bod_law_without) sco_law_without 3 [] @PySem.Value.none @PySem.Value.none @PySem.Value.none (@PySem.Value.str (@PySem.Str.ofString "law_et5005_01") 293) none (@PySem.Value.ref 131) @PySem.Value.none 0)) (List.toArray []))) :: (((nat_lit 133), (@PySem.Obj.mk (@PySem.Value.type "tuple") none (@PySem.Data.seq (List.toArray []) 0) (List.toArray []))) :: (((nat_lit 136), (@PySem.Obj.mk (@PySem.Value.type "code") none (@PySem.Data.fields (List.toArray ((@PySem.Value.str (@PySem.Str.ofString "_law_table") 352) :: ((@PySem.Value.str (@PySem.Str.ofString "_law_table") 353) :: ((@PySem.Value.str (@PySem.Str.ofString "/claim/cut.py") 354) :: ((@PySem.Value.int (65 : Int) 0) :: ((@PySem.Value.int (1 : Int) 0) :: ((@PySem.Value.int (0 : Int) 0) :: ((@PySem.Value.int (0 : Int) 0) :: ((@PySem.Value.int (3 : Int) 0) :: ((@PySem.Value.ref 133) :: ((@PySem.Value.bool @Bool.true) :: ((@PySem.Value.int (181 : Int) 0) :: ((@PySem.Value.ref 134) :: (@PySem.Value.none :: (@PySem.Value.none :: (@PySem.Value.none :: ((@PySem.Value.ref 135) :: ((@PySem.Value.int (355 : Int) 0) :: ((@PySem.Value.int (65 : Int) 0) :: ((@PySem.Value.str (@PySem.Str.ofString "/claim/cut.py") 356) :: []))))))))))))))))))))) (List.toArray []))) :: (((nat_lit 137), (@PySem.Obj.mk (@PySem.Value.type "function") none (@PySem.Data.func (@PySem.FuncData.mk (@PySem.Str.ofString "_law_table") (@PySem.Str.ofString "_law_table") par_law_table (@PySem.FuncBody.stmts bod_law_table) sco_law_table 3 [] @PySem.Value.none @PySem.Value.none @PySem.Value.none (@PySem.Value.str (@PySem.Str.ofString "law_et5005_01") 293) none (@PySem.Value.ref 136) @PySem.Value.none 0)) (List.toArray []))) :: (((nat_lit 138), (@PySem.Obj.mk (@PySem.Value.type "tuple") none (@PySem.Data.seq (List.toArray []) 0) (List.toArray []))) :: (((nat_lit 140), (@PySem.Obj.mk (@PySem.Value.type "tuple") none (@PySem.Data.seq (List.toArray ((@PySem.Value.str (@PySem.Str.ofString "word") 361) :: [])) 0) (List.toArray []))) :: (((nat_lit 141), (@PySem.Obj.mk (@PySem.Value.type "tuple") none (@PySem.Data.seq (List.toArray []) 0) (List.toArray []))) :: (((nat_lit 143), (@PySem.Obj.mk (@PySem.Value.type "code") none (@PySem.Data.fields (List.toArray ((@PySem.Value.str (@PySem.Str.ofString "_law_special") 358) :: ((@PySem.Value.str (@PySem.Str.ofString "_law_special") 359) :: ((@PySem.Value.str (@PySem.Str.ofString "/claim/cut.py") 360) :: ((@PySem.Value.int (68 : Int) 0) :: ((@PySem.Value.int (1 : Int) 0) :: ((@PySem.Value.int (0 : Int) 0) :: ((@PySem.Value.int (0 : Int) 0) :: ((@PySem.Value.int (3 : Int) 0) :: ((@PySem.Value.ref 138) :: ((@PySem.Value.bool @Bool.true) :: ((@PySem.Value.int (181 : Int) 0) :: ((@PySem.Value.ref 139) :: (@PySem.Value.none :: ((@PySem.Value.ref 140) :: ((@PySem.Value.ref 141) :: ((@PySem.Value.ref 142) :: ((@PySem.Value.int (362 : Int) 0) :: ((@PySem.Value.int (68 : Int) 0) :: ((@PySem.Value.str (@PySem.Str.ofString "/claim/cut.py") 363) :: []))))))))))))))))))))) (List.toArray []))) :: (((nat_lit 144), (@PySem.Obj.mk (@PySem.Value.type "function") none (@PySem.Data.func (@PySem.FuncData.mk (@PySem.Str.ofString "_law_special") (@PySem.Str.ofString "_law_special") par_law_special (@PySem.FuncBody.stmts bod_law_special) sco_law_special 3 [] @PySem.Value.none @PySem.Value.none @PySem.Value.none (@PySem.Value.str (@PySem.Str.ofString "law_et5005_01") 293) none (@PySem.Value.ref 143) @PySem.Value.none 0)) (List.toArray []))) :: (((nat_lit 145), (@PySem.Obj.mk (@PySem.Value.type "tuple") none (@PySem.Data.seq (List.toArray []) 0) (List.toArray []))) :: (((nat_lit 147), (@PySem.Obj.mk (@PySem.Value.type "tuple") none (@PySem.Data.seq (List.toArray ((@PySem.Value.str (@PySem.Str.ofString "word") 368) :: [])) 0) (List.toArray []))) :: (((nat_lit 148), (@PySem.Obj.mk (@PySem.Value.type "tuple") none (@PySem.Data.seq (List.toArray []) 0) (List.toArray []))) :: (((nat_lit 150), (@PySem.Obj.mk (@PySem.Value.type "code") none (@PySem.Data.fields (List.toArray ((@PySem.Value.str (@PySem.Str.ofString "_law_block") 365) :: ((@PySem.Value.str (@PySem.Str.ofString "_law_block") 366) :: ((@PySem.Value.str (@PySem.Str.ofString "/claim/cut.py") 367) :: ((@PySem.Value.int (70 : Int) 0) :: ((@PySem.Value.int (1 : Int) 0) :: ((@PySem.Value.int (0 : Int) 0) :: ((@PySem.Value.int (0 : Int) 0) :: ((@PySem.Value.int (3 : Int) 0) :: ((@PySem.Value.ref 145) :: ((@PySem.Value.bool @Bool.true) :: ((@PySem.Value.int (181 : Int) 0) :: ((@PySem.Value.ref 146) :: (@PySem.Value.none :: ((@PySem.Value.ref 147) :: ((@PySem.Value.ref 148) :: ((@PySem.Value.ref 149) :: ((@PySem.Value.int (369 : Int) 0) :: ((@PySem.Value.int (70 : Int) 0) :: ((@PySem.Value.str (@PySem.Str.ofString "/claim/cut.py") 370) :: []))))))))))))))))))))) (List.toArray []))) :: (((nat_lit 151), (@PySem.Obj.mk (@PySem.Value.type "function") none (@PySem.Data.func (@PySem.FuncData.mk (@PySem.Str.ofString "_law_block") (@PySem.Str.ofString "_law_block") par_law_block (@PySem.FuncBody.stmts bod_law_block) sco_law_block 3 [] @PySem.Value.none @PySem.Value.none @PySem.Value.none (@PySem.Value.str (@PySem.Str.ofString "law_et5005_01") 293) none (@PySem.Value.ref 150) @PySem.Value.none 0)) (List.toArray []))) :: (((nat_lit 152), (@PySem.Obj.mk (@PySem.Value.type "tuple") none (@PySem.Data.seq (List.toArray []) 0) (List.toArray []))) :: (((nat_lit 155), (@PySem.Obj.mk (@PySem.Value.type "code") none (@PySem.Data.fields (List.toArray ((@PySem.Value.str (@PySem.Str.ofString "_law_vport") 372) :: ((@PySem.Value.str (@PySem.Str.ofString "_law_vport") 373) :: ((@PySem.Value.str (@PySem.Str.ofString "/claim/cut.py") 374) :: ((@PySem.Value.int (72 : Int) 0) :: ((@PySem.Value.int (1 : Int) 0) :: ((@PySem.Value.int (0 : Int) 0) :: ((@PySem.Value.int (0 : Int) 0) :: ((@PySem.Value.int (3 : Int) 0) :: ((@PySem.Value.ref 152) :: ((@PySem.Value.bool @Bool.true) :: ((@PySem.Value.int (181 : Int) 0) :: ((@PySem.Value.ref 153) :: (@PySem.Value.none :: (@PySem.Value.none :: (@PySem.Value.none :: ((@PySem.Value.ref 154) :: ((@PySem.Value.int (375 : Int) 0) :: ((@PySem.Value.int (72 : Int) 0) :: ((@PySem.Value.str (@PySem.Str.ofString "/claim/cut.py") 376) :: []))))))))))))))))))))) (List.toArray []))) :: (((nat_lit 156), (@PySem.Obj.mk (@PySem.Value.type "function") none (@PySem.Data.func (@PySem.FuncData.mk (@PySem.Str.ofString "_law_vport") (@PySem.Str.ofString "_law_vport") par_law_vport (@PySem.FuncBody.stmts bod_law_vport) sco_law_vport 3 [] @PySem.Value.none @PySem.Value.none @PySem.Value.none (@PySem.Value.str (@PySem.Str.ofString "law_et5005_01") 293) none (@PySem.Value.ref 155) @PySem.Value.none 0)) (List.toArray []))) :: (((nat_lit 157), (@PySem.Obj.mk (@PySem.Value.type "tuple") none (@PySem.Data.seq (List.toArray []) 0) (List.toArray []))) :: (((nat_lit 160), (@PySem.Obj.mk (@PySem.Value.type "code") none (@PySem.Data.fields (List.toArray ((@PySem.Value.str (@PySem.Str.ofString "_law_asked") 378) :: ((@PySem.Value.str (@PySem.Str.ofString "_law_asked") 379) :: ((@PySem.Value.str (@PySem.Str.ofString "/claim/cut.py") 380) :: ((@PySem.Value.int (76 : Int) 0) :: ((@PySem.Value.int (1 : Int) 0) :: ((@PySem.Value.int (0 : Int) 0) :: ((@PySem.Value.int (0 : Int) 0) :: ((@PySem.Value.int (3 : Int) 0) :: ((@PySem.Value.ref 157) :: ((@PySem.Value.bool @Bool.true) :: ((@PySem.Value.int (181 : Int) 0) :: ((@PySem.Value.ref 158) :: (@PySem.Value.none :: (@PySem.Value.none :: (@PySem.Value.none :: ((@PySem.Value.ref 159) :: ((@PySem.Value.int (381 : Int) 0) :: ((@PySem.Value.int (76 : Int) 0) :: ((@PySem.Value.str (@PySem.Str.ofString "/claim/cut.py") 382) :: []))))))))))))))))))))) (List.toArray []))) :: (((nat_lit 161), (@PySem.Obj.mk (@PySem.Value.type "function") none (@PySem.Data.func (@PySem.FuncData.mk (@PySem.Str.ofString "_law_asked") (@PySem.Str.ofString "_law_asked") par_law_asked (@PySem.FuncBody.stmts bod_law_asked) sco_law_asked 3 [] @PySem.Value.none @PySem.Value.none @PySem.Value.none (@PySem.Value.str (@PySem.Str.ofString "law_et5005_01") 293) none (@PySem.Value.ref 160) @PySem.Value.none 0)) (List.toArray []))) :: (((nat_lit 162), (@PySem.Obj.mk (@PySem.Value.type "tuple") none (@PySem.Data.seq (List.toArray []) 0) (List.toArray []))) :: (((nat_lit 164), (@PySem.Obj.mk (@PySem.Value.type "tuple") none (@PySem.Data.seq (List.toArray ((@PySem.Value.str (@PySem.Str.ofString "thing") 387) :: [])) 0) (List.toArray []))) :: (((nat_lit 165), (@PySem.Obj.mk (@PySem.Value.type "tuple") none (@PySem.Data.seq (List.toArray []) 0) (List.toArray []))) :: (((nat_lit 167), (@PySem.Obj.mk (@PySem.Value.type "code") none (@PySem.Data.fields (List.toArray ((@PySem.Value.str (@PySem.Str.ofString "_law_no_key") 384) :: ((@PySem.Value.str (@PySem.Str.ofString "_law_no_key") 385) :: ((@PySem.Value.str (@PySem.Str.ofString "/claim/cut.py") 386) :: ((@PySem.Value.int (86 : Int) 0) :: ((@PySem.Value.int (1 : Int) 0) :: ((@PySem.Value.int (0 : Int) 0) :: ((@PySem.Value.int (0 : Int) 0) :: ((@PySem.Value.int (3 : Int) 0) :: ((@PySem.Value.ref 162) :: ((@PySem.Value.bool @Bool.true) :: ((@PySem.Value.int (181 : Int) 0) :: ((@PySem.Value.ref 163) :: (@PySem.Value.none :: ((@PySem.Value.ref 164) :: ((@PySem.Value.ref 165) :: ((@PySem.Value.ref 166) :: ((@PySem.Value.int (388 : Int) 0) :: ((@PySem.Value.int (86 : Int) 0) :: ((@PySem.Value.str (@PySem.Str.ofString "/claim/cut.py") 389) :: []))))))))))))))))))))) (List.toArray []))) :: (((nat_lit 168), (@PySem.Obj.mk (@PySem.Value.type "function") none (@PySem.Data.func (@PySem.FuncData.mk (@PySem.Str.ofString "_law_no_key") (@PySem.Str.ofString "_law_no_key") par_law_no_key (@PySem.FuncBody.stmts bod_law_no_key) sco_law_no_key 3 [] @PySem.Value.none @PySem.Value.none @PySem.Value.none (@PySem.Value.str (@PySem.Str.ofString "law_et5005_01") 293) none (@PySem.Value.ref 167) @PySem.Value.none 0)) (List.toArray []))) :: (((nat_lit 169), (@PySem.Obj.mk (@PySem.Value.type "tuple") none (@PySem.Data.seq (List.toArray []) 0) (List.toArray []))) :: (((nat_lit 171), (@PySem.Obj.mk (@PySem.Value.type "tuple") none (@PySem.Data.seq (List.toArray ((@PySem.Value.str (@PySem.Str.ofString "script") 394) :: ((@PySem.Value.str (@PySem.Str.ofString "numbers") 395) :: ((@PySem.Value.str (@PySem.Str.ofString "number") 396) :: ((@PySem.Value.str (@PySem.Str.ofString "good") 397) :: ((@PySem.Value.str (@PySem.Str.ofString "one") 398) :: [])))))) 0) (List.toArray []))) :: (((nat_lit 172), (@PySem.Obj.mk (@PySem.Value.type "tuple") none (@PySem.Data.seq (List.toArray []) 0) (List.toArray []))) :: (((nat_lit 174), (@PySem.Obj.mk (@PySem.Value.type "code") none (@PySem.Data.fields (List.toArray ((@PySem.Value.str (@PySem.Str.ofString "law") 391) :: ((@PySem.Value.str (@PySem.Str.ofString "law") 392) :: ((@PySem.Value.str (@PySem.Str.ofString "/claim/cut.py") 393) :: ((@PySem.Value.int (92 : Int) 0) :: ((@PySem.Value.int (1 : Int) 0) :: ((@PySem.Value.int (0 : Int) 0) :: ((@PySem.Value.int (0 : Int) 0) :: ((@PySem.Value.int (3 : Int) 0) :: ((@PySem.Value.ref 169) :: ((@PySem.Value.bool @Bool.true) :: ((@PySem.Value.int (181 : Int) 0) :: ((@PySem.Value.ref 170) :: (@PySem.Value.none :: ((@PySem.Value.ref 171) :: ((@PySem.Value.ref 172) :: ((@PySem.Value.ref 173) :: ((@PySem.Value.int (399 : Int) 0) :: ((@PySem.Value.int (92 : Int) 0) :: ((@PySem.Value.str (@PySem.Str.ofString "/claim/cut.py") 400) :: []))))))))))))))))))))) (List.toArray []))) :: (((nat_lit 175), (@PySem.Obj.mk (@PySem.Value.type "function") none (@PySem.Data.func (@PySem.FuncData.mk (@PySem.Str.ofString "law") (@PySem.Str.ofString "law") par_law (@PySem.FuncBody.stmts bod_law) sco_law 3 [] @PySem.Value.none @PySem.Value.none @PySem.Value.none (@PySem.Value.str (@PySem.Str.ofString "law_et5005_01") 293) none (@PySem.Value.ref 174) @PySem.Value.none 0)) (List.toArray []))) :: []))))))))))))))))))))))))))))))))))))))))))))))))))))))))))))))))))))))))))))))))))))))))))))))))))))))))))
def kAs : List Addr := ((nat_lit 2) :: ((nat_lit 3) :: ((nat_lit 15) :: ((nat_lit 22) :: ((nat_lit 23) :: ((nat_lit 24) :: ((nat_lit 25) :: ((nat_lit 28) :: ((nat_lit 35) :: ((nat_lit 36) :: ((nat_lit 37) :: ((nat_lit 41) :: ((nat_lit 43) :: ((nat_lit 44) :: ((nat_lit 46) :: ((nat_lit 47) :: ((nat_lit 48) :: ((nat_lit 50) :: ((nat_lit 51) :: ((nat_lit 53) :: ((nat_lit 54) :: ((nat_lit 55) :: ((nat_lit 57) :: ((nat_lit 58) :: ((nat_lit 60) :: ((nat_lit 61) :: ((nat_lit 62) :: ((nat_lit 64) :: ((nat_lit 65) :: ((nat_lit 67) :: ((nat_lit 68) :: ((nat_lit 69) :: ((nat_lit 71) :: ((nat_lit 72) :: ((nat_lit 74) :: ((nat_lit 75) :: ((nat_lit 76) :: ((nat_lit 78) :: ((nat_lit 79) :: ((nat_lit 81) :: ((nat_lit 82) :: ((nat_lit 83) :: ((nat_lit 85) :: ((nat_lit 86) :: ((nat_lit 88) :: ((nat_lit 89) :: ((nat_lit 90) :: ((nat_lit 92) :: ((nat_lit 93) :: ((nat_lit 95) :: ((nat_lit 96) :: ((nat_lit 97) :: ((nat_lit 99) :: ((nat_lit 100) :: ((nat_lit 102) :: ((nat_lit 103) :: ((nat_lit 104) :: ((nat_lit 106) :: ((nat_lit 107) :: ((nat_lit 109) :: ((nat_lit 110) :: ((nat_lit 111) :: ((nat_lit 113) :: ((nat_lit 114) :: ((nat_lit 116) :: ((nat_lit 117) :: ((nat_lit 118) :: ((nat_lit 119) :: ((nat_lit 121) :: ((nat_lit 122) :: ((nat_lit 124) :: ((nat_lit 125) :: ((nat_lit 126) :: ((nat_lit 128) :: ((nat_lit 129) :: ((nat_lit 131) :: ((nat_lit 132) :: ((nat_lit 133) :: ((nat_lit 136) :: ((nat_lit 137) :: ((nat_lit 138) :: ((nat_lit 140) :: ((nat_lit 141) :: ((nat_lit 143) :: ((nat_lit 144) :: ((nat_lit 145) :: ((nat_lit 147) :: ((nat_lit 148) :: ((nat_lit 150) :: ((nat_lit 151) :: ((nat_lit 152) :: ((nat_lit 155) :: ((nat_lit 156) :: ((nat_lit 157) :: ((nat_lit 160) :: ((nat_lit 161) :: ((nat_lit 162) :: ((nat_lit 164) :: ((nat_lit 165) :: ((nat_lit 167) :: ((nat_lit 168) :: ((nat_lit 169) :: ((nat_lit 171) :: ((nat_lit 172) :: ((nat_lit 174) :: ((nat_lit 175) :: []))))))))))))))))))))))))))))))))))))))))))))))))))))))))))))))))))))))))))))))))))))))))))))))))))))))))))
theorem kAs_eq (P : Params) : kAs = (K P).map (·.1) := by kernel_rfl
def q : Program := view PySem.Challenge.pw_et5005_01 [1, 2, 3, 5, 6, 7, 8, 9, 10, 12, 13, 14, 15, 16, 17, 18, 19, 20, 21, 22, 23, 24, 25, 26]
def loose : List Str := [(Str.ofString "INVALID_LAYER_NAME_CHARACTERS"), (Str.ofString "_law_more")]
end Mine
namespace Mine
def hLife : Life := (@PySem.Life.mk [] [] [] 0 [] [] @Bool.false (List.toArray []) [] 0 @Bool.false @Bool.false @Bool.false (0 : Int) ((2000 : Int) :: ((10 : Int) :: ((10 : Int) :: []))) @Bool.false 0 @Bool.true [] [] 0 @Bool.false)
def hEnv : Env := { scope := PySem.Challenge.pw_et5005_01.main.scope, locals := mainNs, globals := mainNs, cells := [], code := .ref 13, frame := some 14 }
def hPos : Pos := ⟨0, 0, 0, 0⟩
def hBody : List Stmt := behindTheImports PySem.Challenge.pw_et5005_01
def hCode : Code := .body (behindTheImports PySem.Challenge.pw_et5005_01) hEnv
noncomputable def heapA (P : Params) : Heap := ⟨Array.mk (PySem.W.boot_o_0 P ::
  PySem.W.boot_o_1 P ::
  PySem.W.boot_o_2 P ::
  PySem.W.boot_o_3 P ::
  PySem.W.boot_o_4 P ::
  PySem.W.boot_o_5 P ::
  PySem.W.boot_o_6 P ::
  PySem.W.boot_o_7 P ::
  PySem.W.boot_o_8 P ::
  PySem.W.boot_o_9 P ::
  PySem.W.boot_o_10 P ::
  (@PySem.Obj.mk (@PySem.Value.type "tuple") none (@PySem.Data.seq (List.toArray []) 0) (List.toArray [])) ::
  (@PySem.Obj.mk @PySem.Value.none none (@PySem.Data.fields (List.toArray [])) (List.toArray [])) ::
  (@PySem.Obj.mk (@PySem.Value.type "code") none (@PySem.Data.fields (List.toArray ((@PySem.Value.str (@PySem.Str.ofString "<module>") 182) :: ((@PySem.Value.str (@PySem.Str.ofString "<module>") 183) :: ((@PySem.Value.str (@PySem.Str.ofString "/claim/cut.py") 184) :: ((@PySem.Value.int (1 : Int) 0) :: ((@PySem.Value.int (0 : Int) 0) :: ((@PySem.Value.int (0 : Int) 0) :: ((@PySem.Value.int (0 : Int) 0) :: ((@PySem.Value.int (0 : Int) 0) :: ((@PySem.Value.ref 11) :: ((@PySem.Value.bool @Bool.false) :: ((@PySem.Value.int (181 : Int) 0) :: ((@PySem.Value.ref 12) :: (@PySem.Value.none :: (@PySem.Value.none :: (@PySem.Value.none :: (@PySem.Value.none :: ((@PySem.Value.int (185 : Int) 0) :: ((@PySem.Value.int (1 : Int) 0) :: ((@PySem.Value.str (@PySem.Str.ofString "/claim/cut.py") 186) :: []))))))))))))))))))))) (List.toArray [])) ::
  (@PySem.Obj.mk (@PySem.Value.type "frame") none @PySem.Data.plain (List.toArray ((some (@PySem.Value.ref 13)) :: ((some (@PySem.Value.ref 3)) :: ((some (@PySem.Value.ref 3)) :: (none :: ((some (@PySem.Value.str (@PySem.Str.ofString "__main__") 164)) :: (none :: ((some (@PySem.Value.ref 0)) :: []))))))))) :: []), hLife⟩
def o3x2 (P : Params) : Obj := (@PySem.Obj.mk @PySem.Value.none none (@PySem.Data.dict (List.toArray ((@PySem.DictEntry.mk (@PySem.PyData.keyHash P (@PySem.Str.ofString "type.__subclasses__.Exception.0")) (@PySem.Value.str (@PySem.Str.ofString "type.__subclasses__.Exception.0") 205) (@PySem.Value.int (24 : Int) 0)) :: ((@PySem.DictEntry.mk (@PySem.PyData.keyHash P (@PySem.Str.ofString "type.__subclasses__.Exception.n")) (@PySem.Value.str (@PySem.Str.ofString "type.__subclasses__.Exception.n") 206) (@PySem.Value.int (1 : Int) 0)) :: []))) 2) (List.toArray []))
def o3x3 (P : Params) : Obj := (@PySem.Obj.mk (@PySem.Value.type "dict") none (@PySem.Data.dict (List.toArray ((@PySem.DictEntry.mk (@PySem.PyData.keyHash P (@PySem.Str.ofString "__name__")) (@PySem.Value.str (@PySem.Str.ofString "__name__") 165) (@PySem.Value.str (@PySem.Str.ofString "ezdxf.lldxf.const") 187)) :: ((@PySem.DictEntry.mk (@PySem.PyData.keyHash P (@PySem.Str.ofString "__doc__")) (@PySem.Value.str (@PySem.Str.ofString "__doc__") 166) @PySem.Value.none) :: ((@PySem.DictEntry.mk (@PySem.PyData.keyHash P (@PySem.Str.ofString "__package__")) (@PySem.Value.str (@PySem.Str.ofString "__package__") 167) @PySem.Value.none) :: ((@PySem.DictEntry.mk (@PySem.PyData.keyHash P (@PySem.Str.ofString "__loader__")) (@PySem.Value.str (@PySem.Str.ofString "__loader__") 168) (@PySem.Value.builtin "__main__.__loader__#opaque")) :: ((@PySem.DictEntry.mk (@PySem.PyData.keyHash P (@PySem.Str.ofString "__spec__")) (@PySem.Value.str (@PySem.Str.ofString "__spec__") 169) @PySem.Value.none) :: ((@PySem.DictEntry.mk (@PySem.PyData.keyHash P (@PySem.Str.ofString "__annotations__")) (@PySem.Value.str (@PySem.Str.ofString "__annotations__") 170) (@PySem.Value.ref 6)) :: ((@PySem.DictEntry.mk (@PySem.PyData.keyHash P (@PySem.Str.ofString "__builtins__")) (@PySem.Value.str (@PySem.Str.ofString "__builtins__") 171) (@PySem.Value.ref 4)) :: ((@PySem.DictEntry.mk (@PySem.PyData.keyHash P (@PySem.Str.ofString "__file__")) (@PySem.Value.str (@PySem.Str.ofString "__file__") 173) (@PySem.Value.str (@PySem.Str.ofString "/claim/cut.py") 172)) :: ((@PySem.DictEntry.mk (@PySem.PyData.keyHash P (@PySem.Str.ofString "__cached__")) (@PySem.Value.str (@PySem.Str.ofString "__cached__") 174) @PySem.Value.none) :: ((@PySem.DictEntry.mk (@PySem.PyData.keyHash P (@PySem.Str.ofString "DXFError")) (@PySem.Value.str (@PySem.Str.ofString "DXFError") 208) (@PySem.Value.ref 24)) :: ((@PySem.DictEntry.mk (@PySem.PyData.keyHash P (@PySem.Str.ofString "DXFTypeError")) (@PySem.Value.str (@PySem.Str.ofString "DXFTypeError") 224) (@PySem.Value.ref 37)) :: [])))))))))))) 11) (List.toArray []))
def o3x11 (P : Params) : Obj := (@PySem.Obj.mk (@PySem.Value.type "tuple") none (@PySem.Data.seq (List.toArray []) 0) (List.toArray []))
def o3x12 (P : Params) : Obj := (@PySem.Obj.mk @PySem.Value.none none (@PySem.Data.fields (List.toArray ((@PySem.Value.int (2 : Int) 0) :: ((@PySem.Value.int (0 : Int) 0) :: ((@PySem.Value.ref 20) :: ((@PySem.Value.int (4 : Int) 0) :: ((@PySem.Value.int (0 : Int) 0) :: ((@PySem.Value.ref 33) :: [])))))))) (List.toArray []))
def o3x13 (P : Params) : Obj := (@PySem.Obj.mk (@PySem.Value.type "code") none (@PySem.Data.fields (List.toArray ((@PySem.Value.str (@PySem.Str.ofString "<module>") 182) :: ((@PySem.Value.str (@PySem.Str.ofString "<module>") 183) :: ((@PySem.Value.str (@PySem.Str.ofString "/claim/cut.py") 184) :: ((@PySem.Value.int (1 : Int) 0) :: ((@PySem.Value.int (0 : Int) 0) :: ((@PySem.Value.int (0 : Int) 0) :: ((@PySem.Value.int (0 : Int) 0) :: ((@PySem.Value.int (0 : Int) 0) :: ((@PySem.Value.ref 11) :: ((@PySem.Value.bool @Bool.false) :: ((@PySem.Value.int (181 : Int) 0) :: ((@PySem.Value.ref 12) :: (@PySem.Value.none :: (@PySem.Value.none :: (@PySem.Value.none :: (@PySem.Value.none :: ((@PySem.Value.int (185 : Int) 0) :: ((@PySem.Value.int (1 : Int) 0) :: ((@PySem.Value.str (@PySem.Str.ofString "/claim/cut.py") 186) :: []))))))))))))))))))))) (List.toArray []))
def o3x14 (P : Params) : Obj := (@PySem.Obj.mk (@PySem.Value.type "frame") none @PySem.Data.plain (List.toArray ((some (@PySem.Value.ref 13)) :: ((some (@PySem.Value.ref 3)) :: ((some (@PySem.Value.ref 3)) :: (none :: ((some (@PySem.Value.str (@PySem.Str.ofString "__main__") 164)) :: (none :: ((some (@PySem.Value.ref 0)) :: [])))))))))
def o3x15 (P : Params) : Obj := (@PySem.Obj.mk (@PySem.Value.type "tuple") none (@PySem.Data.seq (List.toArray ((@PySem.Value.type "Exception") :: [])) 0) (List.toArray []))
def o3x16 (P : Params) : Obj := (@PySem.Obj.mk (@PySem.Value.type "builtin_function_or_method") none (@PySem.Data.fields (List.toArray ((@PySem.Value.builtin "type.__prepare__") :: ((@PySem.Value.type "type") :: [])))) (List.toArray []))
def o3x17 (P : Params) : Obj := (@PySem.Obj.mk (@PySem.Value.type "dict") none (@PySem.Data.dict (List.toArray ((@PySem.DictEntry.mk (@PySem.PyData.keyHash P (@PySem.Str.ofString "__module__")) (@PySem.Value.str (@PySem.Str.ofString "__module__") 196) (@PySem.Value.str (@PySem.Str.ofString "ezdxf.lldxf.const") 187)) :: ((@PySem.DictEntry.mk (@PySem.PyData.keyHash P (@PySem.Str.ofString "__qualname__")) (@PySem.Value.str (@PySem.Str.ofString "__qualname__") 198) (@PySem.Value.str (@PySem.Str.ofString "DXFError") 197)) :: ((@PySem.DictEntry.mk (@PySem.PyData.keyHash P (@PySem.Str.ofString "__firstlineno__")) (@PySem.Value.str (@PySem.Str.ofString "__firstlineno__") 200) (@PySem.Value.int (2 : Int) 199)) :: ((@PySem.DictEntry.mk (@PySem.PyData.keyHash P (@PySem.Str.ofString "__static_attributes__")) (@PySem.Value.str (@PySem.Str.ofString "__static_attributes__") 201) (@PySem.Value.ref 22)) :: []))))) 4) (List.toArray []))
def o3x18 (P : Params) : Obj := (@PySem.Obj.mk (@PySem.Value.type "tuple") none (@PySem.Data.seq (List.toArray []) 0) (List.toArray []))
def o3x19 (P : Params) : Obj := (@PySem.Obj.mk @PySem.Value.none none (@PySem.Data.fields (List.toArray [])) (List.toArray []))
def o3x20 (P : Params) : Obj := (@PySem.Obj.mk (@PySem.Value.type "code") none (@PySem.Data.fields (List.toArray ((@PySem.Value.str (@PySem.Str.ofString "DXFError") 191) :: ((@PySem.Value.str (@PySem.Str.ofString "DXFError") 192) :: ((@PySem.Value.str (@PySem.Str.ofString "/claim/cut.py") 193) :: ((@PySem.Value.int (2 : Int) 0) :: ((@PySem.Value.int (0 : Int) 0) :: ((@PySem.Value.int (0 : Int) 0) :: ((@PySem.Value.int (0 : Int) 0) :: ((@PySem.Value.int (0 : Int) 0) :: ((@PySem.Value.ref 18) :: ((@PySem.Value.bool @Bool.false) :: ((@PySem.Value.int (181 : Int) 0) :: ((@PySem.Value.ref 19) :: (@PySem.Value.none :: (@PySem.Value.none :: (@PySem.Value.none :: (@PySem.Value.none :: ((@PySem.Value.int (194 : Int) 0) :: ((@PySem.Value.int (2 : Int) 0) :: ((@PySem.Value.str (@PySem.Str.ofString "/claim/cut.py") 195) :: []))))))))))))))))))))) (List.toArray []))
def o3x21 (P : Params) : Obj := (@PySem.Obj.mk (@PySem.Value.type "frame") none @PySem.Data.plain (List.toArray ((some (@PySem.Value.ref 20)) :: ((some (@PySem.Value.ref 3)) :: ((some (@PySem.Value.ref 17)) :: (none :: ((some (@PySem.Value.str (@PySem.Str.ofString "ezdxf.lldxf.const") 187)) :: (none :: ((some (@PySem.Value.ref 0)) :: [])))))))))
def o3x22 (P : Params) : Obj := (@PySem.Obj.mk (@PySem.Value.type "tuple") none (@PySem.Data.seq (List.toArray []) 0) (List.toArray []))
def o3x23 (P : Params) : Obj := (@PySem.Obj.mk (@PySem.Value.type "dict") none (@PySem.Data.dict (List.toArray ((@PySem.DictEntry.mk (@PySem.PyData.keyHash P (@PySem.Str.ofString "__module__")) (@PySem.Value.str (@PySem.Str.ofString "__module__") 196) (@PySem.Value.str (@PySem.Str.ofString "ezdxf.lldxf.const") 187)) :: ((@PySem.DictEntry.mk (@PySem.PyData.keyHash P (@PySem.Str.ofString "__firstlineno__")) (@PySem.Value.str (@PySem.Str.ofString "__firstlineno__") 200) (@PySem.Value.int (2 : Int) 199)) :: ((@PySem.DictEntry.mk (@PySem.PyData.keyHash P (@PySem.Str.ofString "__static_attributes__")) (@PySem.Value.str (@PySem.Str.ofString "__static_attributes__") 201) (@PySem.Value.ref 22)) :: ((@PySem.DictEntry.mk (@PySem.PyData.keyHash P (@PySem.Str.ofString "__weakref__")) (@PySem.Value.str (@PySem.Str.ofString "__weakref__") 203) (@PySem.Value.ref 25)) :: ((@PySem.DictEntry.mk (@PySem.PyData.keyHash P (@PySem.Str.ofString "__doc__")) (@PySem.Value.str (@PySem.Str.ofString "__doc__") 204) @PySem.Value.none) :: [])))))) 3) (List.toArray []))
def o3x24 (P : Params) : Obj := (@PySem.Obj.mk (@PySem.Value.type "type") none (@PySem.Data.cls (@PySem.ClassData.mk (@PySem.Str.ofString "DXFError") ((@PySem.Value.type "Exception") :: []) ((@PySem.Value.ref 24) :: ((@PySem.Value.type "Exception") :: ((@PySem.Value.type "BaseException") :: ((@PySem.Value.type "object") :: [])))) 23 (@PySem.Str.ofString "DXFError") @Bool.true [] ((@PySem.Value.ref 37) :: []) @Bool.false none @Bool.false)) (List.toArray ((some (@PySem.Value.ref 15)) :: (none :: ((some (@PySem.Value.str (@PySem.Str.ofString "DXFError") 189)) :: ((some (@PySem.Value.str (@PySem.Str.ofString "DXFError") 197)) :: ((some (@PySem.Value.builtin "Exception.__new__")) :: ((some (@PySem.Value.bool @Bool.true)) :: []))))))))
def o3x25 (P : Params) : Obj := (@PySem.Obj.mk (@PySem.Value.type "getset_descriptor") none (@PySem.Data.fields (List.toArray ((@PySem.Value.str (@PySem.Str.ofString "__weakref__") 202) :: ((@PySem.Value.ref 24) :: ((@PySem.Value.builtin "ExceptionGroup.__weakref__") :: (@PySem.Value.none :: [])))))) (List.toArray []))
def o3x26 (P : Params) : Obj := (@PySem.Obj.mk (@PySem.Value.type "super") none (@PySem.Data.fields (List.toArray ((@PySem.Value.ref 24) :: ((@PySem.Value.ref 24) :: ((@PySem.Value.ref 24) :: []))))) (List.toArray []))
def o3x27 (P : Params) : Obj := (@PySem.Obj.mk (@PySem.Value.type "builtin_function_or_method") none (@PySem.Data.fields (List.toArray ((@PySem.Value.builtin "object.__init_subclass__") :: ((@PySem.Value.ref 24) :: [])))) (List.toArray []))
def o3x28 (P : Params) : Obj := (@PySem.Obj.mk (@PySem.Value.type "tuple") none (@PySem.Data.seq (List.toArray ((@PySem.Value.ref 24) :: [])) 0) (List.toArray []))
def o3x29 (P : Params) : Obj := (@PySem.Obj.mk (@PySem.Value.type "builtin_function_or_method") none (@PySem.Data.fields (List.toArray ((@PySem.Value.builtin "type.__prepare__") :: ((@PySem.Value.type "type") :: [])))) (List.toArray []))
def o3x30 (P : Params) : Obj := (@PySem.Obj.mk (@PySem.Value.type "dict") none (@PySem.Data.dict (List.toArray ((@PySem.DictEntry.mk (@PySem.PyData.keyHash P (@PySem.Str.ofString "__module__")) (@PySem.Value.str (@PySem.Str.ofString "__module__") 216) (@PySem.Value.str (@PySem.Str.ofString "ezdxf.lldxf.const") 187)) :: ((@PySem.DictEntry.mk (@PySem.PyData.keyHash P (@PySem.Str.ofString "__qualname__")) (@PySem.Value.str (@PySem.Str.ofString "__qualname__") 218) (@PySem.Value.str (@PySem.Str.ofString "DXFTypeError") 217)) :: ((@PySem.DictEntry.mk (@PySem.PyData.keyHash P (@PySem.Str.ofString "__firstlineno__")) (@PySem.Value.str (@PySem.Str.ofString "__firstlineno__") 220) (@PySem.Value.int (4 : Int) 219)) :: ((@PySem.DictEntry.mk (@PySem.PyData.keyHash P (@PySem.Str.ofString "__static_attributes__")) (@PySem.Value.str (@PySem.Str.ofString "__static_attributes__") 221) (@PySem.Value.ref 35)) :: []))))) 4) (List.toArray []))
def o3x31 (P : Params) : Obj := (@PySem.Obj.mk (@PySem.Value.type "tuple") none (@PySem.Data.seq (List.toArray []) 0) (List.toArray []))
def o3x32 (P : Params) : Obj := (@PySem.Obj.mk @PySem.Value.none none (@PySem.Data.fields (List.toArray [])) (List.toArray []))
def o3x33 (P : Params) : Obj := (@PySem.Obj.mk (@PySem.Value.type "code") none (@PySem.Data.fields (List.toArray ((@PySem.Value.str (@PySem.Str.ofString "DXFTypeError") 211) :: ((@PySem.Value.str (@PySem.Str.ofString "DXFTypeError") 212) :: ((@PySem.Value.str (@PySem.Str.ofString "/claim/cut.py") 213) :: ((@PySem.Value.int (4 : Int) 0) :: ((@PySem.Value.int (0 : Int) 0) :: ((@PySem.Value.int (0 : Int) 0) :: ((@PySem.Value.int (0 : Int) 0) :: ((@PySem.Value.int (0 : Int) 0) :: ((@PySem.Value.ref 31) :: ((@PySem.Value.bool @Bool.false) :: ((@PySem.Value.int (181 : Int) 0) :: ((@PySem.Value.ref 32) :: (@PySem.Value.none :: (@PySem.Value.none :: (@PySem.Value.none :: (@PySem.Value.none :: ((@PySem.Value.int (214 : Int) 0) :: ((@PySem.Value.int (4 : Int) 0) :: ((@PySem.Value.str (@PySem.Str.ofString "/claim/cut.py") 215) :: []))))))))))))))))))))) (List.toArray []))
def o3x34 (P : Params) : Obj := (@PySem.Obj.mk (@PySem.Value.type "frame") none @PySem.Data.plain (List.toArray ((some (@PySem.Value.ref 33)) :: ((some (@PySem.Value.ref 3)) :: ((some (@PySem.Value.ref 30)) :: (none :: ((some (@PySem.Value.str (@PySem.Str.ofString "ezdxf.lldxf.const") 187)) :: (none :: ((some (@PySem.Value.ref 0)) :: [])))))))))
def o3x35 (P : Params) : Obj := (@PySem.Obj.mk (@PySem.Value.type "tuple") none (@PySem.Data.seq (List.toArray []) 0) (List.toArray []))
def o3x36 (P : Params) : Obj := (@PySem.Obj.mk (@PySem.Value.type "dict") none (@PySem.Data.dict (List.toArray ((@PySem.DictEntry.mk (@PySem.PyData.keyHash P (@PySem.Str.ofString "__module__")) (@PySem.Value.str (@PySem.Str.ofString "__module__") 216) (@PySem.Value.str (@PySem.Str.ofString "ezdxf.lldxf.const") 187)) :: ((@PySem.DictEntry.mk (@PySem.PyData.keyHash P (@PySem.Str.ofString "__firstlineno__")) (@PySem.Value.str (@PySem.Str.ofString "__firstlineno__") 220) (@PySem.Value.int (4 : Int) 219)) :: ((@PySem.DictEntry.mk (@PySem.PyData.keyHash P (@PySem.Str.ofString "__static_attributes__")) (@PySem.Value.str (@PySem.Str.ofString "__static_attributes__") 221) (@PySem.Value.ref 35)) :: ((@PySem.DictEntry.mk (@PySem.PyData.keyHash P (@PySem.Str.ofString "__doc__")) (@PySem.Value.str (@PySem.Str.ofString "__doc__") 222) @PySem.Value.none) :: []))))) 2) (List.toArray []))
def o3x37 (P : Params) : Obj := (@PySem.Obj.mk (@PySem.Value.type "type") none (@PySem.Data.cls (@PySem.ClassData.mk (@PySem.Str.ofString "DXFTypeError") ((@PySem.Value.ref 24) :: []) ((@PySem.Value.ref 37) :: ((@PySem.Value.ref 24) :: ((@PySem.Value.type "Exception") :: ((@PySem.Value.type "BaseException") :: ((@PySem.Value.type "object") :: []))))) 36 (@PySem.Str.ofString "DXFTypeError") @Bool.true [] [] @Bool.false none @Bool.false)) (List.toArray ((some (@PySem.Value.ref 28)) :: (none :: ((some (@PySem.Value.str (@PySem.Str.ofString "DXFTypeError") 209)) :: ((some (@PySem.Value.str (@PySem.Str.ofString "DXFTypeError") 217)) :: ((some (@PySem.Value.builtin "Exception.__new__")) :: ((some (@PySem.Value.bool @Bool.true)) :: []))))))))
def o3x38 (P : Params) : Obj := (@PySem.Obj.mk (@PySem.Value.type "super") none (@PySem.Data.fields (List.toArray ((@PySem.Value.ref 37) :: ((@PySem.Value.ref 37) :: ((@PySem.Value.ref 37) :: []))))) (List.toArray []))
def o3x39 (P : Params) : Obj := (@PySem.Obj.mk (@PySem.Value.type "builtin_function_or_method") none (@PySem.Data.fields (List.toArray ((@PySem.Value.builtin "object.__init_subclass__") :: ((@PySem.Value.ref 37) :: [])))) (List.toArray []))
def o4x3 (P : Params) : Obj := (@PySem.Obj.mk (@PySem.Value.type "dict") none (@PySem.Data.dict (List.toArray ((@PySem.DictEntry.mk (@PySem.PyData.keyHash P (@PySem.Str.ofString "__name__")) (@PySem.Value.str (@PySem.Str.ofString "__name__") 165) (@PySem.Value.str (@PySem.Str.ofString "ezdxf.lldxf.const") 187)) :: ((@PySem.DictEntry.mk (@PySem.PyData.keyHash P (@PySem.Str.ofString "__doc__")) (@PySem.Value.str (@PySem.Str.ofString "__doc__") 166) @PySem.Value.none) :: ((@PySem.DictEntry.mk (@PySem.PyData.keyHash P (@PySem.Str.ofString "__package__")) (@PySem.Value.str (@PySem.Str.ofString "__package__") 167) @PySem.Value.none) :: ((@PySem.DictEntry.mk (@PySem.PyData.keyHash P (@PySem.Str.ofString "__loader__")) (@PySem.Value.str (@PySem.Str.ofString "__loader__") 168) (@PySem.Value.builtin "__main__.__loader__#opaque")) :: ((@PySem.DictEntry.mk (@PySem.PyData.keyHash P (@PySem.Str.ofString "__spec__")) (@PySem.Value.str (@PySem.Str.ofString "__spec__") 169) @PySem.Value.none) :: ((@PySem.DictEntry.mk (@PySem.PyData.keyHash P (@PySem.Str.ofString "__annotations__")) (@PySem.Value.str (@PySem.Str.ofString "__annotations__") 170) (@PySem.Value.ref 6)) :: ((@PySem.DictEntry.mk (@PySem.PyData.keyHash P (@PySem.Str.ofString "__builtins__")) (@PySem.Value.str (@PySem.Str.ofString "__builtins__") 171) (@PySem.Value.ref 4)) :: ((@PySem.DictEntry.mk (@PySem.PyData.keyHash P (@PySem.Str.ofString "__file__")) (@PySem.Value.str (@PySem.Str.ofString "__file__") 173) (@PySem.Value.str (@PySem.Str.ofString "/claim/cut.py") 172)) :: ((@PySem.DictEntry.mk (@PySem.PyData.keyHash P (@PySem.Str.ofString "__cached__")) (@PySem.Value.str (@PySem.Str.ofString "__cached__") 174) @PySem.Value.none) :: ((@PySem.DictEntry.mk (@PySem.PyData.keyHash P (@PySem.Str.ofString "DXFError")) (@PySem.Value.str (@PySem.Str.ofString "DXFError") 208) (@PySem.Value.ref 24)) :: ((@PySem.DictEntry.mk (@PySem.PyData.keyHash P (@PySem.Str.ofString "DXFTypeError")) (@PySem.Value.str (@PySem.Str.ofString "DXFTypeError") 224) (@PySem.Value.ref 37)) :: ((@PySem.DictEntry.mk (@PySem.PyData.keyHash P (@PySem.Str.ofString "INVALID_LAYER_NAME_CHARACTERS")) (@PySem.Value.str (@PySem.Str.ofString "INVALID_LAYER_NAME_CHARACTERS") 247) (@PySem.Value.ref 40)) :: []))))))))))))) 12) (List.toArray []))
noncomputable def heap3 (P : Params) : Heap := ⟨Array.mk (PySem.W.boot_o_0 P ::
  PySem.W.boot_o_1 P ::
  o3x2 P ::
  o3x3 P ::
  PySem.W.boot_o_4 P ::
  PySem.W.boot_o_5 P ::
  PySem.W.boot_o_6 P ::
  PySem.W.boot_o_7 P ::
  PySem.W.boot_o_8 P ::
  PySem.W.boot_o_9 P ::
  PySem.W.boot_o_10 P ::
  o3x35 P ::
  o3x12 P ::
  o3x13 P ::
  o3x14 P ::
  o3x15 P ::
  o3x29 P ::
  o3x17 P ::
  o3x35 P ::
  o3x32 P ::
  o3x20 P ::
  o3x21 P ::
  o3x35 P ::
  o3x23 P ::
  o3x24 P ::
  o3x25 P ::
  o3x26 P ::
  o3x27 P ::
  o3x28 P ::
  o3x29 P ::
  o3x30 P ::
  o3x35 P ::
  o3x32 P ::
  o3x33 P ::
  o3x34 P ::
  o3x35 P ::
  o3x36 P ::
  o3x37 P ::
  o3x38 P ::
  o3x39 P :: []), hLife⟩
def setObj (es : Array (Int × Value)) (ep : Nat) (t : SetTable) : Obj := { cls := .type "set", dict := none, data := .set es ep t }
noncomputable def heap3s (P : Params) (es : Array (Int × Value)) (ep : Nat) (t : SetTable) : Heap := ⟨Array.mk (PySem.W.boot_o_0 P ::
  PySem.W.boot_o_1 P ::
  o3x2 P ::
  o3x3 P ::
  PySem.W.boot_o_4 P ::
  PySem.W.boot_o_5 P ::
  PySem.W.boot_o_6 P ::
  PySem.W.boot_o_7 P ::
  PySem.W.boot_o_8 P ::
  PySem.W.boot_o_9 P ::
  PySem.W.boot_o_10 P ::
  o3x35 P ::
  o3x12 P ::
  o3x13 P ::
  o3x14 P ::
  o3x15 P ::
  o3x29 P ::
  o3x17 P ::
  o3x35 P ::
  o3x32 P ::
  o3x20 P ::
  o3x21 P ::
  o3x35 P ::
  o3x23 P ::
  o3x24 P ::
  o3x25 P ::
  o3x26 P ::
  o3x27 P ::
  o3x28 P ::
  o3x29 P ::
  o3x30 P ::
  o3x35 P ::
  o3x32 P ::
  o3x33 P ::
  o3x34 P ::
  o3x35 P ::
  o3x36 P ::
  o3x37 P ::
  o3x38 P ::
  o3x39 P ::
  setObj es ep t :: []), hLife⟩
noncomputable def heap4 (P : Params) (es : Array (Int × Value)) (ep : Nat) (t : SetTable) : Heap := ⟨Array.mk (PySem.W.boot_o_0 P ::
  PySem.W.boot_o_1 P ::
  o3x2 P ::
  o4x3 P ::
  PySem.W.boot_o_4 P ::
  PySem.W.boot_o_5 P ::
  PySem.W.boot_o_6 P ::
  PySem.W.boot_o_7 P ::
  PySem.W.boot_o_8 P ::
  PySem.W.boot_o_9 P ::
  PySem.W.boot_o_10 P ::
  o3x35 P ::
  o3x12 P ::
  o3x13 P ::
  o3x14 P ::
  o3x15 P ::
  o3x29 P ::
  o3x17 P ::
  o3x35 P ::
  o3x32 P ::
  o3x20 P ::
  o3x21 P ::
  o3x35 P ::
  o3x23 P ::
  o3x24 P ::
  o3x25 P ::
  o3x26 P ::
  o3x27 P ::
  o3x28 P ::
  o3x29 P ::
  o3x30 P ::
  o3x35 P ::
  o3x32 P ::
  o3x33 P ::
  o3x34 P ::
  o3x35 P ::
  o3x36 P ::
  o3x37 P ::
  o3x38 P ::
  o3x39 P ::
  setObj es ep t :: []), hLife⟩
abbrev hAnn : Option Value := some (.ref 6)
theorem run_A (w : World) (os : OsState) : topGo treeTable PySem.Challenge.pw_et5005_01 w 11 hAnn 12 ⟨boot_heap w.params, Array.mk [], boot_drawn, boot_toks, os⟩ (topStub PySem.Challenge.pw_et5005_01)
    = some (⟨heapA w.params, Array.mk [], boot_drawn, 187, os⟩, ⟨denote treeTable hCode, hCode, hPos, [topFrame hPos]⟩) := by kernel_rfl
theorem run_B (w : World) (os : OsState) : segRun treeTable PySem.Challenge.pw_et5005_01 w 11 hAnn 1 1 ⟨heapA w.params, Array.mk [], boot_drawn, 187, os⟩ (blockOf (behindTheImports PySem.Challenge.pw_et5005_01) hEnv hCode hPos [topFrame hPos])
    = some (.next, ⟨heapA w.params, Array.mk [], boot_drawn, 187, os⟩, hCode, hPos) := by kernel_rfl
def hPos3 : Pos := ⟨4, 0, 5, 8⟩
theorem run_C (w : World) (os : OsState) : segRun treeTable PySem.Challenge.pw_et5005_01 w 11 hAnn 1 419 ⟨heapA w.params, Array.mk [], boot_drawn, 187, os⟩ (piecesOf (hBody.take 3) hEnv hCode hPos [topFrame hPos])
    = some (.next, ⟨heap3 w.params, Array.mk [], boot_drawn, 225, os⟩, hCode, hPos3) := by kernel_rfl
end Mine
namespace Mine
def hPos4 : Pos := ⟨6, 0, 6, 29⟩
abbrev hXt : Shared → Bool := fun s => xlAt q [] s && recOk (RowW.records PySem.Challenge.rw_et5005_01.row.toRowW) s
noncomputable def looks1 (w : World) (s : Shared) : Bool := staticsOk (importedModules PySem.Challenge.pw_et5005_01.main.body) (boot_heap w.params) s.heap && namesBound PySem.Challenge.pw_et5005_01 s.heap && gensDone s && laidKept (boot_heap w.params) s.heap
theorem run_D (w : World) (os : OsState) (es : Array (Int × Value)) (ep : Nat) (t : SetTable) :
  (topRun treeTable PySem.Challenge.pw_et5005_01 w 11 hAnn 1000 ⟨heap4 w.params es ep t, Array.mk [], boot_drawn, 248, os⟩ (restOf (hBody.drop 4) hEnv hCode hPos4 [topFrame hPos])).map
    (fun s => (looks1 w s, openSeen q loose (importedModules PySem.Challenge.pw_et5005_01.main.body) hXt true s, kAs.map s.heap.get?, s.heap.get? 40)) =
    some (true, openGood q loose, (K w.params).map (fun p => some p.2), some (setObj es ep t)) := by kernel_rfl
end Mine
namespace Mine
/-- a run of one tree at the top, in few steps -/
def Rch {α : Type} (w : World) (k : Nat) (m : Sem α) (p p' : Pos) (s : Shared) (Q : α → Shared → Prop) : Prop :=
  ∃ j, j ≤ k ∧ ∃ a s', Q a s' ∧ ∀ (K : α → Sem Fin) (H : Value → Sem Fin) (gd : Bool → Bool) (lv : List Value → List Value),
    segGo treeTable PySem.Challenge.pw_et5005_01 w 11 hAnn 1 j s ⟨m.wrap K H gd lv, hCode, p, [topFrame hPos]⟩ = some (s', ⟨K a, hCode, p', [topFrame hPos]⟩)
section
variable {α β : Type} {w : World} {p p' p'' : Pos} {s : Shared}
theorem segGo_add {tb : String → Option Builtin} {pr : Program} {n₀ : Nat} {ann : Option Value} {b : Nat} : ∀ (i : Nat) {j : Nat} {s s₁ : Shared} {t t₁ : Thread} {r : Option (Shared × Thread)},
    segGo tb pr w n₀ ann b i s t = some (s₁, t₁) → segGo tb pr w n₀ ann b j s₁ t₁ = r → segGo tb pr w n₀ ann b (i + j) s t = r
  | 0, j, s, s₁, t, t₁, r, h, k => by
    obtain ⟨rfl, rfl⟩ : s = s₁ ∧ t = t₁ := by simpa [segGo] using h
    rw [Nat.zero_add]; exact k
  | i + 1, j, s, s₁, t, t₁, r, h, k => by
    rw [show i + 1 + j = (i + j) + 1 by omega]
    unfold segGo at h ⊢
    cases he : endAt b t with
    | some f => rw [he] at h; cases h
    | none =>
      rw [he] at h
      cases hk : stepOk n₀ ann t with
      | false => rw [hk] at h; cases h
      | true =>
        rw [hk] at h
        cases hs : step (denote tb) pr w s t with
        | halt o s' => rw [hs] at h; cases h
        | go s' t' => rw [hs] at h; exact segGo_add i h k
theorem Rch.kernel {m : Sem α} (j : Nat) {k : Nat} {a : α} {s' : Shared} {Q : α → Shared → Prop}
    (h : ∀ (K : α → Sem Fin) (H : Value → Sem Fin) (gd : Bool → Bool) (lv : List Value → List Value),
      segGo treeTable PySem.Challenge.pw_et5005_01 w 11 hAnn 1 j s ⟨m.wrap K H gd lv, hCode, p, [topFrame hPos]⟩ = some (s', ⟨K a, hCode, p', [topFrame hPos]⟩))
    (hQ : Q a s') (hj : j ≤ k := by decide) : Rch w k m p p' s Q := ⟨j, hj, a, s', hQ, h⟩
theorem Rch.pure {a : α} {Q : α → Shared → Prop} (h : Q a s) : Rch w 0 (Pure.pure a : Sem α) p p s Q := ⟨0, Nat.le_refl _, a, s, h, fun _ _ _ _ => rfl⟩
theorem Rch.mono {k k' : Nat} {m : Sem α} {Q Q' : α → Shared → Prop} (h : Rch w k m p p' s Q) (hk : k ≤ k') (hQ : ∀ a s', Q a s' → Q' a s') : Rch w k' m p p' s Q' :=
  let ⟨j, hj, a, s', q, r⟩ := h; ⟨j, Nat.le_trans hj hk, a, s', hQ _ _ q, r⟩
theorem Rch.bind {i j : Nat} {m : Sem α} {f : α → Sem β} {Q : β → Shared → Prop} (h : Rch w i m p p' s fun a s' => Rch w j (f a) p' p'' s' Q) : Rch w (i + j) (m >>= f) p p'' s Q := by
  obtain ⟨i', hi, a, s', ⟨j', hj, b, s'', q, r'⟩, r⟩ := h
  refine ⟨i' + j', Nat.add_le_add hi hj, b, s'', q, fun K H gd lv => ?_⟩
  rw [Sem.bind_eq_wrap', Sem.wrap_wrap]
  exact segGo_add i' (r _ _ _ _) (r' _ _ _ _)
theorem Rch.holding {k : Nat} {vs : List Value} {m : Sem α} {Q : α → Shared → Prop} (h : Rch w k m p p' s Q) : Rch w k (holding vs m) p p' s Q := by
  unfold PySem.holding
  split
  · exact h
  · obtain ⟨j, hj, a, s', q, r⟩ := h
    refine ⟨j, hj, a, s', q, fun K H gd lv => ?_⟩
    rw [Sem.keep_eq_wrap, Sem.wrap_wrap]
    exact r _ _ _ _
theorem Rch.rule {tag : String} {Q : Unit → Shared → Prop} (h : Q () s) : Rch w 1 (PySem.rule tag) p p s Q := ⟨1, Nat.le_refl _, (), s, h, fun K H gd lv => by obtain ⟨hp, g, d, tk, os⟩ := s; rfl⟩
theorem Rch.at_ {p' : Pos} {Q : Unit → Shared → Prop} (h : Q () s) : Rch w 1 (standAt p') p p' s Q := ⟨1, Nat.le_refl _, (), s, h, fun K H gd lv => by obtain ⟨hp, g, d, tk, os⟩ := s; rfl⟩
theorem Rch.ask_ {Q : Setting → Shared → Prop} (h : Q ⟨PySem.Challenge.pw_et5005_01, w.params⟩ s) : Rch w 1 ask p p s Q := ⟨1, Nat.le_refl _, _, s, h, fun K H gd lv => by obtain ⟨hp, g, d, tk, os⟩ := s; rfl⟩
end
section
variable {w : World} {p : Pos} {os : OsState} {es : Array (Int × Value)} {ep : Nat} {t : SetTable} {tk : Nat}
/-- the state while the set is being filled -/
noncomputable abbrev hS (w : World) (os : OsState) (es : Array (Int × Value)) (ep : Nat) (t : SetTable) (tk : Nat) : Shared := ⟨heap3s w.params es ep t, Array.mk [], boot_drawn, tk, os⟩
theorem Rch.load40 {Q : Obj → Shared → Prop} (h : Q (setObj es ep t) (hS w os es ep t tk)) : Rch w 1 (load 40) p p (hS w os es ep t tk) Q :=
  Rch.kernel 1 (fun K H gd lv => by kernel_rfl) h
theorem Rch.update40 {es' : Array (Int × Value)} {t' : SetTable} {Q : Unit → Shared → Prop} (h : Q () (hS w os es' (ep + 1) t' tk)) : Rch w 1 (update 40 (Obj.putSet es' t')) p p (hS w os es ep t tk) Q :=
  Rch.kernel 1 (fun K H gd lv => by kernel_rfl) h
theorem Rch.store40 {es' : Array (Int × Value)} {t' : SetTable} {Q : Unit → Shared → Prop} (hz : es'.size ≤ sizeLine) (h : Q () (hS w os es' (ep + 1) t' tk)) : Rch w 2 (storeSet 40 es' t') p p (hS w os es ep t tk) Q := by
  unfold storeSet
  refine Rch.bind (i := 1) (j := 1) (Rch.load40 ?_)
  show Rch w 1 (if es'.size > sizeLine then _ else _) _ _ _ _
  rw [if_neg (Nat.not_lt.mpr hz)]
  first | exact Rch.update40 h | exact Rch.bind (i := 0) (j := 1) (Rch.pure (Rch.update40 h))
theorem Rch.state40 {Q : (Array (Int × Value) × Nat × SetTable) → Shared → Prop} (hf : t.fits es.size = true) (h : Q (es, ep, t) (hS w os es ep t tk)) : Rch w 1 (setState 40) p p (hS w os es ep t tk) Q := by
  unfold setState
  refine Rch.bind (i := 1) (j := 0) (Rch.load40 ?_)
  have hc : (t.place.size != es.size || decide (t.fill > t.mask)) = false := by
    simp only [SetTable.fits, Bool.and_eq_true, beq_iff_eq, decide_eq_true_eq] at hf
    simp [hf.1, Nat.not_lt.mpr hf.2]
  show Rch w 0 (if (t.place.size != es.size || decide (t.fill > t.mask)) = true then _ else _) _ _ _ _
  rw [hc]
  exact Rch.pure h
theorem rch_hash0 (w : World) : ∀ (os : OsState) (es : Array (Int × Value)) (ep : Nat) (t : SetTable) (tk u : Nat) (x : Str) (p : Pos) (K : Int → Sem Fin) (H : Value → Sem Fin) (gd : Bool → Bool) (lv : List Value → List Value),
    segGo treeTable PySem.Challenge.pw_et5005_01 w 11 hAnn 1 7 (hS w os es ep t tk) ⟨(pyHash (.str x u)).wrap K H gd lv, hCode, p, [topFrame hPos]⟩ = some (hS w os es ep t (tk + 1), ⟨K (hashStr w x), hCode, p, [topFrame hPos]⟩) :=
  byRow2 "special-get-raises" (P := fun w => ∀ (os : OsState) (es : Array (Int × Value)) (ep : Nat) (t : SetTable) (tk u : Nat) (x : Str) (p : Pos) (K : Int → Sem Fin) (H : Value → Sem Fin) (gd : Bool → Bool) (lv : List Value → List Value),
    segGo treeTable PySem.Challenge.pw_et5005_01 w 11 hAnn 1 7 (hS w os es ep t tk) ⟨(pyHash (.str x u)).wrap K H gd lv, hCode, p, [topFrame hPos]⟩ = some (hS w os es ep t (tk + 1), ⟨K (hashStr w x), hCode, p, [topFrame hPos]⟩))
    (fun w os es ep t tk u x p K H gd lv => by kernel_rfl) (fun w os es ep t tk u x p K H gd lv => by kernel_rfl) w
theorem Rch.hash {x : Str} {u : Nat} {Q : Int → Shared → Prop} (h : Q (hashStr w x) (hS w os es ep t (tk + 1))) : Rch w 7 (pyHash (.str x u)) p p (hS w os es ep t tk) Q :=
  Rch.kernel 7 (fun K H gd lv => rch_hash0 w os es ep t tk u x p K H gd lv) h
end
end Mine
namespace Mine
section
variable {w : World} {p : Pos} {os : OsState} {es : Array (Int × Value)} {ep : Nat} {t : SetTable} {tk : Nat}
abbrev hKnd (w : World) := PySem.strKind PySem.Challenge.pw_et5005_01 w
/-- what is known of the set's entries -/
def SetIs (w : World) (es : Array (Int × Value)) (t : SetTable) (S : Str → Bool) : Prop :=
  ElemsOf (hKnd w) es.toList ∧ (∀ k, S k = true ↔ ∃ e ∈ es.toList, (hKnd w).is k e.2 = true) ∧ t.fits es.size = true
theorem Rch.gave {b : Bool} {s : Shared} {Q : Unit → Shared → Prop} (h : Q () s) : Rch w 1 (match b with | true => PySem.rule "set.scan.the-table-gave-way" | false => Pure.pure () : Sem Unit) p p s Q := by
  cases b
  · exact (Rch.pure h).mono (Nat.zero_le _) fun _ _ x => x
  · exact Rch.rule h
theorem isStr_all (h : ElemsOf (hKnd w) es.toList) : es.all (fun e => isExactStrKey e.2) = true := by
  rw [← Array.all_toList, List.all_eq_true]
  intro e he
  obtain ⟨⟨k, hk, _⟩, _⟩ := h e he
  obtain ⟨u, hu⟩ := Value.isStrOf_shape hk
  rw [hu]; rfl
theorem rch_add {x : Str} {u : Nat} {S : Str → Bool} {Q : Bool → Shared → Prop} (I : SetIs w es t S) (hx : S x = false) (hn : es.size < 100)
    (h : ∀ es' ep' t', SetIs w es' t' (fun k => S k || decide (k = x)) → es'.size = es.size + 1 → Q true (hS w os es' ep' t' (tk + 1))) :
    Rch w 20 (setAdd 40 (.str x u)) p p (hS w os es ep t tk) Q := by
  obtain ⟨hel, hmem, hf⟩ := I
  unfold setAdd
  refine Rch.holding (Rch.bind (p' := p) (i := 7) (j := 13) (Rch.hash ?_))
  unfold setAddHashed setAddHashedIn
  refine Rch.holding (Rch.bind (p' := p) (i := 1) (j := 12) (Rch.state40 hf ?_))
  dsimp only
  rw [byScan_of (knd := hKnd w) rfl (by have : scanBound = 4096 := rfl; omega) hel]
  simp only [↓reduceIte]
  unfold setAddByScan
  refine Rch.bind (p' := p) (i := 12) (j := 0) ?_
  refine Rch.bind (p' := p) (i := 1) (j := 11) (Rch.rule ?_)
  have hnone : es.findIdx? (fun e => e.2.isStr x) = none := by
    rw [show es.findIdx? (fun e => e.2.isStr x) = es.toList.findIdx? (fun e => e.2.isStr x) by cases es; simp]
    refine List.findIdx?_eq_none_iff.mpr fun e he => ?_
    cases hq : e.2.isStr x with
    | false => rfl
    | true =>
      have : (hKnd w).is x e.2 = true := by rw [(hKnd w).strs x x u e.2 (strKind_is _ _ _ _)]; exact hq
      have := (hmem x).mpr ⟨e, he, this⟩
      rw [hx] at this; cases this
  have hscan : setScan 40 (.str x u) (hashStr w x) true es = pure .absent := by
    show (if es.all (fun e => isExactStrKey e.2) = true then _ else _) = _
    rw [if_pos (isStr_all hel)]
    unfold setScanStrs
    rw [hnone]
  rw [hscan]
  refine Rch.bind (p' := p) (i := 0) (j := 11) (Rch.pure ?_)
  dsimp only
  have hperm := layNew_perm t es (hashStr w x) (.str x u)
  have hfits := layNew_fits t es (hashStr w x) (.str x u)
  generalize hL : layNew t es (hashStr w x) (.str x u) = L at hperm hfits ⊢
  obtain ⟨es1, t1, wasDummy, gave⟩ := L
  dsimp only at hperm hfits ⊢
  rw [Array.toList_push] at hperm
  have hel1 : ElemsOf (hKnd w) es1.toList := (hel.push (strKind_is _ _ _ _) rfl).perm hperm
  have hmem1 : ∀ k', (S k' || decide (k' = x)) = true ↔ ∃ e ∈ es1.toList, (hKnd w).is k' e.2 = true := mem_push_iff (strKind_is _ _ _ _) hmem hperm
  have hsz1 : es1.size = es.size + 1 := by rw [← Array.length_toList, hperm.length_eq, List.length_append, Array.length_toList]; rfl
  have hz : ∀ n, n < 200 → n ≤ sizeLine := fun n hn => by rw [sizeLine_eq]; omega
  refine Rch.bind (p' := p) (i := 1) (j := 10) (Rch.gave ?_)
  have main : ∀ t2 : SetTable, t2.fits es1.size = true → Rch w 10 (do
        storeSet 40 es1 t2
        if (!wasDummy && t2.tooFull) = true then do
            (match (relayAll t2 es1 (SetTable.grown es1.size)).2.2 with | true => rule "set.scan.the-table-gave-way" | false => pure ())
            storeSet 40 (relayAll t2 es1 (SetTable.grown es1.size)).1 (relayAll t2 es1 (SetTable.grown es1.size)).2.1
            pure (some true)
          else pure (some true)) p p (hS w os es ep t (tk + 1)) (fun a s' => Rch w 0 (match a with | some added => pure added | none => setAddHashedIn 40 (.str x u) (hashStr w x) 99999) p p s' Q) := by
    intro t2 hf2
    refine Rch.bind (p' := p) (i := 2) (j := 8) (Rch.store40 (hz _ (by omega)) ?_)
    split
    · have hp := relayAll_perm t2 es1 (SetTable.grown es1.size)
      have hfr := relayAll_fits t2 es1 (SetTable.grown es1.size)
      generalize hRl : relayAll t2 es1 (SetTable.grown es1.size) = Rl at hp hfr ⊢
      obtain ⟨es2, t3, gave2⟩ := Rl
      dsimp only at hp hfr ⊢
      have hel2 : ElemsOf (hKnd w) es2.toList := hel1.perm hp
      have hmem2 : ∀ k', (S k' || decide (k' = x)) = true ↔ ∃ e ∈ es2.toList, (hKnd w).is k' e.2 = true := fun k' => (hmem1 k').trans ⟨fun ⟨e, he, q⟩ => ⟨e, hp.mem_iff.mpr he, q⟩, fun ⟨e, he, q⟩ => ⟨e, hp.mem_iff.mp he, q⟩⟩
      have hsz : es2.size = es1.size := by rw [← Array.length_toList, hp.length_eq, Array.length_toList]
      refine Rch.bind (p' := p) (i := 1) (j := 7) (Rch.gave ?_)
      refine Rch.bind (p' := p) (i := 2) (j := 5) (Rch.store40 (hz _ (by omega)) ?_)
      exact (Rch.pure (Rch.pure (h _ _ _ ⟨hel2, hmem2, hfr⟩ (by omega)))).mono (by omega) fun _ _ x => x
    · exact (Rch.pure (Rch.pure (h _ _ _ ⟨hel1, hmem1, hf2⟩ hsz1))).mono (by omega) fun _ _ x => x
  split
  · refine Rch.bind (p' := p) (i := 0) (j := 10) ?_
    rw [hashByValue_scannable 8 rfl]
    refine Rch.pure ?_
    refine main _ ?_
    split
    · exact hfits
    · exact SetTable.fits_plain_off hfits
  · refine Rch.bind (p' := p) (i := 0) (j := 10) (Rch.pure ?_)
    simp only [↓reduceIte]
    exact main _ hfits
end
end Mine
namespace Mine
section
variable {w : World} {p : Pos} {os : OsState} {es : Array (Int × Value)} {ep : Nat} {t : SetTable} {tk : Nat}
theorem Rch.unled {S : Str → Bool} {Q : Unit → Shared → Prop} (I : SetIs w es t S) (hn : es.size < 100) (h : ∀ ep' t', SetIs w es t' S → Q () (hS w os es ep' t' tk)) : Rch w 3 (setUnled 40) p p (hS w os es ep t tk) Q := by
  obtain ⟨hel, hmem, hf⟩ := I
  unfold setUnled
  refine Rch.bind (p' := p) (i := 1) (j := 2) (Rch.state40 hf ?_)
  exact Rch.store40 (by rw [sizeLine_eq]; omega) (h _ _ ⟨hel, hmem, by cases t; exact hf⟩)
def badList : List Str := ["<", ">", "/", "\\", "\"", ":", ";", "?", "*", "=", "`"]
def badSet (k : Str) : Bool := badList.contains k
theorem rch_fill {f : Value → PUnit → Sem (ForInStep PUnit)} (hf : f = fun x _ => (do let _ ← setAdd 40 x; pure (ForInStep.yield PUnit.unit))) {Q : PUnit → Shared → Prop} :
    ∀ (xs : List (Str × Nat)) (es : Array (Int × Value)) (ep : Nat) (t : SetTable) (tk : Nat) (S : Str → Bool), SetIs w es t S → es.size + xs.length < 90 → (∀ x ∈ xs, S x.1 = false) → (xs.map (·.1)).Nodup →
      (∀ es' ep' t' S', SetIs w es' t' S' → es'.size = es.size + xs.length → (∀ k, S' k = (S k || (xs.map (·.1)).contains k)) → Q PUnit.unit (hS w os es' ep' t' (tk + xs.length))) →
      Rch w (20 * xs.length) (forIn (xs.map fun x => Value.str x.1 x.2) PUnit.unit f) p p (hS w os es ep t tk) Q
  | [], es, ep, t, tk, S, I, _, _, _, h => by
    rw [List.map_nil, List.forIn_nil]
    exact Rch.pure (h es ep t S I rfl fun k => by simp)
  | x :: xs, es, ep, t, tk, S, I, hn, hx, hd, h => by
    rw [List.map_cons, List.forIn_cons]
    rw [show 20 * (x :: xs).length = (20 + 0) + 20 * xs.length by simp only [List.length_cons]; omega]
    simp only [List.length_cons] at hn
    refine Rch.bind (p' := p) ?_
    rw [hf]
    refine Rch.bind (p' := p) (rch_add I (hx x (.head _)) (by omega) fun es' ep' t' I' hz' => Rch.pure ?_)
    rw [List.map_cons, List.nodup_cons] at hd
    refine rch_fill rfl xs es' ep' t' (tk + 1) _ I' (by omega) (fun y hy => ?_) hd.2 fun es2 ep2 t2 S2 I2 hz2 hS2 => ?_
    · have hne : y.1 ≠ x.1 := fun e => hd.1 (e ▸ List.mem_map_of_mem hy)
      rw [hx y (.tail _ hy)]
      simp [hne]
    · have := h es2 ep2 t2 S2 I2 (by simp only [List.length_cons]; omega) fun k => by
        rw [hS2 k, List.map_cons, List.contains_cons, Bool.or_assoc]
        congr 1
      rw [show tk + (x :: xs).length = tk + 1 + xs.length by simp only [List.length_cons]; omega] at this
      exact this
theorem rch_new (w : World) (os : OsState) (tk : Nat) (p : Pos) {Q : Value → Shared → Prop} (h : ∀ led, Q (.ref 40) (hS w os #[] 0 (.fresh 0 0 led) tk)) : Rch w 2 (newSet (.type "set")) p p ⟨heap3 w.params, Array.mk [], boot_drawn, tk, os⟩ Q :=
  Rch.kernel 2 (a := .ref 40) (s' := hS w os #[] 0 (.fresh 0 0 (!w.params.followText "set-order")) tk) (fun K H gd lv => by kernel_rfl) (h _)
end
def setToks : List (Str × Nat) := badList.zipIdx 225
theorem rch_consts (w : World) (os : OsState) (es : Array (Int × Value)) (ep : Nat) (t : SetTable) (p : Pos) {Q : List Value → Shared → Prop} (elts : List PySem.Expr) (pos : Pos) (he : c3 = .Assign [.Name "INVALID_LAYER_NAME_CHARACTERS" hPos4] (.Set elts 0 ⟨6, 32, 6, 88⟩) ⟨6, 0, 6, 88⟩)
    (h : Q (setToks.map fun x => Value.str x.1 x.2) (hS w os es ep t 236)) :
    Rch w 60 (evalAll ((evalEach elts hEnv).map fun t => do let v ← t; standAt ⟨6, 32, 6, 88⟩; pure v)) p ⟨6, 32, 6, 88⟩ (hS w os es ep t 225) Q := by
  injection he with _ he _
  injection he with he _ _
  subst he
  exact Rch.kernel 22 (fun K H gd lv => by kernel_rfl) h
end Mine
namespace Mine
def C3is (elts : List PySem.Expr) : Prop := c3 = .Assign [.Name "INVALID_LAYER_NAME_CHARACTERS" hPos4] (.Set elts 0 ⟨6, 32, 6, 88⟩) ⟨6, 0, 6, 88⟩
theorem c3_form : ∃ elts, C3is elts := ⟨_, rfl⟩
theorem c3_facts {elts : List PySem.Expr} (he : C3is elts) : displayRoad 0 elts = .unsure ∧ elts.all kdsPlain = true ∧ elts.length = 11 := by
  injection he with _ he _
  injection he with he _ _
  subst he
  exact ⟨by kernel_rfl, by kernel_rfl, by kernel_rfl⟩
theorem rch_main (w : World) (os : OsState) (tk : Nat) (p : Pos) {Q : Bool → Shared → Prop} (h : ∀ b, Q b ⟨heap3 w.params, Array.mk [], boot_drawn, tk, os⟩) : Rch w 2 (inMainModule hEnv) p p ⟨heap3 w.params, Array.mk [], boot_drawn, tk, os⟩ Q :=
  Rch.kernel 2 (a := true) (s' := ⟨heap3 w.params, Array.mk [], boot_drawn, tk, os⟩) (fun K H gd lv => by kernel_rfl) (h _)
theorem rch_display (w : World) (os : OsState) (b : Bool) {elts : List PySem.Expr} (he : C3is elts) (p : Pos) {Q : Value → Shared → Prop}
    (h : ∀ es ep t S, SetIs w es t S → es.size = 11 → (∀ k, S k = badSet k) → Q (.ref 40) (hS w os es ep t 247)) :
    Rch w 600 (setDisplay (displayRoad 0 elts) b ((starEach elts hEnv).map fun (star, t) => (star, do let v ← t; standAt ⟨6, 32, 6, 88⟩; pure v))) p ⟨6, 32, 6, 88⟩ ⟨heap3 w.params, Array.mk [], boot_drawn, 225, os⟩ Q := by
  obtain ⟨h1, h2, h3⟩ := c3_facts he
  rw [h1, kds_star elts h2, List.map_map]
  have hlen : (List.map ((fun (x : Bool × Sem Value) => (x.1, do let v ← x.2; standAt ⟨6, 32, 6, 88⟩; pure v)) ∘ fun t => (false, t)) (evalEach elts hEnv)).length = 11 := by rw [List.length_map, kds_len, h3]
  have hs : (List.map ((fun (x : Bool × Sem Value) => (x.1, do let v ← x.2; standAt ⟨6, 32, 6, 88⟩; pure v)) ∘ fun t => (false, t)) (evalEach elts hEnv)).findIdx? (·.1) = none :=
    List.findIdx?_eq_none_iff.mpr fun x hx => by
      obtain ⟨t, _, rfl⟩ := List.mem_map.mp hx
      rfl
  have hm : (List.map ((fun (x : Bool × Sem Value) => (x.1, do let v ← x.2; standAt ⟨6, 32, 6, 88⟩; pure v)) ∘ fun t => (false, t)) (evalEach elts hEnv)).map (·.2) = (evalEach elts hEnv).map (fun t => (do let v ← t; standAt ⟨6, 32, 6, 88⟩; pure v)) := by
    rw [List.map_map]; rfl
  generalize List.map ((fun (x : Bool × Sem Value) => (x.1, do let v ← x.2; standAt ⟨6, 32, 6, 88⟩; pure v)) ∘ fun t => (false, t)) (evalEach elts hEnv) = els at hlen hs hm ⊢
  have hn : (if els.length > 30 then 0 else (els.findIdx? (·.1)).getD els.length) = els.length := by rw [if_neg (by omega), hs]; rfl
  unfold setDisplay
  try dsimp only
  rw [if_neg (by decide)]
  refine Rch.bind (p' := p) (i := 2) (j := 598) (rch_new w os 225 p fun led => ?_)
  dsimp only
  rw [hn, List.take_length, List.drop_length, hm]
  refine Rch.bind (p' := ⟨6, 32, 6, 88⟩) (i := 598) (j := 0) ?_
  refine Rch.holding ?_
  refine Rch.bind (p' := ⟨6, 32, 6, 88⟩) (i := 60) (j := 538) (rch_consts w os _ _ _ p elts hPos he ?_)
  refine Rch.bind (p' := ⟨6, 32, 6, 88⟩) (i := 538) (j := 0) (Rch.holding ?_)
  refine Rch.bind (p' := ⟨6, 32, 6, 88⟩) (i := 20 * setToks.length) (j := 538 - 20 * setToks.length) ?_
  refine rch_fill rfl setToks #[] 0 _ 236 (fun _ => false) ⟨fun e he => by simp at he, fun k => by simp, rfl⟩ (by decide) (fun _ _ => rfl) (by decide +kernel) fun es' ep' t' S' I' hz' hS' => ?_
  rw [if_pos (show (DisplayRoad.unsure == DisplayRoad.unsure) = true from by decide)]
  have hz11 : es'.size = 11 := hz'
  refine Rch.mono (k := 1 + 3) (Q := _) (Rch.bind (p' := ⟨6, 32, 6, 88⟩) (i := 1) (j := 3) (Rch.rule ?_)) (by decide) fun _ _ x => x
  refine Rch.unled I' (by omega) fun ep2 t2 I2 => ?_
  rw [List.forIn_nil]
  refine Rch.bind (p' := ⟨6, 32, 6, 88⟩) (i := 0) (j := 0) (Rch.pure (Rch.pure (Rch.pure ?_)))
  refine h _ _ _ _ I2 hz11 fun k => ?_
  rw [hS' k]
  rfl
theorem rch_c3 (w : World) (os : OsState) (p : Pos) : Rch w 700 (exec c3 hEnv) p hPos4 ⟨heap3 w.params, Array.mk [], boot_drawn, 225, os⟩
    (fun fl s' => fl = .next ∧ ∃ es ep t, SetIs w es t badSet ∧ es.size = 11 ∧ s' = ⟨heap4 w.params es ep t, Array.mk [], boot_drawn, 248, os⟩) := by
  obtain ⟨elts, he⟩ := c3_form
  have he' := he
  unfold C3is at he'
  rw [he', arm_exec_Assign]
  refine Rch.bind (p' := ⟨6, 0, 6, 88⟩) (i := 1) (j := 699) (Rch.at_ ?_)
  rw [show swapsWithSole [.Name "INVALID_LAYER_NAME_CHARACTERS" hPos4] (.Set elts 0 ⟨6, 32, 6, 88⟩) (⟨6, 0, 6, 88⟩ : Pos).line hEnv = pure false from rfl]
  refine Rch.bind (p' := ⟨6, 0, 6, 88⟩) (i := 0) (j := 699) (Rch.pure ?_)
  rw [if_neg Bool.false_ne_true, arm_eval_Set]
  refine Rch.bind (p' := ⟨6, 32, 6, 88⟩) (i := 603) (j := 96) ?_
  refine Rch.bind (p' := ⟨6, 32, 6, 88⟩) (i := 1) (j := 602) (Rch.at_ ?_)
  refine Rch.bind (p' := ⟨6, 32, 6, 88⟩) (i := 2) (j := 600) (rch_main w os 225 _ fun b => ?_)
  refine rch_display w os b he _ fun es ep t S I hz hS => ?_
  rw [show swappedStores [.Name "INVALID_LAYER_NAME_CHARACTERS" hPos4] (.Set elts 0 ⟨6, 32, 6, 88⟩) hEnv = pure none from rfl]
  refine Rch.bind (p' := ⟨6, 32, 6, 88⟩) (i := 0) (j := 96) (Rch.pure ?_)
  have hSS : S = badSet := funext hS
  subst hSS
  exact Rch.kernel 7 (a := .next) (s' := ⟨heap4 w.params es ep t, Array.mk [], boot_drawn, 248, os⟩) (fun K H gd lv => by kernel_rfl) ⟨rfl, es, ep, t, I, hz, rfl⟩
end Mine
namespace Mine
theorem run_c3 (w : World) (os : OsState) : ∃ n, n ≤ 701 ∧ ∃ es ep t, SetIs w es t badSet ∧ es.size = 11 ∧
    segRun treeTable PySem.Challenge.pw_et5005_01 w 11 hAnn 1 n ⟨heap3 w.params, Array.mk [], boot_drawn, 225, os⟩ (pieceOf c3 hEnv hCode hPos3 [topFrame hPos]) = some (.next, ⟨heap4 w.params es ep t, Array.mk [], boot_drawn, 248, os⟩, hCode, hPos4) := by
  obtain ⟨j, hj, fl, s', ⟨rfl, es, ep, t, I, hz, rfl⟩, r⟩ := rch_c3 w os hPos3
  exact ⟨j + 1, by omega, es, ep, t, I, hz, seg_go (N := 1) (r _ _ _ _) rfl⟩
theorem body_split : behindTheImports PySem.Challenge.pw_et5005_01 = hBody.take 3 ++ c3 :: hBody.drop 4 := by kernel_rfl
theorem boot_sizes (w : World) : ((boot_heap w.params).isNs mainGlobals && (Array.mk ([] : List GenState)).size == 0, (boot_heap w.params).objs.size, (boot_heap w.params).nsMap mainGlobals "__annotations__") = (true, 11, hAnn) := by kernel_rfl
theorem h_open (w : World) : (fencedOpening treeTable PySem.Challenge.pw_et5005_01 w 4000).map (fun s => (s.heap, s.gens, s.drawn, s.toks)) = some (boot_heap w.params, Array.mk [], boot_drawn, boot_toks) :=
  boot_open (by kernel_rfl) (by decide) (fun s => by kernel_rfl) w
theorem run_top (w : World) (os : OsState) : ∃ s₁ es ep t, SetIs w es t badSet ∧ es.size = 11 ∧ topRun treeTable PySem.Challenge.pw_et5005_01 w 11 hAnn 4000 ⟨boot_heap w.params, Array.mk [], boot_drawn, boot_toks, os⟩ (topStub PySem.Challenge.pw_et5005_01) = some s₁ ∧
    looks1 w s₁ = true ∧ openSeen q loose (importedModules PySem.Challenge.pw_et5005_01.main.body) hXt true s₁ = openGood q loose ∧ kAs.map s₁.heap.get? = (K w.params).map (fun p => some p.2) ∧ s₁.heap.get? 40 = some (setObj es ep t) := by
  obtain ⟨n, hn, es, ep, t, I, hz, hc⟩ := run_c3 w os
  obtain ⟨s₁, hD, hL⟩ := Option.map_eq_some_iff.mp (run_D w os es ep t)
  obtain ⟨l1, l2, l3, l4⟩ : looks1 w s₁ = true ∧ openSeen q loose (importedModules PySem.Challenge.pw_et5005_01.main.body) hXt true s₁ = openGood q loose ∧ kAs.map s₁.heap.get? = (K w.params).map (fun p => some p.2) ∧ s₁.heap.get? 40 = some (setObj es ep t) := by
    simpa only [Prod.mk.injEq] using hL
  refine ⟨s₁, es, ep, t, I, hz, ?_, l1, l2, l3, l4⟩
  have k3 := piece_cons hc hD
  have k2 := piece_app (run_C w os) k3
  rw [← body_split] at k2
  have k1 := piece_block (run_B w os) k2
  have k0 := go_top (run_A w os) k1
  have := topRun_mono (4000 - (12 + (1 + (419 + (n + 1000))))) _ _ _ _ k0
  rw [show 12 + (1 + (419 + (n + 1000))) + (4000 - (12 + (1 + (419 + (n + 1000))))) = 4000 by omega] at this
  exact this
theorem tf_of (w : World) (os : OsState) (s₁ : Shared) (r : topRun treeTable PySem.Challenge.pw_et5005_01 w 11 hAnn 4000 ⟨boot_heap w.params, Array.mk [], boot_drawn, boot_toks, os⟩ (topStub PySem.Challenge.pw_et5005_01) = some s₁) (l1 : looks1 w s₁ = true) :
    topFrom treeTable PySem.Challenge.pw_et5005_01 w 4000 ⟨boot_heap w.params, Array.mk [], boot_drawn, boot_toks, os⟩ = some s₁ := by
  obtain ⟨z1, z2, z3⟩ : _ ∧ _ ∧ _ := by simpa only [Prod.mk.injEq] using boot_sizes w
  unfold topFrom
  dsimp only
  rw [z1, z2, z3, r]
  unfold looks1 at l1
  simp only [Option.bind_some]
  rw [l1]
theorem open_ex (w : World) : ∃ os, fencedOpening treeTable PySem.Challenge.pw_et5005_01 w 4000 = some ⟨boot_heap w.params, Array.mk [], boot_drawn, boot_toks, os⟩ := by
  obtain ⟨⟨h, gs, d, k, os⟩, e, e'⟩ := Option.map_eq_some_iff.mp (h_open w)
  simp only [Prod.mk.injEq] at e'
  obtain ⟨rfl, rfl, rfl, rfl⟩ := e'
  exact ⟨os, e⟩
theorem ends_of (w : World) (s s₁ : Shared) (e : fencedOpening treeTable PySem.Challenge.pw_et5005_01 w 4000 = some s) (tf : topFrom treeTable PySem.Challenge.pw_et5005_01 w 4000 s = some s₁) : openEnds treeTable PySem.Challenge.pw_et5005_01 w 4000 = some s₁ := by
  unfold openEnds
  rw [e]
  exact tf
theorem map_of {α β γ δ : Type} (f : α → β) (g : α → γ) (k : α → δ) {o : Option α} {a : α} {b : β} {c : γ} {d : δ} (e : o = some a) (h1 : f a = b) (h2 : g a = c) (h3 : k a = d) : o.map (fun s => (f s, (g s, k s))) = some (b, (c, d)) := by
  subst e h1 h2 h3
  rfl
theorem head_ex (w : World) : ∃ o : Obj, o.SetObjOf (hKnd w) badSet 11 ∧ (openEnds treeTable PySem.Challenge.pw_et5005_01 w 4000).map (fun s => (openSeen q loose (importedModules PySem.Challenge.pw_et5005_01.main.body) hXt true s, (kAs.map s.heap.get?, s.heap.get? 40))) =
    some (openGood q loose, ((K w.params).map (fun p => some p.2), some o)) := by
  obtain ⟨os, e⟩ := open_ex w
  obtain ⟨s₁, es, ep, t, I, hz, r, l1, l2, l3, l4⟩ := run_top w os
  refine ⟨setObj es ep t, ⟨⟨rfl, rfl, rfl⟩, es, ep, t, rfl, I.1, I.2.1, hz, I.2.2⟩, ?_⟩
  exact map_of (fun s => openSeen q loose (importedModules PySem.Challenge.pw_et5005_01.main.body) hXt true s) (fun s => kAs.map s.heap.get?) (fun s => s.heap.get? 40) (ends_of w _ s₁ e (tf_of w os s₁ r l1)) l2 l3 l4
noncomputable def setO (w : World) : Obj := (head_ex w).choose
theorem setO_is (w : World) : (setO w).SetObjOf (hKnd w) badSet 11 := (head_ex w).choose_spec.1
noncomputable def hHook : Hook where
  α := List (Option Obj) × Option Obj
  obs := fun s => (kAs.map s.heap.get?, s.heap.get? 40)
  val := fun w => ((K w.params).map (fun p => some p.2), some (setO w))
  says := fun w h => InK K w h ∧ h.get? 40 = some (setO w)
  of := fun w s x => ⟨InK.of kAs_eq w s (congrArg Prod.fst x), congrArg Prod.snd x⟩
  keeps := fun w h h' x k => ⟨InK.keeps w h h' x.1 k, k _ _ x.2⟩
theorem h_left : LeftO PySem.Challenge.pw_et5005_01 q loose hXt (Hook.obs hHook) (Hook.val hHook) 4000 := fun w => (head_ex w).choose_spec.2
end Mine
namespace Mine
/-- what a call of the def at f with these values hands back, wherever it is called from -/
def Ct (lv : Nat) (w : World) (f : Addr) (vs : List Value) (R : Tok → Value) : Prop :=
  ∀ (mean : ExcName → Option Value) (mg mb : Str → Option Value) (news : List (Addr × Obj)) (dp un : Nat) (gd : Option (List Code)) (cn : Str) (cs : Scope) (a : Addr) (ccd : Value) (cl : List (Str × Addr)) (outer : List Env) (A₀ : Around) (base h₀ : Heap) (L : Addr) (m : Str → Option Value) (s : Shared) (Q E : Value → Shared → Prop),
    Below A₀ base outer h₀ → Fr h₀ L s.heap m → (K w.params).In h₀ → h₀.get? 40 = some (setO w) → News h₀ L s.heap news → Top q (looseW q loose) mean mg mb h₀ → cs.kind = .function → dp + lv < recursionLimit → un + 20 * lv < cLine →
    CbRet h₀ L m news s Q R → wpAny (model PySem.Challenge.pw_et5005_01 w) (ktrTop dp un gd cn cs L a ccd cl outer) (call (.ref f) vs) Q E s
theorem Ct.use {lv : Nat} {w : World} {f : Addr} {vs : List Value} {R : Tok → Value} (h : Ct lv w f vs R) {mean : ExcName → Option Value} {mg mb : Str → Option Value} {news : List (Addr × Obj)} {dp un : Nat} {gd : Option (List Code)} {cn : Str} {cs : Scope} {a : Addr} {ccd : Value} {cl : List (Str × Addr)} {outer : List Env} {A₀ : Around} {base h₀ : Heap} {L : Addr} {m : Str → Option Value} {s : Shared} {Q E : Value → Shared → Prop}
    (k1 : Below A₀ base outer h₀) (k2 : Fr h₀ L s.heap m) (k3 : (K w.params).In h₀) (k4 : h₀.get? 40 = some (setO w)) (k5 : News h₀ L s.heap news) (k6 : Top q (looseW q loose) mean mg mb h₀) (k7 : cs.kind = .function) (k8 : dp + lv < recursionLimit) (k9 : un + 20 * lv < cLine)
    (k : CbRet h₀ L m news s Q R) : wpAny (model PySem.Challenge.pw_et5005_01 w) (ktrTop dp un gd cn cs L a ccd cl outer) (call (.ref f) vs) Q E s :=
  h mean mg mb news dp un gd cn cs a ccd cl outer A₀ base h₀ L m s Q E k1 k2 k3 k4 k5 k6 k7 k8 k9 k
end Mine
namespace Mine
/-- no run of a tree lowers the tokens' count -/
theorem wp_toks {α : Type} {M : Model} {Γ : Ctx} (n : Nat) : ∀ (t : Sem α) (Q : α → Pos → Shared → Prop) (E : Value → Pos → Shared → Prop) (p : Pos) (s : Shared), n ≤ s.toks → Sem.wp M Γ t Q E p s →
    Sem.wp M Γ t (fun a p' s' => Q a p' s' ∧ n ≤ s'.toks) E p s := by
  intro t
  induction t with
  | pure a => intro Q E p s hn h; exact ⟨h, hn⟩
  | raise e => intro Q E p s hn h; exact h
  | unsupported | finish | register | «yield» | fork | await => intro Q E p s hn h; exact h.elim
  | rule _ k ih => intro Q E p s hn h; exact ih _ Q E p s hn h
  | «at» q k ih => intro Q E p s hn h; exact ih _ Q E q s hn h
  | load a q k ih => intro Q E p s hn h; obtain ⟨o, ho, h⟩ := h; exact ⟨o, ho, ih _ Q E p s hn h⟩
  | update a q f k ih => intro Q E p s hn h; exact ⟨h.1, ih _ Q E p _ hn h.2⟩
  | loadIfAlive a k ih => intro Q E p s hn h; exact ih _ Q E p s hn h
  | point l k ih => intro Q E p s hn h; exact ih _ Q E p s hn h
  | alloc o k ih => intro Q E p s hn h; exact ih _ Q E p _ hn h
  | fresh k ih => intro Q E p s hn h; exact ih _ Q E p _ (Nat.le_succ_of_le hn) h
  | ask k ih => intro Q E p s hn h; exact ih _ Q E p s hn h
  | choose src m k ih => intro Q E p s hn h; exact ⟨h.1, ih _ Q E p _ hn h.2⟩
  | os q l k ih => intro Q E p s hn h; exact ih _ Q E p _ hn h
  | call c hd g l k ih =>
    intro Q E p s hn h
    obtain ⟨r, s₁, hr, h⟩ := h
    exact ⟨r, s₁, hr, ih _ Q E p s₁ (Nat.le_trans hn hr.toks_le) h⟩
  | handled o k ih => intro Q E p s hn h; exact ih _ Q E p s hn h
  | genState g k ih => intro Q E p s hn h; obtain ⟨st, hst, h⟩ := h; exact ⟨st, hst, ih _ Q E p s hn h⟩
  | newGen c k ih => intro Q E p s hn h; exact ih _ Q E p _ hn h
  | resume g r l k ih =>
    intro Q E p s hn h
    obtain ⟨res, s₁, hr, h⟩ := h
    exact ⟨res, s₁, hr, ih _ Q E p s₁ (Nat.le_trans hn hr.toks_le) h⟩
  | stack k ih => intro Q E p s hn h; exact ih _ Q E p s hn h
  | thread k ih => intro Q E p s hn h; exact ih _ Q E p s hn h
theorem wpAny_toks {α : Type} {M : Model} {A : Around} {t : Sem α} {Q : α → Shared → Prop} {E : Value → Shared → Prop} {s : Shared} (h : wpAny M A t Q E s) : wpAny M A t (fun a s' => Q a s' ∧ s.toks ≤ s'.toks) E s :=
  fun Γ p hΓ => wp_toks s.toks t _ _ p s (Nat.le_refl _) (h Γ p hΓ)
theorem Ct.useT {lv : Nat} {w : World} {f : Addr} {vs : List Value} {R : Tok → Value} (h : Ct lv w f vs R) {mean : ExcName → Option Value} {mg mb : Str → Option Value} {news : List (Addr × Obj)} {dp un : Nat} {gd : Option (List Code)} {cn : Str} {cs : Scope} {a : Addr} {ccd : Value} {cl : List (Str × Addr)} {outer : List Env} {A₀ : Around} {base h₀ : Heap} {L : Addr} {m : Str → Option Value} {s : Shared} {Q E : Value → Shared → Prop}
    (k1 : Below A₀ base outer h₀) (k2 : Fr h₀ L s.heap m) (k3 : (K w.params).In h₀) (k4 : h₀.get? 40 = some (setO w)) (k5 : News h₀ L s.heap news) (k6 : Top q (looseW q loose) mean mg mb h₀) (k7 : cs.kind = .function) (k8 : dp + lv < recursionLimit) (k9 : un + 20 * lv < cLine)
    (k : ∀ (t : Tok) (h' : Heap) (tk' : Nat), Fr h₀ L h' m → News h₀ L h' news → s.toks ≤ tk' → Q (R t) { s with heap := h', toks := tk' }) : wpAny (model PySem.Challenge.pw_et5005_01 w) (ktrTop dp un gd cn cs L a ccd cl outer) (call (.ref f) vs) Q E s := by
  refine wpAny_mono (wpAny_toks (Ct.use h (Q := fun v s' => ∃ t h' tk', v = R t ∧ s' = { s with heap := h', toks := tk' } ∧ Fr h₀ L h' m ∧ News h₀ L h' news) k1 k2 k3 k4 k5 k6 k7 k8 k9 fun t h' tk' F N => ⟨t, h', tk', rfl, rfl, F, N⟩)) (fun v s' hq => ?_) fun _ _ e => e
  obtain ⟨⟨t, h', tk', rfl, rfl, F, N⟩, ht⟩ := hq
  exact k t h' tk' F N ht
section
variable {prog : Program} {w : World} {A : Around} {E : Value → Shared → Prop} {s : Shared}
theorem replaceT {x y z : Str} {t u v : Tok} {Q : Value → Shared → Prop} (hu : @LE.le Nat instLENat 1 u) (huv : @LT.lt Nat instLTNat u v) (hyz : (y == z) = false) (hx : x.length ≤ 1048576) (hz : z.length ≤ 14)
    (hq : ∀ t' k, s.toks ≤ k → Q (.str (Txt.replace x y z) t') { s with toks := k }) : wpAny (model prog w) A (call (.builtin "str.replace") [.str x t, .str y u, .str z v]) Q E s := by
  refine wpAny_mono (wpAny_toks (SC.replaceW (Q := fun r s' => ∃ t' k, r = .str (Txt.replace x y z) t' ∧ s' = { s with toks := k }) (fun e => by subst e; exact absurd hu (by decide)) (fun e => by subst e; exact absurd huv (Nat.not_lt_zero _)) (fun e => by subst e; exact absurd huv (Nat.lt_irrefl _)) hyz hx hz fun t' k => ⟨t', k, rfl, rfl⟩)) (fun r s' h => ?_) fun _ _ e => e
  obtain ⟨⟨t', k, rfl, rfl⟩, hk⟩ := h
  exact hq t' k hk
theorem slot_type_format : Slot "type" "__format__" "object.__format__" :=
  .of (owner := "object") (n := "__format__") (by rw [typeLookup_type, builtinLookup_eq_fast]; kernel_rfl) (by decide +kernel) (by decide +kernel) (by decide +kernel)
    (by first | exact .inl (by decide +kernel) | exact .inr (by decide +kernel)) (by rw [isSubtype_type]; kernel_rfl)
theorem slot_type_str : Slot "type" "__str__" "object.__str__" :=
  .of (owner := "object") (n := "__str__") (by rw [typeLookup_type, builtinLookup_eq_fast]; kernel_rfl) (by decide +kernel) (by decide +kernel) (by decide +kernel)
    (by first | exact .inl (by decide +kernel) | exact .inr (by decide +kernel)) (by rw [isSubtype_type]; kernel_rfl)
theorem slot_type_repr : Slot "type" "__repr__" "type.__repr__" :=
  .of (owner := "type") (n := "__repr__") (by rw [typeLookup_type, builtinLookup_eq_fast]; kernel_rfl) (by decide +kernel) (by decide +kernel) (by decide +kernel)
    (by first | exact .inl (by decide +kernel) | exact .inr (by decide +kernel)) (by rw [isSubtype_type]; kernel_rfl)
theorem entry_type_repr : entryFor table "type.__repr__" = some Builtin.«type.__repr__» := entryFor_of_tree (by kernel_rfl)
theorem args_type_repr (a : Value) : argsOk "type.__repr__" ⟨[a], []⟩ := by unfold argsOk; kernel_rfl
theorem fmt_type {n : String} {Q : Value → Shared → Prop} (ht : ∀ s : Shared, s.TypeIs (.type n) "type") (hu : A.units + 2 < cLine) (hn : (Str.ofString s!"<class '{n}'>").length ≤ 100)
    (h : ∀ t k, Q (.str (Str.ofString s!"<class '{n}'>") t) { s with toks := k }) : wpAny (model prog w) A (formatField (.type n) Str.empty) Q E s := by
  refine wpAny_formatField_slot (T := "type") (fun _ _ e => nomatch e) hu (ht _) slot_type_format slot_type_str slot_type_repr.toG ?_
  refine wpAny_call_entry slot_type_repr (ht _) entry_type_repr ?_ (args_type_repr _)
  show wpAny _ _ (retStr (Str.ofString s!"<class '{n}'>")) _ _ _
  unfold retStr
  exact wpAny_bind (wpAny_mkStr (wpAny_pure ⟨_, rfl, _, _, rfl, h _ _⟩) (by rw [sizeLine_eq]; omega))
theorem isType_NoneType (s : Shared) : s.TypeIs (.type "NoneType") "type" := by
  show typeOf (.type "NoneType") = _
  kernel_rfl
theorem isType_int (s : Shared) : s.TypeIs (.type "int") "type" := by
  show typeOf (.type "int") = _
  kernel_rfl
end
end Mine
namespace Mine
/-- the signs met so far -/
def chIn (x : Str) (i : Nat) (k : Str) : Bool := (x.cps.toList.take i).any fun c => decide (k = ⟨#[c]⟩)
theorem chIn_succ {x : Str} {i c : Nat} (h : x.cps[i]? = some c) (k : Str) : chIn x (i + 1) k = (chIn x i k || decide (k = ⟨#[c]⟩)) := by
  unfold chIn
  rw [List.take_add_one, show x.cps.toList[i]? = some c by rw [Array.getElem?_toList]; exact h]
  simp
section
variable {prog : Program} {w : World} {A : Around} {R : Result → Shared → Prop} {I : Addr}
theorem set_loop {x : Str} {St : Nat → Heap → Prop} (W : Walks prog w A.in1 I [I] [I] x.cps.size (SignAt x) St) (S : Addr) (hSI : S ≠ I) (hb : x.cps.size + 1 < scanBound) :
    ∀ (k i : Nat) (s : Shared), x.cps.size - i = k → i ≤ x.cps.size → St i s.heap → (∃ n, n ≤ i ∧ s.heap.SetOf (strKind prog w) S (chIn x i) n) →
      (∀ h' tk, (∀ b o, b ∉ [S, I] → s.heap.get? b = some o → h'.get? b = some o) → (∃ n, n ≤ x.cps.size ∧ h'.SetOf (strKind prog w) S (chIn x x.cps.size) n) → R (.ok (.ret .none)) { s with heap := h', toks := tk }) →
      codeAny (model prog w) A (.builtin "set.update.loop" ⟨[.ref S, .ref I], []⟩) R s := by
  intro k
  induction k with
  | zero =>
    intro i s hk hi hst hS hR
    obtain rfl : i = x.cps.size := by omega
    refine codeAny_builtin F.entry_set_update_loop ?_
    rw [Around.under_plainId F.plain_set_update_loop _]
    show wpAny _ A.in1 (pyNext (.ref I) >>= _) _ _ s
    refine wpAny_bind (W.done s _ _ hst fun h' tk hm => ?_)
    show wpAny _ A.in1 (ret Value.none) _ _ _
    refine wpAny_pure (hR h' tk (fun b o hb e => hm b o (fun hI => hb (List.mem_cons_of_mem _ hI)) e) ?_)
    obtain ⟨n, hn, o, es, ep, t, ho, rest⟩ := hS
    exact ⟨n, hn, o, es, ep, t, hm S _ (by simpa using hSI) ho, rest⟩
  | succ k ih =>
    intro i s hk hi hst hS hR
    have hlt : i < x.cps.size := by omega
    refine codeAny_builtin F.entry_set_update_loop ?_
    rw [Around.under_plainId F.plain_set_update_loop _]
    show wpAny _ A.in1 (pyNext (.ref I) >>= _) _ _ s
    refine wpAny_bind (W.item i s _ _ hlt hst fun v h₁ tk hP hst' hm => ?_)
    obtain ⟨c, u, hc, rfl⟩ := hP
    obtain ⟨n, hn, hS⟩ := hS
    have hS' : h₁.SetOf (strKind prog w) S (chIn x i) n := by
      obtain ⟨o, es, ep, tb, ho, rest⟩ := hS
      exact ⟨o, es, ep, tb, hm S _ (by simpa using hSI) ho, rest⟩
    show wpAny _ A.in1 (holding [Value.str ⟨#[c]⟩ u] (setAdd S (.str ⟨#[c]⟩ u)) >>= _) _ _ _
    refine wpAny_bind (wpAny_holding ?_)
    unfold setAdd
    refine wpAny_holding ?_
    refine wpAny_bind ((strKind prog w).pyHash (k := ⟨#[c]⟩) (strKind_is _ _ _ _) ?_)
    refine wpAny_setAddHashed_of (knd := strKind prog w) (s := { s with heap := h₁, toks := tk + 1 }) (strKind_is _ _ _ _) rfl hS' (by omega) fun h₂ hsb hS2 => ?_
    have hSi : ∃ n', n' ≤ i + 1 ∧ h₂.SetOf (strKind prog w) S (chIn x (i + 1)) n' := ⟨_, by split <;> omega, SetOf_congr hS2 (fun k' => (chIn_succ hc k').symm) rfl⟩
    refine wpAny_pure ⟨plainId_quiet F.plain_set_update_loop _, ih (i + 1) _ (by omega) hlt (W.frame _ h₁ _ hst' fun b hb o e => ?_) hSi fun h₃ tk₃ hm₃ hS₃ => ?_⟩
    · rw [List.mem_singleton] at hb
      subst hb
      exact hsb.extBut _ _ (fun q => hSI q.symm) e
    · refine hR h₃ tk₃ (fun b o hb e => ?_) hS₃
      have hbS : b ≠ S := fun q => hb (by rw [q]; exact List.mem_cons_self)
      exact hm₃ b o hb (hsb.extBut b o hbS (hm b o (fun hI => hb (List.mem_cons_of_mem _ hI)) e))
end
section
variable {prog : Program} {w : World} {A : Around} {E : Value → Shared → Prop} {s : Shared}
set_option maxHeartbeats 3200000 in
theorem call_set_str {x : Str} {t : Tok} {Q : Value → Shared → Prop} (hh : A.handled = none) (hb : x.cps.size + 1 < scanBound)
    (h : ∀ (h' : Heap) (tk : Nat), (∃ n, n ≤ x.cps.size ∧ h'.SetOf (strKind prog w) s.heap.objs.size (chIn x x.cps.size) n) →
      (∀ b o, b < s.heap.objs.size → s.heap.get? b = some o → h'.get? b = some o) → Q (.ref s.heap.objs.size) { s with heap := h', toks := tk }) :
    wpAny (model prog w) A (call (.type "set") [.str x t]) Q E s := by
  obtain ⟨c, tl, hmro⟩ := F.called_set.mro
  have hmade := F.called_set.made
  have hsub := F.called_set.sub
  refine wpAny_call (codeAny_of_tree ?_)
  show wpAny _ _ (callAny (.type "set") _) _ _ _
  refine wpAny_pure ⟨Code.quiet_builtin _ (by decide +kernel), codeAny_builtin F.entry_type_call ?_⟩
  rw [Around.under_plain (weight_type_call_type "set" [.str x t] []) rfl]
  have h1 := F.called_set.notType
  have h2 := F.called_set.canCreate
  have hct := F.typeCall_set_1 (.str x t)
  repeat (any_goals (first | assumption | wp_step))
  refine codeAny_mono (code_set_new_1 (.str x t) (E := E) (Q₁ := fun obj s₁ => ∃ led : Bool, obj = .ref s.heap.objs.size ∧ s₁ = { s with heap := s.heap.push { cls := .type "set", dict := none, data := .set #[] 0 (.fresh 0 0 led) } }) fun led => ⟨led, rfl, rfl⟩) fun r s₁ hr => ?_
  cases r with
  | error e => exact hr
  | ok fl =>
    cases fl with
    | ret obj =>
      obtain ⟨led, rfl, rfl⟩ := hr
      have hS : (s.heap.push { cls := .type "set", dict := none, data := .set #[] 0 (.fresh 0 0 led) }).get? s.heap.objs.size = some { cls := .type "set", dict := none, data := .set #[] 0 (.fresh 0 0 led) } := Heap.get?_push_size _ rfl
      have hT : Shared.TypeIs { s with heap := s.heap.push { cls := .type "set", dict := none, data := .set #[] 0 (.fresh 0 0 led) } } (.ref s.heap.objs.size) "set" := ⟨_, hS, rfl⟩
      have hli := F.called_set.init.lookup
      have hbi := F.called_set.init.bind (.ref s.heap.objs.size)
      repeat (any_goals (first | assumption | wp_step))
      refine codeAny_mono (codeAny_call_builtin (R := wants (fun r s₂ => r = .none ∧ ∃ h' tk, s₂ = { s with heap := h', toks := tk } ∧
          (∃ n, n ≤ x.cps.size ∧ h'.SetOf (strKind prog w) s.heap.objs.size (chIn x x.cps.size) n) ∧
          (∀ b o, b < s.heap.objs.size → s.heap.get? b = some o → h'.get? b = some o)) E) F.called_set.init.plain F.entry_set_init (check_set_init_1 hT ?_)) fun r₂ s₂ hr₂ => ?_
      · have hsls : isSubtype (.type "str") (.type "set") = pure false := by rw [isSubtype_type]; kernel_rfl
        have hslf : isSubtype (.type "str") (.type "frozenset") = pure false := by rw [isSubtype_type]; kernel_rfl
        have hne : (Value.type "str" == Value.type "dict") = false := by decide
        unfold Builtin.«set.__init__» noKeywords Builtin.Frozenset.updateFrom
        generalize hPI : pyIter = PI
        wp_walk
        subst hPI
        refine wpAny_pyIter_str fun o St W hst => ?_
        refine wpAny_bind (wpAny_runValue ?_)
        have hh3 : A.in1.in1.in1.handled = none := by simp [hh]
        have hget : ((s.heap.push { cls := .type "set", dict := none, data := .set #[] 0 (.fresh 0 0 led) }).push o).get? s.heap.objs.size
            = some { cls := .type "set", dict := none, data := .set #[] 0 (.fresh 0 0 led) } := Heap.get?_push_of_some _ hS
        refine set_loop (W _ hh3) s.heap.objs.size (by rw [Heap.size_push]; exact Nat.ne_of_lt (Nat.lt_succ_self _)) hb (x.cps.size - 0) 0 _ (by omega) (Nat.zero_le _) hst
          ⟨0, Nat.le_refl _, SetOf_congr ((setObjOf_fresh (knd := strKind prog w) led).setOf hget (by unfold scanBound; omega)) (fun k => by simp [chIn]) rfl⟩ fun h' tk hm hS' => ?_
        show wpAny _ _ _ _ _ _
        refine wpAny_pure ?_
        show wpAny _ _ (ret Value.none) _ _ _
        refine wpAny_pure ⟨rfl, h', tk, rfl, hS', fun b o' hb e => ?_⟩
        have hb1 : b ≠ s.heap.objs.size := Nat.ne_of_lt hb
        have hb2 : b ≠ (s.heap.push { cls := .type "set", dict := none, data := .set #[] 0 (.fresh 0 0 led) }).objs.size := by
          rw [Heap.size_push]; exact Nat.ne_of_lt (Nat.lt_succ_of_lt hb)
        exact hm b o' (by simp only [List.mem_cons, List.mem_singleton, List.not_mem_nil, or_false, not_or]; exact ⟨hb1, hb2⟩) (Heap.get?_push_of_some _ (Heap.get?_push_of_some _ e))
      · cases r₂ with
        | error e => exact hr₂
        | ok fl₂ =>
          cases fl₂ with
          | ret r =>
            obtain ⟨rfl, h', tk, rfl, hS', hk'⟩ := hr₂
            repeat (any_goals (first | assumption | wp_step))
            exact h _ _ hS' hk'
          | _ => exact hr₂.elim
    | _ => exact hr.elim
end
end Mine
namespace Mine
section
variable {prog : Program} {w : World} {A : Around} {E : Value → Shared → Prop} {s : Shared}
theorem er_perm {α : Type} : ∀ (l : List α) (i : Nat) (h : i < l.length), List.Perm (l[i] :: l.eraseIdx i) l
  | [], _, h => absurd h (by simp)
  | x :: l, 0, _ => by simp
  | x :: l, i + 1, h => by
    simp only [List.getElem_cons_succ, List.eraseIdx_cons_succ]
    exact (List.Perm.swap x _ _).trans ((er_perm l i (by simpa using h)).cons x)
theorem pick_go {α : Type} (next : Nat → Nat) : ∀ (fuel k : Nat) (left : List α) (out : Array α), left.length ≤ fuel → List.Perm (pickOrder.go next fuel k left out).toList (out.toList ++ left)
  | 0, k, left, out, h => by
    have : left = [] := List.length_eq_zero_iff.mp (by omega)
    subst this
    simp [pickOrder.go]
  | fuel + 1, k, left, out, h => by
    unfold pickOrder.go
    cases hl : left with
    | nil => simp
    | cons y ys =>
      have hlen : 0 < (y :: ys).length := by simp
      have hi : next k % (y :: ys).length < (y :: ys).length := Nat.mod_lt _ hlen
      rw [List.getElem?_eq_getElem hi]
      dsimp only
      refine (pick_go next fuel (k + 1) _ _ (by rw [List.length_eraseIdx]; rw [if_pos hi]; rw [hl] at h; simp only [List.length_cons] at h ⊢; omega)).trans ?_
      rw [Array.toList_push, List.append_assoc]
      refine List.Perm.append_left _ ?_
      exact er_perm _ _ hi
theorem pickOrder_perm {α : Type} (next : Nat → Nat) (xs : Array α) : List.Perm (pickOrder next xs).toList xs.toList := by
  have := pick_go next xs.size 0 xs.toList #[] (by simp)
  simpa [pickOrder] using this
/-- a value that is a written kind's own -/
def noRef (l : List (Int × Value)) : Prop := ∀ e ∈ l, ∀ a, e.2 ≠ .ref a
theorem noRef_of {l : List (Int × Value)} (h : ElemsOf (strKind prog w) l) : noRef l := fun e he a q => by
  obtain ⟨⟨k, hk, _⟩, _⟩ := h e he
  obtain ⟨u, hu⟩ := Value.isStrOf_shape hk
  rw [hu] at q; cases q
theorem quiet {Q : Bool → Shared → Prop} (sets : List Addr) (hs : ∀ a ∈ sets, ∃ S n, s.heap.SetOf (strKind prog w) a S n) (h : Q true s) : wpAny (model prog w) A (setsQuiet sets) Q E s := by
  unfold setsQuiet
  refine wpAny_bind ?_
  suffices H : wpAny (model prog w) A _ (fun (r : Option Bool × Unit) s' => r = (none, ()) ∧ s' = s) E s from
    wpAny_mono H (fun r s' ⟨e, e'⟩ => by subst e e'; exact wpAny_pure h) fun _ _ x => x
  revert hs
  induction sets with
  | nil => intro _; rw [List.forIn_nil]; exact wpAny_pure ⟨rfl, rfl⟩
  | cons a r ih =>
    intro hs
    rw [List.forIn_cons]
    obtain ⟨S, n, o, es, ep, t, ho, _, hd, hel, _, _, hf, _⟩ := hs a (.head _)
    refine wpAny_bind (wpAny_bind (wpAny_setEntries_of ho hd hf ?_))
    refine wpAny_bind ?_
    suffices H : wpAny (model prog w) A _ (fun (r : Option Bool × Unit) s' => r = (none, ()) ∧ s' = s) E s from
      wpAny_mono H (fun r s' ⟨e, e'⟩ => by
        subst e e'
        refine wpAny_pure ?_
        exact ih fun b hb => hs b (.tail _ hb)) fun _ _ x => x
    rw [← Array.forIn_toList]
    have hnr := noRef_of hel
    generalize es.toList = l at hnr
    induction l with
    | nil => rw [List.forIn_nil]; exact wpAny_pure ⟨rfl, rfl⟩
    | cons e l ihl =>
      rw [List.forIn_cons]
      obtain ⟨hh, v⟩ := e
      have hv := hnr (hh, v) (.head _)
      refine wpAny_bind ?_
      cases v <;> first | exact absurd rfl (hv _) | exact wpAny_pure (ihl fun e he => hnr e (.tail _ he))
theorem swalk {a : Addr} {o : Obj} {es : Array (Int × Value)} {ep : Nat} {t : SetTable} {Q : Array (Int × Value) → Shared → Prop} (ho : s.heap.get? a = some o) (hd : o.data = .set es ep t) (hf : t.fits es.size = true)
    (hc : w.params.followText "set-order" = true ∨ (t.led = true ∧ t.plain = true) ∨ es.size ≤ 1) (h : ∀ ws : Array (Int × Value), List.Perm ws.toList es.toList → Q ws s) : wpAny (model prog w) A (setWalk a) Q E s := by
  unfold setWalk
  refine wpAny_bind (wpAny_setState_of ho hd hf ?_)
  dsimp only
  unfold setsByText
  refine wpAny_bind (wpAny_bind (wpAny_askSetting (wpAny_pure ?_)))
  cases hb : w.params.followText "set-order" with
  | true =>
    show wpAny _ _ (if w.params.followText "set-order" = true then _ else _) _ _ _
    rw [if_pos hb]
    exact wpAny_bind (wpAny_askSetting (wpAny_pure (h _ (pickOrder_perm _ _))))
  | false =>
    show wpAny _ _ (if w.params.followText "set-order" = true then _ else _) _ _ _
    rw [if_neg (by rw [hb]; exact Bool.false_ne_true)]
    rw [hb] at hc
    have hdr : ¬ ((!t.plain && decide (es.size > 1)) = true) := by
      rcases hc with q | ⟨_, q⟩ | q
      · cases q
      · simp [q]
      · simp; intro _; omega
    have hml : ¬ ((!t.led && decide (es.size > 1)) = true) := by
      rcases hc with q | ⟨q, _⟩ | q
      · cases q
      · simp [q]
      · simp; intro _; omega
    show wpAny _ _ (if (!t.plain && decide (es.size > 1)) = true then _ else _) _ _ _
    rw [if_neg hdr]
    refine wpAny_bind ?_
    show wpAny _ _ (if (!t.led && decide (es.size > 1)) = true then _ else _) _ _ _
    rw [if_neg hml]
    exact wpAny_pure (wpAny_pure (h es (List.Perm.refl _)))
end
end Mine
namespace Mine
section
variable {prog : Program} {w : World} {A : Around} {E : Value → Shared → Prop} {s : Shared}
theorem entry_inter : entryFor table "set.intersection" = some Builtin.«frozenset.intersection» :=
  entryFor_alias (id' := "frozenset.intersection") (by kernel_rfl) rfl (by decide +kernel) (by kernel_rfl)
theorem inwalk {a c r : Addr} {o : Obj} {es : Array (Int × Value)} {ep : Nat} {t : SetTable} {Q : Array (Int × Value) → Shared → Prop} {S2 : Str → Bool} {n2 : Nat}
    (ho : s.heap.get? a = some o) (hex : o.ExactSet) (hd : o.data = .set es ep t) (hel : ElemsOf (strKind prog w) es.toList) (hb : es.size < scanBound) (hf : t.fits es.size = true)
    (h2 : s.heap.SetOf (strKind prog w) c S2 n2) (hr : s.heap.SetOf (strKind prog w) r (fun _ => false) 0)
    (h : ∀ (ws : Array (Int × Value)) h', List.Perm ws.toList es.toList → Heap.SameBut r s.heap h' → h'.SetOf (strKind prog w) r (fun _ => false) 0 → Q ws { s with heap := h' }) :
    wpAny (model prog w) A (setWalkUnseen a [c, r] (some r)) Q E s := by
  have keep : ∀ ws : Array (Int × Value), List.Perm ws.toList es.toList → Q ws s := fun ws hp => h ws s.heap hp (Heap.SameBut.refl _ _) hr
  unfold setWalkUnseen
  refine wpAny_bind (wpAny_setState_of ho hd hf ?_)
  dsimp only
  unfold setsByText
  refine wpAny_bind (wpAny_bind (wpAny_askSetting (wpAny_pure ?_)))
  dsimp only
  split
  · rename_i hc
    refine swalk ho hd hf ?_ keep
    simp only [Bool.or_eq_true, Bool.and_eq_true, decide_eq_true_eq] at hc
    rcases hc with (q | q) | q
    · exact .inl q
    · exact .inr (.inl q)
    · exact .inr (.inr q)
  · have ha : s.heap.SetOf (strKind prog w) a (fun k => es.toList.any fun e => (strKind prog w).is k e.2) es.size :=
      ⟨o, es, ep, t, ho, hex, hd, hel, fun k => by rw [List.any_eq_true], hb, hf, rfl⟩
    refine wpAny_bind (quiet [a, c, r] (fun b hb => ?_) ?_)
    · rcases List.mem_cons.mp hb with rfl | hb
      · exact ⟨_, _, ha⟩
      · rcases List.mem_cons.mp hb with rfl | hb
        · exact ⟨_, _, h2⟩
        · rw [List.mem_singleton] at hb; subst hb; exact ⟨_, _, hr⟩
    · simp only [Bool.not_true, Bool.false_eq_true, if_false]
      refine wpAny_bind (wpAny_rule ?_)
      obtain ⟨ro, res, rep, rt, hro, hrex, hrd, hrel, hrmem, hrb, hrf, hrn⟩ := hr
      refine wpAny_bind (wpAny_setState_of hro hrd hrf ?_)
      dsimp only
      split
      · refine wpAny_bind (wpAny_storeSet_of hro hrd ?_ (fits_of_scanBound hrb))
        have hf' : ({ mask := rt.mask, place := rt.place, dummies := rt.dummies, finger := rt.finger, led := rt.led && t.led, moves := rt.moves, plain := rt.plain && t.plain } : SetTable).fits res.size = true := by cases rt; exact hrf
        obtain ⟨_, hS⟩ := SetOf_store (knd := strKind prog w) hro hrex hrd hrel hrmem hrb hf'
        rw [hrn] at hS
        exact wpAny_pure (h es _ (List.Perm.refl _) (Heap.SameBut.update s.heap r _) hS)
      · exact wpAny_pure (keep es (List.Perm.refl _))
/-- the keys of a list of entries -/
def keyIn (l : List (Int × Value)) (k : Str) : Bool := l.any fun e => Value.isStrOf k e.2
def interBody (ak wk r : Addr) (was : Nat) : Int × Value → PUnit → Sem (ForInStep PUnit) := fun x _ => (do
        holding [x.2] do
          if (← setFind ak x.2 x.1).isSome then
            let _ ← setAddHashed r x.2 x.1
            pure ()
          else pure ()
        Builtin.Frozenset.unchanged "frozenset.intersection" wk was
        pure (ForInStep.yield PUnit.unit))
theorem inter_loop {r ak wk : Addr} {ow : Obj} {es : Array (Int × Value)} {was : Nat} {t : SetTable} {Sa : Str → Bool} {na : Nat} (hra : r ≠ ak) (hrw : r ≠ wk) (hd : ow.data = .set es was t) (hf : t.fits es.size = true)
    {Q : PUnit → Shared → Prop} :
    ∀ (l : List (Int × Value)) (s : Shared) (Sr : Str → Bool) (n : Nat), ElemsOf (strKind prog w) l → n + l.length < scanBound → s.heap.SetOf (strKind prog w) r Sr n → s.heap.SetOf (strKind prog w) ak Sa na → s.heap.get? wk = some ow →
      (∀ h' n', Heap.SameBut r s.heap h' → n' < scanBound → h'.SetOf (strKind prog w) r (fun k => Sr k || (keyIn l k && Sa k)) n' → Q PUnit.unit { s with heap := h' }) →
      wpAny (model prog w) A (forIn l PUnit.unit (interBody ak wk r was)) Q E s
  | [], s, Sr, n, hel, hn, hr, ha, hw, h => by
    rw [List.forIn_nil]
    exact wpAny_pure (h s.heap n (Heap.SameBut.refl _ _) (by simpa using hn) (SetOf_congr hr (fun k => by simp [keyIn]) rfl))
  | e :: l, s, Sr, n, hel, hn, hr, ha, hw, h => by
    simp only [List.length_cons] at hn
    obtain ⟨⟨k, hk, hh⟩, hsc⟩ := hel.head
    obtain ⟨hv, v⟩ := e
    dsimp only at hk hh hsc
    rw [List.forIn_cons]
    refine wpAny_bind ?_
    have eB : interBody ak wk r was (hv, v) PUnit.unit = (do
        holding [v] do
          if (← setFind ak v hv).isSome then
            let _ ← setAddHashed r v hv
            pure ()
          else pure ()
        Builtin.Frozenset.unchanged "frozenset.intersection" wk was
        pure (ForInStep.yield PUnit.unit)) := rfl
    rw [eB]
    have hk' : ∀ k', (strKind prog w).is k' v = decide (k' = k) := fun k' => KeyKind.is_eq_decide hk k'
    have hkey : ∀ k', keyIn ((hv, v) :: l) k' = (decide (k' = k) || keyIn l k') := fun k' => by
      unfold keyIn
      rw [List.any_cons]
      congr 1
      exact hk' k'
    subst hh
    refine wpAny_bind (wpAny_holding (wpAny_bind (wpAny_setFind_of (knd := strKind prog w) hk hsc ha fun rr hrr => ?_)))
    have next : ∀ (P : ForInStep PUnit → Shared → Prop) h' n' S', (∀ s', wpAny (model prog w) A (forIn l PUnit.unit (interBody ak wk r was)) Q E s' → P (.yield PUnit.unit) s') → Heap.SameBut r s.heap h' → n' + l.length < scanBound → h'.SetOf (strKind prog w) r S' n' → (∀ k', S' k' = (Sr k' || (decide (k' = k) && Sa k'))) →
        wpAny (model prog w) A (do Builtin.Frozenset.unchanged "frozenset.intersection" wk was; pure (ForInStep.yield PUnit.unit))
          P E { s with heap := h' } := by
      intro P h' n' S' hP hsb hn' hr' hS'
      have hw' : h'.get? wk = some ow := hsb.extBut wk _ (fun q => hrw q.symm) hw
      unfold Builtin.Frozenset.unchanged
      refine wpAny_bind (wpAny_bind (wpAny_setEpoch_of hw' hd hf ?_))
      rw [if_neg (by simp)]
      refine wpAny_pure (wpAny_pure (hP _ ?_))
      refine inter_loop (Sa := Sa) (na := na) hra hrw hd hf l { s with heap := h' } S' n' hel.tail hn' hr' ?_ hw' fun h2 n2 hsb2 hn2 hr2 => ?_
      · obtain ⟨o, es', ep', t', ho, rest⟩ := ha
        exact ⟨o, es', ep', t', hsb.extBut ak _ (fun q => hra q.symm) ho, rest⟩
      · refine h h2 n2 (hsb.trans hsb2) hn2 (SetOf_congr hr2 (fun k' => ?_) rfl)
        rw [hS' k', hkey k']
        cases Sr k' <;> cases decide (k' = k) <;> cases keyIn l k' <;> cases Sa k' <;> rfl
    split
    · rename_i hsome
      rw [hrr] at hsome
      refine wpAny_bind (wpAny_setAddHashed_of (knd := strKind prog w) hk hsc hr (by omega) fun h' hsb hS' => wpAny_pure ?_)
      refine next _ h' _ _ (fun _ x => x) hsb (by split <;> omega) hS' fun k' => ?_
      by_cases e : k' = k
      · subst e; simp [hsome]
      · simp [e]
    · rename_i hsome
      rw [hrr] at hsome
      refine wpAny_pure ?_
      have e : s = { s with heap := s.heap } := by cases s; rfl
      rw [e]
      refine next _ s.heap n Sr (fun _ x => x) (Heap.SameBut.refl _ _) (by omega) hr fun k' => ?_
      by_cases e : k' = k
      · subst e; simp at hsome; simp [hsome]
      · simp [e]
theorem any_set {a : Addr} {S : Str → Bool} {n : Nat} {Q : Bool → Shared → Prop} (hS : s.heap.SetOf (strKind prog w) a S n) (h : Q true s) : wpAny (model prog w) A (Builtin.Frozenset.isAnySet (.ref a)) Q E s := by
  unfold Builtin.Frozenset.isAnySet
  exact wpAny_bind (wpAny_isInstance (T := "set") (b := true) hS.typeIs sub_set_self (wpAny_pure h))
theorem keyIn_perm {l l' : List (Int × Value)} (p : List.Perm l l') (k : Str) : keyIn l k = keyIn l' k := by
  unfold keyIn
  rw [Bool.eq_iff_iff, List.any_eq_true, List.any_eq_true]
  exact ⟨fun ⟨e, he, q⟩ => ⟨e, p.mem_iff.mp he, q⟩, fun ⟨e, he, q⟩ => ⟨e, p.mem_iff.mpr he, q⟩⟩
theorem inter_core {ak wk : Addr} {S1 S2 : Str → Bool} {n2 was : Nat} {o : Obj} {es : Array (Int × Value)} {t : SetTable} {Q : Value → Shared → Prop} {r : Addr} {s₁ : Shared} (hra : r ≠ ak) (hrw : r ≠ wk)
    (ho : s₁.heap.get? wk = some o) (hex : o.ExactSet) (hd : o.data = .set es was t) (hel : ElemsOf (strKind prog w) es.toList) (hmem : ∀ k, S1 k = true ↔ ∃ e ∈ es.toList, (strKind prog w).is k e.2 = true) (hb : es.size < 4000) (hf : t.fits es.size = true)
    (h2 : s₁.heap.SetOf (strKind prog w) ak S2 n2) (hr : s₁.heap.SetOf (strKind prog w) r (fun _ => false) 0)
    (h : ∀ h' n, Heap.SameBut r s₁.heap h' → n < scanBound → h'.SetOf (strKind prog w) r (fun k => S1 k && S2 k) n → Q (.ref r) { s₁ with heap := h' }) :
    wpAny (model prog w) A (do
      let ws ← setWalkUnseen wk [ak, r] (some r)
      forIn ws PUnit.unit (interBody ak wk r was)
      pure ()) (fun _ s' => wpAny (model prog w) A (pure (.ref r)) Q E s') E s₁ := by
  refine wpAny_bind (inwalk ho hex hd hel (by unfold scanBound; omega) hf h2 hr fun ws h' hp hsb hr' => ?_)
  refine wpAny_bind ?_
  rw [← Array.forIn_toList]
  have hlen : ws.toList.length = es.size := by rw [hp.length_eq, Array.length_toList]
  refine inter_loop (Sa := S2) (na := n2) hra hrw hd hf ws.toList { s₁ with heap := h' } (fun _ => false) 0 (hel.perm hp) (by unfold scanBound; omega) hr' ?_ (hsb.extBut wk _ (fun q => hrw q.symm) ho) fun h2' n' hsb2 hn' hS' => ?_
  · obtain ⟨o', es', ep', t', ho', rest⟩ := h2
    exact ⟨o', es', ep', t', hsb.extBut ak _ (fun q => hra q.symm) ho', rest⟩
  · refine wpAny_pure (wpAny_pure (h h2' n' (hsb.trans hsb2) hn' (SetOf_congr hS' (fun k => ?_) rfl)))
    rw [Bool.false_or, keyIn_perm hp k]
    congr 1
    rw [Bool.eq_iff_iff, hmem k]
    unfold keyIn
    rw [List.any_eq_true]
    rfl
theorem intern {a c : Addr} {S1 S2 : Str → Bool} {n1 n2 : Nat} {Q : Value → Shared → Prop} (h1 : s.heap.SetOf (strKind prog w) a S1 n1) (h2 : s.heap.SetOf (strKind prog w) c S2 n2) (hac : a ≠ c) (hn1 : n1 < 4000) (hn2 : n2 < 4000)
    (h : ∀ h' n, (∀ b o, s.heap.get? b = some o → h'.get? b = some o) → n < scanBound → h'.SetOf (strKind prog w) s.heap.objs.size (fun k => S1 k && S2 k) n → Q (.ref s.heap.objs.size) { s with heap := h' }) :
    wpAny (model prog w) A (Builtin.Frozenset.intersection "frozenset.intersection" a (.ref c)) Q E s := by
  unfold Builtin.Frozenset.intersection
  try dsimp only
  rw [if_neg (by intro q; exact hac (by have := eq_of_beq q; injection this with e; exact e.symm))]
  have hbase : ∀ (Q' : Value → Shared → Prop), Q' (.type "set") s → wpAny (model prog w) A (Builtin.Frozenset.baseOf a) Q' E s := fun Q' hq => by
    unfold Builtin.Frozenset.baseOf
    exact wpAny_bind (wpAny_isInstance (T := "set") (b := true) h1.typeIs sub_set_self (wpAny_pure hq))
  refine wpAny_bind (hbase _ ?_)
  refine wpAny_bind (wpAny_newSet_of (knd := strKind prog w) fun led hr => ?_)
  have up : ∀ b o, s.heap.get? b = some o → (s.heap.push { cls := .type "set", dict := none, data := .set #[] 0 (.fresh 0 0 led) }).get? b = some o := fun b o e => Heap.get?_push_of_some _ e
  have h1' : (s.heap.push { cls := .type "set", dict := none, data := .set #[] 0 (.fresh 0 0 led) }).SetOf (strKind prog w) a S1 n1 := by
    obtain ⟨o, es, ep, t, ho, rest⟩ := h1; exact ⟨o, es, ep, t, up _ _ ho, rest⟩
  have h2' : (s.heap.push { cls := .type "set", dict := none, data := .set #[] 0 (.fresh 0 0 led) }).SetOf (strKind prog w) c S2 n2 := by
    obtain ⟨o, es, ep, t, ho, rest⟩ := h2; exact ⟨o, es, ep, t, up _ _ ho, rest⟩
  have ha : s.heap.objs.size ≠ a := by obtain ⟨o, _, _, _, ho, _⟩ := h1; exact Nat.ne_of_gt (Heap.lt_size ho)
  have hc : s.heap.objs.size ≠ c := by obtain ⟨o, _, _, _, ho, _⟩ := h2; exact Nat.ne_of_gt (Heap.lt_size ho)
  have hend : ∀ h' n, Heap.SameBut s.heap.objs.size (s.heap.push { cls := .type "set", dict := none, data := .set #[] 0 (.fresh 0 0 led) }) h' → n < scanBound → h'.SetOf (strKind prog w) s.heap.objs.size (fun k => S1 k && S2 k) n → Q (.ref s.heap.objs.size) { s with heap := h' } := fun h' n hsb hn hS =>
    h h' n (fun b o e => hsb.extBut b o (Nat.ne_of_lt (Heap.lt_size e)) (up b o e)) hn hS
  generalize hH : s.heap.push { cls := .type "set", dict := none, data := .set #[] 0 (.fresh 0 0 led) } = H at hr h1' h2' hend ⊢
  unfold Builtin.Frozenset.addrOf
  refine wpAny_bind (wpAny_pure ?_)
  refine wpAny_bind (wpAny_holding ?_)
  refine wpAny_bind (any_set (s := { s with heap := H }) h2' ?_)
  rw [if_pos rfl]
  refine wpAny_bind (wpAny_pure ?_)
  unfold Builtin.Frozenset.sizeOf
  obtain ⟨o1, es1, ep1, t1, ho1, hex1, hd1, hel1, hmem1, hb1, hf1, hz1⟩ := id h1'
  obtain ⟨o2, es2, ep2, t2, ho2, hex2, hd2, hel2, hmem2, hb2, hf2, hz2⟩ := id h2'
  refine wpAny_bind (wpAny_bind (wpAny_setEntries_of (s := { s with heap := H }) ho2 hd2 hf2 (wpAny_pure ?_)))
  refine wpAny_bind (wpAny_bind (wpAny_setEntries_of (s := { s with heap := H }) ho1 hd1 hf1 (wpAny_pure ?_)))
  split
  · refine wpAny_bind (wpAny_setEpoch_of (s := { s with heap := H }) ho1 hd1 hf1 ?_)
    exact inter_core (s₁ := { s with heap := H }) hc ha ho1 hex1 hd1 hel1 hmem1 (by omega) hf1 h2' hr fun h' n hsb hn hS => hend h' n hsb hn hS
  · refine wpAny_bind (wpAny_setEpoch_of (s := { s with heap := H }) ho2 hd2 hf2 ?_)
    exact inter_core (s₁ := { s with heap := H }) ha hc ho2 hex2 hd2 hel2 hmem2 (by omega) hf2 h1' hr fun h' n hsb hn hS => hend h' n hsb hn (SetOf_congr hS (fun k => Bool.and_comm _ _) rfl)
theorem call_inter {a c : Addr} {S1 S2 : Str → Bool} {n1 n2 : Nat} {Q : Value → Shared → Prop} (h1 : s.heap.SetOf (strKind prog w) a S1 n1) (h2 : s.heap.SetOf (strKind prog w) c S2 n2) (hac : a ≠ c) (hn1 : n1 < 4000) (hn2 : n2 < 4000)
    (h : ∀ h' n, (∀ b o, s.heap.get? b = some o → h'.get? b = some o) → n < scanBound → h'.SetOf (strKind prog w) s.heap.objs.size (fun k => S1 k && S2 k) n → Q (.ref s.heap.objs.size) { s with heap := h' }) :
    wpAny (model prog w) A (call (.builtin "set.intersection") [.ref a, .ref c]) Q E s := by
  refine wpAny_call_entry F.slot_set_intersection h1.typeIs entry_inter ?_ (F.args_set_intersection_2 _ _)
  unfold Builtin.«frozenset.intersection» Builtin.Frozenset.manyOthers
  simp only [List.isEmpty_nil]
  unfold Builtin.Frozenset.addrOf
  refine wpAny_bind (wpAny_pure ?_)
  try dsimp only
  rw [List.forIn_cons]
  refine wpAny_bind (wpAny_bind (wpAny_bind (wpAny_holding (wpAny_bind (wpAny_pure ?_)))))
  refine intern h1 h2 hac hn1 hn2 fun h' n hk hn hS => wpAny_pure ?_
  dsimp only
  rw [List.forIn_nil]
  exact wpAny_pure (wpAny_pure ⟨_, rfl, h h' n hk hn hS⟩)
end
end Mine
namespace Mine
theorem noBool_set : typeLookup (.type "set") "__bool__" = pure none := by rw [typeLookup_type, builtinLookup_eq_fast]; kernel_rfl
section
variable {prog : Program} {w : World} {A : Around} {E : Value → Shared → Prop} {s : Shared}
theorem truthy_set {a : Addr} {o : Obj} {es : Array (Int × Value)} {ep : Nat} {t : SetTable} {Q : Bool → Shared → Prop} (ho : s.heap.get? a = some o) (hex : o.ExactSet) (hd : o.data = .set es ep t) (hf : t.fits es.size = true) (hb : es.size < scanBound)
    (h : Q (decide (es.size ≠ 0)) { s with toks := s.toks + 1 + 1 }) : wpAny (model prog w) A (truthy (.ref a)) Q E s := by
  have hT : s.TypeIs (.ref a) "set" := ⟨o, ho, hex.1⟩
  have h4 : (es.size : Int) < 4096 := by unfold scanBound at hb; omega
  have hne : ((es.size : Int) != 0) = decide (es.size ≠ 0) := by
    rw [Bool.eq_iff_iff, bne_iff_ne, decide_eq_true_eq]; omega
  have key : wpAny (model prog w) A (runValue (.builtin "len" ⟨[.ref a], []⟩)) (fun r s' => r = .int es.size (s.toks + 1) ∧ Q (decide (es.size ≠ 0)) s') E s := by
    refine wpAny_runValue (codeAny_builtin entry_len ?_)
    rw [Around.under_plainId plain_len _]
    exact wpAny_mono (wpAny_len_body_set (Q := fun r s' => r = .int es.size (s.toks + 1) ∧ Q (decide (es.size ≠ 0)) s') ho hex hd hf (Int.lt_of_lt_of_le h4 (by decide)) ⟨rfl, h⟩)
      (fun fin s' h' => by obtain ⟨r, rfl, hq⟩ := h'; exact hq) fun _ _ e => e
  unfold truthy
  first
    | refine wpAny_bind (wpAny_callSpecial?_none (name := Str.ofString "__bool__") hT noBool_set ?_)
    | refine wpAny_bind (wpAny_pure (wpAny_bind (wpAny_callSpecial?_none (name := Str.ofString "__bool__") hT noBool_set ?_)))
  first
    | refine wpAny_bind (wpAny_specialOf (name := Str.ofString "__len__") hT F.slot_set_len.lookup ?_)
    | refine wpAny_bind (wpAny_pure (wpAny_bind (wpAny_specialOf (name := Str.ofString "__len__") hT F.slot_set_len.lookup ?_)))
  first
    | exact wpAny_bind (wpAny_mono key (fun r s' h' => by obtain ⟨rfl, hq⟩ := h'; exact wpAny_pure (hne ▸ hq)) fun _ _ e => e)
    | exact wpAny_bind (wpAny_pure (wpAny_bind (wpAny_mono key (fun r s' h' => by obtain ⟨rfl, hq⟩ := h'; exact wpAny_pure (hne ▸ hq)) fun _ _ e => e)))
theorem meets_bool_set (a : Addr) (o : Obj) (es : Array (Int × Value)) (ep : Nat) (t : SetTable) (hex : o.ExactSet) (hd : o.data = .set es ep t) (hf : t.fits es.size = true) (hb : es.size < scanBound) :
    Meets (Builtin.«bool.__new__» ⟨[.type "bool", .ref a], []⟩) (fun _ R s => s.heap.get? a = some o ∧ R (.ok (.ret (.bool (decide (es.size ≠ 0))))) { s with toks := s.toks + 1 + 1 }) :=
  Meets.of_wp fun prog w A R s hs => by
    obtain ⟨ho, hs⟩ := hs
    obtain ⟨hp, g, d, tk, os⟩ := s
    have f1 := F.conv_sub_bool
    repeat (any_goals (first | assumption | (with_reducible refine truthy_set ho hex hd hf hb ?_) | wp_step))
    all_goals first | exact ⟨_, rfl, hs⟩ | exact hs | skip
theorem call_bool_set {a : Addr} {S : Str → Bool} {n : Nat} {Q : Value → Shared → Prop} (hS : s.heap.SetOf (strKind prog w) a S n) (h : Q (.bool (decide (n ≠ 0))) { s with toks := s.toks + 1 + 1 }) :
    wpAny (model prog w) A (call (.type "bool") [.ref a]) Q E s := by
  obtain ⟨o, es, ep, t, ho, hex, hd, _, _, hb, hf, rfl⟩ := hS
  exact call_bool_1 (meets_bool_set a o es ep t hex hd hf hb) ⟨ho, (show wants (fun obj s₁ => s₁.TypeIs obj "bool" ∧ Q obj s₁) E _ _ from ⟨rfl, h⟩)⟩
/-- a set without a member has no entry -/
theorem setOf_zero {a : Addr} {S : Str → Bool} {n : Nat} {h : Heap} (hS : h.SetOf (strKind prog w) a S n) : n ≠ 0 ↔ ∃ k, S k = true := by
  obtain ⟨o, es, ep, t, ho, hex, hd, hel, hmem, hb, hf, rfl⟩ := hS
  constructor
  · intro hn
    have : 0 < es.toList.length := by rw [Array.length_toList]; omega
    obtain ⟨e, he⟩ := List.exists_mem_of_length_pos this
    obtain ⟨⟨k, hk, _⟩, _⟩ := hel e he
    exact ⟨k, (hmem k).mpr ⟨e, he, hk⟩⟩
  · rintro ⟨k, hk⟩ hz
    obtain ⟨e, he, _⟩ := (hmem k).mp hk
    have : 0 < es.toList.length := List.length_pos_of_mem he
    rw [Array.length_toList] at this
    omega
theorem getMethod_inter {a : Addr} {S : Str → Bool} {n : Nat} {pl : Sem Bool} {Q : Value × List Value → Shared → Prop} (hS : s.heap.SetOf (strKind prog w) a S n) (h : Q (.builtin "set.intersection", [.ref a]) s) :
    wpAny (model prog w) A (getMethod (.ref a) "intersection" pl) Q E s :=
  getMethod_builtin hS.typeIs F.plainAttrs_set F.slot_set_intersection F.type_set_intersection hS.noDict h
end
end Mine
namespace Mine
section
variable {w : World} {A : Around} {E : Value → Shared → Prop} {s : Shared} {h₀ : Heap} {L : Addr} {m : Str → Option Value} {news : List (Addr × Obj)}
theorem old_keep {D : Addr} {h' : Heap} (F : Fr h₀ L s.heap m) (N : News h₀ L s.heap news) {o : Obj} (hk : ∀ b o, s.heap.get? b = some o → h'.get? b = some o) (hD : s.heap.get? D = none) (ho : h'.get? D = some o) :
    Fr h₀ L h' m ∧ News h₀ L h' ((D, o) :: news) := by
  refine ⟨⟨F.ns.at' fun o' e => hk _ _ e, fun b o' e => hk b o' (F.keep b o' e), F.above⟩, fun p hp => ?_⟩
  rcases List.mem_cons.mp hp with rfl | hp
  · refine ⟨ho, fun q => ?_, ?_⟩
    · obtain ⟨oL, _, _, hL, _⟩ := F.ns
      have q' : D = L := q
      rw [q', hL] at hD; cases hD
    · cases hq : h₀.get? D with
      | none => rfl
      | some o' => have := F.keep _ _ hq; rw [hD] at this; cases this
  · exact ⟨hk _ _ (N p hp).1, (N p hp).2⟩
theorem size_none (h : Heap) : h.get? h.objs.size = none := by
  cases e : h.get? h.objs.size with
  | none => rfl
  | some o => exact absurd (Heap.lt_size e) (Nat.lt_irrefl _)
theorem set_str_K {x : Str} {t : Tok} {Q : Value → Shared → Prop} (F : Fr h₀ L s.heap m) (N : News h₀ L s.heap news) (hh : A.handled = none) (hb : x.length ≤ 1000)
    (h : ∀ D h' tk o n, Fr h₀ L h' m → News h₀ L h' ((D, o) :: news) → (∀ p ∈ news, p.1 < D) → o.SetObjOf (hKnd w) (chIn x x.cps.size) n → n < 4000 → Q (.ref D) { s with heap := h', toks := tk }) :
    wpAny (model PySem.Challenge.pw_et5005_01 w) A (call (.type "set") [.str x t]) Q E s := by
  have hb' : x.cps.size ≤ 1000 := hb
  refine call_set_str hh (by unfold scanBound; omega) fun h' tk hS hk => ?_
  obtain ⟨n, hn, hS⟩ := hS
  obtain ⟨o, ho, hso⟩ := hS.objOf
  obtain ⟨F', N'⟩ := old_keep F N (h' := h') (fun b o e => hk b o (Heap.lt_size e) e) (size_none _) ho
  exact h _ h' tk o n F' N' (fun p hp => Heap.lt_size (N p hp).1) hso (by omega)
theorem inv_set (F : Fr h₀ L s.heap m) (SF : h₀.get? 40 = some (setO w)) : s.heap.SetOf (hKnd w) 40 badSet 11 := (setO_is w).setOf (F.keep _ _ SF) (by unfold scanBound; omega)
theorem getMethod_inv {pl : Sem Bool} {Q : Value × List Value → Shared → Prop} (F : Fr h₀ L s.heap m) (SF : h₀.get? 40 = some (setO w)) (h : Q (.builtin "set.intersection", [.ref 40]) s) :
    wpAny (model PySem.Challenge.pw_et5005_01 w) A (getMethod (.ref 40) "intersection" pl) Q E s := getMethod_inter (inv_set F SF) h
theorem inter_K {c : Addr} {oc : Obj} {S2 : Str → Bool} {n2 : Nat} {Q : Value → Shared → Prop} (F : Fr h₀ L s.heap m) (N : News h₀ L s.heap news) (SF : h₀.get? 40 = some (setO w)) (hm : (c, oc) ∈ news) (ho : oc.SetObjOf (hKnd w) S2 n2) (hn2 : n2 < 4000)
    (h : ∀ D h' o n, Fr h₀ L h' m → News h₀ L h' ((D, o) :: news) → (∀ p ∈ news, p.1 < D) → o.SetObjOf (hKnd w) (fun k => badSet k && S2 k) n → n < 4096 → Q (.ref D) { s with heap := h' }) :
    wpAny (model PySem.Challenge.pw_et5005_01 w) A (call (.builtin "set.intersection") [.ref 40, .ref c]) Q E s := by
  have h2 := ho.setOf (N _ hm).1 (by unfold scanBound; omega)
  refine call_inter (inv_set F SF) h2 (fun q => ?_) (by omega) hn2 fun h' n hk hn hS => ?_
  · have := (N _ hm).2.2
    rw [← q, SF] at this; cases this
  · obtain ⟨o, ho, hso⟩ := hS.objOf
    obtain ⟨F', N'⟩ := old_keep F N (h' := h') hk (size_none _) ho
    exact h _ h' o n F' N' (fun p hp => Heap.lt_size (N p hp).1) hso hn
theorem bool_K {c : Addr} {oc : Obj} {S : Str → Bool} {n : Nat} {Q : Value → Shared → Prop} (N : News h₀ L s.heap news) (hm : (c, oc) ∈ news) (ho : oc.SetObjOf (hKnd w) S n) (hn : n < 4096)
    (h : ∀ b : Bool, (b = true ↔ ∃ k, S k = true) → Q (.bool b) { s with toks := s.toks + 1 + 1 }) :
    wpAny (model PySem.Challenge.pw_et5005_01 w) A (call (.type "bool") [.ref c]) Q E s := by
  have hS := ho.setOf (N _ hm).1 (by unfold scanBound; omega)
  exact call_bool_set hS (h _ (by rw [decide_eq_true_eq]; exact setOf_zero hS))
end
end Mine
namespace Mine
section
variable {prog : Program} {w : World} {A : Around} {h₀ : Heap} {L : Addr} {m : Str → Option Value} {env : Env} {ct elt : PySem.Expr} {x : Str} {scope : Scope} {cl : List (Str × Addr)} {s : Shared} {S : List (Addr × Obj) → Prop} {Fin : List Value → List (Addr × Obj) → Prop} {news : List (Addr × Obj)}
/-- the ints at the places that a test lets by -/
def pickI (p : Nat → Bool) (i : Nat) : List Int := ((List.range i).filter p).map Int.ofNat
theorem pickI_succ (p : Nat → Bool) (i : Nat) : pickI p (i + 1) = if p i = true then pickI p i ++ [(i : Int)] else pickI p i := by
  unfold pickI
  rw [List.range_succ, List.filter_append, List.map_append]
  by_cases h : p i = true <;> simp [h]
theorem ints_snoc {y : Int} {t : Tok} : ∀ {vs : List Value} {ys : List Int}, IntsAre vs ys → IntsAre (vs ++ [.int y t]) (ys ++ [y])
  | _, _, .nil => .cons y t .nil
  | _, _, .cons z u r => .cons z u (ints_snoc r)
theorem crt_range {n : Nat} (p : Nat → Bool)
    (turn : ∀ (i : Nat) t I oI C oC D m₂ ys h tk (E' : Value → Shared → Prop), i < n → LCg.NsObj oC m₂ → m₂ x = some (.int (i : Int) t) → Fr h₀ L h m → News h₀ L h ((I, oI) :: (C, oC) :: (D, LCg.lst ys) :: news) → LCg.Off3 I C D news → ((@Ne Nat I C) ∧ (@Ne Nat I D) ∧ (@Ne Nat C D)) →
      wpAny (model prog w) A (isTrue ct (compEnvC scope cl C env) (eval ct (compEnvC scope cl C env))) (fun ok s' => if ok = true then
        wpAny (model prog w) A (eval elt (compEnvC scope cl C env)) (LCg.CompEnd h₀ L m { s with heap := h, toks := tk } I oI C oC D (LCg.lst ys) S (fun y news' => news' = news ∧ p i = true ∧ ∃ t', y = .int (i : Int) t')) E' s'
        else LCg.CompEnd h₀ L m { s with heap := h, toks := tk } I oI C oC D (LCg.lst ys) S (fun _ news' => news' = news ∧ p i = false) Value.none s') E' { s with heap := h, toks := tk })
    (fin : ∀ ys, IntsAre ys (pickI p n) → Fin ys news) : LCt.CompRestT prog w A h₀ L m env ct elt x scope cl s S (fun i v => ∃ t, v = .int (0 + (i : Int)) t) Fin n 0 [] news := by
  have key : ∀ (j i : Nat) (ys : List Value), i + j = n → IntsAre ys (pickI p i) → LCt.CompRestT prog w A h₀ L m env ct elt x scope cl s S (fun i v => ∃ t, v = .int (0 + (i : Int)) t) Fin j i ys news := by
    intro j
    induction j with
    | zero =>
      intro i ys hi hy
      obtain rfl : i = n := by omega
      exact LCt.CompRestT.zero (fin ys hy)
    | succ j ih =>
      intro i ys hi hy
      refine LCt.CompRestT.succ ?_
      intro v I oI C oC D m₂ h tk E' hv hC hx F N off ne
      obtain ⟨t, rfl⟩ := hv
      rw [Int.zero_add] at hx
      refine wpAny_mono (turn i t I oI C oC D m₂ ys h tk E' (by omega) hC hx F N off ne) (fun ok s' hq => ?_) fun _ _ e => e
      cases ok with
      | true =>
        simp only [if_true] at hq ⊢
        refine wpAny_mono hq (fun y s₂ hq => ?_) fun _ _ e => e
        obtain ⟨h', tk', nw, e, F', N', off', hS, hn, hp, t', hy'⟩ := hq
        rw [hn] at N' off' hS
        refine ⟨h', tk', news, e, F', N', off', hS, ?_⟩
        rw [hy']
        refine ih (i + 1) _ (by omega) ?_
        rw [pickI_succ, if_pos hp]
        exact ints_snoc hy
      | false =>
        simp only [Bool.false_eq_true, if_false] at hq ⊢
        obtain ⟨h', tk', nw, e, F', N', off', hS, hn, hp⟩ := hq
        rw [hn] at N' off' hS
        refine ⟨h', tk', news, e, F', N', off', hS, ?_⟩
        refine ih (i + 1) _ (by omega) ?_
        rw [pickI_succ, if_neg (by rw [hp]; exact Bool.false_ne_true)]
        exact hy
  exact key n 0 [] (by omega) (show IntsAre [] (pickI p 0) from .nil)
/-- a comprehension over the signs of a text: its source -/
def StrSrc (prog : Program) (w : World) (A : Around) (h₀ : Heap) (L : Addr) (m : Str → Option Value) (env : Env) (elt : PySem.Expr) (x : Str) (scope : Scope) (cl : List (Str × Addr)) (Fin : Shared → List Value → List (Addr × Obj) → Prop) (xv : Value) (s₁ : Shared) : Prop :=
  ∃ y tk news, xv = .str y tk ∧ A.handled = none ∧ Fr h₀ L s₁.heap m ∧ News h₀ L s₁.heap news ∧ y.cps.size ≤ sizeLine ∧
    ∀ s₂ : Shared, (∃ h, s₂ = { s₁ with heap := h }) → LCg.CompRest prog w A h₀ L m env elt x scope cl s₂ (fun _ => True) (SignAt y) (Fin s₂) y.cps.size 0 [] news
theorem StrSrc.of {elt : PySem.Expr} {x : Str} {scope : Scope} {cl : List (Str × Addr)} {Fin : Shared → List Value → List (Addr × Obj) → Prop} {y : Str} {tk : Tok} {s₁ : Shared} {news : List (Addr × Obj)} (hh : A.handled = none) (F : Fr h₀ L s₁.heap m) (N : News h₀ L s₁.heap news) (hsz : y.length ≤ 100000)
    (h : ∀ g, LCg.CompRest prog w A h₀ L m env elt x scope cl { s₁ with heap := g } (fun _ => True) (SignAt y) (Fin { s₁ with heap := g }) y.cps.size 0 [] news) : StrSrc prog w A h₀ L m env elt x scope cl Fin (.str y tk) s₁ :=
  ⟨y, tk, news, rfl, hh, F, N, by rw [sizeLine_eq]; have : y.cps.size ≤ 100000 := hsz; omega, fun _ ⟨g, e⟩ => e ▸ h g⟩
theorem str_walks {y : Str} {tk : Tok} {I : Addr} (hh : A.handled = none) : Walks prog w A I [I] [I] y.cps.size (SignAt y) (fun i h => h.IsStrIter I (strIterType y) y tk i) := by
  unfold strIterType
  split
  · exact Walks.strAscii hh I y tk
  · exact Walks.strWide hh I y tk
theorem str_st {I : Addr} {y : Str} {tk : Tok} {T : String} : ∀ i (h h' : Heap) (o : Obj) (nw : List (Addr × Obj)), h.IsStrIter I T y tk i → h.get? I = some o → h'.get? I = some o → (∀ b o, h₀.get? b = some o → h'.get? b = some o) → News h₀ L h' nw → True → h'.IsStrIter I T y tk i :=
  fun i h h' o nw st e e' _ _ _ => by
    obtain ⟨o', q, r⟩ := st
    rw [e] at q; cases q
    exact ⟨o, e', r⟩
theorem ListComp_S {E : Value → Shared → Prop} {elt iter : PySem.Expr} {x : Str} {px : Pos} {scope : Scope} {cl : List (Str × Addr)} {pos : Pos} {Q : Value → Shared → Prop} (F₀ : Fr h₀ L s.heap m)
    (hclos : closureFor scope env = pure cl) (hcell : ∀ y ∈ scope.names, y.2 ≠ .cell) (hkind : scope.kind = .function)
    (hnames : ∀ y ∈ scope.names, y.2 = .local → scope.names.lookup y.1 = some .local) (hx : scope.names.lookup x = some .local)
    (h : wpAny (model prog w) A (eval iter env) (StrSrc prog w A h₀ L m env elt x scope cl (fun s₂ => LCg.FinE h₀ L m s₂ Q)) E s)
    (hs : ∀ x, foldedSetIterable iter env x = pure x := by intro _; rfl) :
    wpAny (model prog w) A (eval (.ListComp elt [⟨.Name x px, iter, [], 0⟩] scope pos) env) Q E s := by
  rw [eval_ListComp]
  refine wpAny_comprehension_free (use := none) rfl hs hclos hkind hnames (wpAny_mono h (fun xv s₁ h₁ => ?_) fun _ _ e => e)
  obtain ⟨y, tk, news, rfl, hh, F, N, hsz, R⟩ := h₁
  refine wpAny_pyIter_strU ?_
  have up : ∀ b o, s₁.heap.get? b = some o → (s₁.heap.push { cls := .type (strIterType y), data := .fields #[.str y tk, .int 0 0] }).get? b = some o := fun b o e => Heap.get?_push_of_some _ e
  refine LCg.block_U (str_walks (tk := tk) hh) hsz (fun i h st => by obtain ⟨o, e, _⟩ := st; exact ⟨o, e⟩) str_st hcell hkind hx ⟨_, Heap.get?_push_size _ rfl, rfl, rfl⟩ (fun b hb => ?_)
    (F.keeps up) (N.grown up) (Nat.ne_of_lt F.ns.lt) (next_is_new F) (fun p hp => Nat.ne_of_lt (Heap.lt_size (N p hp).1)) trivial (R _ ⟨_, rfl⟩) ?_
  · show b < (s₁.heap.push _).objs.size
    rw [List.mem_singleton.mp hb, Heap.size_push]; exact Nat.lt_succ_self _
  · intro D C h tk m' ys news' F' N' o1 hn hC₀ hD₀ hCL hDL hCD offC fin
    refine ⟨m', hn, fun h'' hs'' => fin D h'' tk (F'.change hs'' hCL hC₀) (fun p hp => ?_) o1⟩
    refine ⟨hs''.extBut _ _ ?_ (N' p hp).1, (N' p hp).2⟩
    rcases List.mem_cons.mp hp with rfl | hp
    · exact Ne.symm hCD
    · exact offC p hp
theorem crs_str {y : Str} (g : Nat → Str)
    (turn : ∀ (c : Nat) u I oI C oC D m₂ ys h tk (E' : Value → Shared → Prop), c ∈ y.cps.toList → LCg.NsObj oC m₂ → m₂ x = some (.str ⟨#[c]⟩ u) → Fr h₀ L h m → News h₀ L h ((I, oI) :: (C, oC) :: (D, LCg.lst ys) :: news) → LCg.Off3 I C D news → ((@Ne Nat I C) ∧ (@Ne Nat I D) ∧ (@Ne Nat C D)) →
      wpAny (model prog w) A (eval elt (compEnvC scope cl C env)) (LCg.CompEnd h₀ L m { s with heap := h, toks := tk } I oI C oC D (LCg.lst ys) S (fun z news' => news' = news ∧ ∃ t', z = .str (g c) t')) E' { s with heap := h, toks := tk })
    (fin : ∀ ys, StrsAre ys (y.cps.toList.map g) → Fin ys news) : LCg.CompRest prog w A h₀ L m env elt x scope cl s S (SignAt y) Fin y.cps.size 0 [] news := by
  have key : ∀ (j i : Nat) (ys : List Value), i + j = y.cps.size → StrsAre ys ((y.cps.toList.take i).map g) → LCg.CompRest prog w A h₀ L m env elt x scope cl s S (SignAt y) Fin j i ys news := by
    intro j
    induction j with
    | zero =>
      intro i ys hi hy
      rw [List.take_of_length_le (by rw [Array.length_toList]; omega)] at hy
      exact LCg.CompRest.zero (fin ys hy)
    | succ j ih =>
      intro i ys hi hy
      refine LCg.CompRest.succ ?_
      intro v I oI C oC D m₂ h tk E' hv hC hx F N off ne
      obtain ⟨c, u, hc, rfl⟩ := hv
      have hc' : y.cps.toList[i]? = some c := by rw [Array.getElem?_toList]; exact hc
      refine wpAny_mono (turn c u I oI C oC D m₂ ys h tk E' (List.mem_of_getElem? hc') hC hx F N off ne) (fun z s₂ hq => ?_) fun _ _ e => e
      obtain ⟨h', tk', nw, e, F', N', off', hS, hn, t', hz⟩ := hq
      rw [hn] at N' off' hS
      refine ⟨h', tk', news, e, F', N', off', hS, ?_⟩
      rw [hz]
      refine ih (i + 1) _ (by omega) ?_
      rw [List.take_add_one, hc']
      simpa using kct_snoc hy
  exact key y.cps.size 0 [] (by omega) (by simp only [List.take_zero, List.map_nil]; exact .nil)
end
end Mine
namespace Mine
/-- the law's own walk that strikes a mark, over lists of signs -/
def woAux (y : List Nat) : Nat → List Nat → List Nat
  | 0, _ => []
  | _ + 1, [] => []
  | f + 1, c :: r => if (c :: r).take y.length = y then woAux y f ((c :: r).drop y.length) else c :: woAux y f r
def woF (y l : List Nat) : List Nat := woAux y l.length l
def wo (x y : Str) : Str := ⟨(woF y.cps.toList x.cps.toList).toArray⟩
theorem woAux_fuel (y : List Nat) (hy : y ≠ []) : ∀ (f : Nat) (l : List Nat), l.length ≤ f → woAux y f l = woF y l := by
  have key : ∀ (n f g : Nat) (l : List Nat), l.length ≤ n → l.length ≤ f → l.length ≤ g → woAux y f l = woAux y g l := by
    intro n
    induction n with
    | zero =>
      intro f g l hn _ _
      have : l = [] := List.length_eq_zero_iff.mp (by omega)
      subst this
      cases f <;> cases g <;> rfl
    | succ n ih =>
      intro f g l hn hf hg
      cases l with
      | nil => cases f <;> cases g <;> rfl
      | cons c r =>
        simp only [List.length_cons] at hn hf hg
        obtain ⟨f, rfl⟩ : ∃ f', f = f' + 1 := ⟨f - 1, by omega⟩
        obtain ⟨g, rfl⟩ : ∃ g', g = g' + 1 := ⟨g - 1, by omega⟩
        have hyl : 0 < y.length := List.length_pos_iff.mpr hy
        have hd : ((c :: r).drop y.length).length ≤ r.length := by rw [List.length_drop, List.length_cons]; omega
        unfold woAux
        split
        · exact ih f g _ (by omega) (by omega) (by omega)
        · rw [ih f g r (by omega) (by omega) (by omega)]
  intro f l h
  exact key l.length f l.length l (Nat.le_refl _) h (Nat.le_refl _)
theorem woF_nil (y : List Nat) : woF y [] = [] := rfl
theorem woF_hit {y : List Nat} (hy : y ≠ []) {l : List Nat} (h : l.take y.length = y) : woF y l = woF y (l.drop y.length) := by
  cases l with
  | nil => simp at h; exact absurd h hy
  | cons c r =>
    have hyl : 0 < y.length := List.length_pos_iff.mpr hy
    have hd : ((c :: r).drop y.length).length ≤ r.length := by rw [List.length_drop, List.length_cons]; omega
    show woAux y (r.length + 1) (c :: r) = _
    unfold woAux
    rw [if_pos h, woAux_fuel y hy r.length _ hd]
theorem woF_miss {y : List Nat} (hy : y ≠ []) {c : Nat} {r : List Nat} (h : (c :: r).take y.length ≠ y) : woF y (c :: r) = c :: woF y r := by
  show woAux y (r.length + 1) (c :: r) = _
  unfold woAux
  rw [if_neg h, woAux_fuel y hy r.length _ (Nat.le_refl _)]
theorem woF_len {y : List Nat} (hy : y ≠ []) : ∀ (n : Nat) (l : List Nat), l.length ≤ n → (woF y l).length ≤ l.length := by
  intro n
  induction n with
  | zero =>
    intro l hl
    have : l = [] := List.length_eq_zero_iff.mp (by omega)
    subst this; exact Nat.le_refl _
  | succ n ih =>
    intro l hl
    cases l with
    | nil => exact Nat.le_refl _
    | cons c r =>
      by_cases h : (c :: r).take y.length = y
      · have hyl : 0 < y.length := List.length_pos_iff.mpr hy
        have hd : ((c :: r).drop y.length).length ≤ r.length := by rw [List.length_drop, List.length_cons]; omega
        simp only [List.length_cons] at hl ⊢
        rw [woF_hit hy h]
        exact Nat.le_trans (ih _ (by omega)) (by omega)
      · rw [woF_miss hy h]
        simp only [List.length_cons] at hl ⊢
        have := ih r (by omega)
        omega
theorem wo_len {x y : Str} (hy : 1 ≤ y.length) : (wo x y).length ≤ x.length := by
  have hy' : y.cps.toList ≠ [] := fun e => by
    have : y.cps.toList.length = 0 := by rw [e]; rfl
    rw [Array.length_toList] at this
    have h1 : 1 ≤ y.cps.size := hy
    omega
  show (woF y.cps.toList x.cps.toList).toArray.size ≤ x.cps.size
  rw [List.size_toArray, ← Array.length_toList]
  exact woF_len hy' _ _ (Nat.le_refl _)
section
open Builtin.Str StrLaws
theorem woF_skip {x y : Str} (hy : y.cps.toList ≠ []) {c : Nat} : ∀ (j a : Nat), a + j = c → c ≤ x.length → (∀ k, a ≤ k → k < c → ¬ At x y x.length k) →
    woF y.cps.toList (x.cps.toList.drop a) = (x.cps.toList.drop a).take (c - a) ++ woF y.cps.toList (x.cps.toList.drop c)
  | 0, a, hj, hc, hn => by
    obtain rfl : a = c := by omega
    simp
  | j + 1, a, hj, hc, hn => by
    have hlen : x.cps.toList.length = x.length := by simp [Str.length]
    have ha : a < x.cps.toList.length := by omega
    have hd : x.cps.toList.drop a = x.cps.toList[a] :: x.cps.toList.drop (a + 1) := List.drop_eq_getElem_cons ha
    have hmiss : (x.cps.toList[a] :: x.cps.toList.drop (a + 1)).take y.cps.toList.length ≠ y.cps.toList := by
      rw [← hd]
      intro e
      refine hn a (Nat.le_refl _) (by omega) ⟨?_, ?_⟩
      · have h1 : ((x.cps.toList.drop a).take y.cps.toList.length).length = y.cps.toList.length := by rw [e]
        rw [List.length_take, List.length_drop] at h1
        have h2 : y.cps.toList.length = y.length := by simp [Str.length]
        omega
      · rw [subAt_eq, beq_iff_eq]
        have h2 : y.cps.toList.length = y.length := by simp [Str.length]
        rw [← h2]; exact e
    rw [hd, woF_miss hy hmiss, woF_skip hy j (a + 1) (by omega) hc (fun k h1 h2 => hn k (by omega) h2)]
    rw [show c - a = (c - (a + 1)) + 1 by omega, List.take_succ_cons, List.cons_append]
theorem woF_chain {x y : Str} (hy : y.cps.toList ≠ []) : ∀ (cuts : List Nat) (a f : Nat), ChainG x y x.length a cuts f → a ≤ x.length → (∀ k, f ≤ k → ¬ At x y x.length k) →
    woF y.cps.toList (x.cps.toList.drop a) = ((partsFrom x y.length a cuts).map fun p => p.cps.toList).flatten
  | [], a, f, h, ha, hn => by
    have e : f = a := h
    subst e
    have hlen : x.cps.toList.length = x.length := by simp [Str.length]
    rw [woF_skip hy (x.length - f) f (by omega) (Nat.le_refl _) (fun k h1 _ => hn k h1)]
    simp only [partsFrom, List.map_cons, List.map_nil, List.flatten_cons, List.flatten_nil, strSub_toList]
    rw [show x.cps.toList.drop x.length = [] from List.drop_of_length_le (by omega), woF_nil]
  | c :: r, a, f, h, ha, hn => by
    obtain ⟨h1, h2, h3, h4⟩ := h
    have hc : c + y.length ≤ x.length := h2.1
    rw [woF_skip hy (c - a) a (by omega) (by omega) h3]
    have hy2 : y.cps.toList.length = y.length := by simp [Str.length]
    have hhit : (x.cps.toList.drop c).take y.cps.toList.length = y.cps.toList := by
      have := h2.2
      rw [subAt_eq, beq_iff_eq] at this
      rw [hy2]; exact this
    rw [woF_hit hy hhit, List.drop_drop, hy2, woF_chain hy r (c + y.length) f h4 hc hn]
    simp only [partsFrom, List.map_cons, List.flatten_cons, strSub_toList]
theorem join_nil : ∀ parts : List Str, (Str.join ⟨#[]⟩ parts).cps.toList = (parts.map fun p => p.cps.toList).flatten
  | [] => rfl
  | [p] => by simp [Str.join]
  | p :: p2 :: r => by
    show (p ++ ⟨#[]⟩ ++ Str.join ⟨#[]⟩ (p2 :: r)).cps.toList = _
    rw [Str.cps_append, Str.cps_append, Array.toList_append, Array.toList_append, join_nil (p2 :: r)]
    simp
theorem replace_wo {x y : Str} (hy : 1 ≤ y.length) : Txt.replace x y ⟨#[]⟩ = wo x y := by
  have hy' : y.cps.toList ≠ [] := fun e => by
    have : y.cps.toList.length = 0 := by rw [e]; rfl
    rw [Array.length_toList] at this
    have h1 : 1 ≤ y.cps.size := hy
    omega
  obtain ⟨f, hch, hn⟩ := occ_tight x y hy
  have key := woF_chain hy' _ 0 f hch (Nat.zero_le _) hn
  rw [List.drop_zero] at key
  unfold Txt.replace
  split
  · rename_i hc
    have hz : (y.length == 0 && (⟨#[]⟩ : Str).length == 0) = false := by
      rw [Bool.and_eq_false_iff]; left; rw [beq_eq_false_iff_ne]; omega
    rw [hz, Bool.or_false, List.isEmpty_iff] at hc
    rw [hc] at key
    simp only [partsFrom, List.map_cons, List.map_nil, List.flatten_cons, List.flatten_nil, strSub_toList, List.drop_zero, List.append_nil] at key
    have hlen : x.cps.toList.length = x.length := by simp [Str.length]
    rw [List.take_of_length_le (by omega)] at key
    unfold wo
    rw [key]
  · apply Str.ext'
    apply Array.toList_inj.mp
    rw [glued_eq_join, partsBetween_eq, join_nil, ← key]
    simp [wo]
end
end Mine
namespace Mine
section
open Builtin Builtin.Str StrLaws
theorem sliceIdx_big (l : Option Int) {j : Int} (len : Nat) (h : (len : Int) ≤ j) : strSliceIndices l (some j) 1 len = strSliceIndices l (some (len : Int)) 1 len := by
  have a : ¬ (j < 0) := by omega
  have b : ¬ ((len : Int) < 0) := by omega
  have c : min j (len : Int) = len := by omega
  simp [strSliceIndices, a, c]
  congr 1
  rw [if_neg b]; omega
theorem slice_list {x : Str} {i j : Int} (h0 : 0 ≤ i) (h1 : i ≤ x.length) (h2 : i ≤ j) : (Txt.slice x (some i) (some j)).cps.toList = (x.cps.toList.drop i.toNat).take (j - i).toNat := by
  have hlen : x.cps.toList.length = x.length := by simp [Str.length]
  by_cases hj : j ≤ x.length
  · show (StrLaws.sliceText x (some i) (some j)).cps.toList = _
    rw [StrLaws.sliceText_plain ⟨h0, h2, by omega⟩]
  · have e : Txt.slice x (some i) (some j) = Txt.slice x (some i) (some (x.length : Int)) := by
      unfold Txt.slice
      rw [sliceIdx_big _ _ (by omega)]
    rw [e]
    show (StrLaws.sliceText x (some i) (some (x.length : Int))).cps.toList = _
    rw [StrLaws.sliceText_plain ⟨h0, h1, by omega⟩]
    show (x.cps.toList.drop i.toNat).take ((x.length : Int) - i).toNat = _
    rw [List.take_of_length_le (by rw [List.length_drop]; omega), List.take_of_length_le (by rw [List.length_drop]; omega)]
theorem slice_from {x : Str} : (Txt.slice x (some 1) none).cps.toList = x.cps.toList.drop 1 := by
  have hlen : x.cps.toList.length = x.length := by simp [Str.length]
  by_cases h : 1 ≤ x.length
  · show (StrLaws.sliceText x (some 1) none).cps.toList = _
    rw [StrLaws.sliceText_from ⟨by omega, by omega⟩]
    show (x.cps.toList.drop (1 : Int).toNat).take ((x.cps.toList.length : Int) - 1).toNat = _
    rw [List.take_of_length_le (by rw [List.length_drop]; omega)]
    rfl
  · have : x.cps.toList = [] := List.length_eq_zero_iff.mp (by omega)
    have h1 := Txt.slice_le x (some 1) none
    have h2 : (Txt.slice x (some 1) none).cps.toList = [] := List.length_eq_zero_iff.mp (by rw [Array.length_toList]; have : (Txt.slice x (some 1) none).cps.size ≤ x.length := h1; omega)
    rw [this, h2]; rfl
theorem slice_to1 {x : Str} : (Txt.slice x none (some 1)).cps.toList = x.cps.toList.take 1 := by
  have hlen : x.cps.toList.length = x.length := by simp [Str.length]
  by_cases h : 1 ≤ x.length
  · show (StrLaws.sliceText x none (some 1)).cps.toList = _
    rw [StrLaws.sliceText_to ⟨by omega, by omega⟩]
    rfl
  · have : x.cps.toList = [] := List.length_eq_zero_iff.mp (by omega)
    have h1 := Txt.slice_le x none (some 1)
    have h2 : (Txt.slice x none (some 1)).cps.toList = [] := List.length_eq_zero_iff.mp (by rw [Array.length_toList]; have : (Txt.slice x none (some 1)).cps.size ≤ x.length := h1; omega)
    rw [this, h2]; rfl
theorem str_beq (a b : Str) : (a == b) = (a.cps.toList == b.cps.toList) := by
  rw [Bool.eq_iff_iff, beq_iff_eq, beq_iff_eq, Array.toList_inj]
  exact ⟨fun e => e ▸ rfl, Str.ext'⟩
/-- the walk's own place: what is struck from here on -/
def woAt (x y : Str) (k : Int) : Str := ⟨(woF y.cps.toList (x.cps.toList.drop k.toNat)).toArray⟩
theorem woAt_zero (x y : Str) : woAt x y 0 = wo x y := rfl
theorem woAt_end {x y : Str} {k : Int} (h : (x.length : Int) ≤ k) : woAt x y k = ⟨#[]⟩ := by
  have hlen : x.cps.toList.length = x.length := by simp [Str.length]
  unfold woAt
  rw [List.drop_of_length_le (by omega), woF_nil]
theorem ne_nil {y : Str} (hy : 1 ≤ y.length) : y.cps.toList ≠ [] := fun e => by
  have : y.cps.toList.length = 0 := by rw [e]; rfl
  rw [Array.length_toList] at this
  have h1 : 1 ≤ y.cps.size := hy
  omega
theorem woAt_hit {x y : Str} {k : Int} (hy : 1 ≤ y.length) (h0 : 0 ≤ k) (h1 : k ≤ x.length) (h : (Txt.slice x (some k) (some (k + y.length)) == y) = true) : woAt x y k = woAt x y (k + y.length) := by
  have hy2 : y.cps.toList.length = y.length := by simp [Str.length]
  rw [str_beq, beq_iff_eq, slice_list h0 h1 (by omega)] at h
  have hs : (k + (y.length : Int) - k).toNat = y.cps.toList.length := by omega
  rw [hs] at h
  unfold woAt
  rw [woF_hit (ne_nil hy) h, List.drop_drop]
  congr 3
  rw [hy2]; congr 1; omega
theorem woAt_miss {x y : Str} {k : Int} (hy : 1 ≤ y.length) (h0 : 0 ≤ k) (h1 : k < x.length) (h : (Txt.slice x (some k) (some (k + y.length)) == y) = false) : woAt x y k = Txt.item x k ++ woAt x y (k + 1) := by
  have hy2 : y.cps.toList.length = y.length := by simp [Str.length]
  have hlen : x.cps.toList.length = x.length := by simp [Str.length]
  have hk : k.toNat < x.cps.toList.length := by omega
  rw [str_beq, beq_eq_false_iff_ne, slice_list h0 (by omega) (by omega)] at h
  have hs : (k + (y.length : Int) - k).toNat = y.cps.toList.length := by omega
  rw [hs] at h
  have hd : x.cps.toList.drop k.toNat = x.cps.toList[k.toNat] :: x.cps.toList.drop (k.toNat + 1) := List.drop_eq_getElem_cons hk
  have hit : Txt.item x k = ⟨#[x.cps.toList[k.toNat]]⟩ := by
    unfold Txt.item Txt.charAt
    have : seqIndex? k x.length = some k.toNat := by
      unfold seqIndex?
      simp only []
      rw [if_neg (show ¬ k < 0 by omega)]
      have : (decide (0 ≤ k) && decide (k < (x.length : Int))) = true := by simp; omega
      rw [if_pos this]
    rw [this]
    simp only [Option.bind_some]
    rw [← Array.getElem?_toList, List.getElem?_eq_getElem hk]
    rfl
  apply Str.ext'
  apply Array.toList_inj.mp
  rw [hit, Str.cps_append, Array.toList_append]
  unfold woAt
  rw [hd] at h ⊢
  rw [woF_miss (ne_nil hy) h]
  have : (k + 1).toNat = k.toNat + 1 := by omega
  rw [this]
  simp
end
end Mine
namespace Mine
theorem hit_le {x y : Str} {k : Int} (hy : 1 ≤ y.length) (h0 : 0 ≤ k) (h1 : k ≤ x.length) (h : (Txt.slice x (some k) (some (k + y.length)) == y) = true) : k + y.length ≤ x.length := by
  have hy2 : y.cps.toList.length = y.length := by simp [Str.length]
  have hlen : x.cps.toList.length = x.length := by simp [Str.length]
  rw [str_beq, beq_iff_eq, slice_list h0 h1 (by omega)] at h
  have hs : (k + (y.length : Int) - k).toNat = y.cps.toList.length := by omega
  rw [hs] at h
  have h2 : ((x.cps.toList.drop k.toNat).take y.cps.toList.length).length = y.cps.toList.length := by rw [h]
  rw [List.length_take, List.length_drop] at h2
  omega
end Mine
namespace Mine
theorem kf : K = K ∧ PySem.Challenge.rw_et5005_01 = PySem.Challenge.rw_et5005_01 := by
  k_fill
  exact ⟨rfl, rfl⟩
def Stop (P : Prop) : Prop := P
theorem Stop.mk {P : Prop} (h : Stop P) : P := h
section
variable {prog : Program} {w : World} {A : Around} {E : Value → Shared → Prop} {Q : Flow → Shared → Prop} {s : Shared} {env : Env} {h₀ : Heap} {L : Addr}
abbrev krMap (base : Str → Option Value) (nk nr : Str) (k : Int) (r : Str) (t1 t2 : Tok) : Str → Option Value := fun z => if z = nk then some (.int k t1) else if z = nr then some (.str r t2) else base z
def KrEnd (h₀ : Heap) (L : Addr) (s : Shared) (base : Str → Option Value) (nk nr : Str) (news : List (Addr × Obj)) (P : Nat → Int → Str → Prop) (n : Nat) (f : Flow) (s₃ : Shared) : Prop :=
  f = .next ∧ ∃ h' tk k r t1 t2 n', s₃ = { s with heap := h', toks := tk } ∧ Fr h₀ L h' (krMap base nk nr k r t1 t2) ∧ News h₀ L h' news ∧ n' < n ∧ P n' k r
theorem KrEnd.intro {base : Str → Option Value} {nk nr : Str} {news : List (Addr × Obj)} {P : Nat → Int → Str → Prop} {n : Nat} {h' : Heap} {tk : Nat} {m : Str → Option Value} {k : Int} {r : Str} {t1 t2 : Tok}
    (F : Fr h₀ L h' m) (N : News h₀ L h' news) (n' : Nat) (hm : m = krMap base nk nr k r t1 t2) (hn : n' < n) (hP : P n' k r) : KrEnd h₀ L s base nk nr news P n .next { s with heap := h', toks := tk } := by
  subst hm
  exact ⟨rfl, h', tk, k, r, t1, t2, n', rfl, F, N, hn, hP⟩
theorem krMap_k {base : Str → Option Value} {nk nr : Str} {k k' : Int} {r : Str} {t1 t2 t1' : Tok} : (fun z => if z = nk then some (Value.int k' t1') else krMap base nk nr k r t1 t2 z) = krMap base nk nr k' r t1' t2 := by
  funext z
  unfold krMap
  split <;> rfl
theorem krMap_kr {base : Str → Option Value} {nk nr : Str} {k k' : Int} {r r' : Str} {t1 t2 t1' t2' : Tok} : (fun z => if z = nk then some (Value.int k' t1') else if z = nr then some (Value.str r' t2') else krMap base nk nr k r t1 t2 z) = krMap base nk nr k' r' t1' t2' := by
  funext z
  unfold krMap
  split
  · rfl
  · split <;> rfl
theorem while_kr {base : Str → Option Value} {nk nr : Str} {news : List (Addr × Obj)} {test : PySem.Expr} {body : List Stmt} {pos : Pos} {k₀ : Int} {r₀ : Str} {t1 t2 : Tok} (P : Nat → Int → Str → Prop) {n₀ : Nat}
    (F : Fr h₀ L s.heap (krMap base nk nr k₀ r₀ t1 t2)) (N : News h₀ L s.heap news) (hP : P n₀ k₀ r₀)
    (turn : ∀ n k r t1 t2 h₁ tk₁, Fr h₀ L h₁ (krMap base nk nr k r t1 t2) → News h₀ L h₁ news → P n k r →
      wpAny (model prog w) A (isTrue test env (eval test env)) (fun b s₂ =>
        if b = true then wpAny (model prog w) A (execs body env) (KrEnd h₀ L s base nk nr news P n) E s₂ else Q .next s₂) E { s with heap := h₁, toks := tk₁ })
    (hE : PassesOwn (model prog w) A env E := by passes_own) :
    wpAny (model prog w) A (exec (.While test body [] pos) env) Q E s := by
  refine While_inv (fun n m₁ news₁ => ∃ k r t1 t2, m₁ = krMap base nk nr k r t1 t2 ∧ news₁ = news ∧ P n k r) F N ⟨k₀, r₀, t1, t2, rfl, rfl, hP⟩ ?_ hE
  rintro n m₁ news₁ h₁ tk₁ F₁ N₁ ⟨k, r, u1, u2, rfl, rfl, hP₁⟩
  refine wpAny_mono (turn n k r u1 u2 h₁ tk₁ F₁ N₁ hP₁) (fun b s₂ h => ?_) fun _ _ x => x
  split at h
  · rename_i hb
    rw [if_pos hb]
    refine wpAny_mono h (fun f s₃ h3 => ?_) fun _ _ x => x
    obtain ⟨rfl, h', tk, k', r', v1, v2, n', rfl, F', N', hn, hP'⟩ := h3
    exact WhileStep.intro F' N' hn ⟨k', r', v1, v2, rfl, rfl, hP'⟩
  · rename_i hb
    rw [if_neg hb]
    exact h
end
local macro_rules | `(tactic| walk_at "exec While") => `(tactic| (k_here; refine Stop.mk ?_))
theorem c_without (w : World) (x y : Str) (tk tk2 : Tok) (hx : x.length ≤ 1000) (hy : 1 ≤ y.length ∧ y.length ≤ 10) : Ct 1 w 132 [.str x tk, .str y tk2] (fun t => .str (wo x y) t) := by
  intro mean mg mb news dp un gd cn cs a ccd cl outer A₀ base h₀ L m s Q E B F X SF N T hk hd hu hret
  obtain ⟨hy1, hy2⟩ := hy
  refine wpAny_call ?_
  k_dflt cell_enter
  rename Fr h₀ L _ _ => FH
  have SF' := FH.keep _ _ SF
  k_steps
  unfold Stop
  refine while_kr (fun n k r => 0 ≤ k ∧ k ≤ x.length ∧ n = x.length - k.toNat ∧ r.length ≤ k ∧ r ++ woAt x y k = wo x y) (by k_asm) (by k_asm) (n₀ := x.length) ⟨by omega, by omega, by simp, by decide, by rw [woAt_zero]; exact Str.empty_append _⟩ ?_
  intro n k r t1 t2 h₁ tk₁ F₁ N₁ ⟨q1, q2, q3, q4, q5⟩
  k_steps
  · rename (_ == _) = true => hhit
    have hle := hit_le hy1 q1 q2 hhit
    refine KrEnd.intro (by assumption) (by assumption) (x.length - (k + y.length).toNat) krMap_k (by omega) ⟨by omega, hle, rfl, by omega, ?_⟩
    rw [← woAt_hit hy1 q1 q2 hhit]; exact q5
  · rename (_ == _) = false => hmiss
    rename _ < (x.length : Int) => hlt
    refine KrEnd.intro (by assumption) (by assumption) (x.length - (k + 1).toNat) krMap_kr (by omega) ⟨by omega, by omega, rfl, by omega, ?_⟩
    rw [Str.append_assoc, ← woAt_miss hy1 q1 hlt hmiss]; exact q5
  · dsimp only [CbRet] at hret
    refine' cb_retS hret ?e1 ?e2 ?e3
    case e2 => assumption
    case e3 => assumption
    case e1 =>
      rw [← q5, woAt_end (by omega)]
      exact (Str.append_empty r).symm
end Mine
namespace Mine
section
variable {prog : Program} {w : World} {A : Around} {E : Value → Shared → Prop} {s : Shared}
theorem eq_nil {a b : Addr} {ys : List Value} {Q : Value → Shared → Prop} (ha : s.heap.IsList a ys.toArray) (hb : s.heap.IsList b #[]) (hu : A.units < cLine)
    (h : Q (.bool ys.isEmpty) s) : wpAny (model prog w) A (compareOp .Eq (.ref a) (.ref b)) Q E s := by
  cases ys with
  | nil => exact SeqAt.eq_listAt (e := fun _ => true) ha hb rfl hu (fun j h1 _ => absurd h1 (Nat.not_lt_zero _)) h
  | cons y r => exact SeqAt.eq_list_lengthsAt ha hb (by simp) hu h
end
theorem news_up {h₀ h : Heap} {L : Addr} {p : Addr × Obj} {news : List (Addr × Obj)} (N : News h₀ L h (p :: news)) : News h₀ L h news := fun r hr => N r (List.mem_cons_of_mem _ hr)
def bads : List Str := [Str.ofString "<", Str.ofString ">", Str.ofString "/", Str.ofString "\\", Str.ofString "\"", Str.ofString ":",
  Str.ofString ";", Str.ofString "?", Str.ofString "*", Str.ofString "=", Str.ofString "`"]
def badC (c : Nat) : Bool := bads.any fun b => b == ⟨#[c]⟩
/-- the law's own walk of a table's name -/
def lawRest (x : Str) : Str := wo (wo x (Str.ofString "\\U+")) (Str.ofString "\\M+")
def lawTable (x : Str) : Bool := (lawRest x).cps.toList.all fun c => !badC c
theorem item_at {x : Str} {i : Nat} (h : i < x.cps.toList.length) : Txt.item x (i : Int) = ⟨#[x.cps.toList[i]]⟩ := by
  have hlen : x.cps.toList.length = x.length := by simp [Str.length]
  unfold Txt.item Txt.charAt
  have : seqIndex? (i : Int) x.length = some i := by
    unfold seqIndex?
    simp only []
    rw [if_neg (show ¬ (i : Int) < 0 by omega)]
    have : (decide (0 ≤ (i : Int)) && decide ((i : Int) < (x.length : Int))) = true := by simp; omega
    rw [if_pos this]
    rfl
  rw [this]
  simp only [Option.bind_some]
  rw [← Array.getElem?_toList, List.getElem?_eq_getElem h]
  rfl
theorem table_nil {x : Str} {ys : List Value} (h : IntsAre ys (pickI (fun i => bads.any fun c => c == Txt.item (lawRest x) (i : Int)) (((lawRest x).length : Int) - 0).toNat)) : ys.isEmpty = lawTable x := by
  have hl := h.length
  have hlen : (lawRest x).cps.toList.length = (lawRest x).length := by simp [Str.length]
  have e : (((lawRest x).length : Int) - 0).toNat = (lawRest x).cps.toList.length := by omega
  rw [e] at hl
  have h2 : ys.isEmpty = true ↔ ys.length = 0 := by rw [List.isEmpty_iff, List.length_eq_zero_iff]
  rw [Bool.eq_iff_iff, h2, hl]
  unfold lawTable pickI
  rw [List.length_map, List.length_eq_zero_iff, List.filter_eq_nil_iff, List.all_eq_true]
  constructor
  · intro q c hc
    obtain ⟨i, hi, rfl⟩ := List.mem_iff_getElem.mp hc
    have := q i (List.mem_range.mpr hi)
    simp only [item_at hi] at this
    show (!bads.any fun b => b == ⟨#[(lawRest x).cps.toList[i]]⟩) = true
    rw [Bool.not_eq_true'];  exact Bool.eq_false_iff.mpr this
  · intro q i hi
    have hi := List.mem_range.mp hi
    have := q _ (List.getElem_mem hi)
    simp only [item_at hi]
    have h3 : (!bads.any fun b => b == ⟨#[(lawRest x).cps.toList[i]]⟩) = true := this
    rw [Bool.not_eq_true'] at h3
    exact Bool.eq_false_iff.mp h3
end Mine
namespace Mine
theorem kf2 : K = K ∧ PySem.Challenge.rw_et5005_01 = PySem.Challenge.rw_et5005_01 := by
  k_fill
  exact ⟨rfl, rfl⟩
section
variable {w : World} {mean : ExcName → Option Value} {mg mb : Str → Option Value} {news : List (Addr × Obj)} {dp un : Nat} {gd : Option (List Code)} {cn : Str} {cs : Scope} {a : Addr} {ccd : Value} {cl : List (Str × Addr)} {outer : List Env} {A₀ : Around} {base h₀ : Heap} {L : Addr} {m : Str → Option Value} {s : Shared} {Q E : Value → Shared → Prop}
theorem use_without {x y : Str} {tk tk2 : Tok} (hx : x.length ≤ 1000) (hy : 1 ≤ y.length ∧ y.length ≤ 10)
    (k1 : Below A₀ base outer h₀) (k2 : Fr h₀ L s.heap m) (k3 : (K w.params).In h₀) (k4 : h₀.get? 40 = some (setO w)) (k5 : News h₀ L s.heap news) (k6 : Top q (looseW q loose) mean mg mb h₀) (k7 : cs.kind = .function) (k8 : dp + 1 < recursionLimit) (k9 : un + 20 * 1 < cLine)
    (k : ∀ (t : Tok) (h' : Heap) (tk' : Nat), Fr h₀ L h' m → News h₀ L h' news → (wo x y).length ≤ x.length → Q (.str (wo x y) t) { s with heap := h', toks := tk' }) : wpAny (model PySem.Challenge.pw_et5005_01 w) (ktrTop dp un gd cn cs L a ccd cl outer) (call (.ref 132) [.str x tk, .str y tk2]) Q E s :=
  (c_without w x y tk tk2 hx hy).useT k1 k2 k3 k4 k5 k6 k7 k8 k9 fun t h' tk' F N _ => k t h' tk' F N (wo_len hy.1)
end
theorem off1 {L' : Addr} {news : List (Addr × Obj)} (h : ∀ p ∈ news, p.1 < L') : ∀ p ∈ news, p.1 ≠ L' + 1 := fun p hp q => by have h1 := h p hp; rw [q] at h1; exact absurd h1 (Nat.not_lt.mpr (Nat.le_succ _))
local macro_rules | `(tactic| k_updF) => `(tactic| exact UpdF.head (off1 (by assumption)))
local macro_rules | `(tactic| k_room) => `(tactic| ktr_room)
local macro_rules | `(tactic| walk_at "eval ListComp") => `(tactic| (k_here; refine Stop.mk ?_))
local macro_rules | `(tactic| walk_at "call ref") => `(tactic| (k_here; (with_reducible show wpAny _ _ (call (Value.ref 132) [Value.str _ _, Value.str _ _]) _ _ _); k_dflt (refine' use_without ?kx ?ky ?k1 ?k2 ?k3 ?kS ?k5 ?k6 ?kK ?kd ?ku ?_; (case k1 => k_asm); (case k2 => k_asm); (case k3 => k_asm); (case kS => assumption); (case k5 => k_asm); (case k6 => k_asm); (case kK => first | exact rfl | assumption); (case kd => ktr_room); (case ku => ktr_units); (case kx => (first | assumption | omega)); (case ky => decide)); intro t9 h9 tk9 F9 N9 hl9; (try dsimp only); (try k_fold)))
local macro_rules | `(tactic| walk_at "CompSrcT") => `(tactic| (k_here; refine Stop.mk ?_))
local macro_rules | `(tactic| walk_at "compareOp Eq ref ref") => `(tactic| (k_here; refine eq_nil (by is_list) (by is_list) (by ktr_units) ?_))
theorem c_table (w : World) (x : Str) (tk : Tok) (hx : x.length ≤ 1000) : Ct 2 w 137 [.str x tk] (fun _ => .bool (lawTable x)) := by
  intro mean mg mb news dp un gd cn cs a ccd cl outer A₀ base h₀ L m s Q E B F X SF N T hk hd hu hret
  refine wpAny_call ?_
  k_dflt (refine' code_defC ?k1 ?k2 ?k3 ?k4 ?k5 ?kA ?kF ?kK ?k6 ?k7 ?k8 ?k9 ?kB ?kD ?_ ?c2 ?c3 ?c4; (case kA => exact rfl); (case kF => exact rfl); (case kK => first | assumption | exact rfl); (case k1 => k_asm); (case k2 => k_asm); (case k3 => k_asm); (case k4 => k_asm); (case k5 => k_asm); (case k6 => k_is); (case k7 => k_is); (case k8 => ktr_room); (case k9 => exact BindsTo.of_eq rfl); (case kB => exact rfl); (case kD => decide +kernel); (case c2 => exact rfl); (case c3 => exact rfl); (case c4 => exact rfl); k_whole; intro g' L' h' tk' cells' FG' F' N' Y' B' X' T' l1; (try k_lt l1); k_cells Y'; (try simp only [List.cons_append, List.nil_append] at N'); (try dsimp only); (try k_lift B'); (try k_fold))
  rename Fr h₀ L _ _ => FH
  have SF' := FH.keep _ _ SF
  k_steps
  unfold Stop
  refine LCt.ListComp_T (F₀ := by k_asm) (by with_unfolding_all rfl) (by decide) (by rfl) (by decide) (by rfl) ?_
  k_steps
  unfold Stop
  refine LCt.CompSrcT.range (by rfl) (by k_asm) (by k_asm) (by assumption) (by first | decide | exact small_one (by l_bnd) (by l_bnd) (by l_bnd) (by l_bnd)) (by first | exact rangeSize_nat _ _ | rfl) (by first | exact Nat.le_of_ble_eq_true rfl | (rw [PySem.sizeLine_eq]; first | omega | ((have hb9 := len_ints_list (by lay_of)); omega)) | size_fits) ?_
  intro g
  refine crt_range (fun i => bads.any fun c => c == Txt.item (lawRest x) (i : Int)) (fun i t I oI C oC D m₂ ys h tk E' hi hC hx F N off ne => ?_) ?_
  · have off0 := off
    simp only [LCg.Off3, and_true] at off
    k_steps
    · refine LCg.CompEnd.intro (by assumption) (by assumption) ((L' + 1, _) :: news) (by intro p hp; exact List.mem_cons_of_mem _ hp) off0 trivial ⟨rfl, by assumption, _, rfl⟩
    · refine LCg.CompEnd.intro (by assumption) (by assumption) ((L' + 1, _) :: news) (by intro p hp; exact List.mem_cons_of_mem _ hp) off0 trivial ⟨rfl, by assumption⟩
  · intro ys hys
    k_steps
    dsimp only [CbRet] at hret
    refine' cb_retB hret ?e1 ?e2 ?e3
    case e2 => assumption
    case e3 => first | assumption | exact news_up (by assumption) | exact news_up (news_up (by assumption)) | exact news_up (news_up (news_up (by assumption)))
    case e1 => rw [table_nil hys]
end Mine
namespace Mine
theorem kf3 : K = K ∧ PySem.Challenge.rw_et5005_01 = PySem.Challenge.rw_et5005_01 := by
  k_fill
  exact ⟨rfl, rfl⟩
abbrev star : Str := Str.ofString "*"
section
variable {w : World} {mean : ExcName → Option Value} {mg mb : Str → Option Value} {news : List (Addr × Obj)} {dp un : Nat} {gd : Option (List Code)} {cn : Str} {cs : Scope} {a : Addr} {ccd : Value} {cl : List (Str × Addr)} {outer : List Env} {A₀ : Around} {base h₀ : Heap} {L : Addr} {m : Str → Option Value} {s : Shared} {Q E : Value → Shared → Prop}
theorem use_table {x : Str} {tk : Tok} (hx : x.length ≤ 1000)
    (k1 : Below A₀ base outer h₀) (k2 : Fr h₀ L s.heap m) (k3 : (K w.params).In h₀) (k4 : h₀.get? 40 = some (setO w)) (k5 : News h₀ L s.heap news) (k6 : Top q (looseW q loose) mean mg mb h₀) (k7 : cs.kind = .function) (k8 : dp + 2 < recursionLimit) (k9 : un + 20 * 2 < cLine)
    (k : ∀ (h' : Heap) (tk' : Nat), Fr h₀ L h' m → News h₀ L h' news → Q (.bool (lawTable x)) { s with heap := h', toks := tk' }) : wpAny (model PySem.Challenge.pw_et5005_01 w) (ktrTop dp un gd cn cs L a ccd cl outer) (call (.ref 137) [.str x tk]) Q E s :=
  (c_table w x tk hx).useT k1 k2 k3 k4 k5 k6 k7 k8 k9 fun t h' tk' F N _ => k h' tk' F N
end
local macro_rules | `(tactic| walk_at "call ref") => `(tactic| (k_here; (with_reducible show wpAny _ _ (call (Value.ref 137) [Value.str _ _]) _ _ _); k_dflt (refine' use_table ?kx ?k1 ?k2 ?k3 ?kS ?k5 ?k6 ?kK ?kd ?ku ?_; (case k1 => k_asm); (case k2 => k_asm); (case k3 => k_asm); (case kS => assumption); (case k5 => k_asm); (case k6 => k_asm); (case kK => first | exact rfl | assumption); (case kd => ktr_room); (case ku => ktr_units); (case kx => (first | omega | exact Nat.le_trans (Txt.slice_le _ _ _) (by omega)))); intro h9 tk9 F9 N9; (try dsimp only); (try k_fold)))
def lawSpecial (x : Str) : Bool := Txt.slice x none (some 1) == star && decide ((1 : Int) < x.length) && lawTable (Txt.slice x (some 1) none)
def lawBlock (x : Str) : Bool := if Txt.slice x none (some 1) == star then lawTable (Txt.slice x (some 1) none) else lawTable x
theorem c_special (w : World) (x : Str) (tk : Tok) (hx : x.length ≤ 900) : Ct 3 w 144 [.str x tk] (fun _ => .bool (lawSpecial x)) := by
  intro mean mg mb news dp un gd cn cs a ccd cl outer A₀ base h₀ L m s Q E B F X SF N T hk hd hu hret
  refine wpAny_call ?_
  k_dflt cell_enter
  rename Fr h₀ L _ _ => FH
  have SF' := FH.keep _ _ SF
  k_steps
  all_goals (try dsimp only [CbRet] at hret)
  all_goals (refine' cb_retB hret ?e1 ?e2 ?e3; (case e2 => assumption); (case e3 => assumption); (case e1 => simp only [lawSpecial]; simp only [*, decide_true, decide_false, Bool.and_true, Bool.true_and, Bool.false_and, Bool.and_false]; done))
theorem c_lblock (w : World) (x : Str) (tk : Tok) (hx : x.length ≤ 900) : Ct 3 w 151 [.str x tk] (fun _ => .bool (lawBlock x)) := by
  intro mean mg mb news dp un gd cn cs a ccd cl outer A₀ base h₀ L m s Q E B F X SF N T hk hd hu hret
  refine wpAny_call ?_
  k_dflt cell_enter
  rename Fr h₀ L _ _ => FH
  have SF' := FH.keep _ _ SF
  k_steps
  all_goals (try dsimp only [CbRet] at hret)
  all_goals (refine' cb_retB hret ?e1 ?e2 ?e3; (case e2 => assumption); (case e3 => assumption); (case e1 => simp only [lawBlock]; simp only [*, if_true, if_false, Bool.false_eq_true]; done))
end Mine
namespace Mine
open PySem.Spec in
def tabOf (D : List (PyData × PyData)) (c : Nat) : Str := match lookup (.str ⟨#[c]⟩) D with
  | some (.str y) => y
  | _ => ⟨#[c]⟩
def ones (D : List (PyData × PyData)) : Bool := D.all fun p => match p.2 with
  | .str y => y.length == 1
  | _ => false
def greatD : List (PyData × PyData) := [(.str (Str.ofString "a"), .str (Str.ofString "A")), (.str (Str.ofString "c"), .str (Str.ofString "C")), (.str (Str.ofString "t"), .str (Str.ofString "T")),
  (.str (Str.ofString "i"), .str (Str.ofString "I")), (.str (Str.ofString "v"), .str (Str.ofString "V")), (.str (Str.ofString "e"), .str (Str.ofString "E"))]
def smallD : List (PyData × PyData) := [(.str (Str.ofString "A"), .str (Str.ofString "a")), (.str (Str.ofString "C"), .str (Str.ofString "c")), (.str (Str.ofString "T"), .str (Str.ofString "t")),
  (.str (Str.ofString "I"), .str (Str.ofString "i")), (.str (Str.ofString "V"), .str (Str.ofString "v")), (.str (Str.ofString "E"), .str (Str.ofString "e")),
  (.str (Str.ofString "U"), .str (Str.ofString "u")), (.str (Str.ofString "M"), .str (Str.ofString "m"))]
theorem lookup_ones {k : PyData} : ∀ {D : List (PyData × PyData)}, ones D = true → ∀ {v}, PySem.Spec.lookup k D = some v → ∃ y, v = .str y ∧ y.length = 1
  | [], _, v, h => nomatch h
  | (a, b) :: r, h, v, hv => by
    unfold ones at h
    rw [List.all_cons, Bool.and_eq_true] at h
    unfold PySem.Spec.lookup at hv
    split at hv
    · injection hv with e
      subst e
      cases b <;> simp at h ⊢
      exact h.1
    · exact lookup_ones h.2 hv
theorem tab_some {D : List (PyData × PyData)} (hD : ones D = true) {c : Nat} (h : (PySem.Spec.lookup (.str ⟨#[c]⟩) D).isSome = true) : PySem.Spec.lookup (.str ⟨#[c]⟩) D = some (.str (tabOf D c)) := by
  obtain ⟨v, hv⟩ := Option.isSome_iff_exists.mp h
  obtain ⟨y, rfl, _⟩ := lookup_ones hD hv
  unfold tabOf
  rw [hv]
theorem tab_none {D : List (PyData × PyData)} {c : Nat} (h : (PySem.Spec.lookup (.str ⟨#[c]⟩) D).isSome = false) : (⟨#[c]⟩ : Str) = tabOf D c := by
  have : PySem.Spec.lookup (.str ⟨#[c]⟩) D = none := by
    cases e : PySem.Spec.lookup (.str ⟨#[c]⟩) D with
    | none => rfl
    | some v => rw [e] at h; cases h
  unfold tabOf
  rw [this]
theorem tab_len {D : List (PyData × PyData)} (hD : ones D = true) (c : Nat) : (tabOf D c).length = 1 := by
  unfold tabOf
  split
  · rename_i y hv
    obtain ⟨y', e, h⟩ := lookup_ones hD hv
    cases e; exact h
  · rfl
theorem great_ones : ones greatD = true := by decide +kernel
theorem small_ones : ones smallD = true := by decide +kernel
theorem strs_carried {α : Type} {g : α → Str} : ∀ {l : List α} {ys : List Value}, StrsAre ys (l.map g) → CarriedAll ys (l.map fun a => PyData.str (g a))
  | [], ys, h => by
    rw [List.map_nil] at h
    cases h
    exact .nil
  | a :: r, ys, h => by
    rw [List.map_cons] at h
    cases h with
    | cons _ t h => exact .cons (.str (g a) t) (strs_carried h)
/-- a table's map, sign by sign -/
def mapped (D : List (PyData × PyData)) (x : Str) : Str := Txt.join (Str.ofString "") (x.cps.toList.map (tabOf D))
end Mine
namespace Mine
theorem kf4 : K = K ∧ PySem.Challenge.rw_et5005_01 = PySem.Challenge.rw_et5005_01 := by
  k_fill
  exact ⟨rfl, rfl⟩
local macro_rules | `(tactic| walk_at "call ref") => `(tactic| (k_here; (with_reducible show wpAny _ _ (call (Value.ref 137) [Value.str _ _]) _ _ _); k_dflt (refine' use_table ?kx ?k1 ?k2 ?k3 ?kS ?k5 ?k6 ?kK ?kd ?ku ?_; (case k1 => k_asm); (case k2 => k_asm); (case k3 => k_asm); (case kS => assumption); (case k5 => k_asm); (case k6 => k_asm); (case kK => first | exact rfl | assumption); (case kd => ktr_room); (case ku => ktr_units); (case kx => (first | omega | exact Nat.le_trans (Txt.slice_le _ _ _) (by omega)))); intro h9 tk9 F9 N9; (try dsimp only); (try k_fold)))
local macro_rules | `(tactic| walk_at "eval ListComp") => `(tactic| (k_here; refine Stop.mk ?_))
local macro_rules | `(tactic| walk_at "StrSrc") => `(tactic| (refine Stop.mk ?_))
local macro_rules | `(tactic| k_room) => `(tactic| ktr_room)
def lawVport (x : Str) : Bool := if Txt.slice x none (some 1) != star then lawTable x else mapped greatD x == Str.ofString "*ACTIVE"
local macro_rules | `(tactic| walk_at "getItem ref str") => `(tactic| (k_here; (rename Option.isSome (PySem.Spec.lookup _ _) = true => hl9); k_dflt (refine getItem_tab PyProof.V.same_str (strKind_is _ _ _ _) (by k_tabat) (tab_some (D := greatD) great_ones hl9) ?_); intro v9 hv9; (obtain ⟨t9, e9⟩ := hv9.str_inv); subst e9; clear hl9))
theorem c_lvport (w : World) (x : Str) (tk : Tok) (hx : x.length ≤ 900) : Ct 3 w 156 [.str x tk] (fun _ => .bool (lawVport x)) := by
  intro mean mg mb news dp un gd cn cs a ccd cl outer A₀ base h₀ L m s Q E B F X SF N T hk hd hu hret
  refine wpAny_call ?_
  k_dflt cell_enter
  rename Fr h₀ L _ _ => FH
  have SF' := FH.keep _ _ SF
  k_steps
  · dsimp only [CbRet] at hret
    refine' cb_retB hret ?e1 ?e2 ?e3
    case e2 => assumption
    case e3 => assumption
    case e1 => simp only [lawVport]; simp only [*, if_true]
  unfold Stop
  refine ListComp_S (F₀ := by k_asm) (by with_unfolding_all rfl) (by decide) (by rfl) (by decide) (by rfl) ?_
  k_steps
  refine StrSrc.of (by rfl) (by k_asm) (by k_asm) (by omega) ?_
  intro g
  refine crs_str (tabOf greatD) (fun c u I oI C oC D m₂ ys h tk E' hc hC hx F N off ne => ?_) ?_
  · have off0 := off
    (try simp only [LCg.Off3] at off)
    k_steps
    · refine LCg.CompEnd.intro (by assumption) (by assumption) news (by intro p hp; exact List.mem_cons_of_mem _ (List.mem_cons_of_mem _ hp)) off0 trivial ⟨rfl, _, rfl⟩
    · rename Option.isSome (PySem.Spec.lookup _ _) = false => hl9
      refine LCg.CompEnd.intro (by assumption) (by assumption) news (by intro p hp; exact List.mem_cons_of_mem _ hp) off0 trivial ⟨rfl, u, ?_⟩
      rw [← tab_none (D := greatD) hl9]
  · intro ys hys
    k_steps
    refine KT.join_1 (l := x.cps.toList) (g := tabOf greatD) (by is_list) (strs_carried hys) (fun a _ => tab_len great_ones a) (by (rw [Array.length_toList]; show x.length ≤ 1048576; omega)) ?_
    intro t9 k9 hj9
    k_steps
    dsimp only [CbRet] at hret
    refine' cb_retB hret ?e1 ?e2 ?e3
    case e2 => assumption
    case e3 => first | assumption | exact news_up (by assumption)
    case e1 => rename (_ != _) = false => hne; simp only [lawVport, hne, Bool.false_eq_true, if_false, mapped]
end Mine
namespace Mine
theorem bads_eq : badList = bads := rfl
theorem badC_eq (c : Nat) : badSet ⟨#[c]⟩ = badC c := by
  unfold badSet badC
  rw [bads_eq, Bool.eq_iff_iff, List.any_eq_true, List.contains_iff_mem]
  constructor
  · intro h; exact ⟨_, h, beq_self_eq_true _⟩
  · rintro ⟨b, hb, e⟩
    rw [← eq_of_beq e]; exact hb
theorem valid_eq {y : Str} {b : Bool} (h : b = true ↔ ∃ k, (badSet k && chIn y y.cps.size k) = true) : (!b) = y.cps.toList.all fun c => !badC c := by
  rw [Bool.eq_iff_iff, Bool.not_eq_true', List.all_eq_true]
  constructor
  · intro hb c hc
    rw [Bool.not_eq_true']
    apply Bool.eq_false_iff.mpr
    intro hbad
    have : b = true := h.mpr ⟨⟨#[c]⟩, by
      rw [Bool.and_eq_true, badC_eq]
      refine ⟨hbad, ?_⟩
      unfold chIn
      rw [List.any_eq_true]
      refine ⟨c, ?_, by simp⟩
      rw [List.take_of_length_le (by rw [Array.length_toList]; exact Nat.le_refl _)]
      exact hc⟩
    rw [hb] at this; cases this
  · intro hall
    apply Bool.eq_false_iff.mpr
    intro hb
    obtain ⟨k, hk⟩ := h.mp hb
    rw [Bool.and_eq_true] at hk
    obtain ⟨h1, h2⟩ := hk
    unfold chIn at h2
    rw [List.any_eq_true] at h2
    obtain ⟨c, hc, e⟩ := h2
    have e := of_decide_eq_true e
    subst e
    have := hall c (List.mem_of_mem_take hc)
    rw [badC_eq] at h1
    rw [h1] at this; cases this
theorem woF_none {c : Nat} {y : List Nat} : ∀ {l : List Nat}, c ∉ l → woF (c :: y) l = l
  | [], _ => rfl
  | d :: r, h => by
    rw [woF_miss (by simp), woF_none (fun hr => h (List.mem_cons_of_mem _ hr))]
    intro e
    simp only [List.length_cons, List.take_succ_cons] at e
    injection e with e1 _
    exact h (e1 ▸ List.mem_cons_self)
theorem wo_none {c : Nat} {y x : Str} {r : List Nat} (hy : y.cps.toList = c :: r) (h : c ∉ x.cps.toList) : wo x y = x := by
  apply Str.ext'
  apply Array.toList_inj.mp
  unfold wo
  rw [hy, woF_none h]
theorem rest_none {x : Str} (h : (Builtin.Str.occurrences x (Str.ofString "\\") 0 x.length 1).isEmpty = true) : lawRest x = x := by
  have e : (Builtin.Str.occurrences x ⟨#[92]⟩ 0 x.length 1).isEmpty = true := h
  rw [empty_one] at e
  have hc : 92 ∉ x.cps.toList := by simpa using e
  unfold lawRest
  rw [wo_none (c := 92) (y := Str.ofString "\\U+") (x := x) (r := [85, 43]) rfl hc, wo_none (c := 92) (r := [77, 43]) rfl hc]
theorem rest_some {x : Str} : Txt.replace (Txt.replace x (Str.ofString "\\U+") (Str.ofString "")) (Str.ofString "\\M+") (Str.ofString "") = lawRest x := by
  show Txt.replace (Txt.replace x (Str.ofString "\\U+") ⟨#[]⟩) (Str.ofString "\\M+") ⟨#[]⟩ = lawRest x
  rw [replace_wo (by decide), replace_wo (by decide)]
  rfl
theorem rep_len {x y : Str} (hy : 1 ≤ y.length) : (Txt.replace x y (Str.ofString "")).length ≤ x.length := by
  show (Txt.replace x y ⟨#[]⟩).length ≤ x.length
  rw [replace_wo hy]
  exact wo_len hy
theorem valid_none {x : Str} {b : Bool} (h : b = true ↔ ∃ k, (badSet k && chIn x x.cps.size k) = true) (e : (Builtin.Str.occurrences x (Str.ofString "\\") 0 x.length 1).isEmpty = true) : (!b) = lawTable x := by
  unfold lawTable
  rw [rest_none e]
  exact valid_eq h
theorem valid_some {x y : Str} {b : Bool} (h : b = true ↔ ∃ k, (badSet k && chIn y y.cps.size k) = true) (e : y = lawRest x) : (!b) = lawTable x := by
  subst e
  exact valid_eq h
end Mine
namespace Mine
theorem kf5 : K = K ∧ PySem.Challenge.rw_et5005_01 = PySem.Challenge.rw_et5005_01 := by
  k_fill
  exact ⟨rfl, rfl⟩
section
local macro_rules | `(tactic| walk_at "call type:set") => `(tactic| (k_here; (with_reducible show wpAny _ _ (call (Value.type "set") [Value.str _ _]) _ _ _); k_dflt (refine' set_str_K ?F ?N ?h ?b ?_; (case F => k_asm); (case N => k_asm); (case h => rfl); (case b => first | omega | exact Nat.le_trans (rep_len (by decide)) (Nat.le_trans (rep_len (by decide)) (by omega)))); intro d' h' tk' o' n' F' N' l1 hs' hn'; (try k_lt l1)))
local macro_rules | `(tactic| walk_at "getMethod ref") => `(tactic| (k_here; (with_reducible show wpAny _ _ (getMethod (Value.ref 40) _ _) _ _ _); k_dflt (refine' getMethod_inv ?F ?S ?_; (case F => k_asm); (case S => assumption))))
local macro_rules | `(tactic| walk_at "call builtin:set.intersection") => `(tactic| (k_here; (with_reducible show wpAny _ _ (call (Value.builtin _) [Value.ref 40, Value.ref _]) _ _ _); k_dflt (refine' inter_K ?F ?N ?S ?m ?o ?n ?_; (case F => k_asm); (case N => k_asm); (case S => assumption); (case m => k_mem); (case o => assumption); (case n => assumption)); intro d' h' o' n' F' N' l1 hs' hn'; (try k_lt l1)))
local macro_rules | `(tactic| walk_at "call type:bool") => `(tactic| (k_here; (with_reducible show wpAny _ _ (call (Value.type "bool") [Value.ref _]) _ _ _); k_dflt (refine' bool_K ?N ?m ?o ?n ?_; (case N => k_asm); (case m => k_mem); (case o => assumption); (case n => assumption)); intro b' hb'))
local macro_rules | `(tactic| walk_at "call builtin:str.replace") => `(tactic| (k_here; (refine replaceT (by omega) (by omega) (by first | decide | assumption) (by first | omega | exact Nat.le_trans (rep_len (by decide)) (by omega)) (by first | decide | omega) ?_); intro t' k' hk'))
local macro_rules | `(tactic| walk_at "execs cons") => `(tactic| (k_here; refine wpAny_execs_cons ?_))
theorem c_vtab (w : World) (x : Str) (tk : Tok) (hx : x.length ≤ 1000) : Ct 1 w 47 [.str x tk] (fun _ => .bool (lawTable x)) := by
  intro mean mg mb news dp un gd cn cs a ccd cl outer A₀ base h₀ L m s Q E B F X SF N T hk hd hu hret
  refine wpAny_call ?_
  k_dflt cell_enter
  rename Fr h₀ L _ _ => FH
  have SF' := FH.keep _ _ SF
  k_steps
  all_goals (dsimp only [CbRet] at hret; refine cb_retB hret ?_ ?_ ?_)
  all_goals first
    | assumption
    | exact news_up (news_up (by assumption))
    | exact valid_none (by assumption) (by assumption)
    | exact valid_some (by assumption) rest_some
end
end Mine
namespace Mine
theorem kf6 : K = K ∧ PySem.Challenge.rw_et5005_01 = PySem.Challenge.rw_et5005_01 := by
  k_fill
  exact ⟨rfl, rfl⟩
section
variable {w : World} {mean : ExcName → Option Value} {mg mb : Str → Option Value} {news : List (Addr × Obj)} {dp un : Nat} {gd : Option (List Code)} {cn : Str} {cs : Scope} {a : Addr} {ccd : Value} {cl : List (Str × Addr)} {outer : List Env} {A₀ : Around} {base h₀ : Heap} {L : Addr} {m : Str → Option Value} {s : Shared} {Q E : Value → Shared → Prop}
theorem use_vtab {x : Str} {tk : Tok} (hx : x.length ≤ 1000)
    (k1 : Below A₀ base outer h₀) (k2 : Fr h₀ L s.heap m) (k3 : (K w.params).In h₀) (k4 : h₀.get? 40 = some (setO w)) (k5 : News h₀ L s.heap news) (k6 : Top q (looseW q loose) mean mg mb h₀) (k7 : cs.kind = .function) (k8 : dp + 1 < recursionLimit) (k9 : un + 20 * 1 < cLine)
    (k : ∀ (h' : Heap) (tk' : Nat), Fr h₀ L h' m → News h₀ L h' news → Q (.bool (lawTable x)) { s with heap := h', toks := tk' }) : wpAny (model PySem.Challenge.pw_et5005_01 w) (ktrTop dp un gd cn cs L a ccd cl outer) (call (.ref 47) [.str x tk]) Q E s :=
  (c_vtab w x tk hx).useT k1 k2 k3 k4 k5 k6 k7 k8 k9 fun t h' tk' F N _ => k h' tk' F N
end
def vAdsk (x : Str) : Bool := Txt.startswith x star && decide ((1 : Int) < x.length) && lawTable (Txt.slice x (some 1) none)
def vLayer (x : Str) : Bool := vAdsk x || lawTable x
def vBlock (x : Str) : Bool := if Txt.startswith x star = true then lawTable (Txt.slice x (some 1) none) else lawTable x
def vVport (x : Str) : Bool := if Txt.startswith x star = true then Txt.upper x == Str.ofString "*ACTIVE" else lawTable x
local macro_rules | `(tactic| walk_at "call ref") => `(tactic| (k_here; (with_reducible show wpAny _ _ (call (Value.ref 47) [Value.str _ _]) _ _ _); k_dflt (refine' use_vtab ?kx ?k1 ?k2 ?k3 ?kS ?k5 ?k6 ?kK ?kd ?ku ?_; (case k1 => k_asm); (case k2 => k_asm); (case k3 => k_asm); (case kS => assumption); (case k5 => k_asm); (case k6 => k_asm); (case kK => first | exact rfl | assumption); (case kd => ktr_room); (case ku => ktr_units); (case kx => (first | omega | exact Nat.le_trans (Txt.slice_le _ _ _) (by omega)))); intro h9 tk9 F9 N9; (try dsimp only); (try k_fold)))
theorem c_adsk (w : World) (x : Str) (tk : Tok) (hx : x.length ≤ 900) : Ct 2 w 68 [.str x tk] (fun _ => .bool (vAdsk x)) := by
  intro mean mg mb news dp un gd cn cs a ccd cl outer A₀ base h₀ L m s Q E B F X SF N T hk hd hu hret
  refine wpAny_call ?_
  k_dflt cell_enter
  rename Fr h₀ L _ _ => FH
  have SF' := FH.keep _ _ SF
  k_steps
  all_goals (dsimp only [CbRet] at hret; refine cb_retB hret ?_ ?_ ?_)
  all_goals first
    | assumption
    | (simp only [vAdsk]; simp only [*, decide_true, decide_false, Bool.and_true, Bool.true_and, Bool.false_and, Bool.and_false, Bool.or_true, Bool.true_or, Bool.false_or, Bool.or_false, if_true, if_false, Bool.false_eq_true]; done)
theorem c_block (w : World) (x : Str) (tk : Tok) (hx : x.length ≤ 900) : Ct 2 w 75 [.str x tk] (fun _ => .bool (vBlock x)) := by
  intro mean mg mb news dp un gd cn cs a ccd cl outer A₀ base h₀ L m s Q E B F X SF N T hk hd hu hret
  refine wpAny_call ?_
  k_dflt cell_enter
  rename Fr h₀ L _ _ => FH
  have SF' := FH.keep _ _ SF
  k_steps
  all_goals (dsimp only [CbRet] at hret; refine cb_retB hret ?_ ?_ ?_)
  all_goals first
    | assumption
    | (simp only [vBlock]; simp only [*, decide_true, decide_false, Bool.and_true, Bool.true_and, Bool.false_and, Bool.and_false, Bool.or_true, Bool.true_or, Bool.false_or, Bool.or_false, if_true, if_false, Bool.false_eq_true]; done)
theorem c_vport (w : World) (x : Str) (tk : Tok) (hx : x.length ≤ 900) : Ct 2 w 82 [.str x tk] (fun _ => .bool (vVport x)) := by
  intro mean mg mb news dp un gd cn cs a ccd cl outer A₀ base h₀ L m s Q E B F X SF N T hk hd hu hret
  refine wpAny_call ?_
  k_dflt cell_enter
  rename Fr h₀ L _ _ => FH
  have SF' := FH.keep _ _ SF
  k_steps
  all_goals (dsimp only [CbRet] at hret; refine cb_retB hret ?_ ?_ ?_)
  all_goals first
    | assumption
    | (simp only [vVport]; simp only [*, decide_true, decide_false, Bool.and_true, Bool.true_and, Bool.false_and, Bool.and_false, Bool.or_true, Bool.true_or, Bool.false_or, Bool.or_false, if_true, if_false, Bool.false_eq_true]; done)
section
variable {w : World} {mean : ExcName → Option Value} {mg mb : Str → Option Value} {news : List (Addr × Obj)} {dp un : Nat} {gd : Option (List Code)} {cn : Str} {cs : Scope} {a : Addr} {ccd : Value} {cl : List (Str × Addr)} {outer : List Env} {A₀ : Around} {base h₀ : Heap} {L : Addr} {m : Str → Option Value} {s : Shared} {Q E : Value → Shared → Prop}
theorem use_adsk {x : Str} {tk : Tok} (hx : x.length ≤ 900)
    (k1 : Below A₀ base outer h₀) (k2 : Fr h₀ L s.heap m) (k3 : (K w.params).In h₀) (k4 : h₀.get? 40 = some (setO w)) (k5 : News h₀ L s.heap news) (k6 : Top q (looseW q loose) mean mg mb h₀) (k7 : cs.kind = .function) (k8 : dp + 2 < recursionLimit) (k9 : un + 20 * 2 < cLine)
    (k : ∀ (h' : Heap) (tk' : Nat), Fr h₀ L h' m → News h₀ L h' news → Q (.bool (vAdsk x)) { s with heap := h', toks := tk' }) : wpAny (model PySem.Challenge.pw_et5005_01 w) (ktrTop dp un gd cn cs L a ccd cl outer) (call (.ref 68) [.str x tk]) Q E s :=
  (c_adsk w x tk hx).useT k1 k2 k3 k4 k5 k6 k7 k8 k9 fun t h' tk' F N _ => k h' tk' F N
end
local macro_rules | `(tactic| walk_at "call ref") => `(tactic| (k_here; (with_reducible show wpAny _ _ (call (Value.ref 68) [Value.str _ _]) _ _ _); k_dflt (refine' use_adsk ?kx ?k1 ?k2 ?k3 ?kS ?k5 ?k6 ?kK ?kd ?ku ?_; (case k1 => k_asm); (case k2 => k_asm); (case k3 => k_asm); (case kS => assumption); (case k5 => k_asm); (case k6 => k_asm); (case kK => first | exact rfl | assumption); (case kd => ktr_room); (case ku => ktr_units); (case kx => (first | omega | exact Nat.le_trans (Txt.slice_le _ _ _) (by omega)))); intro h9 tk9 F9 N9; (try dsimp only); (try k_fold)))
theorem c_layer (w : World) (x : Str) (tk : Tok) (hx : x.length ≤ 900) : Ct 3 w 61 [.str x tk] (fun _ => .bool (vLayer x)) := by
  intro mean mg mb news dp un gd cn cs a ccd cl outer A₀ base h₀ L m s Q E B F X SF N T hk hd hu hret
  refine wpAny_call ?_
  k_dflt cell_enter
  rename Fr h₀ L _ _ => FH
  have SF' := FH.keep _ _ SF
  k_steps
  all_goals (dsimp only [CbRet] at hret; refine cb_retB hret ?_ ?_ ?_)
  all_goals first
    | assumption
    | (simp only [vLayer]; simp only [*, decide_true, decide_false, Bool.and_true, Bool.true_and, Bool.false_and, Bool.and_false, Bool.or_true, Bool.true_or, Bool.false_or, Bool.or_false, if_true, if_false, Bool.false_eq_true]; done)
theorem c_key (w : World) (x : Str) (tk : Tok) (hx : x.length ≤ 900) : Ct 1 w 54 [.str x tk] (fun t => .str (Txt.lower x) t) := by
  intro mean mg mb news dp un gd cn cs a ccd cl outer A₀ base h₀ L m s Q E B F X SF N T hk hd hu hret
  refine wpAny_call ?_
  k_dflt cell_enter
  rename Fr h₀ L _ _ => FH
  have SF' := FH.keep _ _ SF
  k_steps
  all_goals (dsimp only [CbRet] at hret; refine cb_retS hret ?_ ?_ ?_)
  all_goals first
    | assumption
    | rfl
end Mine
namespace Mine
theorem kf7 : K = K ∧ PySem.Challenge.rw_et5005_01 = PySem.Challenge.rw_et5005_01 := by
  k_fill
  exact ⟨rfl, rfl⟩
abbrev pieces : List Str := [Str.ofString "\\U+", Str.ofString "\\M+", Str.ofString "\\", Str.ofString "U+", Str.ofString "M+", Str.ofString "a", Str.ofString "*", Str.ofString "<", Str.ofString "+", Str.ofString "*ACTIVE", Str.ofString "*active", Str.ofString "|", Str.ofString "E", Str.ofString "=", Str.ofString "\\U", Str.ofString "ACTIVE"]
def lwR (x : Int) : Nat → Int
  | 0 => x * 40503 + 977
  | i + 1 => (lwR x i).fdiv 16
def lwW (x : Int) : Nat → Str
  | 0 => Str.ofString ""
  | i + 1 => lwW x i ++ pieces.getD ((lwR x i).fmod 16).toNat Str.empty
def lawWord (x : Int) : Str := lwW x (x.fmod 5 - 0).toNat
theorem getD_or {α : Type} {d : α} {P : α → Prop} (hd : P d) : ∀ {l : List α} {j : Nat}, (∀ a ∈ l, P a) → P (l.getD j d)
  | [], _, _ => by simpa using hd
  | a :: r, 0, h => h a (List.mem_cons_self)
  | a :: r, j + 1, h => by
    simpa using getD_or (l := r) (j := j) hd fun b hb => h b (List.mem_cons_of_mem _ hb)
theorem piece_le (j : Nat) : (pieces.getD j Str.empty).length ≤ 7 := getD_or (P := fun y : Str => y.length ≤ 7) (Nat.zero_le _) (by decide +kernel)
theorem word_le (x : Int) : ∀ i, (lwW x i).length ≤ 7 * i
  | 0 => Nat.le_refl _
  | i + 1 => by
    show (lwW x i ++ pieces.getD ((lwR x i).fmod 16).toNat Str.empty).length ≤ _
    rw [Str.length_append]
    have h1 := word_le x i
    have h2 := piece_le ((lwR x i).fmod 16).toNat
    omega
theorem add_ok {y : Str} {j : Nat} (h : y.length ≤ 100) : y.length + (pieces.getD j Str.empty).length ≤ sizeLine := by
  have := piece_le j
  rw [sizeLine_eq]; omega
abbrev wrMap (base : Str → Option Value) (nw nr : Str) (wd : Str) (r : Int) (t1 t2 : Tok) : Str → Option Value := fun z => if z = nw then some (.str wd t1) else if z = nr then some (.int r t2) else base z
section
variable {prog : Program} {w : World} {A : Around} {E : Value → Shared → Prop} {s : Shared} {env : Env} {h₀ : Heap} {nk nw nr : Str} {body : List Stmt} {Q : Flow → Shared → Prop} {news : List (Addr × Obj)}
def WrJ (news : List (Addr × Obj)) (nw nr : Str) (W : Nat → Str) (R : Nat → Int) (i : Nat) (m : Str → Option Value) (nx : List (Addr × Obj)) : Prop :=
  nx = news ∧ ∃ base t1 t2, m = wrMap base nw nr (W i) (R i) t1 t2
theorem for_wr (W : Nat → Str) (R : Nat → Int) {r : Addr} {a₀ b₀ : Int} {t₀ u₀ v₀ : Tok} {n : Nat} {base : Str → Option Value} {t1 t2 : Tok}
    (hh : A.handled = none) (hr : IsRange s.heap r a₀ b₀ 1 t₀ u₀ v₀) (hsmall : Builtin.Range.small a₀ b₀ 1 = true) (hn : Builtin.Range.rangeSize a₀ b₀ 1 = (n : Int)) (F : Fr h₀ env.locals s.heap (wrMap base nw nr (W 0) (R 0) t1 t2)) (N : News h₀ env.locals s.heap news)
    (turn : ∀ i k t t1 t2 base h tk own, i < n → TbOff own news → Fr h₀ env.locals h (fun y => if y = nk then some (.int k t) else wrMap base nw nr (W i) (R i) t1 t2 y) → News h₀ env.locals h (news ++ own) →
      wpAny (model prog w) A (execs body env) (TbPost h₀ env.locals (WrJ news nw nr W R (i + 1)) own { s with heap := h, toks := tk } Q) E { s with heap := h, toks := tk })
    (done : ∀ base t1 t2 h tk, Fr h₀ env.locals h (wrMap base nw nr (W n) (R n) t1 t2) → News h₀ env.locals h news → Q .next { s with heap := h, toks := tk }) :
    wpAny (model prog w) A (pyIter (.ref r)) (fun it s₂ => LoopAtV prog w A h₀ env nk body Q E it s₂) E s := by
  refine tbr_invG (WrJ news nw nr W R) hh hr hsmall hn F N ⟨rfl, _, _, _, rfl⟩ ?_ ?_
  · rintro i k t m₁ nx h tk own hk hoff ⟨rfl, base', u1, u2, rfl⟩ F' N'
    have hi : i < n := by
      have := (List.getElem?_eq_some_iff.mp hk).1
      rwa [rangeKs_length] at this
    exact turn i k t u1 u2 base' h tk own hi hoff F' N'
  · rintro m₁ nx h tk ⟨rfl, base', u1, u2, rfl⟩ F' N'
    exact done base' u1 u2 h tk F' N'
theorem WrEnd {W : Nat → Str} {R : Nat → Int} {i : Nat} {L : Addr} {own : List (Addr × Obj)} {p : Addr × Obj} {s₁ : Shared} {h' : Heap} {tk : Nat} {base : Str → Option Value} {kv : Option Value} {t1 t2 t1' t2' : Tok} (hw : nk ≠ nw) (hr : nk ≠ nr) (hwr : nw ≠ nr) (hoff : TbOff own news)
    (F : Fr h₀ L h' (fun y => if y = nr then some (.int (R (i + 1)) t2') else if y = nw then some (.str (W (i + 1)) t1') else if y = nk then kv else wrMap base nw nr (W i) (R i) t1 t2 y)) (N : News h₀ L h' (p :: (news ++ own))) :
    TbEnd h₀ L (WrJ news nw nr W R (i + 1)) own s₁ { s₁ with heap := h', toks := tk } := by
  refine ⟨h', tk, _, _, news, rfl, F, N, fun p hp => List.mem_cons_of_mem _ (List.mem_append_left _ hp), fun p hp => List.mem_cons_of_mem _ (List.mem_append_right _ hp), hoff, rfl, fun z => if z = nk then kv else base z, t1', t2', ?_⟩
  funext z
  unfold wrMap
  by_cases h1 : z = nr
  · subst h1
    rw [if_pos rfl, if_neg (Ne.symm hwr), if_pos rfl]
  · by_cases h2 : z = nw
    · subst h2
      rw [if_neg h1, if_pos rfl, if_pos rfl]
    · rw [if_neg h1, if_neg h2, if_neg h2, if_neg h1, if_neg h2, if_neg h1]
end
local macro_rules | `(tactic| k_room) => `(tactic| ktr_room)
local macro_rules | `(tactic| walk_at "exec For") => `(tactic| (k_here; refine Stop.mk ?_))
local macro_rules | `(tactic| walk_at "exec For Name Call cons nil") => `(tactic| (k_here; refine Stop.mk ?_))
local macro_rules | `(tactic| walk_at "pyIter ref") => `(tactic| (k_here; refine Stop.mk ?_))
local macro_rules | `(tactic| walk_at "binaryOp Add str str") => `(tactic| (k_here; k_dflt (refine SBL.add (hsz := add_ok (by assumption)) ?_); intro t9 k9 hl9))
theorem c_word (w : World) (x : Int) (tk : Tok) : Ct 2 w 125 [.int x tk] (fun t => .str (lawWord x) t) := by
  intro mean mg mb news dp un gd cn cs a ccd cl outer A₀ base h₀ L m s Q E B F X SF N T hk hd hu hret
  refine wpAny_call ?_
  k_dflt cell_enter
  rename Fr h₀ L _ _ => FH
  have SF' := FH.keep _ _ SF
  k_steps
  unfold Stop
  rename Fr _ _ _ _ => lF'
  refine For_invVF lF' (by rfl) (by rfl) ?_
  k_steps
  unfold Stop
  rename IsRange _ _ _ _ _ _ _ _ => hr9
  refine for_wr (nw := Str.ofString "word") (nr := Str.ofString "rest") (news := news) (lwW x) (lwR x) (by rfl) hr9 (by first | decide | exact small_one (by l_bnd) (by l_bnd) (by l_bnd) (by l_bnd)) (by first | exact rangeSize_nat _ _ | rfl) (by k_asm) (by k_asm) ?_ ?_
  · intro i k t t1 t2 base h tk own hi hoff F₁ N₁
    have hwl := word_le x i
    have h5 := Int.fmod_lt_of_pos x (show (0 : Int) < 5 by decide)
    have hwl2 : (lwW x i).length ≤ 100 := by omega
    k_steps
    exact WrEnd (nk := Str.ofString "k") (by decide) (by decide) (by decide) hoff (by assumption) (by assumption)
  · intro base t1 t2 h tk F₁ N₁
    k_steps
    dsimp only [CbRet] at hret
    refine cb_retS hret rfl ?_ ?_
    · assumption
    · assumption
end Mine
namespace Mine
section
variable {prog : Program} {w : World} {A : Around} {E : Value → Shared → Prop} {s : Shared} {env : Env} {h₀ : Heap} {x : Str} {body : List Stmt} {Q : Flow → Shared → Prop} {news : List (Addr × Obj)} {m₀ : Str → Option Value}
abbrev ledMap (m₀ : Str → Option Value) (x : Str) (v : Value) : Str → Option Value := fun y => if y = x then some v else m₀ y
def LedEnd (h₀ : Heap) (L : Addr) (m' : Str → Option Value) (news' : List (Addr × Obj)) (s₁ : Shared) (Q : Flow → Shared → Prop) (f : Flow) (s₂ : Shared) : Prop :=
  match f with
  | .ret v => Q (.ret v) s₂
  | .brk => Q .next s₂
  | _ => ∃ h' tk', s₂ = { s₁ with heap := h', toks := tk' } ∧ Fr h₀ L h' m' ∧ News h₀ L h' news'
theorem LedEnd.intro {L : Addr} {m' : Str → Option Value} {news' : List (Addr × Obj)} {s₁ : Shared} {h' : Heap} {tk : Nat} (F : Fr h₀ L h' m') (N : News h₀ L h' news') : LedEnd h₀ L m' news' s₁ Q .next { s₁ with heap := h', toks := tk } := ⟨h', tk, rfl, F, N⟩
theorem for_led {D : Addr} {oD : Obj} {items : Array Value} (hh : A.handled = none) (F : Fr h₀ env.locals s.heap m₀) (N : News h₀ env.locals s.heap news) (hm : (D, oD) ∈ news) (hl : s.heap.IsList D items) (h1 : 1 ≤ items.size)
    (turn : ∀ v I oI h tk, v ∈ items.toList → Fr h₀ env.locals h (ledMap m₀ x v) → News h₀ env.locals h ((I, oI) :: news) → (∀ p ∈ news, p.1 ≠ I) →
      wpAny (model prog w) A (execs body env) (LedEnd h₀ env.locals (ledMap m₀ x v) ((I, oI) :: news) { s with heap := h, toks := tk } Q) E { s with heap := h, toks := tk })
    (done : ∀ v h tk, Fr h₀ env.locals h (ledMap m₀ x v) → News h₀ env.locals h news → Q .next { s with heap := h, toks := tk }) :
    wpAny (model prog w) A (pyIter (.ref D)) (fun it s₂ => LoopAtV prog w A h₀ env x body Q E it s₂) E s := by
  have hne : D ≠ s.heap.objs.size := Nat.ne_of_lt (Heap.lt_size (N _ hm).1)
  refine wpAny_pyIter_list hl ?_
  refine ⟨s.heap.objs.size, [s.heap.objs.size, D], [s.heap.objs.size], items.size, _, _, m₀, news, fun i m nx => nx = news ∧ (i = 0 ∧ m = m₀ ∨ 0 < i ∧ ∃ v, m = ledMap m₀ x v), rfl, Walks.list hh _ D hne items, ?_, ?_, ?_,
    ⟨⟨_, Heap.get?_push_size _ rfl, rfl, rfl⟩, hl.at fun o e => Heap.get?_push_of_some _ e⟩, F.push _, fun p hp => ⟨Heap.get?_push_of_some _ (N p hp).1, (N p hp).2⟩, ⟨rfl, .inl ⟨rfl, rfl⟩⟩, ?_, ?_⟩
  · intro hq
    rcases List.mem_cons.mp hq with e | hq
    · exact absurd F.ns.lt (e ▸ Nat.lt_irrefl _)
    · exact (N _ hm).2.1 (List.mem_singleton.mp hq).symm
  · intro b hb
    rw [List.mem_singleton.mp hb]
    exact Heap.get?_none_of_le (Nat.le_of_lt (Nat.lt_of_le_of_lt F.above F.ns.lt))
  · intro p hp hI
    exact absurd (Heap.lt_size (N p hp).1) ((List.mem_singleton.mp hI) ▸ Nat.lt_irrefl _)
  · rintro i v m₁ news₁ s₁ own ⟨hh', tk', rfl⟩ hin hP hJ hoff hown hget hall hst F₁ N₁
    obtain ⟨rfl, hJ⟩ := hJ
    have em : (fun y => if y = x then some v else m₁ y) = ledMap m₀ x v := by
      funext y
      unfold ledMap
      by_cases hy : y = x
      · rw [if_pos hy, if_pos hy]
      · rw [if_neg hy, if_neg hy]
        rcases hJ with ⟨_, rfl⟩ | ⟨_, u, rfl⟩
        · rfl
        · show ledMap m₀ x u y = m₀ y
          unfold ledMap; rw [if_neg hy]
    rw [em] at F₁
    obtain ⟨⟨oI, hI, _⟩, _⟩ := id hst
    have hI0 : h₀.get? s.heap.objs.size = none := Heap.get?_none_of_le (Nat.le_of_lt (Nat.lt_of_le_of_lt F.above F.ns.lt))
    have hIo := hall s.heap.objs.size (List.mem_cons_self) hI0 oI hI
    have hD := N₁ (D, oD) (List.mem_append_right _ hm)
    refine wpAny_mono (turn v s.heap.objs.size oI hh' tk' (Array.mem_toList_iff.mpr (Array.mem_of_getElem? hP)) F₁ (fun p hp => ?_) (fun p hp e => hoff p hp (List.mem_singleton.mpr e))) (fun f s₂ q => ?_) fun _ _ e => e
    · rcases List.mem_cons.mp hp with rfl | hp
      · exact N₁ _ (List.mem_append_left _ hIo)
      · exact N₁ _ (List.mem_append_right _ hp)
    · have fin : (∃ h' tk'', s₂ = { { s with heap := hh', toks := tk' } with heap := h', toks := tk'' } ∧ Fr h₀ env.locals h' (ledMap m₀ x v) ∧ News h₀ env.locals h' ((s.heap.objs.size, oI) :: news₁)) →
          LoopStepU h₀ env.locals [s.heap.objs.size] own (fun m nx => nx = news₁ ∧ (i + 1 = 0 ∧ m = m₀ ∨ 0 < i + 1 ∧ ∃ v, m = ledMap m₀ x v)) { s with heap := hh', toks := tk' } .next s₂ := by
        rintro ⟨h', tk'', e, F', N'⟩
        refine ⟨rfl, h', tk'', _, news₁, e, F', fun p hp => ?_, hoff, rfl, .inr ⟨Nat.succ_pos _, v, rfl⟩⟩
        rcases List.mem_append.mp hp with hp | hp
        · have hg := hget p hp
          rcases List.mem_cons.mp (hown p hp) with e1 | e1
          · have e2 : p.2 = oI := by
              rw [e1] at hg
              have : some p.2 = some oI := hg.symm.trans hI
              injection this
            have : p = (s.heap.objs.size, oI) := by rw [← e1, ← e2]
            rw [this]; exact N' _ (List.mem_cons_self)
          · have e1 := List.mem_singleton.mp e1
            have e2 : p.2 = oD := by
              rw [e1] at hg
              have : some p.2 = some oD := hg.symm.trans hD.1
              injection this
            have : p = (D, oD) := by rw [← e1, ← e2]
            rw [this]; exact N' _ (List.mem_cons_of_mem _ hm)
        · exact N' _ (List.mem_cons_of_mem _ hp)
      cases f with
      | ret u => exact .ret q
      | brk => exact .brk q
      | next => exact .next (fin q)
      | cont => exact .cont (fin q)
  · rintro h' tk m' news' F' N' hoff ⟨rfl, hJ⟩
    rcases hJ with ⟨h0, _⟩ | ⟨_, v, rfl⟩
    · omega
    · exact done v h' tk F' N'
end
end Mine
namespace Mine
section
open Builtin.Str StrLaws
def s1 (a b c : Nat) : Nat := if c = a then b else c
def sub1 (a b : Nat) (x : Str) : Str := ⟨(x.cps.toList.map (s1 a b)).toArray⟩
theorem sub1_len (a b : Nat) (x : Str) : (sub1 a b x).length = x.length := by
  show (x.cps.toList.map (s1 a b)).toArray.size = x.cps.size
  simp
theorem at_one {x : Str} {a k : Nat} : At x ⟨#[a]⟩ x.length k ↔ x.cps.toList[k]? = some a := by
  have hlen : x.cps.toList.length = x.length := by simp [Str.length]
  constructor
  · intro ⟨h1, h2⟩
    rw [subAt_eq, beq_iff_eq] at h2
    have h2 : (x.cps.toList.drop k).take 1 = [a] := h2
    have : ((x.cps.toList.drop k).take 1)[0]? = some a := by rw [h2]; rfl
    rw [List.getElem?_take_of_lt (by omega), List.getElem?_drop] at this
    simpa using this
  · intro h
    have hk : k < x.cps.toList.length := (List.getElem?_eq_some_iff.mp h).1
    refine ⟨?_, ?_⟩
    · show k + 1 ≤ x.length
      omega
    · rw [subAt_eq, beq_iff_eq]
      show (x.cps.toList.drop k).take 1 = [a]
      rw [List.drop_eq_getElem_cons hk]
      have := (List.getElem?_eq_some_iff.mp h).2
      rw [this]; rfl
theorem map_skip {x : Str} {a b : Nat} : ∀ (j i : Nat), i + j ≤ x.length → (∀ k, i ≤ k → k < i + j → ¬ At x ⟨#[a]⟩ x.length k) →
    (x.cps.toList.drop i).map (s1 a b) = (x.cps.toList.drop i).take j ++ (x.cps.toList.drop (i + j)).map (s1 a b)
  | 0, i, _, _ => by simp
  | j + 1, i, hc, hn => by
    have hlen : x.cps.toList.length = x.length := by simp [Str.length]
    have hi : i < x.cps.toList.length := by omega
    have hd : x.cps.toList.drop i = x.cps.toList[i] :: x.cps.toList.drop (i + 1) := List.drop_eq_getElem_cons hi
    have hne : x.cps.toList[i] ≠ a := fun e => hn i (Nat.le_refl _) (by omega) (at_one.mpr (by rw [List.getElem?_eq_getElem hi, e]))
    rw [hd, List.map_cons, List.take_succ_cons, map_skip j (i + 1) (by omega) (fun k h1 h2 => hn k (by omega) (by omega)), show i + (j + 1) = i + 1 + j by omega]
    unfold s1
    rw [if_neg hne]
    rfl
theorem join_cons2 (z p : Str) : ∀ {l : List Str}, l ≠ [] → Str.join z (p :: l) = p ++ z ++ Str.join z l
  | [], h => absurd rfl h
  | _ :: _, _ => rfl
theorem parts_ne (x : Str) (n : Nat) : ∀ (cuts : List Nat) (a : Nat), partsFrom x n a cuts ≠ []
  | [], _ => by simp [partsFrom]
  | _ :: _, _ => by simp [partsFrom]
theorem map_chain {x : Str} {a b : Nat} : ∀ (cuts : List Nat) (i f : Nat), ChainG x ⟨#[a]⟩ x.length i cuts f → i ≤ x.length → (∀ k, f ≤ k → ¬ At x ⟨#[a]⟩ x.length k) →
    (Str.join ⟨#[b]⟩ (partsFrom x 1 i cuts)).cps.toList = (x.cps.toList.drop i).map (s1 a b)
  | [], i, f, h, hi, hn => by
    have e : f = i := h
    subst e
    have hlen : x.cps.toList.length = x.length := by simp [Str.length]
    rw [map_skip (x.length - f) f (by omega) (fun k h1 _ => hn k h1)]
    simp only [partsFrom, Str.join, strSub_toList]
    rw [show f + (x.length - f) = x.length by omega, show x.cps.toList.drop x.length = [] from List.drop_of_length_le (by omega)]
    simp
  | c :: r, i, f, h, hi, hn => by
    obtain ⟨h1, h2, h3, h4⟩ := h
    have hc : c + 1 ≤ x.length := h2.1
    have hlen : x.cps.toList.length = x.length := by simp [Str.length]
    rw [map_skip (c - i) i (by omega) (fun k k1 k2 => h3 k k1 (by omega))]
    have ec : i + (c - i) = c := by omega
    have hg := at_one.mp h2
    have hcl : c < x.cps.toList.length := by omega
    have hd : x.cps.toList.drop c = a :: x.cps.toList.drop (c + 1) := by
      rw [List.drop_eq_getElem_cons hcl]
      have := (List.getElem?_eq_some_iff.mp hg).2
      rw [this]
    rw [ec, hd, List.map_cons]
    show (Str.join ⟨#[b]⟩ (_ :: partsFrom x 1 (c + 1) r)).cps.toList = _
    rw [join_cons2 _ _ (parts_ne x 1 r (c + 1)), Str.cps_append, Str.cps_append, Array.toList_append, Array.toList_append, map_chain r (c + 1) f h4 hc hn, strSub_toList]
    unfold s1
    simp
theorem replace_one {x : Str} {a b : Nat} : Txt.replace x ⟨#[a]⟩ ⟨#[b]⟩ = sub1 a b x := by
  obtain ⟨f, hch, hn⟩ := occ_tight x ⟨#[a]⟩ (Nat.le_refl 1)
  have key := map_chain (b := b) _ 0 f hch (Nat.zero_le _) hn
  rw [List.drop_zero] at key
  unfold Txt.replace
  split
  · rename_i hc
    have hz : ((⟨#[a]⟩ : Str).length == 0 && (⟨#[b]⟩ : Str).length == 0) = false := rfl
    rw [hz, Bool.or_false, List.isEmpty_iff] at hc
    rw [hc] at key
    have hlen : x.cps.toList.length = x.length := by simp [Str.length]
    simp only [partsFrom, Str.join, strSub_toList, List.drop_zero] at key
    rw [List.take_of_length_le (by omega)] at key
    unfold sub1
    rw [← key]
  · apply Str.ext'
    apply Array.toList_inj.mp
    rw [glued_eq_join, partsBetween_eq]
    show _ = (x.cps.toList.map (s1 a b)).toArray.toList
    rw [List.toList_toArray, ← key]
    rfl
end
end Mine
namespace Mine
/-- the signs that the law's words are made of -/
def alpha : List Nat := [92, 85, 43, 77, 97, 42, 60, 65, 67, 84, 73, 86, 69, 99, 116, 105, 118, 101, 124, 61, 62, 47, 34, 58, 59, 63, 96]
def wordAlpha : List Nat := [92, 85, 43, 77, 97, 42, 60, 65, 67, 84, 73, 86, 69, 99, 116, 105, 118, 101, 124, 61]
def Good (x : Str) : Prop := x.length ≤ 200 ∧ ∀ c ∈ x.cps.toList, c ∈ alpha
def CleanG (g : Str) : Prop := g.length ≤ 28 ∧ ∀ c ∈ g.cps.toList, c ∈ alpha ∧ badC c = false
theorem alpha_ascii : ∀ c ∈ alpha, c < 128 := by decide +kernel
theorem alpha_great : ∀ c ∈ alpha, tabOf greatD c = ⟨#[up1 c]⟩ := by decide +kernel
theorem alpha_small : ∀ c ∈ alpha, tabOf smallD c = ⟨#[lo1 c]⟩ := by decide +kernel
theorem word_alpha : ∀ c ∈ wordAlpha, c ∈ alpha := by decide +kernel
theorem clean_alpha : ∀ c ∈ wordAlpha, s1 92 97 (s1 42 97 (s1 61 97 (s1 60 97 c))) ∈ alpha ∧ badC (s1 92 97 (s1 42 97 (s1 61 97 (s1 60 97 c)))) = false := by decide +kernel
theorem pieces_alpha : ∀ y ∈ pieces, ∀ c ∈ y.cps.toList, c ∈ wordAlpha := by decide +kernel
theorem mapped_of {D : List (PyData × PyData)} {f : Nat → Nat} {x : Str} (h : ∀ c ∈ x.cps.toList, tabOf D c = ⟨#[f c]⟩) : mapped D x = ⟨x.cps.map f⟩ := by
  apply Str.ext'
  apply Array.toList_inj.mp
  unfold mapped
  show (Builtin.Str.glued ⟨#[]⟩ (x.cps.toList.map (tabOf D))).cps.toList = (x.cps.map f).toList
  rw [StrLaws.glued_eq_join, join_nil, Array.toList_map]
  generalize x.cps.toList = l at h
  induction l with
  | nil => rfl
  | cons c r ih =>
    simp only [List.map_cons, List.flatten_cons]
    rw [h c List.mem_cons_self, ih fun d hd => h d (List.mem_cons_of_mem _ hd)]
    rfl
theorem upper_good {x : Str} (h : Good x) : Txt.upper x = mapped greatD x := by
  rw [upper_ascii fun c hc => alpha_ascii c (h.2 c hc), mapped_of fun c hc => alpha_great c (h.2 c hc)]
theorem lower_good {x : Str} (h : Good x) : Txt.lower x = mapped smallD x := by
  rw [lower_ascii fun c hc => alpha_ascii c (h.2 c hc), mapped_of fun c hc => alpha_small c (h.2 c hc)]
theorem starts_eq (x : Str) : Txt.startswith x star = (Txt.slice x none (some 1) == star) := by
  rw [str_beq, slice_to1, Bool.eq_iff_iff]
  have hs : star.cps.toList = [42] := rfl
  have hlen : x.cps.toList.length = x.length := by simp [Str.length]
  unfold Txt.startswith
  rw [Bool.and_eq_true, StrLaws.subAt_eq, List.drop_zero, hs, beq_iff_eq]
  have hl1 : star.length = 1 := rfl
  rw [hl1]
  constructor
  · intro h
    simpa using h.2
  · intro h
    refine ⟨?_, by simpa using h⟩
    have : 1 ≤ x.cps.toList.length := by
      cases e : x.cps.toList with
      | nil => rw [e] at h; cases h
      | cons c r => simp
    simp only [decide_eq_true_eq]; omega
theorem adsk_eq (x : Str) : vAdsk x = lawSpecial x := by
  unfold vAdsk lawSpecial
  rw [starts_eq]
theorem block_eq (x : Str) : vBlock x = lawBlock x := by
  unfold vBlock lawBlock
  rw [starts_eq]
theorem vport_eq {x : Str} (h : Good x) : vVport x = lawVport x := by
  unfold vVport lawVport
  rw [starts_eq, upper_good h]
  by_cases e : (Txt.slice x none (some 1) == star) = true
  · have e2 : (Txt.slice x none (some 1) != star) = false := by unfold bne; rw [e]; rfl
    rw [if_pos e, if_neg (by rw [e2]; exact Bool.false_ne_true)]
  · have e2 : (Txt.slice x none (some 1) != star) = true := by unfold bne; rw [Bool.eq_false_iff.mpr e]; rfl
    rw [if_neg e, if_pos e2]
theorem word_chars (x : Int) : ∀ i, ∀ c ∈ (lwW x i).cps.toList, c ∈ wordAlpha
  | 0 => fun c hc => by have hc : c ∈ ([] : List Nat) := hc; cases hc
  | i + 1 => by
    show ∀ c ∈ (lwW x i ++ pieces.getD ((lwR x i).fmod 16).toNat Str.empty).cps.toList, c ∈ wordAlpha
    rw [Str.cps_append, Array.toList_append]
    intro c hc
    rcases List.mem_append.mp hc with hc | hc
    · exact word_chars x i c hc
    · exact getD_or (P := fun y : Str => ∀ c ∈ y.cps.toList, c ∈ wordAlpha) (by intro c hc; cases hc) pieces_alpha c hc
theorem word_len (x : Int) : (lawWord x).length ≤ 28 := by
  have h5 := Int.fmod_lt_of_pos x (show (0 : Int) < 5 by decide)
  have := word_le x (x.fmod 5 - 0).toNat
  unfold lawWord
  omega
theorem word_good (x : Int) : Good (lawWord x) := ⟨by have := word_len x; omega, fun c hc => word_alpha c (word_chars x _ c hc)⟩
abbrev aCh : Str := Str.ofString "a"
theorem clean_good (x : Int) : CleanG (Txt.replace (Txt.replace (Txt.replace (Txt.replace (lawWord x) (Str.ofString "<") aCh) (Str.ofString "=") aCh) (Str.ofString "*") aCh) (Str.ofString "\\") aCh) := by
  show CleanG (Txt.replace (Txt.replace (Txt.replace (Txt.replace (lawWord x) ⟨#[60]⟩ ⟨#[97]⟩) ⟨#[61]⟩ ⟨#[97]⟩) ⟨#[42]⟩ ⟨#[97]⟩) ⟨#[92]⟩ ⟨#[97]⟩)
  rw [replace_one, replace_one, replace_one, replace_one]
  refine ⟨by rw [sub1_len, sub1_len, sub1_len, sub1_len]; exact word_len x, ?_⟩
  intro c hc
  unfold sub1 at hc
  simp only [List.map_map, List.mem_map, Function.comp] at hc
  obtain ⟨d, hd, rfl⟩ := hc
  exact clean_alpha d (word_chars x _ d hd)
theorem woF_tail {c d e : Nat} {y : List Nat} (hde : d ≠ e) : ∀ {l : List Nat}, c ∉ l → woF (c :: d :: y) (l ++ [c, e]) = l ++ [c, e]
  | [], _ => by
    show woF (c :: d :: y) (c :: [e]) = [c, e]
    rw [woF_miss (by simp) (by
      intro h
      simp only [List.length_cons, List.take_succ_cons] at h
      injection h with _ h
      cases y with
      | nil => simp at h; exact hde h.symm
      | cons f y => simp at h; )]
    by_cases hce : e = c
    · subst hce
      rw [woF_miss (by simp) (by intro h; simp at h)]
      rfl
    · rw [woF_miss (by simp) (by intro h; simp at h)]
      rfl
  | f :: r, h => by
    show woF (c :: d :: y) (f :: (r ++ [c, e])) = f :: (r ++ [c, e])
    rw [woF_miss (by simp), woF_tail hde (fun hr => h (List.mem_cons_of_mem _ hr))]
    intro h2
    simp only [List.length_cons, List.take_succ_cons] at h2
    injection h2 with h3 _
    exact h (h3 ▸ List.mem_cons_self)
theorem CleanG.le {g : Str} (h : CleanG g) : g.length ≤ 28 := h.1
theorem CleanG.no92 {g : Str} (h : CleanG g) : 92 ∉ g.cps.toList := fun hc => by
  have := (h.2 92 hc).2
  exact absurd this (by decide +kernel)
def fines : List Str := [Str.ofString "|", Str.ofString ",", Str.ofString "'", Str.ofString ".", Str.ofString "+"]
theorem bads_len : ∀ k ∈ bads, k.length ≤ 1 := by decide +kernel
theorem fines_len : ∀ k ∈ fines, k.length ≤ 1 := by decide +kernel
theorem bads_one : ∀ k ∈ bads, k.cps.toList.all (fun c => badC c && decide (c ∈ alpha)) = true ∧ k.cps.toList.length = 1 := by decide +kernel
theorem fines_one : ∀ k ∈ fines, k.cps.toList.all (fun c => !badC c && decide (c ≠ 92)) = true := by decide +kernel
theorem tl (g k : Str) : (g ++ k ++ aCh).cps.toList = g.cps.toList ++ (k.cps.toList ++ [97]) := by
  rw [Str.cps_append, Str.cps_append, Array.toList_append, Array.toList_append, List.append_assoc]
  rfl
theorem rest_self {x : Str} (h : 92 ∉ x.cps.toList) : lawRest x = x := by
  unfold lawRest
  rw [wo_none (c := 92) (y := Str.ofString "\\U+") (x := x) (r := [85, 43]) rfl h, wo_none (c := 92) (r := [77, 43]) rfl h]
theorem rest_tail {x : Str} {l : List Nat} (e : x.cps.toList = l ++ [92, 97]) (h : 92 ∉ l) : lawRest x = x := by
  have one : ∀ (y : Str) (d : Nat) (r : List Nat), y.cps.toList = 92 :: d :: r → d ≠ 97 → wo x y = x := by
    intro y d r hy hd
    apply Str.ext'
    apply Array.toList_inj.mp
    unfold wo
    rw [hy, e, woF_tail hd h, List.toList_toArray]
  unfold lawRest
  rw [one (Str.ofString "\\U+") 85 [43] rfl (by decide), one (Str.ofString "\\M+") 77 [43] rfl (by decide)]
theorem bad_false {g k : Str} (h : CleanG g) (hk : k ∈ bads) : lawTable (g ++ k ++ aCh) = false := by
  obtain ⟨h1, h2⟩ := bads_one k hk
  obtain ⟨b, hb⟩ : ∃ b, k.cps.toList = [b] := by
    match e : k.cps.toList, h2 with
    | [b], _ => exact ⟨b, rfl⟩
  have hbad : badC b = true := by
    rw [hb] at h1
    simp only [List.all_cons, List.all_nil, Bool.and_true, Bool.and_eq_true] at h1
    exact h1.1
  have ht := tl g k
  rw [hb] at ht
  have hr : lawRest (g ++ k ++ aCh) = g ++ k ++ aCh := by
    by_cases h92 : b = 92
    · subst h92
      exact rest_tail ht h.no92
    · refine rest_self ?_
      rw [ht]
      intro hm
      rcases List.mem_append.mp hm with hm | hm
      · exact h.no92 hm
      · rcases List.mem_append.mp hm with hm | hm
        · exact h92 (List.mem_singleton.mp hm).symm
        · exact absurd (List.mem_singleton.mp hm) (by decide)
  unfold lawTable
  rw [hr, ht]
  apply Bool.eq_false_iff.mpr
  intro hall
  have := List.all_eq_true.mp hall b (by simp)
  rw [hbad] at this
  cases this
theorem fine_true {g k : Str} (h : CleanG g) (hk : k ∈ fines) : lawTable (g ++ k ++ aCh) = true := by
  have h1 := List.all_eq_true.mp (fines_one k hk)
  have ht := tl g k
  have hr : lawRest (g ++ k ++ aCh) = g ++ k ++ aCh := by
    refine rest_self ?_
    rw [ht]
    intro hm
    rcases List.mem_append.mp hm with hm | hm
    · exact h.no92 hm
    · rcases List.mem_append.mp hm with hm | hm
      · have := h1 _ hm
        rw [Bool.and_eq_true] at this
        exact absurd rfl (of_decide_eq_true this.2)
      · exact absurd (List.mem_singleton.mp hm) (by decide)
  unfold lawTable
  rw [hr, ht, List.all_eq_true]
  intro c hc
  rcases List.mem_append.mp hc with hc | hc
  · rw [(h.2 c hc).2]; rfl
  · rcases List.mem_append.mp hc with hc | hc
    · have := h1 _ hc
      rw [Bool.and_eq_true] at this
      exact this.1
    · rw [List.mem_singleton.mp hc]
      decide +kernel
theorem bad_good {g k : Str} (h : CleanG g) (hk : k ∈ bads) : Good (k ++ g) := by
  have h0 := bads_len k hk
  refine ⟨by rw [Str.length_append]; have := h.1; omega, ?_⟩
  rw [Str.cps_append, Array.toList_append]
  intro c hc
  rcases List.mem_append.mp hc with hc | hc
  · have := List.all_eq_true.mp (bads_one k hk).1 c hc
    rw [Bool.and_eq_true] at this
    exact of_decide_eq_true this.2
  · exact (h.2 c hc).1
end Mine
namespace Mine
theorem kf9 : K = K ∧ PySem.Challenge.rw_et5005_01 = PySem.Challenge.rw_et5005_01 := by
  k_fill
  exact ⟨rfl, rfl⟩
section
variable {w : World} {mean : ExcName → Option Value} {mg mb : Str → Option Value} {news : List (Addr × Obj)} {dp un : Nat} {gd : Option (List Code)} {cn : Str} {cs : Scope} {a : Addr} {ccd : Value} {cl : List (Str × Addr)} {outer : List Env} {A₀ : Around} {base h₀ : Heap} {L : Addr} {m : Str → Option Value} {s : Shared} {Q E : Value → Shared → Prop}
theorem use_gtable {x : Str} {tk : Tok} (hx : Good x)
    (k1 : Below A₀ base outer h₀) (k2 : Fr h₀ L s.heap m) (k3 : (K w.params).In h₀) (k4 : h₀.get? 40 = some (setO w)) (k5 : News h₀ L s.heap news) (k6 : Top q (looseW q loose) mean mg mb h₀) (k7 : cs.kind = .function) (k8 : dp + 2 < recursionLimit) (k9 : un + 20 * 2 < cLine)
    (k : ∀ (t : Tok) (h' : Heap) (tk' : Nat), Fr h₀ L h' m → News h₀ L h' news → Q (.bool (lawTable x)) { s with heap := h', toks := tk' }) : wpAny (model PySem.Challenge.pw_et5005_01 w) (ktrTop dp un gd cn cs L a ccd cl outer) (call (.ref 137) [.str x tk]) Q E s :=
  (c_table w x tk (by have := hx.1; omega)).useT k1 k2 k3 k4 k5 k6 k7 k8 k9 fun t h' tk' F N _ => by exact k t h' tk' F N
theorem use_gspecial {x : Str} {tk : Tok} (hx : Good x)
    (k1 : Below A₀ base outer h₀) (k2 : Fr h₀ L s.heap m) (k3 : (K w.params).In h₀) (k4 : h₀.get? 40 = some (setO w)) (k5 : News h₀ L s.heap news) (k6 : Top q (looseW q loose) mean mg mb h₀) (k7 : cs.kind = .function) (k8 : dp + 3 < recursionLimit) (k9 : un + 20 * 3 < cLine)
    (k : ∀ (t : Tok) (h' : Heap) (tk' : Nat), Fr h₀ L h' m → News h₀ L h' news → Q (.bool (lawSpecial x)) { s with heap := h', toks := tk' }) : wpAny (model PySem.Challenge.pw_et5005_01 w) (ktrTop dp un gd cn cs L a ccd cl outer) (call (.ref 144) [.str x tk]) Q E s :=
  (c_special w x tk (by have := hx.1; omega)).useT k1 k2 k3 k4 k5 k6 k7 k8 k9 fun t h' tk' F N _ => by exact k t h' tk' F N
theorem use_gblock {x : Str} {tk : Tok} (hx : Good x)
    (k1 : Below A₀ base outer h₀) (k2 : Fr h₀ L s.heap m) (k3 : (K w.params).In h₀) (k4 : h₀.get? 40 = some (setO w)) (k5 : News h₀ L s.heap news) (k6 : Top q (looseW q loose) mean mg mb h₀) (k7 : cs.kind = .function) (k8 : dp + 3 < recursionLimit) (k9 : un + 20 * 3 < cLine)
    (k : ∀ (t : Tok) (h' : Heap) (tk' : Nat), Fr h₀ L h' m → News h₀ L h' news → Q (.bool (lawBlock x)) { s with heap := h', toks := tk' }) : wpAny (model PySem.Challenge.pw_et5005_01 w) (ktrTop dp un gd cn cs L a ccd cl outer) (call (.ref 151) [.str x tk]) Q E s :=
  (c_lblock w x tk (by have := hx.1; omega)).useT k1 k2 k3 k4 k5 k6 k7 k8 k9 fun t h' tk' F N _ => by exact k t h' tk' F N
theorem use_gvport {x : Str} {tk : Tok} (hx : Good x)
    (k1 : Below A₀ base outer h₀) (k2 : Fr h₀ L s.heap m) (k3 : (K w.params).In h₀) (k4 : h₀.get? 40 = some (setO w)) (k5 : News h₀ L s.heap news) (k6 : Top q (looseW q loose) mean mg mb h₀) (k7 : cs.kind = .function) (k8 : dp + 3 < recursionLimit) (k9 : un + 20 * 3 < cLine)
    (k : ∀ (t : Tok) (h' : Heap) (tk' : Nat), Fr h₀ L h' m → News h₀ L h' news → Q (.bool (lawVport x)) { s with heap := h', toks := tk' }) : wpAny (model PySem.Challenge.pw_et5005_01 w) (ktrTop dp un gd cn cs L a ccd cl outer) (call (.ref 156) [.str x tk]) Q E s :=
  (c_lvport w x tk (by have := hx.1; omega)).useT k1 k2 k3 k4 k5 k6 k7 k8 k9 fun t h' tk' F N _ => by exact k t h' tk' F N
theorem use_vtable {x : Str} {tk : Tok} (hx : Good x)
    (k1 : Below A₀ base outer h₀) (k2 : Fr h₀ L s.heap m) (k3 : (K w.params).In h₀) (k4 : h₀.get? 40 = some (setO w)) (k5 : News h₀ L s.heap news) (k6 : Top q (looseW q loose) mean mg mb h₀) (k7 : cs.kind = .function) (k8 : dp + 1 < recursionLimit) (k9 : un + 20 * 1 < cLine)
    (k : ∀ (t : Tok) (h' : Heap) (tk' : Nat), Fr h₀ L h' m → News h₀ L h' news → Q (.bool (lawTable x)) { s with heap := h', toks := tk' }) : wpAny (model PySem.Challenge.pw_et5005_01 w) (ktrTop dp un gd cn cs L a ccd cl outer) (call (.ref 47) [.str x tk]) Q E s :=
  (c_vtab w x tk (by have := hx.1; omega)).useT k1 k2 k3 k4 k5 k6 k7 k8 k9 fun t h' tk' F N _ => by exact k t h' tk' F N
theorem use_vadsk {x : Str} {tk : Tok} (hx : Good x)
    (k1 : Below A₀ base outer h₀) (k2 : Fr h₀ L s.heap m) (k3 : (K w.params).In h₀) (k4 : h₀.get? 40 = some (setO w)) (k5 : News h₀ L s.heap news) (k6 : Top q (looseW q loose) mean mg mb h₀) (k7 : cs.kind = .function) (k8 : dp + 2 < recursionLimit) (k9 : un + 20 * 2 < cLine)
    (k : ∀ (t : Tok) (h' : Heap) (tk' : Nat), Fr h₀ L h' m → News h₀ L h' news → Q (.bool (lawSpecial x)) { s with heap := h', toks := tk' }) : wpAny (model PySem.Challenge.pw_et5005_01 w) (ktrTop dp un gd cn cs L a ccd cl outer) (call (.ref 68) [.str x tk]) Q E s :=
  (c_adsk w x tk (by have := hx.1; omega)).useT k1 k2 k3 k4 k5 k6 k7 k8 k9 fun t h' tk' F N _ => by rw [adsk_eq]; exact k t h' tk' F N
theorem use_vlayer {x : Str} {tk : Tok} (hx : Good x)
    (k1 : Below A₀ base outer h₀) (k2 : Fr h₀ L s.heap m) (k3 : (K w.params).In h₀) (k4 : h₀.get? 40 = some (setO w)) (k5 : News h₀ L s.heap news) (k6 : Top q (looseW q loose) mean mg mb h₀) (k7 : cs.kind = .function) (k8 : dp + 3 < recursionLimit) (k9 : un + 20 * 3 < cLine)
    (k : ∀ (t : Tok) (h' : Heap) (tk' : Nat), Fr h₀ L h' m → News h₀ L h' news → Q (.bool (lawSpecial x || lawTable x)) { s with heap := h', toks := tk' }) : wpAny (model PySem.Challenge.pw_et5005_01 w) (ktrTop dp un gd cn cs L a ccd cl outer) (call (.ref 61) [.str x tk]) Q E s :=
  (c_layer w x tk (by have := hx.1; omega)).useT k1 k2 k3 k4 k5 k6 k7 k8 k9 fun t h' tk' F N _ => by unfold vLayer; rw [adsk_eq]; exact k t h' tk' F N
theorem use_vblock {x : Str} {tk : Tok} (hx : Good x)
    (k1 : Below A₀ base outer h₀) (k2 : Fr h₀ L s.heap m) (k3 : (K w.params).In h₀) (k4 : h₀.get? 40 = some (setO w)) (k5 : News h₀ L s.heap news) (k6 : Top q (looseW q loose) mean mg mb h₀) (k7 : cs.kind = .function) (k8 : dp + 2 < recursionLimit) (k9 : un + 20 * 2 < cLine)
    (k : ∀ (t : Tok) (h' : Heap) (tk' : Nat), Fr h₀ L h' m → News h₀ L h' news → Q (.bool (lawBlock x)) { s with heap := h', toks := tk' }) : wpAny (model PySem.Challenge.pw_et5005_01 w) (ktrTop dp un gd cn cs L a ccd cl outer) (call (.ref 75) [.str x tk]) Q E s :=
  (c_block w x tk (by have := hx.1; omega)).useT k1 k2 k3 k4 k5 k6 k7 k8 k9 fun t h' tk' F N _ => by rw [block_eq]; exact k t h' tk' F N
theorem use_vvport {x : Str} {tk : Tok} (hx : Good x)
    (k1 : Below A₀ base outer h₀) (k2 : Fr h₀ L s.heap m) (k3 : (K w.params).In h₀) (k4 : h₀.get? 40 = some (setO w)) (k5 : News h₀ L s.heap news) (k6 : Top q (looseW q loose) mean mg mb h₀) (k7 : cs.kind = .function) (k8 : dp + 2 < recursionLimit) (k9 : un + 20 * 2 < cLine)
    (k : ∀ (t : Tok) (h' : Heap) (tk' : Nat), Fr h₀ L h' m → News h₀ L h' news → Q (.bool (lawVport x)) { s with heap := h', toks := tk' }) : wpAny (model PySem.Challenge.pw_et5005_01 w) (ktrTop dp un gd cn cs L a ccd cl outer) (call (.ref 82) [.str x tk]) Q E s :=
  (c_vport w x tk (by have := hx.1; omega)).useT k1 k2 k3 k4 k5 k6 k7 k8 k9 fun t h' tk' F N _ => by rw [vport_eq hx]; exact k t h' tk' F N
theorem use_vkey {x : Str} {tk : Tok} (hx : Good x)
    (k1 : Below A₀ base outer h₀) (k2 : Fr h₀ L s.heap m) (k3 : (K w.params).In h₀) (k4 : h₀.get? 40 = some (setO w)) (k5 : News h₀ L s.heap news) (k6 : Top q (looseW q loose) mean mg mb h₀) (k7 : cs.kind = .function) (k8 : dp + 1 < recursionLimit) (k9 : un + 20 * 1 < cLine)
    (k : ∀ (t : Tok) (h' : Heap) (tk' : Nat), Fr h₀ L h' m → News h₀ L h' news → Q (.str (mapped smallD x) t) { s with heap := h', toks := tk' }) : wpAny (model PySem.Challenge.pw_et5005_01 w) (ktrTop dp un gd cn cs L a ccd cl outer) (call (.ref 54) [.str x tk]) Q E s :=
  (c_key w x tk (by have := hx.1; omega)).useT k1 k2 k3 k4 k5 k6 k7 k8 k9 fun t h' tk' F N _ => by rw [lower_good hx]; exact k t h' tk' F N
end
theorem isnot_eq {prog : Program} {w : World} {A : Around} {E : Value → Shared → Prop} {s : Shared} {a b : Bool} {Q : Value → Shared → Prop} (e : a = b) (h : Q (.bool false) s) : wpAny (model prog w) A (compareOp .IsNot (.bool a) (.bool b)) Q E s := by
  subst e
  cases a
  · exact wpAny_pure h
  · exact wpAny_pure h
local macro_rules | `(tactic| walk_at "call ref") => `(tactic| (k_here; (with_reducible show wpAny _ _ (call (Value.ref 137) [Value.str _ _]) _ _ _); k_dflt (refine' use_gtable ?kx ?k1 ?k2 ?k3 ?kS ?k5 ?k6 ?kK ?kd ?ku ?_; (case k1 => k_asm); (case k2 => k_asm); (case k3 => k_asm); (case kS => assumption); (case k5 => k_asm); (case k6 => k_asm); (case kK => first | exact rfl | assumption); (case kd => ktr_room); (case ku => ktr_units); (case kx => assumption)); intro t9 h9 tk9 F9 N9; (try dsimp only); (try k_fold)))
local macro_rules | `(tactic| walk_at "call ref") => `(tactic| (k_here; (with_reducible show wpAny _ _ (call (Value.ref 144) [Value.str _ _]) _ _ _); k_dflt (refine' use_gspecial ?kx ?k1 ?k2 ?k3 ?kS ?k5 ?k6 ?kK ?kd ?ku ?_; (case k1 => k_asm); (case k2 => k_asm); (case k3 => k_asm); (case kS => assumption); (case k5 => k_asm); (case k6 => k_asm); (case kK => first | exact rfl | assumption); (case kd => ktr_room); (case ku => ktr_units); (case kx => assumption)); intro t9 h9 tk9 F9 N9; (try dsimp only); (try k_fold)))
local macro_rules | `(tactic| walk_at "call ref") => `(tactic| (k_here; (with_reducible show wpAny _ _ (call (Value.ref 151) [Value.str _ _]) _ _ _); k_dflt (refine' use_gblock ?kx ?k1 ?k2 ?k3 ?kS ?k5 ?k6 ?kK ?kd ?ku ?_; (case k1 => k_asm); (case k2 => k_asm); (case k3 => k_asm); (case kS => assumption); (case k5 => k_asm); (case k6 => k_asm); (case kK => first | exact rfl | assumption); (case kd => ktr_room); (case ku => ktr_units); (case kx => assumption)); intro t9 h9 tk9 F9 N9; (try dsimp only); (try k_fold)))
local macro_rules | `(tactic| walk_at "call ref") => `(tactic| (k_here; (with_reducible show wpAny _ _ (call (Value.ref 156) [Value.str _ _]) _ _ _); k_dflt (refine' use_gvport ?kx ?k1 ?k2 ?k3 ?kS ?k5 ?k6 ?kK ?kd ?ku ?_; (case k1 => k_asm); (case k2 => k_asm); (case k3 => k_asm); (case kS => assumption); (case k5 => k_asm); (case k6 => k_asm); (case kK => first | exact rfl | assumption); (case kd => ktr_room); (case ku => ktr_units); (case kx => assumption)); intro t9 h9 tk9 F9 N9; (try dsimp only); (try k_fold)))
local macro_rules | `(tactic| walk_at "call ref") => `(tactic| (k_here; (with_reducible show wpAny _ _ (call (Value.ref 47) [Value.str _ _]) _ _ _); k_dflt (refine' use_vtable ?kx ?k1 ?k2 ?k3 ?kS ?k5 ?k6 ?kK ?kd ?ku ?_; (case k1 => k_asm); (case k2 => k_asm); (case k3 => k_asm); (case kS => assumption); (case k5 => k_asm); (case k6 => k_asm); (case kK => first | exact rfl | assumption); (case kd => ktr_room); (case ku => ktr_units); (case kx => assumption)); intro t9 h9 tk9 F9 N9; (try dsimp only); (try k_fold)))
local macro_rules | `(tactic| walk_at "call ref") => `(tactic| (k_here; (with_reducible show wpAny _ _ (call (Value.ref 68) [Value.str _ _]) _ _ _); k_dflt (refine' use_vadsk ?kx ?k1 ?k2 ?k3 ?kS ?k5 ?k6 ?kK ?kd ?ku ?_; (case k1 => k_asm); (case k2 => k_asm); (case k3 => k_asm); (case kS => assumption); (case k5 => k_asm); (case k6 => k_asm); (case kK => first | exact rfl | assumption); (case kd => ktr_room); (case ku => ktr_units); (case kx => assumption)); intro t9 h9 tk9 F9 N9; (try dsimp only); (try k_fold)))
local macro_rules | `(tactic| walk_at "call ref") => `(tactic| (k_here; (with_reducible show wpAny _ _ (call (Value.ref 61) [Value.str _ _]) _ _ _); k_dflt (refine' use_vlayer ?kx ?k1 ?k2 ?k3 ?kS ?k5 ?k6 ?kK ?kd ?ku ?_; (case k1 => k_asm); (case k2 => k_asm); (case k3 => k_asm); (case kS => assumption); (case k5 => k_asm); (case k6 => k_asm); (case kK => first | exact rfl | assumption); (case kd => ktr_room); (case ku => ktr_units); (case kx => assumption)); intro t9 h9 tk9 F9 N9; (try dsimp only); (try k_fold)))
local macro_rules | `(tactic| walk_at "call ref") => `(tactic| (k_here; (with_reducible show wpAny _ _ (call (Value.ref 75) [Value.str _ _]) _ _ _); k_dflt (refine' use_vblock ?kx ?k1 ?k2 ?k3 ?kS ?k5 ?k6 ?kK ?kd ?ku ?_; (case k1 => k_asm); (case k2 => k_asm); (case k3 => k_asm); (case kS => assumption); (case k5 => k_asm); (case k6 => k_asm); (case kK => first | exact rfl | assumption); (case kd => ktr_room); (case ku => ktr_units); (case kx => assumption)); intro t9 h9 tk9 F9 N9; (try dsimp only); (try k_fold)))
local macro_rules | `(tactic| walk_at "call ref") => `(tactic| (k_here; (with_reducible show wpAny _ _ (call (Value.ref 82) [Value.str _ _]) _ _ _); k_dflt (refine' use_vvport ?kx ?k1 ?k2 ?k3 ?kS ?k5 ?k6 ?kK ?kd ?ku ?_; (case k1 => k_asm); (case k2 => k_asm); (case k3 => k_asm); (case kS => assumption); (case k5 => k_asm); (case k6 => k_asm); (case kK => first | exact rfl | assumption); (case kd => ktr_room); (case ku => ktr_units); (case kx => assumption)); intro t9 h9 tk9 F9 N9; (try dsimp only); (try k_fold)))
local macro_rules | `(tactic| walk_at "call ref") => `(tactic| (k_here; (with_reducible show wpAny _ _ (call (Value.ref 54) [Value.str _ _]) _ _ _); k_dflt (refine' use_vkey ?kx ?k1 ?k2 ?k3 ?kS ?k5 ?k6 ?kK ?kd ?ku ?_; (case k1 => k_asm); (case k2 => k_asm); (case k3 => k_asm); (case kS => assumption); (case k5 => k_asm); (case k6 => k_asm); (case kK => first | exact rfl | assumption); (case kd => ktr_room); (case ku => ktr_units); (case kx => assumption)); intro t9 h9 tk9 F9 N9; (try dsimp only); (try k_fold)))
local macro_rules | `(tactic| walk_at "compareOp IsNot bool bool") => `(tactic| (k_here; (with_reducible show wpAny _ _ (compareOp CmpOp.IsNot (Value.bool _) (Value.bool _)) _ _ _); k_dflt (refine isnot_eq (by first | rfl | (simp only [*, Bool.true_or, Bool.false_or]; done)) ?_)))
local macro_rules | `(tactic| walk_at "eval ListComp") => `(tactic| (k_here; refine Stop.mk ?_))
local macro_rules | `(tactic| k_room) => `(tactic| ktr_room)
local macro_rules | `(tactic| walk_at "getItem ref str") => `(tactic| (k_here; (rename Option.isSome (PySem.Spec.lookup _ _) = true => hl9); k_dflt (refine getItem_tab PyProof.V.same_str (strKind_is _ _ _ _) (by k_tabat) (tab_some (D := smallD) small_ones hl9) ?_); intro v9 hv9; (obtain ⟨t9, e9⟩ := hv9.str_inv); subst e9; clear hl9))
theorem c_asked (w : World) (x : Str) (tk : Tok) (hx : Good x) : Ct 5 w 161 [.str x tk] (fun _ => .bool true) := by
  intro mean mg mb news dp un gd cn cs a ccd cl outer A₀ base h₀ L m s Q E B F X SF N T hk hd hu hret
  refine wpAny_call ?_
  k_dflt cell_enter
  rename Fr h₀ L _ _ => FH
  have SF' := FH.keep _ _ SF
  k_steps
  all_goals
    unfold Stop
    refine ListComp_S (F₀ := by k_asm) (by with_unfolding_all rfl) (by decide) (by rfl) (by decide) (by rfl) ?_
    k_steps
    refine StrSrc.of (by rfl) (by k_asm) (by k_asm) (by have := hx.1; omega) ?_
    intro g
    refine crs_str (tabOf smallD) (fun c u I oI C oC D m₂ ys h tk E' hc hC hx F N off ne => ?_) ?_
    · have off0 := off
      (try simp only [LCg.Off3] at off)
      k_steps
      · refine LCg.CompEnd.intro (by assumption) (by assumption) news (by intro p hp; exact List.mem_cons_of_mem _ (List.mem_cons_of_mem _ hp)) off0 trivial ⟨rfl, _, rfl⟩
      · rename Option.isSome (PySem.Spec.lookup _ _) = false => hl9
        refine LCg.CompEnd.intro (by assumption) (by assumption) news (by intro p hp; exact List.mem_cons_of_mem _ hp) off0 trivial ⟨rfl, u, ?_⟩
        rw [← tab_none (D := smallD) hl9]
    · intro ys hys
      k_steps
      refine KT.join_1 (l := x.cps.toList) (g := tabOf smallD) (by is_list) (strs_carried hys) (fun a _ => tab_len small_ones a) (by (rw [Array.length_toList]; show x.length ≤ 1048576; have := hx.1; omega)) ?_
      intro t9 k9 hj9
      k_steps
      dsimp only [CbRet] at hret
      refine cb_retB hret ?_ ?_ ?_
      · exact beq_self_eq_true _
      · assumption
      · first | assumption | exact news_up (by assumption)
end Mine
namespace Mine
theorem kfL : K = K ∧ PySem.Challenge.rw_et5005_01 = PySem.Challenge.rw_et5005_01 := by
  k_fill
  exact ⟨rfl, rfl⟩
theorem rep1_len {x : Str} {a b : Nat} : (Txt.replace x ⟨#[a]⟩ ⟨#[b]⟩).length = x.length := by rw [replace_one, sub1_len]
theorem one_eq {y : Str} (h : y.length = 1) : ∃ a, y = ⟨#[a]⟩ := by
  obtain ⟨⟨l⟩⟩ := y
  have h : l.length = 1 := h
  match l, h with
  | [a], _ => exact ⟨a, rfl⟩
theorem replaceV {prog : Program} {w : World} {A : Around} {E : Value → Shared → Prop} {s : Shared} {x y z : Str} {t u v : Tok} {Q : Value → Shared → Prop} (hu : @LE.le Nat instLENat 1 u) (huv : @LT.lt Nat instLTNat u v) (hyz : (y == z) = false) (hx : x.length ≤ 1048576) (h1 : y.length = 1) (h2 : z.length = 1)
    (hq : ∀ y' t' k, y' = Txt.replace x y z → y'.length = x.length → s.toks ≤ k → Q (.str y' t') { s with toks := k }) : wpAny (model prog w) A (call (.builtin "str.replace") [.str x t, .str y u, .str z v]) Q E s := by
  refine replaceT hu huv hyz hx (by omega) fun t' k hk => hq _ t' k rfl ?_ hk
  obtain ⟨a, rfl⟩ := one_eq h1
  obtain ⟨b, rfl⟩ := one_eq h2
  exact rep1_len
theorem clean_of {n : Int} {y1 y2 y3 y4 : Str} (h4 : y4 = Txt.replace y3 (Str.ofString "\\") (Str.ofString "a")) (h3 : y3 = Txt.replace y2 (Str.ofString "*") (Str.ofString "a")) (h2 : y2 = Txt.replace y1 (Str.ofString "=") (Str.ofString "a")) (h1 : y1 = Txt.replace (lawWord n) (Str.ofString "<") (Str.ofString "a")) : CleanG y4 := by
  subst h1 h2 h3 h4
  exact clean_good n
section
variable {w : World} {mean : ExcName → Option Value} {mg mb : Str → Option Value} {news : List (Addr × Obj)} {dp un : Nat} {gd : Option (List Code)} {cn : Str} {cs : Scope} {a : Addr} {ccd : Value} {cl : List (Str × Addr)} {outer : List Env} {A₀ : Around} {base h₀ : Heap} {L : Addr} {m : Str → Option Value} {s : Shared} {Q E : Value → Shared → Prop}
theorem use_asked {x : Str} {tk : Tok} (hx : Good x)
    (k1 : Below A₀ base outer h₀) (k2 : Fr h₀ L s.heap m) (k3 : (K w.params).In h₀) (k4 : h₀.get? 40 = some (setO w)) (k5 : News h₀ L s.heap news) (k6 : Top q (looseW q loose) mean mg mb h₀) (k7 : cs.kind = .function) (k8 : dp + 5 < recursionLimit) (k9 : un + 20 * 5 < cLine)
    (k : ∀ (h' : Heap) (tk' : Nat), Fr h₀ L h' m → News h₀ L h' news → Q (.bool true) { s with heap := h', toks := tk' }) : wpAny (model PySem.Challenge.pw_et5005_01 w) (ktrTop dp un gd cn cs L a ccd cl outer) (call (.ref 161) [.str x tk]) Q E s :=
  (c_asked w x tk hx).useT k1 k2 k3 k4 k5 k6 k7 k8 k9 fun t h' tk' F N _ => k h' tk' F N
theorem use_word {x : Int} {tk : Tok} 
    (k1 : Below A₀ base outer h₀) (k2 : Fr h₀ L s.heap m) (k3 : (K w.params).In h₀) (k4 : h₀.get? 40 = some (setO w)) (k5 : News h₀ L s.heap news) (k6 : Top q (looseW q loose) mean mg mb h₀) (k7 : cs.kind = .function) (k8 : dp + 2 < recursionLimit) (k9 : un + 20 * 2 < cLine)
    (k : ∀ (t : Tok) (h' : Heap) (tk' : Nat), Fr h₀ L h' m → News h₀ L h' news → (lawWord x).length ≤ 28 → s.toks ≤ tk' → Q (.str (lawWord x) t) { s with heap := h', toks := tk' }) : wpAny (model PySem.Challenge.pw_et5005_01 w) (ktrTop dp un gd cn cs L a ccd cl outer) (call (.ref 125) [.int x tk]) Q E s :=
  (c_word w x tk).useT k1 k2 k3 k4 k5 k6 k7 k8 k9 fun t h' tk' F N hk => k t h' tk' F N (word_len x) hk
theorem use_bad {x : Str} {tk : Tok} (hx : x.length ≤ 1000) (hb : lawTable x = false)
    (k1 : Below A₀ base outer h₀) (k2 : Fr h₀ L s.heap m) (k3 : (K w.params).In h₀) (k4 : h₀.get? 40 = some (setO w)) (k5 : News h₀ L s.heap news) (k6 : Top q (looseW q loose) mean mg mb h₀) (k7 : cs.kind = .function) (k8 : dp + 1 < recursionLimit) (k9 : un + 20 * 1 < cLine)
    (k : ∀ (h' : Heap) (tk' : Nat), Fr h₀ L h' m → News h₀ L h' news → Q (.bool false) { s with heap := h', toks := tk' }) : wpAny (model PySem.Challenge.pw_et5005_01 w) (ktrTop dp un gd cn cs L a ccd cl outer) (call (.ref 47) [.str x tk]) Q E s :=
  use_vtab hx k1 k2 k3 k4 k5 k6 k7 k8 k9 (by rw [hb]; exact k)
theorem use_fine {x : Str} {tk : Tok} (hx : x.length ≤ 1000) (hb : lawTable x = true)
    (k1 : Below A₀ base outer h₀) (k2 : Fr h₀ L s.heap m) (k3 : (K w.params).In h₀) (k4 : h₀.get? 40 = some (setO w)) (k5 : News h₀ L s.heap news) (k6 : Top q (looseW q loose) mean mg mb h₀) (k7 : cs.kind = .function) (k8 : dp + 1 < recursionLimit) (k9 : un + 20 * 1 < cLine)
    (k : ∀ (h' : Heap) (tk' : Nat), Fr h₀ L h' m → News h₀ L h' news → Q (.bool true) { s with heap := h', toks := tk' }) : wpAny (model PySem.Challenge.pw_et5005_01 w) (ktrTop dp un gd cn cs L a ccd cl outer) (call (.ref 47) [.str x tk]) Q E s :=
  use_vtab hx k1 k2 k3 k4 k5 k6 k7 k8 k9 (by rw [hb]; exact k)
end
theorem more_in {P : Params} {h : Heap} (X : (K P).In h) : ∃ ws, h.IsList 118 ws.toArray ∧ IntsAre ws [2053, 181, 9, 4327, 611, 77] := by
  refine ⟨_, ⟨_, X 118 _ rfl, rfl, _, rfl⟩, ?_⟩
  repeat constructor
local macro_rules | `(tactic| walk_at "binaryOp Add ref ref") => `(tactic| (k_here; (rename Frag.In _ _ => kX9); k_dflt (obtain ⟨ws9, hl9, hi9⟩ := more_in (kX9.keeps (Fr.keep (by k_asm))); refine' kmk_add_ints ?F ?N ?a ?b ?i ?j ?_ ?z; (case F => k_asm); (case N => k_asm); (case a => kmk_list); (case b => exact hl9); (case i => l_ints); (case j => exact hi9); (case z => kmk_sum)); intro D' ws' h' F' N' l1 hI'; (try k_lt l1); (try k_sweep)))
local macro_rules | `(tactic| walk_at "formatField") => `(tactic| (k_here; (with_reducible show wpAny _ _ (formatField (Value.type _) _) _ _ _); k_dflt (refine' fmt_type ?ht ?hu ?hn ?_; (case ht => first | exact isType_NoneType | exact isType_int); (case hu => ktr_units); (case hn => decide +kernel)); intro t9 k9))
local macro_rules | `(tactic| walk_at "call ref") => `(tactic| (k_here; (with_reducible show wpAny _ _ (call (Value.ref 161) [Value.str _ _]) _ _ _); k_dflt (refine' use_asked ?kx ?k1 ?k2 ?k3 ?kS ?k5 ?k6 ?kK ?kd ?ku ?_; (case k1 => k_asm); (case k2 => k_asm); (case k3 => k_asm); (case kS => assumption); (case k5 => k_asm); (case k6 => k_asm); (case kK => first | exact rfl | assumption); (case kd => ktr_room); (case ku => ktr_units); (case kx => first | exact word_good _ | exact bad_good (by assumption) (by assumption))); intro h9 tk9 F9 N9; (try dsimp only); (try k_fold)))
local macro_rules | `(tactic| walk_at "call ref") => `(tactic| (k_here; (with_reducible show wpAny _ _ (call (Value.ref 125) [Value.int _ _]) _ _ _); k_dflt (refine' use_word ?k1 ?k2 ?k3 ?kS ?k5 ?k6 ?kK ?kd ?ku ?_; (case k1 => k_asm); (case k2 => k_asm); (case k3 => k_asm); (case kS => assumption); (case k5 => k_asm); (case k6 => k_asm); (case kK => first | exact rfl | assumption); (case kd => ktr_room); (case ku => ktr_units)); intro t9 h9 tk9 F9 N9 hl9 hk9; (try dsimp only at hk9); (try dsimp only); (try k_fold)))
local macro_rules | `(tactic| walk_at "call ref") => `(tactic| (k_here; (rename CleanG _ => hcl9); (with_reducible show wpAny _ _ (call (Value.ref 47) [Value.str _ _]) _ _ _); k_dflt (refine' use_bad ?kx ?kb ?k1 ?k2 ?k3 ?kS ?k5 ?k6 ?kK ?kd ?ku ?_; (case k1 => k_asm); (case k2 => k_asm); (case k3 => k_asm); (case kS => assumption); (case k5 => k_asm); (case k6 => k_asm); (case kK => first | exact rfl | assumption); (case kd => ktr_room); (case ku => ktr_units); (case kx => omega); (case kb => exact bad_false hcl9 (by assumption))); intro h9 tk9 F9 N9; (try dsimp only); (try k_fold)))
local macro_rules | `(tactic| walk_at "call ref") => `(tactic| (k_here; (rename CleanG _ => hcl9); (with_reducible show wpAny _ _ (call (Value.ref 47) [Value.str _ _]) _ _ _); k_dflt (refine' use_fine ?kx ?kb ?k1 ?k2 ?k3 ?kS ?k5 ?k6 ?kK ?kd ?ku ?_; (case k1 => k_asm); (case k2 => k_asm); (case k3 => k_asm); (case kS => assumption); (case k5 => k_asm); (case k6 => k_asm); (case kK => first | exact rfl | assumption); (case kd => ktr_room); (case ku => ktr_units); (case kx => omega); (case kb => exact fine_true hcl9 (by assumption))); intro h9 tk9 F9 N9; (try dsimp only); (try k_fold)))
theorem ints_mem {v : Value} : ∀ {vs : List Value} {ns : List Int}, IntsAre vs ns → v ∈ vs → ∃ k t, v = .int k t ∧ k ∈ ns
  | _, _, .cons y t r, h => by
    rcases List.mem_cons.mp h with rfl | h
    · exact ⟨y, t, rfl, List.mem_cons_self⟩
    · obtain ⟨k, u, e, hk⟩ := ints_mem r h
      exact ⟨k, u, e, List.mem_cons_of_mem _ hk⟩
theorem strs_mem {v : Value} : ∀ {vs : List Value} {ns : List Str}, StrsAre vs ns → v ∈ vs → ∃ k t, v = .str k t ∧ k ∈ ns
  | _, _, .cons y t r, h => by
    rcases List.mem_cons.mp h with rfl | h
    · exact ⟨y, t, rfl, List.mem_cons_self⟩
    · obtain ⟨k, u, e, hk⟩ := strs_mem r h
      exact ⟨k, u, e, List.mem_cons_of_mem _ hk⟩
local macro_rules | `(tactic| walk_at "exec For") => `(tactic| (k_here; refine Stop.mk ?_))
local macro_rules | `(tactic| walk_at "exec For Name Call cons nil") => `(tactic| (k_here; refine Stop.mk ?_))
local macro_rules | `(tactic| walk_at "pyIter ref") => `(tactic| (k_here; refine Stop.mk ?_))
-- one line more than the text before holds: the library keeps its lines by their count alone
local macro_rules | `(tactic| walk_at "no such step") => `(tactic| fail)
local macro_rules | `(tactic| walk_at "LedEnd") => `(tactic| (exact LedEnd.intro (by assumption) (by assumption)))
local macro_rules | `(tactic| walk_at "call builtin:str.replace") => `(tactic| (k_here; (refine replaceV (by omega) (by omega) (by decide) (by omega) (by decide) (by decide) ?_); intro y9 t9 k9 hy9 hl9 hk9; (try dsimp only at hk9)))
local macro_rules | `(tactic| walk_at "binaryOp Add str str") => `(tactic| (k_here; k_dflt (refine SBL.add (hsz := by (rw [sizeLine_eq]; omega)) ?_); intro t9 k9 hl9))
local macro_rules | `(tactic| walk_at "execs cons") => `(tactic| (k_here; refine wpAny_execs_cons ?_))
theorem law_holds : PySem.Challenge.rw_et5005_01.Holds := by
  w_on; o_law
  refine holds_open (q := q) (loose := loose) (Xt := hXt) (XP := XL q []) (Yf := Hook.obs hHook) (Ya := Hook.val hHook) (YP := Hook.says hHook) (N := 4000) h_left (Hook.of hHook) (Hook.keeps hHook) (fun s e => xl_of s (Bool.and_eq_true_iff.mp e).1) XL.keeps (by rfl) (by rfl) (by rfl) (fun s e => recFacts_of (Bool.and_eq_true_iff.mp e).2) (by rfl) (by first | assumption | decide +kernel) (by decide +kernel) ⟨rfl, rfl, rfl, rfl, rfl, by decide +kernel⟩ ?hw ?hc
  case hw => w_witness2
  have kf0 : K = K ∧ PySem.Challenge.rw_et5005_01 = PySem.Challenge.rw_et5005_01 := by
    k_fill
    exact ⟨rfl, rfl⟩
  clear kf0
  intro w s₀ s₁ mg mb G Y fa o pm cd doc dV kV ho hd hcd hD hmg hg args vals as hpre hlay hrd hwl hlo
  obtain ⟨KX0, YS⟩ := Y
  have KX : (K w.params).In s₁.heap := KX0
  clear KX0
  k_behind G ho hd hcd hD hmg hpre hlay hrd hwl hlo cd
  (all_goals try k_fold)
  k_steps
  unfold Stop
  rename Fr _ _ _ _ => lF'
  refine For_invVF lF' (by rfl) (by rfl) ?_
  k_steps
  unfold Stop
  rename IntsAre _ (List.take 4 _) => hi9
  refine for_led (by rfl) (by k_asm) (by k_asm) (by k_mem) (by is_list) (by rw [List.size_toArray, hi9.length, List.length_take, List.length_append]; first | (simp; done) | (simp; omega)) ?_ ?_
  · intro v I oI h tk hv F₁ N₁ off9
    obtain ⟨k9, t9, rfl, hk9⟩ := ints_mem hi9 (by simpa using hv)
    k_steps
  intro v h tk F₁ N₁
  k_steps
  unfold Stop
  have hcl := clean_of (by assumption) (by assumption) (by assumption) (by assumption)
  have hcl2 := hcl.le
  have ha9 : (Str.ofString "a").length = 1 := by decide
  rename Fr _ _ _ _ => lF2
  refine For_invVF lF2 (by rfl) (by rfl) ?_
  k_steps
  unfold Stop
  refine for_led (by rfl) (by k_asm) (by k_asm) (by k_mem) (by is_list) (by first | simp | exact Nat.le_of_ble_eq_true rfl) ?_ ?_
  · intro v I oI h tk hv F₁ N₁ off9
    obtain ⟨k9, t9, rfl, hk9⟩ := strs_mem (ns := bads) (by unfold bads; repeat constructor) hv
    have hk1 := bads_len _ hk9
    k_steps
  intro v2 h2 tk2 F2 N2
  k_steps
  unfold Stop
  rename Fr _ _ _ _ => lF3
  refine For_invVF lF3 (by rfl) (by rfl) ?_
  k_steps
  unfold Stop
  refine for_led (by rfl) (by k_asm) (by k_asm) (by k_mem) (by is_list) (by first | simp | exact Nat.le_of_ble_eq_true rfl) ?_ ?_
  · intro v I oI h tk hv F₁ N₁ off9
    obtain ⟨k9, t9, rfl, hk9⟩ := strs_mem (ns := fines) (by unfold fines; repeat constructor) hv
    have hk1 := fines_len _ hk9
    k_steps
  intro v3 h3 tk3 F3 N3
  k_steps
end Mine
theorem PySem.Challenge.cw_et5005_01_holds : PySem.Challenge.rw_et5005_01.Holds := by
  exact Mine.law_holds
