import PyProof.Rows.All
import Wide.All
import OpenK.AllK
import Wide.FinOn
import Lean
import PySem.Challenge.RW_ta0050_01
open PySem PySem.W PyProof.Rows PySem.Calls PySem.Spec
set_option Elab.async false
set_option linter.unusedVariables false
namespace Mine
section
set_option maxRecDepth 100000
set_option maxHeartbeats 0
noncomputable abbrev pw : Program := PySem.Challenge.pw_ta0050_01
structure IsPw (p : Program) : Prop where
  eq : pw = p
noncomputable def pqS : { p : Program // IsPw p } := ⟨_, ⟨by conv => lhs; reduce⟩⟩
noncomputable def pq : Program := pqS.1
theorem pw_is : pw = pq := pqS.2.eq
noncomputable def fdW (k : Nat) : FuncData := match pw.main.body[k]? with
  | some (.FunctionDef n a b _ _ _ sc _ _ _) => { name := n, qualname := n, params := a, body := .stmts b, scope := sc, globals := 0, closure := [], defaults := .none, kwdefaults := .none }
  | _ => { name := Str.empty, qualname := Str.empty, params := ⟨[], [], none, [], [], none, []⟩, body := .stmts [], scope := ⟨.function, [], false, false, []⟩, globals := 0, closure := [], defaults := .none, kwdefaults := .none }
noncomputable def fdAt (k : Nat) : FuncData := match pq.main.body[k]? with
  | some (.FunctionDef n a b _ _ _ sc _ _ _) => { name := n, qualname := n, params := a, body := .stmts b, scope := sc, globals := 0, closure := [], defaults := .none, kwdefaults := .none }
  | _ => { name := Str.empty, qualname := Str.empty, params := ⟨[], [], none, [], [], none, []⟩, body := .stmts [], scope := ⟨.function, [], false, false, []⟩, globals := 0, closure := [], defaults := .none, kwdefaults := .none }
noncomputable def ent (P : Params) (x : Str) (t : Nat) (v : Value) : DictEntry := ⟨PyData.keyHash P x, .str x t, v⟩
noncomputable def constInt : Option Expr → Int
  | some (.Constant (.int i) _ _) => i
  | _ => 0
noncomputable def constStr : Expr → Str
  | .Constant (.str s) _ _ => s
  | _ => Str.empty
noncomputable def b3pairs : List (Int × Str) := match pq.main.body[22]? with
  | some (PySem.Stmt.Assign _ (PySem.Expr.Dict ks vs _) _) => (ks.map constInt).zip (vs.map constStr)
  | _ => []
noncomputable def b3ents (t : Nat) : List (Int × Str) → List DictEntry
  | [] => []
  | (k, x) :: r => ⟨k, .int k t, .str x (t + 1)⟩ :: b3ents (t + 3) r
noncomputable def b3last (t : Nat) : List (Int × Str) → List DictEntry
  | [] => []
  | (k, x) :: r => ⟨k, .int k t, .str x (t + 1)⟩ :: b3last (t + 2) r
noncomputable def b3chunk (c : Nat) : List DictEntry := b3ents (542 + 51 * c) ((b3pairs.drop (17 * c)).take 17)
noncomputable def b3all : List DictEntry := b3ents 542 (b3pairs.take 646) ++ b3last 2480 (b3pairs.drop 646)
noncomputable def d0_19 (P : Params) : List DictEntry := (ent P (Str.mk (Array.mk [nat_lit 111, nat_lit 112, nat_lit 101, nat_lit 110])) 153 (.builtin PySem.W.SL.s16789243406116112673x4)) :: (ent P (Str.mk (Array.mk [nat_lit 113, nat_lit 117, nat_lit 105, nat_lit 116])) 154 (.builtin PySem.W.SL.s14400166428656793546x20)) :: (ent P (Str.mk (Array.mk [nat_lit 101, nat_lit 120, nat_lit 105, nat_lit 116])) 155 (.builtin PySem.W.SL.s5857708277339239366x20)) :: (ent P (Str.mk (Array.mk [nat_lit 99, nat_lit 111, nat_lit 112, nat_lit 121, nat_lit 114, nat_lit 105, nat_lit 103, nat_lit 104, nat_lit 116])) 156 (.builtin "builtins.copyright#opaque")) :: (ent P (Str.mk (Array.mk [nat_lit 99, nat_lit 114, nat_lit 101, nat_lit 100, nat_lit 105, nat_lit 116, nat_lit 115])) 157 (.builtin "builtins.credits#opaque")) :: (ent P (Str.mk (Array.mk [nat_lit 108, nat_lit 105, nat_lit 99, nat_lit 101, nat_lit 110, nat_lit 115, nat_lit 101])) 158 (.builtin "builtins.license#opaque")) :: (ent P (Str.mk (Array.mk [nat_lit 104, nat_lit 101, nat_lit 108, nat_lit 112])) 159 (.builtin PySem.W.SL.s7804999707787243718x20)) :: []
noncomputable def d0_18 (P : Params) : List DictEntry := (ent P (Str.mk (Array.mk [nat_lit 67, nat_lit 111, nat_lit 110, nat_lit 110, nat_lit 101, nat_lit 99, nat_lit 116, nat_lit 105, nat_lit 111, nat_lit 110, nat_lit 82, nat_lit 101, nat_lit 115, nat_lit 101, nat_lit 116, nat_lit 69, nat_lit 114, nat_lit 114, nat_lit 111, nat_lit 114])) 145 (.type PySem.W.SL.s7852717498200857586x20)) :: (ent P (Str.mk (Array.mk [nat_lit 84, nat_lit 97, nat_lit 98, nat_lit 69, nat_lit 114, nat_lit 114, nat_lit 111, nat_lit 114])) 146 (.type PySem.W.SL.s6377248116197321094x8)) :: (ent P (Str.mk (Array.mk [nat_lit 85, nat_lit 110, nat_lit 105, nat_lit 99, nat_lit 111, nat_lit 100, nat_lit 101, nat_lit 68, nat_lit 101, nat_lit 99, nat_lit 111, nat_lit 100, nat_lit 101, nat_lit 69, nat_lit 114, nat_lit 114, nat_lit 111, nat_lit 114])) 147 (.type PySem.W.SL.s3834378056692298002x18)) :: (ent P (Str.mk (Array.mk [nat_lit 85, nat_lit 110, nat_lit 105, nat_lit 99, nat_lit 111, nat_lit 100, nat_lit 101, nat_lit 69, nat_lit 110, nat_lit 99, nat_lit 111, nat_lit 100, nat_lit 101, nat_lit 69, nat_lit 114, nat_lit 114, nat_lit 111, nat_lit 114])) 148 (.type PySem.W.SL.s17586630440231065808x18)) :: (ent P (Str.mk (Array.mk [nat_lit 85, nat_lit 110, nat_lit 105, nat_lit 99, nat_lit 111, nat_lit 100, nat_lit 101, nat_lit 84, nat_lit 114, nat_lit 97, nat_lit 110, nat_lit 115, nat_lit 108, nat_lit 97, nat_lit 116, nat_lit 101, nat_lit 69, nat_lit 114, nat_lit 114, nat_lit 111, nat_lit 114])) 149 (.type PySem.W.SL.s15234114252648025395x21)) :: (ent P (Str.mk (Array.mk [nat_lit 69, nat_lit 120, nat_lit 99, nat_lit 101, nat_lit 112, nat_lit 116, nat_lit 105, nat_lit 111, nat_lit 110, nat_lit 71, nat_lit 114, nat_lit 111, nat_lit 117, nat_lit 112])) 150 (.type PySem.W.SL.s8496462677383758984x14)) :: (ent P (Str.mk (Array.mk [nat_lit 69, nat_lit 110, nat_lit 118, nat_lit 105, nat_lit 114, nat_lit 111, nat_lit 110, nat_lit 109, nat_lit 101, nat_lit 110, nat_lit 116, nat_lit 69, nat_lit 114, nat_lit 114, nat_lit 111, nat_lit 114])) 151 (.type PySem.W.SL.s10852414792293593619x7)) :: (ent P (Str.mk (Array.mk [nat_lit 73, nat_lit 79, nat_lit 69, nat_lit 114, nat_lit 114, nat_lit 111, nat_lit 114])) 152 (.type PySem.W.SL.s10852414792293593619x7)) :: d0_19 P
noncomputable def d0_17 (P : Params) : List DictEntry := (ent P (Str.mk (Array.mk [nat_lit 78, nat_lit 111, nat_lit 116, nat_lit 73, nat_lit 109, nat_lit 112, nat_lit 108, nat_lit 101, nat_lit 109, nat_lit 101, nat_lit 110, nat_lit 116, nat_lit 101, nat_lit 100, nat_lit 69, nat_lit 114, nat_lit 114, nat_lit 111, nat_lit 114])) 137 (.type PySem.W.SL.s8991790508128307865x19)) :: (ent P (Str.mk (Array.mk [nat_lit 80, nat_lit 121, nat_lit 116, nat_lit 104, nat_lit 111, nat_lit 110, nat_lit 70, nat_lit 105, nat_lit 110, nat_lit 97, nat_lit 108, nat_lit 105, nat_lit 122, nat_lit 97, nat_lit 116, nat_lit 105, nat_lit 111, nat_lit 110, nat_lit 69, nat_lit 114, nat_lit 114, nat_lit 111, nat_lit 114])) 138 (.type PySem.W.SL.s14539662485746970245x23)) :: (ent P (Str.mk (Array.mk [nat_lit 82, nat_lit 101, nat_lit 99, nat_lit 117, nat_lit 114, nat_lit 115, nat_lit 105, nat_lit 111, nat_lit 110, nat_lit 69, nat_lit 114, nat_lit 114, nat_lit 111, nat_lit 114])) 139 (.type PySem.W.SL.s11643622729373238714x14)) :: (ent P (Str.mk (Array.mk [nat_lit 85, nat_lit 110, nat_lit 98, nat_lit 111, nat_lit 117, nat_lit 110, nat_lit 100, nat_lit 76, nat_lit 111, nat_lit 99, nat_lit 97, nat_lit 108, nat_lit 69, nat_lit 114, nat_lit 114, nat_lit 111, nat_lit 114])) 140 (.type PySem.W.SL.s3386828779285465597x17)) :: (ent P (Str.mk (Array.mk [nat_lit 85, nat_lit 110, nat_lit 105, nat_lit 99, nat_lit 111, nat_lit 100, nat_lit 101, nat_lit 69, nat_lit 114, nat_lit 114, nat_lit 111, nat_lit 114])) 141 (.type PySem.W.SL.s13042696260734638735x12)) :: (ent P (Str.mk (Array.mk [nat_lit 66, nat_lit 114, nat_lit 111, nat_lit 107, nat_lit 101, nat_lit 110, nat_lit 80, nat_lit 105, nat_lit 112, nat_lit 101, nat_lit 69, nat_lit 114, nat_lit 114, nat_lit 111, nat_lit 114])) 142 (.type PySem.W.SL.s18239426817015966623x15)) :: (ent P (Str.mk (Array.mk [nat_lit 67, nat_lit 111, nat_lit 110, nat_lit 110, nat_lit 101, nat_lit 99, nat_lit 116, nat_lit 105, nat_lit 111, nat_lit 110, nat_lit 65, nat_lit 98, nat_lit 111, nat_lit 114, nat_lit 116, nat_lit 101, nat_lit 100, nat_lit 69, nat_lit 114, nat_lit 114, nat_lit 111, nat_lit 114])) 143 (.type PySem.W.SL.s1270395311379034370x22)) :: (ent P (Str.mk (Array.mk [nat_lit 67, nat_lit 111, nat_lit 110, nat_lit 110, nat_lit 101, nat_lit 99, nat_lit 116, nat_lit 105, nat_lit 111, nat_lit 110, nat_lit 82, nat_lit 101, nat_lit 102, nat_lit 117, nat_lit 115, nat_lit 101, nat_lit 100, nat_lit 69, nat_lit 114, nat_lit 114, nat_lit 111, nat_lit 114])) 144 (.type PySem.W.SL.s10696252587037064777x22)) :: d0_18 P
noncomputable def d0_16 (P : Params) : List DictEntry := (ent P (Str.mk (Array.mk [nat_lit 80, nat_lit 101, nat_lit 114, nat_lit 109, nat_lit 105, nat_lit 115, nat_lit 115, nat_lit 105, nat_lit 111, nat_lit 110, nat_lit 69, nat_lit 114, nat_lit 114, nat_lit 111, nat_lit 114])) 129 (.type PySem.W.SL.s6668348653404991179x15)) :: (ent P (Str.mk (Array.mk [nat_lit 80, nat_lit 114, nat_lit 111, nat_lit 99, nat_lit 101, nat_lit 115, nat_lit 115, nat_lit 76, nat_lit 111, nat_lit 111, nat_lit 107, nat_lit 117, nat_lit 112, nat_lit 69, nat_lit 114, nat_lit 114, nat_lit 111, nat_lit 114])) 130 (.type PySem.W.SL.s12913350958174193794x18)) :: (ent P (Str.mk (Array.mk [nat_lit 84, nat_lit 105, nat_lit 109, nat_lit 101, nat_lit 111, nat_lit 117, nat_lit 116, nat_lit 69, nat_lit 114, nat_lit 114, nat_lit 111, nat_lit 114])) 131 (.type PySem.W.SL.s16115879512475548326x12)) :: (ent P (Str.mk (Array.mk [nat_lit 73, nat_lit 110, nat_lit 100, nat_lit 101, nat_lit 110, nat_lit 116, nat_lit 97, nat_lit 116, nat_lit 105, nat_lit 111, nat_lit 110, nat_lit 69, nat_lit 114, nat_lit 114, nat_lit 111, nat_lit 114])) 132 (.type PySem.W.SL.s15920661018069861047x16)) :: (ent P (Str.mk (Array.mk [nat_lit 95, nat_lit 73, nat_lit 110, nat_lit 99, nat_lit 111, nat_lit 109, nat_lit 112, nat_lit 108, nat_lit 101, nat_lit 116, nat_lit 101, nat_lit 73, nat_lit 110, nat_lit 112, nat_lit 117, nat_lit 116, nat_lit 69, nat_lit 114, nat_lit 114, nat_lit 111, nat_lit 114])) 133 (.type PySem.W.SL.s10779130036587390575x21)) :: (ent P (Str.mk (Array.mk [nat_lit 73, nat_lit 110, nat_lit 100, nat_lit 101, nat_lit 120, nat_lit 69, nat_lit 114, nat_lit 114, nat_lit 111, nat_lit 114])) 134 (.type PySem.W.SL.s7801419657504700863x10)) :: (ent P (Str.mk (Array.mk [nat_lit 75, nat_lit 101, nat_lit 121, nat_lit 69, nat_lit 114, nat_lit 114, nat_lit 111, nat_lit 114])) 135 (.type PySem.W.SL.s1688129525768580628x8)) :: (ent P (Str.mk (Array.mk [nat_lit 77, nat_lit 111, nat_lit 100, nat_lit 117, nat_lit 108, nat_lit 101, nat_lit 78, nat_lit 111, nat_lit 116, nat_lit 70, nat_lit 111, nat_lit 117, nat_lit 110, nat_lit 100, nat_lit 69, nat_lit 114, nat_lit 114, nat_lit 111, nat_lit 114])) 136 (.type PySem.W.SL.s1031832959479892071x19)) :: d0_17 P
noncomputable def d0_15 (P : Params) : List DictEntry := (ent P (Str.mk (Array.mk [nat_lit 66, nat_lit 108, nat_lit 111, nat_lit 99, nat_lit 107, nat_lit 105, nat_lit 110, nat_lit 103, nat_lit 73, nat_lit 79, nat_lit 69, nat_lit 114, nat_lit 114, nat_lit 111, nat_lit 114])) 121 (.type PySem.W.SL.s5735081916595925998x15)) :: (ent P (Str.mk (Array.mk [nat_lit 67, nat_lit 104, nat_lit 105, nat_lit 108, nat_lit 100, nat_lit 80, nat_lit 114, nat_lit 111, nat_lit 99, nat_lit 101, nat_lit 115, nat_lit 115, nat_lit 69, nat_lit 114, nat_lit 114, nat_lit 111, nat_lit 114])) 122 (.type PySem.W.SL.s3865607918536308442x17)) :: (ent P (Str.mk (Array.mk [nat_lit 67, nat_lit 111, nat_lit 110, nat_lit 110, nat_lit 101, nat_lit 99, nat_lit 116, nat_lit 105, nat_lit 111, nat_lit 110, nat_lit 69, nat_lit 114, nat_lit 114, nat_lit 111, nat_lit 114])) 123 (.type PySem.W.SL.s13337502604062700212x15)) :: (ent P (Str.mk (Array.mk [nat_lit 70, nat_lit 105, nat_lit 108, nat_lit 101, nat_lit 69, nat_lit 120, nat_lit 105, nat_lit 115, nat_lit 116, nat_lit 115, nat_lit 69, nat_lit 114, nat_lit 114, nat_lit 111, nat_lit 114])) 124 (.type PySem.W.SL.s13114017843053701147x15)) :: (ent P (Str.mk (Array.mk [nat_lit 70, nat_lit 105, nat_lit 108, nat_lit 101, nat_lit 78, nat_lit 111, nat_lit 116, nat_lit 70, nat_lit 111, nat_lit 117, nat_lit 110, nat_lit 100, nat_lit 69, nat_lit 114, nat_lit 114, nat_lit 111, nat_lit 114])) 125 (.type PySem.W.SL.s17467278006356818441x17)) :: (ent P (Str.mk (Array.mk [nat_lit 73, nat_lit 110, nat_lit 116, nat_lit 101, nat_lit 114, nat_lit 114, nat_lit 117, nat_lit 112, nat_lit 116, nat_lit 101, nat_lit 100, nat_lit 69, nat_lit 114, nat_lit 114, nat_lit 111, nat_lit 114])) 126 (.type PySem.W.SL.s17722149559621369488x16)) :: (ent P (Str.mk (Array.mk [nat_lit 73, nat_lit 115, nat_lit 65, nat_lit 68, nat_lit 105, nat_lit 114, nat_lit 101, nat_lit 99, nat_lit 116, nat_lit 111, nat_lit 114, nat_lit 121, nat_lit 69, nat_lit 114, nat_lit 114, nat_lit 111, nat_lit 114])) 127 (.type PySem.W.SL.s7855274175708717672x17)) :: (ent P (Str.mk (Array.mk [nat_lit 78, nat_lit 111, nat_lit 116, nat_lit 65, nat_lit 68, nat_lit 105, nat_lit 114, nat_lit 101, nat_lit 99, nat_lit 116, nat_lit 111, nat_lit 114, nat_lit 121, nat_lit 69, nat_lit 114, nat_lit 114, nat_lit 111, nat_lit 114])) 128 (.type PySem.W.SL.s13351283678309829046x18)) :: d0_16 P
noncomputable def d0_14 (P : Params) : List DictEntry := (ent P (Str.mk (Array.mk [nat_lit 70, nat_lit 117, nat_lit 116, nat_lit 117, nat_lit 114, nat_lit 101, nat_lit 87, nat_lit 97, nat_lit 114, nat_lit 110, nat_lit 105, nat_lit 110, nat_lit 103])) 113 (.type PySem.W.SL.s5430567037509283100x13)) :: (ent P (Str.mk (Array.mk [nat_lit 73, nat_lit 109, nat_lit 112, nat_lit 111, nat_lit 114, nat_lit 116, nat_lit 87, nat_lit 97, nat_lit 114, nat_lit 110, nat_lit 105, nat_lit 110, nat_lit 103])) 114 (.type PySem.W.SL.s8117915138073963741x13)) :: (ent P (Str.mk (Array.mk [nat_lit 80, nat_lit 101, nat_lit 110, nat_lit 100, nat_lit 105, nat_lit 110, nat_lit 103, nat_lit 68, nat_lit 101, nat_lit 112, nat_lit 114, nat_lit 101, nat_lit 99, nat_lit 97, nat_lit 116, nat_lit 105, nat_lit 111, nat_lit 110, nat_lit 87, nat_lit 97, nat_lit 114, nat_lit 110, nat_lit 105, nat_lit 110, nat_lit 103])) 115 (.type PySem.W.SL.s3423317712779056401x25)) :: (ent P (Str.mk (Array.mk [nat_lit 82, nat_lit 101, nat_lit 115, nat_lit 111, nat_lit 117, nat_lit 114, nat_lit 99, nat_lit 101, nat_lit 87, nat_lit 97, nat_lit 114, nat_lit 110, nat_lit 105, nat_lit 110, nat_lit 103])) 116 (.type PySem.W.SL.s2007317383269046180x15)) :: (ent P (Str.mk (Array.mk [nat_lit 82, nat_lit 117, nat_lit 110, nat_lit 116, nat_lit 105, nat_lit 109, nat_lit 101, nat_lit 87, nat_lit 97, nat_lit 114, nat_lit 110, nat_lit 105, nat_lit 110, nat_lit 103])) 117 (.type PySem.W.SL.s17481586968713580700x14)) :: (ent P (Str.mk (Array.mk [nat_lit 83, nat_lit 121, nat_lit 110, nat_lit 116, nat_lit 97, nat_lit 120, nat_lit 87, nat_lit 97, nat_lit 114, nat_lit 110, nat_lit 105, nat_lit 110, nat_lit 103])) 118 (.type PySem.W.SL.s2450899226349176912x13)) :: (ent P (Str.mk (Array.mk [nat_lit 85, nat_lit 110, nat_lit 105, nat_lit 99, nat_lit 111, nat_lit 100, nat_lit 101, nat_lit 87, nat_lit 97, nat_lit 114, nat_lit 110, nat_lit 105, nat_lit 110, nat_lit 103])) 119 (.type PySem.W.SL.s16626165730633575011x14)) :: (ent P (Str.mk (Array.mk [nat_lit 85, nat_lit 115, nat_lit 101, nat_lit 114, nat_lit 87, nat_lit 97, nat_lit 114, nat_lit 110, nat_lit 105, nat_lit 110, nat_lit 103])) 120 (.type PySem.W.SL.s14288496050688921416x11)) :: d0_15 P
noncomputable def d0_13 (P : Params) : List DictEntry := (ent P (Str.mk (Array.mk [nat_lit 86, nat_lit 97, nat_lit 108, nat_lit 117, nat_lit 101, nat_lit 69, nat_lit 114, nat_lit 114, nat_lit 111, nat_lit 114])) 105 (.type PySem.W.SL.s6070975301684473832x10)) :: (ent P (Str.mk (Array.mk [nat_lit 87, nat_lit 97, nat_lit 114, nat_lit 110, nat_lit 105, nat_lit 110, nat_lit 103])) 106 (.type PySem.W.SL.s14270485950484850486x7)) :: (ent P (Str.mk (Array.mk [nat_lit 70, nat_lit 108, nat_lit 111, nat_lit 97, nat_lit 116, nat_lit 105, nat_lit 110, nat_lit 103, nat_lit 80, nat_lit 111, nat_lit 105, nat_lit 110, nat_lit 116, nat_lit 69, nat_lit 114, nat_lit 114, nat_lit 111, nat_lit 114])) 107 (.type PySem.W.SL.s12041534306414923332x18)) :: (ent P (Str.mk (Array.mk [nat_lit 79, nat_lit 118, nat_lit 101, nat_lit 114, nat_lit 102, nat_lit 108, nat_lit 111, nat_lit 119, nat_lit 69, nat_lit 114, nat_lit 114, nat_lit 111, nat_lit 114])) 108 (.type PySem.W.SL.s2531307568338490285x13)) :: (ent P (Str.mk (Array.mk [nat_lit 90, nat_lit 101, nat_lit 114, nat_lit 111, nat_lit 68, nat_lit 105, nat_lit 118, nat_lit 105, nat_lit 115, nat_lit 105, nat_lit 111, nat_lit 110, nat_lit 69, nat_lit 114, nat_lit 114, nat_lit 111, nat_lit 114])) 109 (.type PySem.W.SL.s631175304937289666x17)) :: (ent P (Str.mk (Array.mk [nat_lit 66, nat_lit 121, nat_lit 116, nat_lit 101, nat_lit 115, nat_lit 87, nat_lit 97, nat_lit 114, nat_lit 110, nat_lit 105, nat_lit 110, nat_lit 103])) 110 (.type PySem.W.SL.s5144983644357021410x12)) :: (ent P (Str.mk (Array.mk [nat_lit 68, nat_lit 101, nat_lit 112, nat_lit 114, nat_lit 101, nat_lit 99, nat_lit 97, nat_lit 116, nat_lit 105, nat_lit 111, nat_lit 110, nat_lit 87, nat_lit 97, nat_lit 114, nat_lit 110, nat_lit 105, nat_lit 110, nat_lit 103])) 111 (.type PySem.W.SL.s18039099521571816885x18)) :: (ent P (Str.mk (Array.mk [nat_lit 69, nat_lit 110, nat_lit 99, nat_lit 111, nat_lit 100, nat_lit 105, nat_lit 110, nat_lit 103, nat_lit 87, nat_lit 97, nat_lit 114, nat_lit 110, nat_lit 105, nat_lit 110, nat_lit 103])) 112 (.type PySem.W.SL.s6011586214260557989x15)) :: d0_14 P
noncomputable def d0_12 (P : Params) : List DictEntry := (ent P (Str.mk (Array.mk [nat_lit 79, nat_lit 83, nat_lit 69, nat_lit 114, nat_lit 114, nat_lit 111, nat_lit 114])) 97 (.type PySem.W.SL.s10852414792293593619x7)) :: (ent P (Str.mk (Array.mk [nat_lit 82, nat_lit 101, nat_lit 102, nat_lit 101, nat_lit 114, nat_lit 101, nat_lit 110, nat_lit 99, nat_lit 101, nat_lit 69, nat_lit 114, nat_lit 114, nat_lit 111, nat_lit 114])) 98 (.type PySem.W.SL.s14816307405966870543x14)) :: (ent P (Str.mk (Array.mk [nat_lit 82, nat_lit 117, nat_lit 110, nat_lit 116, nat_lit 105, nat_lit 109, nat_lit 101, nat_lit 69, nat_lit 114, nat_lit 114, nat_lit 111, nat_lit 114])) 99 (.type PySem.W.SL.s8682627914449686677x12)) :: (ent P (Str.mk (Array.mk [nat_lit 83, nat_lit 116, nat_lit 111, nat_lit 112, nat_lit 65, nat_lit 115, nat_lit 121, nat_lit 110, nat_lit 99, nat_lit 73, nat_lit 116, nat_lit 101, nat_lit 114, nat_lit 97, nat_lit 116, nat_lit 105, nat_lit 111, nat_lit 110])) 100 (.type PySem.W.SL.s4428170145600203450x18)) :: (ent P (Str.mk (Array.mk [nat_lit 83, nat_lit 116, nat_lit 111, nat_lit 112, nat_lit 73, nat_lit 116, nat_lit 101, nat_lit 114, nat_lit 97, nat_lit 116, nat_lit 105, nat_lit 111, nat_lit 110])) 101 (.type PySem.W.SL.s5991306692159431302x13)) :: (ent P (Str.mk (Array.mk [nat_lit 83, nat_lit 121, nat_lit 110, nat_lit 116, nat_lit 97, nat_lit 120, nat_lit 69, nat_lit 114, nat_lit 114, nat_lit 111, nat_lit 114])) 102 (.type PySem.W.SL.s16067994140765818257x11)) :: (ent P (Str.mk (Array.mk [nat_lit 83, nat_lit 121, nat_lit 115, nat_lit 116, nat_lit 101, nat_lit 109, nat_lit 69, nat_lit 114, nat_lit 114, nat_lit 111, nat_lit 114])) 103 (.type PySem.W.SL.s2327743974964600596x11)) :: (ent P (Str.mk (Array.mk [nat_lit 84, nat_lit 121, nat_lit 112, nat_lit 101, nat_lit 69, nat_lit 114, nat_lit 114, nat_lit 111, nat_lit 114])) 104 (.type PySem.W.SL.s2804747833354056582x9)) :: d0_13 P
noncomputable def d0_11 (P : Params) : List DictEntry := (ent P (Str.mk (Array.mk [nat_lit 65, nat_lit 115, nat_lit 115, nat_lit 101, nat_lit 114, nat_lit 116, nat_lit 105, nat_lit 111, nat_lit 110, nat_lit 69, nat_lit 114, nat_lit 114, nat_lit 111, nat_lit 114])) 89 (.type PySem.W.SL.s7689518266570723881x14)) :: (ent P (Str.mk (Array.mk [nat_lit 65, nat_lit 116, nat_lit 116, nat_lit 114, nat_lit 105, nat_lit 98, nat_lit 117, nat_lit 116, nat_lit 101, nat_lit 69, nat_lit 114, nat_lit 114, nat_lit 111, nat_lit 114])) 90 (.type PySem.W.SL.s9001593270443806431x14)) :: (ent P (Str.mk (Array.mk [nat_lit 66, nat_lit 117, nat_lit 102, nat_lit 102, nat_lit 101, nat_lit 114, nat_lit 69, nat_lit 114, nat_lit 114, nat_lit 111, nat_lit 114])) 91 (.type PySem.W.SL.s6882542574934516792x11)) :: (ent P (Str.mk (Array.mk [nat_lit 69, nat_lit 79, nat_lit 70, nat_lit 69, nat_lit 114, nat_lit 114, nat_lit 111, nat_lit 114])) 92 (.type PySem.W.SL.s14403400214490484960x8)) :: (ent P (Str.mk (Array.mk [nat_lit 73, nat_lit 109, nat_lit 112, nat_lit 111, nat_lit 114, nat_lit 116, nat_lit 69, nat_lit 114, nat_lit 114, nat_lit 111, nat_lit 114])) 93 (.type PySem.W.SL.s14457978657717015782x11)) :: (ent P (Str.mk (Array.mk [nat_lit 76, nat_lit 111, nat_lit 111, nat_lit 107, nat_lit 117, nat_lit 112, nat_lit 69, nat_lit 114, nat_lit 114, nat_lit 111, nat_lit 114])) 94 (.type PySem.W.SL.s1753610191782819921x11)) :: (ent P (Str.mk (Array.mk [nat_lit 77, nat_lit 101, nat_lit 109, nat_lit 111, nat_lit 114, nat_lit 121, nat_lit 69, nat_lit 114, nat_lit 114, nat_lit 111, nat_lit 114])) 95 (.type PySem.W.SL.s14119380538032626715x11)) :: (ent P (Str.mk (Array.mk [nat_lit 78, nat_lit 97, nat_lit 109, nat_lit 101, nat_lit 69, nat_lit 114, nat_lit 114, nat_lit 111, nat_lit 114])) 96 (.type PySem.W.SL.s11437920000406562045x9)) :: d0_12 P
noncomputable def d0_10 (P : Params) : List DictEntry := (ent P (Str.mk (Array.mk [nat_lit 95, nat_lit 95, nat_lit 100, nat_lit 101, nat_lit 98, nat_lit 117, nat_lit 103, nat_lit 95, nat_lit 95])) 81 (.bool true)) :: (ent P (Str.mk (Array.mk [nat_lit 66, nat_lit 97, nat_lit 115, nat_lit 101, nat_lit 69, nat_lit 120, nat_lit 99, nat_lit 101, nat_lit 112, nat_lit 116, nat_lit 105, nat_lit 111, nat_lit 110])) 82 (.type PySem.W.SL.s4278001404047624695x13)) :: (ent P (Str.mk (Array.mk [nat_lit 66, nat_lit 97, nat_lit 115, nat_lit 101, nat_lit 69, nat_lit 120, nat_lit 99, nat_lit 101, nat_lit 112, nat_lit 116, nat_lit 105, nat_lit 111, nat_lit 110, nat_lit 71, nat_lit 114, nat_lit 111, nat_lit 117, nat_lit 112])) 83 (.type PySem.W.SL.s6585700554429387442x18)) :: (ent P (Str.mk (Array.mk [nat_lit 69, nat_lit 120, nat_lit 99, nat_lit 101, nat_lit 112, nat_lit 116, nat_lit 105, nat_lit 111, nat_lit 110])) 84 (.type PySem.W.SL.s5946037652744460706x9)) :: (ent P (Str.mk (Array.mk [nat_lit 71, nat_lit 101, nat_lit 110, nat_lit 101, nat_lit 114, nat_lit 97, nat_lit 116, nat_lit 111, nat_lit 114, nat_lit 69, nat_lit 120, nat_lit 105, nat_lit 116])) 85 (.type PySem.W.SL.s7410770068591931388x13)) :: (ent P (Str.mk (Array.mk [nat_lit 75, nat_lit 101, nat_lit 121, nat_lit 98, nat_lit 111, nat_lit 97, nat_lit 114, nat_lit 100, nat_lit 73, nat_lit 110, nat_lit 116, nat_lit 101, nat_lit 114, nat_lit 114, nat_lit 117, nat_lit 112, nat_lit 116])) 86 (.type PySem.W.SL.s11817881795495490833x17)) :: (ent P (Str.mk (Array.mk [nat_lit 83, nat_lit 121, nat_lit 115, nat_lit 116, nat_lit 101, nat_lit 109, nat_lit 69, nat_lit 120, nat_lit 105, nat_lit 116])) 87 (.type PySem.W.SL.s15679963881808890155x10)) :: (ent P (Str.mk (Array.mk [nat_lit 65, nat_lit 114, nat_lit 105, nat_lit 116, nat_lit 104, nat_lit 109, nat_lit 101, nat_lit 116, nat_lit 105, nat_lit 99, nat_lit 69, nat_lit 114, nat_lit 114, nat_lit 111, nat_lit 114])) 88 (.type PySem.W.SL.s3871700062485845797x15)) :: d0_11 P
noncomputable def d0_9 (P : Params) : List DictEntry := (ent P (Str.mk (Array.mk [nat_lit 115, nat_lit 101, nat_lit 116])) 73 (.type PySem.W.SL.s3642769012341782148x3)) :: (ent P (Str.mk (Array.mk [nat_lit 115, nat_lit 108, nat_lit 105, nat_lit 99, nat_lit 101])) 74 (.type PySem.W.SL.s4674234679698826739x5)) :: (ent P (Str.mk (Array.mk [nat_lit 115, nat_lit 116, nat_lit 97, nat_lit 116, nat_lit 105, nat_lit 99, nat_lit 109, nat_lit 101, nat_lit 116, nat_lit 104, nat_lit 111, nat_lit 100])) 75 (.type PySem.W.SL.s16656946322747308186x12)) :: (ent P (Str.mk (Array.mk [nat_lit 115, nat_lit 116, nat_lit 114])) 76 (.type PySem.W.SL.s10796804682411823810x3)) :: (ent P (Str.mk (Array.mk [nat_lit 115, nat_lit 117, nat_lit 112, nat_lit 101, nat_lit 114])) 77 (.type PySem.W.SL.s4290257624100764138x5)) :: (ent P (Str.mk (Array.mk [nat_lit 116, nat_lit 117, nat_lit 112, nat_lit 108, nat_lit 101])) 78 (.type PySem.W.SL.s2766695959194262286x5)) :: (ent P (Str.mk (Array.mk [nat_lit 116, nat_lit 121, nat_lit 112, nat_lit 101])) 79 (.type PySem.W.SL.s17162191345867700912x4)) :: (ent P (Str.mk (Array.mk [nat_lit 122, nat_lit 105, nat_lit 112])) 80 (.type PySem.W.SL.s14339709457334898076x3)) :: d0_10 P
noncomputable def d0_8 (P : Params) : List DictEntry := (ent P (Str.mk (Array.mk [nat_lit 102, nat_lit 114, nat_lit 111, nat_lit 122, nat_lit 101, nat_lit 110, nat_lit 115, nat_lit 101, nat_lit 116])) 65 (.type PySem.W.SL.s4922535414793169389x9)) :: (ent P (Str.mk (Array.mk [nat_lit 112, nat_lit 114, nat_lit 111, nat_lit 112, nat_lit 101, nat_lit 114, nat_lit 116, nat_lit 121])) 66 (.type PySem.W.SL.s8101838861749082086x8)) :: (ent P (Str.mk (Array.mk [nat_lit 105, nat_lit 110, nat_lit 116])) 67 (.type PySem.W.SL.s7066276694103001551x3)) :: (ent P (Str.mk (Array.mk [nat_lit 108, nat_lit 105, nat_lit 115, nat_lit 116])) 68 (.type PySem.W.SL.s9222952809800978799x4)) :: (ent P (Str.mk (Array.mk [nat_lit 109, nat_lit 97, nat_lit 112])) 69 (.type PySem.W.SL.s462964344163437139x3)) :: (ent P (Str.mk (Array.mk [nat_lit 111, nat_lit 98, nat_lit 106, nat_lit 101, nat_lit 99, nat_lit 116])) 70 (.type PySem.W.SL.s2742458400755230247x6)) :: (ent P (Str.mk (Array.mk [nat_lit 114, nat_lit 97, nat_lit 110, nat_lit 103, nat_lit 101])) 71 (.type PySem.W.SL.s1438033511350832697x5)) :: (ent P (Str.mk (Array.mk [nat_lit 114, nat_lit 101, nat_lit 118, nat_lit 101, nat_lit 114, nat_lit 115, nat_lit 101, nat_lit 100])) 72 (.type PySem.W.SL.s14365286008749172514x8)) :: d0_9 P
noncomputable def d0_7 (P : Params) : List DictEntry := (ent P (Str.mk (Array.mk [nat_lit 98, nat_lit 121, nat_lit 116, nat_lit 101, nat_lit 97, nat_lit 114, nat_lit 114, nat_lit 97, nat_lit 121])) 57 (.type PySem.W.SL.s9501651726347032510x9)) :: (ent P (Str.mk (Array.mk [nat_lit 98, nat_lit 121, nat_lit 116, nat_lit 101, nat_lit 115])) 58 (.type PySem.W.SL.s15722918466584999320x5)) :: (ent P (Str.mk (Array.mk [nat_lit 99, nat_lit 108, nat_lit 97, nat_lit 115, nat_lit 115, nat_lit 109, nat_lit 101, nat_lit 116, nat_lit 104, nat_lit 111, nat_lit 100])) 59 (.type PySem.W.SL.s591115383303110208x11)) :: (ent P (Str.mk (Array.mk [nat_lit 99, nat_lit 111, nat_lit 109, nat_lit 112, nat_lit 108, nat_lit 101, nat_lit 120])) 60 (.type PySem.W.SL.s15721156781594690315x7)) :: (ent P (Str.mk (Array.mk [nat_lit 100, nat_lit 105, nat_lit 99, nat_lit 116])) 61 (.type PySem.W.SL.s14018661285674007319x4)) :: (ent P (Str.mk (Array.mk [nat_lit 101, nat_lit 110, nat_lit 117, nat_lit 109, nat_lit 101, nat_lit 114, nat_lit 97, nat_lit 116, nat_lit 101])) 62 (.type PySem.W.SL.s14340494229221121180x9)) :: (ent P (Str.mk (Array.mk [nat_lit 102, nat_lit 105, nat_lit 108, nat_lit 116, nat_lit 101, nat_lit 114])) 63 (.type PySem.W.SL.s13429844117177748173x6)) :: (ent P (Str.mk (Array.mk [nat_lit 102, nat_lit 108, nat_lit 111, nat_lit 97, nat_lit 116])) 64 (.type PySem.W.SL.s16463266125957815391x5)) :: d0_8 P
noncomputable def d0_6 (P : Params) : List DictEntry := (ent P (Str.mk (Array.mk [nat_lit 118, nat_lit 97, nat_lit 114, nat_lit 115])) 49 (.builtin PySem.W.SL.s17925004256654032244x4)) :: (ent P (Str.mk (Array.mk [nat_lit 78, nat_lit 111, nat_lit 110, nat_lit 101])) 50 .none) :: (ent P (Str.mk (Array.mk [nat_lit 69, nat_lit 108, nat_lit 108, nat_lit 105, nat_lit 112, nat_lit 115, nat_lit 105, nat_lit 115])) 51 .ellipsis) :: (ent P (Str.mk (Array.mk [nat_lit 78, nat_lit 111, nat_lit 116, nat_lit 73, nat_lit 109, nat_lit 112, nat_lit 108, nat_lit 101, nat_lit 109, nat_lit 101, nat_lit 110, nat_lit 116, nat_lit 101, nat_lit 100])) 52 .notImplemented) :: (ent P (Str.mk (Array.mk [nat_lit 70, nat_lit 97, nat_lit 108, nat_lit 115, nat_lit 101])) 53 (.bool false)) :: (ent P (Str.mk (Array.mk [nat_lit 84, nat_lit 114, nat_lit 117, nat_lit 101])) 54 (.bool true)) :: (ent P (Str.mk (Array.mk [nat_lit 98, nat_lit 111, nat_lit 111, nat_lit 108])) 55 (.type PySem.W.SL.s11695548795398191787x4)) :: (ent P (Str.mk (Array.mk [nat_lit 109, nat_lit 101, nat_lit 109, nat_lit 111, nat_lit 114, nat_lit 121, nat_lit 118, nat_lit 105, nat_lit 101, nat_lit 119])) 56 (.type PySem.W.SL.s4156966113859768872x10)) :: d0_7 P
noncomputable def d0_5 (P : Params) : List DictEntry := (ent P (Str.mk (Array.mk [nat_lit 111, nat_lit 114, nat_lit 100])) 41 (.builtin PySem.W.SL.s15791221867095933363x3)) :: (ent P (Str.mk (Array.mk [nat_lit 112, nat_lit 111, nat_lit 119])) 42 (.builtin PySem.W.SL.s81309575031448614x3)) :: (ent P (Str.mk (Array.mk [nat_lit 112, nat_lit 114, nat_lit 105, nat_lit 110, nat_lit 116])) 43 (.builtin PySem.W.SL.s8069831620301644142x5)) :: (ent P (Str.mk (Array.mk [nat_lit 114, nat_lit 101, nat_lit 112, nat_lit 114])) 44 (.builtin PySem.W.SL.s10061844253413749634x4)) :: (ent P (Str.mk (Array.mk [nat_lit 114, nat_lit 111, nat_lit 117, nat_lit 110, nat_lit 100])) 45 (.builtin PySem.W.SL.s9496514870978017513x5)) :: (ent P (Str.mk (Array.mk [nat_lit 115, nat_lit 101, nat_lit 116, nat_lit 97, nat_lit 116, nat_lit 116, nat_lit 114])) 46 (.builtin PySem.W.SL.s8899691144933366716x7)) :: (ent P (Str.mk (Array.mk [nat_lit 115, nat_lit 111, nat_lit 114, nat_lit 116, nat_lit 101, nat_lit 100])) 47 (.builtin PySem.W.SL.s15201008993051130160x6)) :: (ent P (Str.mk (Array.mk [nat_lit 115, nat_lit 117, nat_lit 109])) 48 (.builtin PySem.W.SL.s741896355592496720x3)) :: d0_6 P
noncomputable def d0_4 (P : Params) : List DictEntry := (ent P (Str.mk (Array.mk [nat_lit 97, nat_lit 105, nat_lit 116, nat_lit 101, nat_lit 114])) 33 (.builtin PySem.W.SL.s12896375587409280029x5)) :: (ent P (Str.mk (Array.mk [nat_lit 108, nat_lit 101, nat_lit 110])) 34 (.builtin PySem.W.SL.s13014049009108672802x3)) :: (ent P (Str.mk (Array.mk [nat_lit 108, nat_lit 111, nat_lit 99, nat_lit 97, nat_lit 108, nat_lit 115])) 35 (.builtin PySem.W.SL.s13935586738268321596x6)) :: (ent P (Str.mk (Array.mk [nat_lit 109, nat_lit 97, nat_lit 120])) 36 (.builtin PySem.W.SL.s8200498257699607233x3)) :: (ent P (Str.mk (Array.mk [nat_lit 109, nat_lit 105, nat_lit 110])) 37 (.builtin PySem.W.SL.s14114244577727609259x3)) :: (ent P (Str.mk (Array.mk [nat_lit 110, nat_lit 101, nat_lit 120, nat_lit 116])) 38 (.builtin PySem.W.SL.s1499430450269397089x4)) :: (ent P (Str.mk (Array.mk [nat_lit 97, nat_lit 110, nat_lit 101, nat_lit 120, nat_lit 116])) 39 (.builtin PySem.W.SL.s8755793994789770505x5)) :: (ent P (Str.mk (Array.mk [nat_lit 111, nat_lit 99, nat_lit 116])) 40 (.builtin PySem.W.SL.s15725212667919936108x3)) :: d0_5 P
noncomputable def d0_3 (P : Params) : List DictEntry := (ent P (Str.mk (Array.mk [nat_lit 104, nat_lit 97, nat_lit 115, nat_lit 97, nat_lit 116, nat_lit 116, nat_lit 114])) 25 (.builtin PySem.W.SL.s4036449017235975746x7)) :: (ent P (Str.mk (Array.mk [nat_lit 104, nat_lit 97, nat_lit 115, nat_lit 104])) 26 (.builtin PySem.W.SL.s8879979712987360175x4)) :: (ent P (Str.mk (Array.mk [nat_lit 104, nat_lit 101, nat_lit 120])) 27 (.builtin PySem.W.SL.s1801250619170735830x3)) :: (ent P (Str.mk (Array.mk [nat_lit 105, nat_lit 100])) 28 (.builtin PySem.W.SL.s17659931425627118568x2)) :: (ent P (Str.mk (Array.mk [nat_lit 105, nat_lit 110, nat_lit 112, nat_lit 117, nat_lit 116])) 29 (.builtin PySem.W.SL.s6063217899685152688x5)) :: (ent P (Str.mk (Array.mk [nat_lit 105, nat_lit 115, nat_lit 105, nat_lit 110, nat_lit 115, nat_lit 116, nat_lit 97, nat_lit 110, nat_lit 99, nat_lit 101])) 30 (.builtin PySem.W.SL.s8008927332132565319x10)) :: (ent P (Str.mk (Array.mk [nat_lit 105, nat_lit 115, nat_lit 115, nat_lit 117, nat_lit 98, nat_lit 99, nat_lit 108, nat_lit 97, nat_lit 115, nat_lit 115])) 31 (.builtin PySem.W.SL.s3544116645089599534x10)) :: (ent P (Str.mk (Array.mk [nat_lit 105, nat_lit 116, nat_lit 101, nat_lit 114])) 32 (.builtin PySem.W.SL.s13761710972054866084x4)) :: d0_4 P
noncomputable def d0_2 (P : Params) : List DictEntry := (ent P (Str.mk (Array.mk [nat_lit 100, nat_lit 101, nat_lit 108, nat_lit 97, nat_lit 116, nat_lit 116, nat_lit 114])) 17 (.builtin PySem.W.SL.s9436932552931045734x7)) :: (ent P (Str.mk (Array.mk [nat_lit 100, nat_lit 105, nat_lit 114])) 18 (.builtin PySem.W.SL.s2754603736356183583x3)) :: (ent P (Str.mk (Array.mk [nat_lit 100, nat_lit 105, nat_lit 118, nat_lit 109, nat_lit 111, nat_lit 100])) 19 (.builtin PySem.W.SL.s15185746759980889043x6)) :: (ent P (Str.mk (Array.mk [nat_lit 101, nat_lit 118, nat_lit 97, nat_lit 108])) 20 (.builtin PySem.W.SL.s8192189862530294059x4)) :: (ent P (Str.mk (Array.mk [nat_lit 101, nat_lit 120, nat_lit 101, nat_lit 99])) 21 (.builtin PySem.W.SL.s7038307821325472102x4)) :: (ent P (Str.mk (Array.mk [nat_lit 102, nat_lit 111, nat_lit 114, nat_lit 109, nat_lit 97, nat_lit 116])) 22 (.builtin PySem.W.SL.s5662562618415449548x6)) :: (ent P (Str.mk (Array.mk [nat_lit 103, nat_lit 101, nat_lit 116, nat_lit 97, nat_lit 116, nat_lit 116, nat_lit 114])) 23 (.builtin PySem.W.SL.s15281542589158584767x7)) :: (ent P (Str.mk (Array.mk [nat_lit 103, nat_lit 108, nat_lit 111, nat_lit 98, nat_lit 97, nat_lit 108, nat_lit 115])) 24 (.builtin PySem.W.SL.s17651547275483570877x7)) :: d0_3 P
noncomputable def d0_1 (P : Params) : List DictEntry := (ent P (Str.mk (Array.mk [nat_lit 97, nat_lit 108, nat_lit 108])) 9 (.builtin PySem.W.SL.s10557405761357834076x3)) :: (ent P (Str.mk (Array.mk [nat_lit 97, nat_lit 110, nat_lit 121])) 10 (.builtin PySem.W.SL.s4233737765568776869x3)) :: (ent P (Str.mk (Array.mk [nat_lit 97, nat_lit 115, nat_lit 99, nat_lit 105, nat_lit 105])) 11 (.builtin PySem.W.SL.s2508922471967985374x5)) :: (ent P (Str.mk (Array.mk [nat_lit 98, nat_lit 105, nat_lit 110])) 12 (.builtin PySem.W.SL.s15574269061696679450x3)) :: (ent P (Str.mk (Array.mk [nat_lit 98, nat_lit 114, nat_lit 101, nat_lit 97, nat_lit 107, nat_lit 112, nat_lit 111, nat_lit 105, nat_lit 110, nat_lit 116])) 13 (.builtin PySem.W.SL.s6016482663378992977x10)) :: (ent P (Str.mk (Array.mk [nat_lit 99, nat_lit 97, nat_lit 108, nat_lit 108, nat_lit 97, nat_lit 98, nat_lit 108, nat_lit 101])) 14 (.builtin PySem.W.SL.s5596568736180474577x8)) :: (ent P (Str.mk (Array.mk [nat_lit 99, nat_lit 104, nat_lit 114])) 15 (.builtin PySem.W.SL.s2839554839881490554x3)) :: (ent P (Str.mk (Array.mk [nat_lit 99, nat_lit 111, nat_lit 109, nat_lit 112, nat_lit 105, nat_lit 108, nat_lit 101])) 16 (.builtin PySem.W.SL.s725004073602090463x7)) :: d0_2 P
noncomputable def d0_0 (P : Params) : List DictEntry := (ent P (Str.mk (Array.mk [nat_lit 95, nat_lit 95, nat_lit 110, nat_lit 97, nat_lit 109, nat_lit 101, nat_lit 95, nat_lit 95])) 1 (.str (Str.mk (Array.mk [nat_lit 98, nat_lit 117, nat_lit 105, nat_lit 108, nat_lit 116, nat_lit 105, nat_lit 110, nat_lit 115])) 160)) :: (ent P (Str.mk (Array.mk [nat_lit 95, nat_lit 95, nat_lit 100, nat_lit 111, nat_lit 99, nat_lit 95, nat_lit 95])) 2 (.builtin "builtins.__doc__:str#opaque")) :: (ent P (Str.mk (Array.mk [nat_lit 95, nat_lit 95, nat_lit 112, nat_lit 97, nat_lit 99, nat_lit 107, nat_lit 97, nat_lit 103, nat_lit 101, nat_lit 95, nat_lit 95])) 3 (.builtin "builtins.__package__:str#opaque")) :: (ent P (Str.mk (Array.mk [nat_lit 95, nat_lit 95, nat_lit 108, nat_lit 111, nat_lit 97, nat_lit 100, nat_lit 101, nat_lit 114, nat_lit 95, nat_lit 95])) 4 (.builtin "builtins.__loader__:shared#opaque")) :: (ent P (Str.mk (Array.mk [nat_lit 95, nat_lit 95, nat_lit 115, nat_lit 112, nat_lit 101, nat_lit 99, nat_lit 95, nat_lit 95])) 5 (.builtin PySem.W.SL.s11665532747177232413x24)) :: (ent P (Str.mk (Array.mk [nat_lit 95, nat_lit 95, nat_lit 98, nat_lit 117, nat_lit 105, nat_lit 108, nat_lit 100, nat_lit 95, nat_lit 99, nat_lit 108, nat_lit 97, nat_lit 115, nat_lit 115, nat_lit 95, nat_lit 95])) 6 (.builtin PySem.W.SL.s15183661809925369436x15)) :: (ent P (Str.mk (Array.mk [nat_lit 95, nat_lit 95, nat_lit 105, nat_lit 109, nat_lit 112, nat_lit 111, nat_lit 114, nat_lit 116, nat_lit 95, nat_lit 95])) 7 (.builtin PySem.W.SL.s13915890719876406383x10)) :: (ent P (Str.mk (Array.mk [nat_lit 97, nat_lit 98, nat_lit 115])) 8 (.builtin PySem.W.SL.s13459172003223722735x3)) :: d0_1 P
noncomputable def o0v0 (P : Params) : Obj := ⟨(.type PySem.W.SL.s14018661285674007319x4), none, (.dict (d0_0 P).toArray 159), #[]⟩
noncomputable def o1v0 (P : Params) : Obj := ⟨(.type PySem.W.SL.s14018661285674007319x4), none, (.dict #[ent P (Str.mk (Array.mk [nat_lit 98, nat_lit 117, nat_lit 105, nat_lit 108, nat_lit 116, nat_lit 105, nat_lit 110, nat_lit 115])) 162 (.ref 4), ent P (Str.mk (Array.mk [nat_lit 95, nat_lit 95, nat_lit 109, nat_lit 97, nat_lit 105, nat_lit 110, nat_lit 95, nat_lit 95])) 163 (.ref 5), ent P (Str.mk (Array.mk [nat_lit 95, nat_lit 115, nat_lit 114, nat_lit 101])) 244 (.ref 12)] 3), #[]⟩
noncomputable def o2v0 (P : Params) : Obj := ⟨.none, none, (.dict #[ent P (Str.mk #[105, 109, 112, 111, 114, 116, 46, 108, 111, 97, 100, 101, 100, 46, 95, 115, 114, 101]) 183 (.bool true), ent P (Str.ofString "class._frozen_importlib.BuiltinImporter") 185 (.ref 14), ent P (Str.mk #[119, 97, 116, 99, 104, 101, 100, 46, 105, 109, 112, 111, 114, 116]) 206 (.ref 18), ent P (Str.ofString "class._frozen_importlib.ModuleSpec") 216 (.ref 22), ent P (Str.ofString "sys.modules.booked-epoch") 245 (.int 3 0), ent P (Str.mk #[105, 109, 112, 111, 114, 116, 46, 108, 97, 116, 101, 114, 45, 108, 97, 105, 100, 46, 95, 115, 114, 101]) 270 (.bool true), ent P (Str.ofString "watched.library") 272 (.ref 27), ent P (Str.ofString "watched.library-objects") 0 (.str (Str.mk #[12]) 0), ent P (Str.ofString "watched.library-deep._sre") 273 (.str (Str.mk #[4, 0, 0, 11, 4, 0, 0, 11, 4, 0, 0, 3, 4, 0, 0, 11, 8, 4, 100, 105, 99, 116, 2]) 0)] 9), #[]⟩
noncomputable def o3v0 (P : Params) : Obj := ⟨(.type PySem.W.SL.s14018661285674007319x4), none, (.dict #[ent P (Str.mk (Array.mk [nat_lit 95, nat_lit 95, nat_lit 110, nat_lit 97, nat_lit 109, nat_lit 101, nat_lit 95, nat_lit 95])) 165 (.str (Str.mk (Array.mk [nat_lit 95, nat_lit 95, nat_lit 109, nat_lit 97, nat_lit 105, nat_lit 110, nat_lit 95, nat_lit 95])) 164), ent P (Str.mk (Array.mk [nat_lit 95, nat_lit 95, nat_lit 100, nat_lit 111, nat_lit 99, nat_lit 95, nat_lit 95])) 166 .none, ent P (Str.mk (Array.mk [nat_lit 95, nat_lit 95, nat_lit 112, nat_lit 97, nat_lit 99, nat_lit 107, nat_lit 97, nat_lit 103, nat_lit 101, nat_lit 95, nat_lit 95])) 167 .none, ent P (Str.mk (Array.mk [nat_lit 95, nat_lit 95, nat_lit 108, nat_lit 111, nat_lit 97, nat_lit 100, nat_lit 101, nat_lit 114, nat_lit 95, nat_lit 95])) 168 (.builtin PySem.W.SL.s7097527257260152453x26), ent P (Str.mk (Array.mk [nat_lit 95, nat_lit 95, nat_lit 115, nat_lit 112, nat_lit 101, nat_lit 99, nat_lit 95, nat_lit 95])) 169 .none, ent P (Str.mk (Array.mk [nat_lit 95, nat_lit 95, nat_lit 97, nat_lit 110, nat_lit 110, nat_lit 111, nat_lit 116, nat_lit 97, nat_lit 116, nat_lit 105, nat_lit 111, nat_lit 110, nat_lit 115, nat_lit 95, nat_lit 95])) 170 (.ref 6), ent P (Str.mk (Array.mk [nat_lit 95, nat_lit 95, nat_lit 98, nat_lit 117, nat_lit 105, nat_lit 108, nat_lit 116, nat_lit 105, nat_lit 110, nat_lit 115, nat_lit 95, nat_lit 95])) 171 (.ref 4), ent P (Str.mk (Array.mk [nat_lit 95, nat_lit 95, nat_lit 102, nat_lit 105, nat_lit 108, nat_lit 101, nat_lit 95, nat_lit 95])) 173 (.str (Str.mk (Array.mk [nat_lit 47, nat_lit 99, nat_lit 108, nat_lit 97, nat_lit 105, nat_lit 109, nat_lit 47, nat_lit 99, nat_lit 117, nat_lit 116, nat_lit 46, nat_lit 112, nat_lit 121])) 172), ent P (Str.mk (Array.mk [nat_lit 95, nat_lit 95, nat_lit 99, nat_lit 97, nat_lit 99, nat_lit 104, nat_lit 101, nat_lit 100, nat_lit 95, nat_lit 95])) 174 .none, ent P (Str.mk (Array.mk [nat_lit 95, nat_lit 115, nat_lit 114, nat_lit 101])) 275 (.ref 12)] 10), #[]⟩
noncomputable def o4v0 (P : Params) : Obj := ⟨(.type PySem.W.SL.s6658869562736209489x6), (some 0), .plain, #[]⟩
noncomputable def o5v0 (P : Params) : Obj := ⟨(.type PySem.W.SL.s6658869562736209489x6), (some 3), .plain, #[]⟩
noncomputable def o6v0 (P : Params) : Obj := ⟨(.type PySem.W.SL.s14018661285674007319x4), none, (.dict #[] 0), #[]⟩
noncomputable def o7v0 (P : Params) : Obj := ⟨(.type PySem.W.SL.s2766695959194262286x5), none, (.seq #[] 0), #[]⟩
noncomputable def o8v0 (P : Params) : Obj := ⟨.none, none, (.fields #[]), #[]⟩
noncomputable def o9v0 (P : Params) : Obj := ⟨(.type PySem.W.SL.s5856160107412720595x4), none, (.fields #[(.str (Str.mk (Array.mk [nat_lit 60, nat_lit 109, nat_lit 111, nat_lit 100, nat_lit 117, nat_lit 108, nat_lit 101, nat_lit 62])) 176), (.str (Str.mk (Array.mk [nat_lit 60, nat_lit 109, nat_lit 111, nat_lit 100, nat_lit 117, nat_lit 108, nat_lit 101, nat_lit 62])) 177), (.str (Str.mk (Array.mk [nat_lit 47, nat_lit 99, nat_lit 108, nat_lit 97, nat_lit 105, nat_lit 109, nat_lit 47, nat_lit 99, nat_lit 117, nat_lit 116, nat_lit 46, nat_lit 112, nat_lit 121])) 178), (.int 1 0), (.int 0 0), (.int 0 0), (.int 0 0), (.int 0 0), (.ref 7), (.bool false), (.int 175 0), (.ref 8), .none, .none, .none, .none, (.int 179 0), (.int 1 0), (.str (Str.mk (Array.mk [nat_lit 47, nat_lit 99, nat_lit 108, nat_lit 97, nat_lit 105, nat_lit 109, nat_lit 47, nat_lit 99, nat_lit 117, nat_lit 116, nat_lit 46, nat_lit 112, nat_lit 121])) 180)]), #[]⟩
noncomputable def o10v0 (P : Params) : Obj := ⟨(.type PySem.W.SL.s658472552662922059x5), none, .plain, #[(some (.ref 9)), (some (.ref 3)), (some (.ref 3)), none, (some (.str (Str.mk (Array.mk [nat_lit 95, nat_lit 95, nat_lit 109, nat_lit 97, nat_lit 105, nat_lit 110, nat_lit 95, nat_lit 95])) 164)), none, (some (.ref 0))]⟩
noncomputable def o11v0 (P : Params) : Obj := ⟨(.type PySem.W.SL.s14018661285674007319x4), none, (.dict #[ent P (Str.mk (Array.mk [nat_lit 95, nat_lit 95, nat_lit 110, nat_lit 97, nat_lit 109, nat_lit 101, nat_lit 95, nat_lit 95])) 247 (.str (Str.mk (Array.mk [nat_lit 95, nat_lit 115, nat_lit 114, nat_lit 101])) 246), ent P (Str.mk (Array.mk [nat_lit 95, nat_lit 95, nat_lit 100, nat_lit 111, nat_lit 99, nat_lit 95, nat_lit 95])) 248 .none, ent P (Str.mk (Array.mk [nat_lit 95, nat_lit 95, nat_lit 112, nat_lit 97, nat_lit 99, nat_lit 107, nat_lit 97, nat_lit 103, nat_lit 101, nat_lit 95, nat_lit 95])) 250 (.str (Str.mk (Array.mk [])) 249), ent P (Str.mk (Array.mk [nat_lit 95, nat_lit 95, nat_lit 108, nat_lit 111, nat_lit 97, nat_lit 100, nat_lit 101, nat_lit 114, nat_lit 95, nat_lit 95])) 251 (.ref 14), ent P (Str.mk (Array.mk [nat_lit 95, nat_lit 95, nat_lit 115, nat_lit 112, nat_lit 101, nat_lit 99, nat_lit 95, nat_lit 95])) 252 (.ref 26), ent P (Str.mk (Array.mk [nat_lit 99, nat_lit 111, nat_lit 109, nat_lit 112, nat_lit 105, nat_lit 108, nat_lit 101])) 253 (.builtin PySem.W.SL.s492968859115322481x12), ent P (Str.mk (Array.mk [nat_lit 116, nat_lit 101, nat_lit 109, nat_lit 112, nat_lit 108, nat_lit 97, nat_lit 116, nat_lit 101])) 254 (.builtin PySem.W.SL.s4732307381456220424x13), ent P (Str.mk (Array.mk [nat_lit 103, nat_lit 101, nat_lit 116, nat_lit 99, nat_lit 111, nat_lit 100, nat_lit 101, nat_lit 115, nat_lit 105, nat_lit 122, nat_lit 101])) 255 (.builtin PySem.W.SL.s3100639726926479615x16), ent P (Str.mk (Array.mk [nat_lit 97, nat_lit 115, nat_lit 99, nat_lit 105, nat_lit 105, nat_lit 95, nat_lit 105, nat_lit 115, nat_lit 99, nat_lit 97, nat_lit 115, nat_lit 101, nat_lit 100])) 256 (.builtin PySem.W.SL.s1824190863884607803x18), ent P (Str.mk (Array.mk [nat_lit 117, nat_lit 110, nat_lit 105, nat_lit 99, nat_lit 111, nat_lit 100, nat_lit 101, nat_lit 95, nat_lit 105, nat_lit 115, nat_lit 99, nat_lit 97, nat_lit 115, nat_lit 101, nat_lit 100])) 257 (.builtin PySem.W.SL.s15517275503517908518x20), ent P (Str.mk (Array.mk [nat_lit 97, nat_lit 115, nat_lit 99, nat_lit 105, nat_lit 105, nat_lit 95, nat_lit 116, nat_lit 111, nat_lit 108, nat_lit 111, nat_lit 119, nat_lit 101, nat_lit 114])) 258 (.builtin PySem.W.SL.s13462958993096105742x18), ent P (Str.mk (Array.mk [nat_lit 117, nat_lit 110, nat_lit 105, nat_lit 99, nat_lit 111, nat_lit 100, nat_lit 101, nat_lit 95, nat_lit 116, nat_lit 111, nat_lit 108, nat_lit 111, nat_lit 119, nat_lit 101, nat_lit 114])) 259 (.builtin PySem.W.SL.s7205697838950415266x20), ent P (Str.mk (Array.mk [nat_lit 77, nat_lit 65, nat_lit 71, nat_lit 73, nat_lit 67])) 261 (.int 20230612 260), ent P (Str.mk (Array.mk [nat_lit 67, nat_lit 79, nat_lit 68, nat_lit 69, nat_lit 83, nat_lit 73, nat_lit 90, nat_lit 69])) 263 (.int 4 262), ent P (Str.mk (Array.mk [nat_lit 77, nat_lit 65, nat_lit 88, nat_lit 82, nat_lit 69, nat_lit 80, nat_lit 69, nat_lit 65, nat_lit 84])) 265 (.int 4294967295 264), ent P (Str.mk (Array.mk [nat_lit 77, nat_lit 65, nat_lit 88, nat_lit 71, nat_lit 82, nat_lit 79, nat_lit 85, nat_lit 80, nat_lit 83])) 267 (.int 1073741823 266), ent P (Str.mk (Array.mk [nat_lit 99, nat_lit 111, nat_lit 112, nat_lit 121, nat_lit 114, nat_lit 105, nat_lit 103, nat_lit 104, nat_lit 116])) 269 (.str (Str.mk (Array.mk [nat_lit 32, nat_lit 83, nat_lit 82, nat_lit 69, nat_lit 32, nat_lit 50, nat_lit 46, nat_lit 50, nat_lit 46, nat_lit 50, nat_lit 32, nat_lit 67, nat_lit 111, nat_lit 112, nat_lit 121, nat_lit 114, nat_lit 105, nat_lit 103, nat_lit 104, nat_lit 116, nat_lit 32, nat_lit 40, nat_lit 99, nat_lit 41, nat_lit 32, nat_lit 49, nat_lit 57, nat_lit 57, nat_lit 55, nat_lit 45, nat_lit 50, nat_lit 48, nat_lit 48, nat_lit 50, nat_lit 32, nat_lit 98, nat_lit 121, nat_lit 32, nat_lit 83, nat_lit 101, nat_lit 99, nat_lit 114, nat_lit 101, nat_lit 116, nat_lit 32, nat_lit 76, nat_lit 97, nat_lit 98, nat_lit 115, nat_lit 32, nat_lit 65, nat_lit 66, nat_lit 32])) 268)] 17), #[]⟩
noncomputable def o12v0 (P : Params) : Obj := ⟨(.type PySem.W.SL.s6658869562736209489x6), (some 11), .plain, #[]⟩
noncomputable def o13v0 (P : Params) : Obj := ⟨(.type PySem.W.SL.s14018661285674007319x4), none, (.dict #[ent P (Str.mk (Array.mk [nat_lit 95, nat_lit 95, nat_lit 109, nat_lit 111, nat_lit 100, nat_lit 117, nat_lit 108, nat_lit 101, nat_lit 95, nat_lit 95])) 189 (.str (Str.mk (Array.mk [nat_lit 95, nat_lit 102, nat_lit 114, nat_lit 111, nat_lit 122, nat_lit 101, nat_lit 110, nat_lit 95, nat_lit 105, nat_lit 109, nat_lit 112, nat_lit 111, nat_lit 114, nat_lit 116, nat_lit 108, nat_lit 105, nat_lit 98])) 186), ent P (Str.mk (Array.mk [nat_lit 95, nat_lit 95, nat_lit 102, nat_lit 105, nat_lit 114, nat_lit 115, nat_lit 116, nat_lit 108, nat_lit 105, nat_lit 110, nat_lit 101, nat_lit 110, nat_lit 111, nat_lit 95, nat_lit 95])) 190 (.int 971 187), ent P (Str.mk (Array.mk [nat_lit 95, nat_lit 95, nat_lit 100, nat_lit 111, nat_lit 99, nat_lit 95, nat_lit 95])) 191 (.builtin "_frozen_importlib.BuiltinImporter.__doc__:str#opaque"), ent P (Str.mk (Array.mk [nat_lit 95, nat_lit 79, nat_lit 82, nat_lit 73, nat_lit 71, nat_lit 73, nat_lit 78])) 192 (.str (Str.mk (Array.mk [nat_lit 98, nat_lit 117, nat_lit 105, nat_lit 108, nat_lit 116, nat_lit 45, nat_lit 105, nat_lit 110])) 188), ent P (Str.mk (Array.mk [nat_lit 102, nat_lit 105, nat_lit 110, nat_lit 100, nat_lit 95, nat_lit 115, nat_lit 112, nat_lit 101, nat_lit 99])) 193 (.builtin "_frozen_importlib.BuiltinImporter.find_spec#opaque"), ent P (Str.mk (Array.mk [nat_lit 99, nat_lit 114, nat_lit 101, nat_lit 97, nat_lit 116, nat_lit 101, nat_lit 95, nat_lit 109, nat_lit 111, nat_lit 100, nat_lit 117, nat_lit 108, nat_lit 101])) 194 (.builtin "_frozen_importlib.BuiltinImporter.create_module#opaque"), ent P (Str.mk (Array.mk [nat_lit 101, nat_lit 120, nat_lit 101, nat_lit 99, nat_lit 95, nat_lit 109, nat_lit 111, nat_lit 100, nat_lit 117, nat_lit 108, nat_lit 101])) 195 (.builtin "_frozen_importlib.BuiltinImporter.exec_module#opaque"), ent P (Str.mk (Array.mk [nat_lit 103, nat_lit 101, nat_lit 116, nat_lit 95, nat_lit 99, nat_lit 111, nat_lit 100, nat_lit 101])) 196 (.builtin "_frozen_importlib.BuiltinImporter.get_code#opaque"), ent P (Str.mk (Array.mk [nat_lit 103, nat_lit 101, nat_lit 116, nat_lit 95, nat_lit 115, nat_lit 111, nat_lit 117, nat_lit 114, nat_lit 99, nat_lit 101])) 197 (.builtin "_frozen_importlib.BuiltinImporter.get_source#opaque"), ent P (Str.mk (Array.mk [nat_lit 105, nat_lit 115, nat_lit 95, nat_lit 112, nat_lit 97, nat_lit 99, nat_lit 107, nat_lit 97, nat_lit 103, nat_lit 101])) 198 (.builtin "_frozen_importlib.BuiltinImporter.is_package#opaque"), ent P (Str.mk (Array.mk [nat_lit 108, nat_lit 111, nat_lit 97, nat_lit 100, nat_lit 95, nat_lit 109, nat_lit 111, nat_lit 100, nat_lit 117, nat_lit 108, nat_lit 101])) 199 (.builtin "_frozen_importlib.BuiltinImporter.load_module#opaque"), ent P (Str.mk (Array.mk [nat_lit 95, nat_lit 95, nat_lit 115, nat_lit 116, nat_lit 97, nat_lit 116, nat_lit 105, nat_lit 99, nat_lit 95, nat_lit 97, nat_lit 116, nat_lit 116, nat_lit 114, nat_lit 105, nat_lit 98, nat_lit 117, nat_lit 116, nat_lit 101, nat_lit 115, nat_lit 95, nat_lit 95])) 200 (.ref 15), ent P (Str.mk (Array.mk [nat_lit 95, nat_lit 95, nat_lit 100, nat_lit 105, nat_lit 99, nat_lit 116, nat_lit 95, nat_lit 95])) 202 (.ref 16), ent P (Str.mk (Array.mk [nat_lit 95, nat_lit 95, nat_lit 119, nat_lit 101, nat_lit 97, nat_lit 107, nat_lit 114, nat_lit 101, nat_lit 102, nat_lit 95, nat_lit 95])) 204 (.ref 17)] 14), #[]⟩
noncomputable def o14v0 (P : Params) : Obj := ⟨(.type PySem.W.SL.s17162191345867700912x4), none, (.cls { name := (Str.mk (Array.mk [nat_lit 66, nat_lit 117, nat_lit 105, nat_lit 108, nat_lit 116, nat_lit 105, nat_lit 110, nat_lit 73, nat_lit 109, nat_lit 112, nat_lit 111, nat_lit 114, nat_lit 116, nat_lit 101, nat_lit 114])), bases := [(.type PySem.W.SL.s2742458400755230247x6)], mro := [(.ref 14), (.type PySem.W.SL.s2742458400755230247x6)], ns := 13, qualname := (Str.mk (Array.mk [nat_lit 66, nat_lit 117, nat_lit 105, nat_lit 108, nat_lit 116, nat_lit 105, nat_lit 110, nat_lit 73, nat_lit 109, nat_lit 112, nat_lit 111, nat_lit 114, nat_lit 116, nat_lit 101, nat_lit 114])), hasDict := true, slotNames := [], subclasses := [], abstract := false, collection := none, hasDel := false }), #[]⟩
noncomputable def o15v0 (P : Params) : Obj := ⟨(.type PySem.W.SL.s2766695959194262286x5), none, (.seq #[] 0), #[]⟩
noncomputable def o16v0 (P : Params) : Obj := ⟨(.type PySem.W.SL.s14755015743595814543x17), none, (.fields #[(.str (Str.mk (Array.mk [nat_lit 95, nat_lit 95, nat_lit 100, nat_lit 105, nat_lit 99, nat_lit 116, nat_lit 95, nat_lit 95])) 201), (.ref 14), (.builtin PySem.W.SL.s6511155373996960695x17), (.builtin PySem.W.SL.s12411053484034534018x21)]), #[]⟩
noncomputable def o17v0 (P : Params) : Obj := ⟨(.type PySem.W.SL.s14755015743595814543x17), none, (.fields #[(.str (Str.mk (Array.mk [nat_lit 95, nat_lit 95, nat_lit 119, nat_lit 101, nat_lit 97, nat_lit 107, nat_lit 114, nat_lit 101, nat_lit 102, nat_lit 95, nat_lit 95])) 203), (.ref 14), (.builtin PySem.W.SL.s10220274742760427390x26), .none]), #[]⟩
noncomputable def o18v0 (P : Params) : Obj := ⟨.none, none, (.seq #[(.int 13 0), (.str (Str.mk #[6, 189, 10, 95, 95, 109, 111, 100, 117, 108, 101, 95, 95, 6, 186, 17, 95, 102, 114, 111, 122, 101, 110, 95, 105, 109, 112, 111, 114, 116, 108, 105, 98, 6, 190, 15, 95, 95, 102, 105, 114, 115, 116, 108, 105, 110, 101, 110, 111, 95, 95, 4, 187, 0, 971, 6, 191, 7, 95, 95, 100, 111, 99, 95, 95, 9, 52, 95, 102, 114, 111, 122, 101, 110, 95, 105, 109, 112, 111, 114, 116, 108, 105, 98, 46, 66, 117, 105, 108, 116, 105, 110, 73, 109, 112, 111, 114, 116, 101, 114, 46, 95, 95, 100, 111, 99, 95, 95, 58, 115, 116, 114, 35, 111, 112, 97, 113, 117, 101, 6, 192, 7, 95, 79, 82, 73, 71, 73, 78, 6, 188, 8, 98, 117, 105, 108, 116, 45, 105, 110, 6, 193, 9, 102, 105, 110, 100, 95, 115, 112, 101, 99, 9, 50, 95, 102, 114, 111, 122, 101, 110, 95, 105, 109, 112, 111, 114, 116, 108, 105, 98, 46, 66, 117, 105, 108, 116, 105, 110, 73, 109, 112, 111, 114, 116, 101, 114, 46, 102, 105, 110, 100, 95, 115, 112, 101, 99, 35, 111, 112, 97, 113, 117, 101, 6, 194, 13, 99, 114, 101, 97, 116, 101, 95, 109, 111, 100, 117, 108, 101, 9, 54, 95, 102, 114, 111, 122, 101, 110, 95, 105, 109, 112, 111, 114, 116, 108, 105, 98, 46, 66, 117, 105, 108, 116, 105, 110, 73, 109, 112, 111, 114, 116, 101, 114, 46, 99, 114, 101, 97, 116, 101, 95, 109, 111, 100, 117, 108, 101, 35, 111, 112, 97, 113, 117, 101, 6, 195, 11, 101, 120, 101, 99, 95, 109, 111, 100, 117, 108, 101, 9, 52, 95, 102, 114, 111, 122, 101, 110, 95, 105, 109, 112, 111, 114, 116, 108, 105, 98, 46, 66, 117, 105, 108, 116, 105, 110, 73, 109, 112, 111, 114, 116, 101, 114, 46, 101, 120, 101, 99, 95, 109, 111, 100, 117, 108, 101, 35, 111, 112, 97, 113, 117, 101, 6, 196, 8, 103, 101, 116, 95, 99, 111, 100, 101, 9, 49, 95, 102, 114, 111, 122, 101, 110, 95, 105, 109, 112, 111, 114, 116, 108, 105, 98, 46, 66, 117, 105, 108, 116, 105, 110, 73, 109, 112, 111, 114, 116, 101, 114, 46, 103, 101, 116, 95, 99, 111, 100, 101, 35, 111, 112, 97, 113, 117, 101, 6, 197, 10, 103, 101, 116, 95, 115, 111, 117, 114, 99, 101, 9, 51, 95, 102, 114, 111, 122, 101, 110, 95, 105, 109, 112, 111, 114, 116, 108, 105, 98, 46, 66, 117, 105, 108, 116, 105, 110, 73, 109, 112, 111, 114, 116, 101, 114, 46, 103, 101, 116, 95, 115, 111, 117, 114, 99, 101, 35, 111, 112, 97, 113, 117, 101, 6, 198, 10, 105, 115, 95, 112, 97, 99, 107, 97, 103, 101, 9, 51, 95, 102, 114, 111, 122, 101, 110, 95, 105, 109, 112, 111, 114, 116, 108, 105, 98, 46, 66, 117, 105, 108, 116, 105, 110, 73, 109, 112, 111, 114, 116, 101, 114, 46, 105, 115, 95, 112, 97, 99, 107, 97, 103, 101, 35, 111, 112, 97, 113, 117, 101, 6, 199, 11, 108, 111, 97, 100, 95, 109, 111, 100, 117, 108, 101, 9, 52, 95, 102, 114, 111, 122, 101, 110, 95, 105, 109, 112, 111, 114, 116, 108, 105, 98, 46, 66, 117, 105, 108, 116, 105, 110, 73, 109, 112, 111, 114, 116, 101, 114, 46, 108, 111, 97, 100, 95, 109, 111, 100, 117, 108, 101, 35, 111, 112, 97, 113, 117, 101, 6, 200, 21, 95, 95, 115, 116, 97, 116, 105, 99, 95, 97, 116, 116, 114, 105, 98, 117, 116, 101, 115, 95, 95, 4, 0, 0, 15, 6, 202, 8, 95, 95, 100, 105, 99, 116, 95, 95, 4, 0, 0, 16, 6, 204, 11, 95, 95, 119, 101, 97, 107, 114, 101, 102, 95, 95, 4, 0, 0, 17]) 0), (.bool true), (.bool true), (.str (Str.mk (Array.mk [])) 205), (.int 21 0), (.str (Str.mk #[6, 227, 10, 95, 95, 109, 111, 100, 117, 108, 101, 95, 95, 6, 217, 17, 95, 102, 114, 111, 122, 101, 110, 95, 105, 109, 112, 111, 114, 116, 108, 105, 98, 6, 228, 15, 95, 95, 102, 105, 114, 115, 116, 108, 105, 110, 101, 110, 111, 95, 95, 4, 218, 0, 562, 6, 229, 7, 95, 95, 100, 111, 99, 95, 95, 9, 47, 95, 102, 114, 111, 122, 101, 110, 95, 105, 109, 112, 111, 114, 116, 108, 105, 98, 46, 77, 111, 100, 117, 108, 101, 83, 112, 101, 99, 46, 95, 95, 100, 111, 99, 95, 95, 58, 115, 116, 114, 35, 111, 112, 97, 113, 117, 101, 6, 230, 8, 95, 95, 105, 110, 105, 116, 95, 95, 9, 44, 95, 102, 114, 111, 122, 101, 110, 95, 105, 109, 112, 111, 114, 116, 108, 105, 98, 46, 77, 111, 100, 117, 108, 101, 83, 112, 101, 99, 46, 95, 95, 105, 110, 105, 116, 95, 95, 35, 111, 112, 97, 113, 117, 101, 6, 231, 8, 95, 95, 114, 101, 112, 114, 95, 95, 9, 44, 95, 102, 114, 111, 122, 101, 110, 95, 105, 109, 112, 111, 114, 116, 108, 105, 98, 46, 77, 111, 100, 117, 108, 101, 83, 112, 101, 99, 46, 95, 95, 114, 101, 112, 114, 95, 95, 35, 111, 112, 97, 113, 117, 101, 6, 232, 6, 95, 95, 101, 113, 95, 95, 9, 42, 95, 102, 114, 111, 122, 101, 110, 95, 105, 109, 112, 111, 114, 116, 108, 105, 98, 46, 77, 111, 100, 117, 108, 101, 83, 112, 101, 99, 46, 95, 95, 101, 113, 95, 95, 35, 111, 112, 97, 113, 117, 101, 6, 233, 6, 99, 97, 99, 104, 101, 100, 9, 42, 95, 102, 114, 111, 122, 101, 110, 95, 105, 109, 112, 111, 114, 116, 108, 105, 98, 46, 77, 111, 100, 117, 108, 101, 83, 112, 101, 99, 46, 99, 97, 99, 104, 101, 100, 35, 111, 112, 97, 113, 117, 101, 6, 234, 6, 112, 97, 114, 101, 110, 116, 9, 42, 95, 102, 114, 111, 122, 101, 110, 95, 105, 109, 112, 111, 114, 116, 108, 105, 98, 46, 77, 111, 100, 117, 108, 101, 83, 112, 101, 99, 46, 112, 97, 114, 101, 110, 116, 35, 111, 112, 97, 113, 117, 101, 6, 235, 12, 104, 97, 115, 95, 108, 111, 99, 97, 116, 105, 111, 110, 9, 48, 95, 102, 114, 111, 122, 101, 110, 95, 105, 109, 112, 111, 114, 116, 108, 105, 98, 46, 77, 111, 100, 117, 108, 101, 83, 112, 101, 99, 46, 104, 97, 115, 95, 108, 111, 99, 97, 116, 105, 111, 110, 35, 111, 112, 97, 113, 117, 101, 6, 236, 21, 95, 95, 115, 116, 97, 116, 105, 99, 95, 97, 116, 116, 114, 105, 98, 117, 116, 101, 115, 95, 95, 4, 0, 0, 23, 6, 238, 8, 95, 95, 100, 105, 99, 116, 95, 95, 4, 0, 0, 24, 6, 240, 11, 95, 95, 119, 101, 97, 107, 114, 101, 102, 95, 95, 4, 0, 0, 25, 6, 241, 8, 95, 95, 104, 97, 115, 104, 95, 95, 0]) 0), (.bool true), (.bool true), (.str (Str.mk (Array.mk [])) 242)] 1), #[]⟩
noncomputable def o19v0 (P : Params) : Obj := ⟨(.type PySem.W.SL.s9222952809800978799x4), none, (.seq #[] 0), #[]⟩
noncomputable def o20v0 (P : Params) : Obj := ⟨(.type PySem.W.SL.s14018661285674007319x4), none, (.dict #[ent P (Str.mk (Array.mk [nat_lit 110, nat_lit 97, nat_lit 109, nat_lit 101])) 208 (.str (Str.mk (Array.mk [nat_lit 95, nat_lit 115, nat_lit 114, nat_lit 101])) 207), ent P (Str.mk (Array.mk [nat_lit 108, nat_lit 111, nat_lit 97, nat_lit 100, nat_lit 101, nat_lit 114])) 209 (.ref 14), ent P (Str.mk (Array.mk [nat_lit 111, nat_lit 114, nat_lit 105, nat_lit 103, nat_lit 105, nat_lit 110])) 210 (.str (Str.mk (Array.mk [nat_lit 98, nat_lit 117, nat_lit 105, nat_lit 108, nat_lit 116, nat_lit 45, nat_lit 105, nat_lit 110])) 184), ent P (Str.mk (Array.mk [nat_lit 108, nat_lit 111, nat_lit 97, nat_lit 100, nat_lit 101, nat_lit 114, nat_lit 95, nat_lit 115, nat_lit 116, nat_lit 97, nat_lit 116, nat_lit 101])) 211 .none, ent P (Str.mk (Array.mk [nat_lit 115, nat_lit 117, nat_lit 98, nat_lit 109, nat_lit 111, nat_lit 100, nat_lit 117, nat_lit 108, nat_lit 101, nat_lit 95, nat_lit 115, nat_lit 101, nat_lit 97, nat_lit 114, nat_lit 99, nat_lit 104, nat_lit 95, nat_lit 108, nat_lit 111, nat_lit 99, nat_lit 97, nat_lit 116, nat_lit 105, nat_lit 111, nat_lit 110, nat_lit 115])) 212 .none, ent P (Str.mk (Array.mk [nat_lit 95, nat_lit 117, nat_lit 110, nat_lit 105, nat_lit 110, nat_lit 105, nat_lit 116, nat_lit 105, nat_lit 97, nat_lit 108, nat_lit 105, nat_lit 122, nat_lit 101, nat_lit 100, nat_lit 95, nat_lit 115, nat_lit 117, nat_lit 98, nat_lit 109, nat_lit 111, nat_lit 100, nat_lit 117, nat_lit 108, nat_lit 101, nat_lit 115])) 213 (.ref 19), ent P (Str.mk (Array.mk [nat_lit 95, nat_lit 115, nat_lit 101, nat_lit 116, nat_lit 95, nat_lit 102, nat_lit 105, nat_lit 108, nat_lit 101, nat_lit 97, nat_lit 116, nat_lit 116, nat_lit 114])) 214 (.bool false), ent P (Str.mk (Array.mk [nat_lit 95, nat_lit 99, nat_lit 97, nat_lit 99, nat_lit 104, nat_lit 101, nat_lit 100])) 215 .none, ent P (Str.mk (Array.mk [nat_lit 95, nat_lit 105, nat_lit 110, nat_lit 105, nat_lit 116, nat_lit 105, nat_lit 97, nat_lit 108, nat_lit 105, nat_lit 122, nat_lit 105, nat_lit 110, nat_lit 103])) 243 (.bool false)] 9), #[]⟩
noncomputable def o21v0 (P : Params) : Obj := ⟨(.type PySem.W.SL.s14018661285674007319x4), none, (.dict #[ent P (Str.mk (Array.mk [nat_lit 95, nat_lit 95, nat_lit 109, nat_lit 111, nat_lit 100, nat_lit 117, nat_lit 108, nat_lit 101, nat_lit 95, nat_lit 95])) 227 (.str (Str.mk (Array.mk [nat_lit 95, nat_lit 102, nat_lit 114, nat_lit 111, nat_lit 122, nat_lit 101, nat_lit 110, nat_lit 95, nat_lit 105, nat_lit 109, nat_lit 112, nat_lit 111, nat_lit 114, nat_lit 116, nat_lit 108, nat_lit 105, nat_lit 98])) 217), ent P (Str.mk (Array.mk [nat_lit 95, nat_lit 95, nat_lit 102, nat_lit 105, nat_lit 114, nat_lit 115, nat_lit 116, nat_lit 108, nat_lit 105, nat_lit 110, nat_lit 101, nat_lit 110, nat_lit 111, nat_lit 95, nat_lit 95])) 228 (.int 562 218), ent P (Str.mk (Array.mk [nat_lit 95, nat_lit 95, nat_lit 100, nat_lit 111, nat_lit 99, nat_lit 95, nat_lit 95])) 229 (.builtin "_frozen_importlib.ModuleSpec.__doc__:str#opaque"), ent P (Str.mk (Array.mk [nat_lit 95, nat_lit 95, nat_lit 105, nat_lit 110, nat_lit 105, nat_lit 116, nat_lit 95, nat_lit 95])) 230 (.builtin "_frozen_importlib.ModuleSpec.__init__#opaque"), ent P (Str.mk (Array.mk [nat_lit 95, nat_lit 95, nat_lit 114, nat_lit 101, nat_lit 112, nat_lit 114, nat_lit 95, nat_lit 95])) 231 (.builtin "_frozen_importlib.ModuleSpec.__repr__#opaque"), ent P (Str.mk (Array.mk [nat_lit 95, nat_lit 95, nat_lit 101, nat_lit 113, nat_lit 95, nat_lit 95])) 232 (.builtin "_frozen_importlib.ModuleSpec.__eq__#opaque"), ent P (Str.mk (Array.mk [nat_lit 99, nat_lit 97, nat_lit 99, nat_lit 104, nat_lit 101, nat_lit 100])) 233 (.builtin "_frozen_importlib.ModuleSpec.cached#opaque"), ent P (Str.mk (Array.mk [nat_lit 112, nat_lit 97, nat_lit 114, nat_lit 101, nat_lit 110, nat_lit 116])) 234 (.builtin "_frozen_importlib.ModuleSpec.parent#opaque"), ent P (Str.mk (Array.mk [nat_lit 104, nat_lit 97, nat_lit 115, nat_lit 95, nat_lit 108, nat_lit 111, nat_lit 99, nat_lit 97, nat_lit 116, nat_lit 105, nat_lit 111, nat_lit 110])) 235 (.builtin "_frozen_importlib.ModuleSpec.has_location#opaque"), ent P (Str.mk (Array.mk [nat_lit 95, nat_lit 95, nat_lit 115, nat_lit 116, nat_lit 97, nat_lit 116, nat_lit 105, nat_lit 99, nat_lit 95, nat_lit 97, nat_lit 116, nat_lit 116, nat_lit 114, nat_lit 105, nat_lit 98, nat_lit 117, nat_lit 116, nat_lit 101, nat_lit 115, nat_lit 95, nat_lit 95])) 236 (.ref 23), ent P (Str.mk (Array.mk [nat_lit 95, nat_lit 95, nat_lit 100, nat_lit 105, nat_lit 99, nat_lit 116, nat_lit 95, nat_lit 95])) 238 (.ref 24), ent P (Str.mk (Array.mk [nat_lit 95, nat_lit 95, nat_lit 119, nat_lit 101, nat_lit 97, nat_lit 107, nat_lit 114, nat_lit 101, nat_lit 102, nat_lit 95, nat_lit 95])) 240 (.ref 25), ent P (Str.mk (Array.mk [nat_lit 95, nat_lit 95, nat_lit 104, nat_lit 97, nat_lit 115, nat_lit 104, nat_lit 95, nat_lit 95])) 241 .none] 13), #[]⟩
noncomputable def o22v0 (P : Params) : Obj := ⟨(.type PySem.W.SL.s17162191345867700912x4), none, (.cls { name := (Str.mk (Array.mk [nat_lit 77, nat_lit 111, nat_lit 100, nat_lit 117, nat_lit 108, nat_lit 101, nat_lit 83, nat_lit 112, nat_lit 101, nat_lit 99])), bases := [(.type PySem.W.SL.s2742458400755230247x6)], mro := [(.ref 22), (.type PySem.W.SL.s2742458400755230247x6)], ns := 21, qualname := (Str.mk (Array.mk [nat_lit 77, nat_lit 111, nat_lit 100, nat_lit 117, nat_lit 108, nat_lit 101, nat_lit 83, nat_lit 112, nat_lit 101, nat_lit 99])), hasDict := true, slotNames := [], subclasses := [], abstract := false, collection := none, hasDel := false }), #[]⟩
noncomputable def o23v0 (P : Params) : Obj := ⟨(.type PySem.W.SL.s2766695959194262286x5), none, (.seq #[(.str (Str.mk (Array.mk [nat_lit 95, nat_lit 99, nat_lit 97, nat_lit 99, nat_lit 104, nat_lit 101, nat_lit 100])) 219), (.str (Str.mk (Array.mk [nat_lit 95, nat_lit 115, nat_lit 101, nat_lit 116, nat_lit 95, nat_lit 102, nat_lit 105, nat_lit 108, nat_lit 101, nat_lit 97, nat_lit 116, nat_lit 116, nat_lit 114])) 220), (.str (Str.mk (Array.mk [nat_lit 95, nat_lit 117, nat_lit 110, nat_lit 105, nat_lit 110, nat_lit 105, nat_lit 116, nat_lit 105, nat_lit 97, nat_lit 108, nat_lit 105, nat_lit 122, nat_lit 101, nat_lit 100, nat_lit 95, nat_lit 115, nat_lit 117, nat_lit 98, nat_lit 109, nat_lit 111, nat_lit 100, nat_lit 117, nat_lit 108, nat_lit 101, nat_lit 115])) 221), (.str (Str.mk (Array.mk [nat_lit 108, nat_lit 111, nat_lit 97, nat_lit 100, nat_lit 101, nat_lit 114])) 222), (.str (Str.mk (Array.mk [nat_lit 108, nat_lit 111, nat_lit 97, nat_lit 100, nat_lit 101, nat_lit 114, nat_lit 95, nat_lit 115, nat_lit 116, nat_lit 97, nat_lit 116, nat_lit 101])) 223), (.str (Str.mk (Array.mk [nat_lit 110, nat_lit 97, nat_lit 109, nat_lit 101])) 224), (.str (Str.mk (Array.mk [nat_lit 111, nat_lit 114, nat_lit 105, nat_lit 103, nat_lit 105, nat_lit 110])) 225), (.str (Str.mk (Array.mk [nat_lit 115, nat_lit 117, nat_lit 98, nat_lit 109, nat_lit 111, nat_lit 100, nat_lit 117, nat_lit 108, nat_lit 101, nat_lit 95, nat_lit 115, nat_lit 101, nat_lit 97, nat_lit 114, nat_lit 99, nat_lit 104, nat_lit 95, nat_lit 108, nat_lit 111, nat_lit 99, nat_lit 97, nat_lit 116, nat_lit 105, nat_lit 111, nat_lit 110, nat_lit 115])) 226)] 0), #[]⟩
noncomputable def o24v0 (P : Params) : Obj := ⟨(.type PySem.W.SL.s14755015743595814543x17), none, (.fields #[(.str (Str.mk (Array.mk [nat_lit 95, nat_lit 95, nat_lit 100, nat_lit 105, nat_lit 99, nat_lit 116, nat_lit 95, nat_lit 95])) 237), (.ref 22), (.builtin PySem.W.SL.s6511155373996960695x17), (.builtin PySem.W.SL.s12411053484034534018x21)]), #[]⟩
noncomputable def o25v0 (P : Params) : Obj := ⟨(.type PySem.W.SL.s14755015743595814543x17), none, (.fields #[(.str (Str.mk (Array.mk [nat_lit 95, nat_lit 95, nat_lit 119, nat_lit 101, nat_lit 97, nat_lit 107, nat_lit 114, nat_lit 101, nat_lit 102, nat_lit 95, nat_lit 95])) 239), (.ref 22), (.builtin PySem.W.SL.s10220274742760427390x26), .none]), #[]⟩
noncomputable def o26v0 (P : Params) : Obj := ⟨(.ref 22), (some 20), .plain, #[]⟩
noncomputable def o27v0 (P : Params) : Obj := ⟨.none, none, (.seq #[(.int 11 0), (.str (Str.mk #[6, 247, 8, 95, 95, 110, 97, 109, 101, 95, 95, 6, 246, 4, 95, 115, 114, 101, 6, 248, 7, 95, 95, 100, 111, 99, 95, 95, 0, 6, 250, 11, 95, 95, 112, 97, 99, 107, 97, 103, 101, 95, 95, 6, 249, 0, 6, 251, 10, 95, 95, 108, 111, 97, 100, 101, 114, 95, 95, 4, 0, 0, 14, 6, 252, 8, 95, 95, 115, 112, 101, 99, 95, 95, 4, 0, 0, 26, 6, 253, 7, 99, 111, 109, 112, 105, 108, 101, 9, 12, 95, 115, 114, 101, 46, 99, 111, 109, 112, 105, 108, 101, 6, 254, 8, 116, 101, 109, 112, 108, 97, 116, 101, 9, 13, 95, 115, 114, 101, 46, 116, 101, 109, 112, 108, 97, 116, 101, 6, 255, 11, 103, 101, 116, 99, 111, 100, 101, 115, 105, 122, 101, 9, 16, 95, 115, 114, 101, 46, 103, 101, 116, 99, 111, 100, 101, 115, 105, 122, 101, 6, 256, 13, 97, 115, 99, 105, 105, 95, 105, 115, 99, 97, 115, 101, 100, 9, 18, 95, 115, 114, 101, 46, 97, 115, 99, 105, 105, 95, 105, 115, 99, 97, 115, 101, 100, 6, 257, 15, 117, 110, 105, 99, 111, 100, 101, 95, 105, 115, 99, 97, 115, 101, 100, 9, 20, 95, 115, 114, 101, 46, 117, 110, 105, 99, 111, 100, 101, 95, 105, 115, 99, 97, 115, 101, 100, 6, 258, 13, 97, 115, 99, 105, 105, 95, 116, 111, 108, 111, 119, 101, 114, 9, 18, 95, 115, 114, 101, 46, 97, 115, 99, 105, 105, 95, 116, 111, 108, 111, 119, 101, 114, 6, 259, 15, 117, 110, 105, 99, 111, 100, 101, 95, 116, 111, 108, 111, 119, 101, 114, 9, 20, 95, 115, 114, 101, 46, 117, 110, 105, 99, 111, 100, 101, 95, 116, 111, 108, 111, 119, 101, 114, 6, 261, 5, 77, 65, 71, 73, 67, 4, 260, 0, 20230612, 6, 263, 8, 67, 79, 68, 69, 83, 73, 90, 69, 4, 262, 0, 4, 6, 265, 9, 77, 65, 88, 82, 69, 80, 69, 65, 84, 4, 264, 0, 4294967295, 6, 267, 9, 77, 65, 88, 71, 82, 79, 85, 80, 83, 4, 266, 0, 1073741823, 6, 269, 9, 99, 111, 112, 121, 114, 105, 103, 104, 116, 6, 268, 53, 32, 83, 82, 69, 32, 50, 46, 50, 46, 50, 32, 67, 111, 112, 121, 114, 105, 103, 104, 116, 32, 40, 99, 41, 32, 49, 57, 57, 55, 45, 50, 48, 48, 50, 32, 98, 121, 32, 83, 101, 99, 114, 101, 116, 32, 76, 97, 98, 115, 32, 65, 66, 32]) 0), (.bool true), (.bool false), (.str (Str.mk (Array.mk [nat_lit 95, nat_lit 115, nat_lit 114, nat_lit 101])) 271)] 0), #[]⟩
noncomputable def o11v1 (P : Params) : Obj := ⟨(.type PySem.W.SL.s14018661285674007319x4), none, (.dict #[ent P (Str.mk (Array.mk [nat_lit 95, nat_lit 95, nat_lit 110, nat_lit 97, nat_lit 109, nat_lit 101, nat_lit 95, nat_lit 95])) 247 (.str (Str.mk (Array.mk [nat_lit 95, nat_lit 115, nat_lit 114, nat_lit 101])) 246), ent P (Str.mk (Array.mk [nat_lit 95, nat_lit 95, nat_lit 100, nat_lit 111, nat_lit 99, nat_lit 95, nat_lit 95])) 248 .none, ent P (Str.mk (Array.mk [nat_lit 95, nat_lit 95, nat_lit 112, nat_lit 97, nat_lit 99, nat_lit 107, nat_lit 97, nat_lit 103, nat_lit 101, nat_lit 95, nat_lit 95])) 250 (.str (Str.mk (Array.mk [])) 249), ent P (Str.mk (Array.mk [nat_lit 95, nat_lit 95, nat_lit 108, nat_lit 111, nat_lit 97, nat_lit 100, nat_lit 101, nat_lit 114, nat_lit 95, nat_lit 95])) 251 (.builtin "off-the-table:_sre.__loader__:shared#opaque"), ent P (Str.mk (Array.mk [nat_lit 95, nat_lit 95, nat_lit 115, nat_lit 112, nat_lit 101, nat_lit 99, nat_lit 95, nat_lit 95])) 252 (.builtin "off-the-table:_sre.__spec__:shared#opaque"), ent P (Str.mk (Array.mk [nat_lit 99, nat_lit 111, nat_lit 109, nat_lit 112, nat_lit 105, nat_lit 108, nat_lit 101])) 253 (.builtin PySem.W.SL.s492968859115322481x12), ent P (Str.mk (Array.mk [nat_lit 116, nat_lit 101, nat_lit 109, nat_lit 112, nat_lit 108, nat_lit 97, nat_lit 116, nat_lit 101])) 254 (.builtin "off-the-table:_sre.template:shared#opaque"), ent P (Str.mk (Array.mk [nat_lit 103, nat_lit 101, nat_lit 116, nat_lit 99, nat_lit 111, nat_lit 100, nat_lit 101, nat_lit 115, nat_lit 105, nat_lit 122, nat_lit 101])) 255 (.builtin "off-the-table:_sre.getcodesize:shared#opaque"), ent P (Str.mk (Array.mk [nat_lit 97, nat_lit 115, nat_lit 99, nat_lit 105, nat_lit 105, nat_lit 95, nat_lit 105, nat_lit 115, nat_lit 99, nat_lit 97, nat_lit 115, nat_lit 101, nat_lit 100])) 256 (.builtin "off-the-table:_sre.ascii_iscased:shared#opaque"), ent P (Str.mk (Array.mk [nat_lit 117, nat_lit 110, nat_lit 105, nat_lit 99, nat_lit 111, nat_lit 100, nat_lit 101, nat_lit 95, nat_lit 105, nat_lit 115, nat_lit 99, nat_lit 97, nat_lit 115, nat_lit 101, nat_lit 100])) 257 (.builtin "off-the-table:_sre.unicode_iscased:shared#opaque"), ent P (Str.mk (Array.mk [nat_lit 97, nat_lit 115, nat_lit 99, nat_lit 105, nat_lit 105, nat_lit 95, nat_lit 116, nat_lit 111, nat_lit 108, nat_lit 111, nat_lit 119, nat_lit 101, nat_lit 114])) 258 (.builtin "off-the-table:_sre.ascii_tolower:shared#opaque"), ent P (Str.mk (Array.mk [nat_lit 117, nat_lit 110, nat_lit 105, nat_lit 99, nat_lit 111, nat_lit 100, nat_lit 101, nat_lit 95, nat_lit 116, nat_lit 111, nat_lit 108, nat_lit 111, nat_lit 119, nat_lit 101, nat_lit 114])) 259 (.builtin "off-the-table:_sre.unicode_tolower:shared#opaque"), ent P (Str.mk (Array.mk [nat_lit 77, nat_lit 65, nat_lit 71, nat_lit 73, nat_lit 67])) 261 (.int 20230612 260), ent P (Str.mk (Array.mk [nat_lit 67, nat_lit 79, nat_lit 68, nat_lit 69, nat_lit 83, nat_lit 73, nat_lit 90, nat_lit 69])) 263 (.int 4 262), ent P (Str.mk (Array.mk [nat_lit 77, nat_lit 65, nat_lit 88, nat_lit 82, nat_lit 69, nat_lit 80, nat_lit 69, nat_lit 65, nat_lit 84])) 265 (.int 4294967295 264), ent P (Str.mk (Array.mk [nat_lit 77, nat_lit 65, nat_lit 88, nat_lit 71, nat_lit 82, nat_lit 79, nat_lit 85, nat_lit 80, nat_lit 83])) 267 (.int 1073741823 266), ent P (Str.mk (Array.mk [nat_lit 99, nat_lit 111, nat_lit 112, nat_lit 121, nat_lit 114, nat_lit 105, nat_lit 103, nat_lit 104, nat_lit 116])) 269 (.str (Str.mk (Array.mk [nat_lit 32, nat_lit 83, nat_lit 82, nat_lit 69, nat_lit 32, nat_lit 50, nat_lit 46, nat_lit 50, nat_lit 46, nat_lit 50, nat_lit 32, nat_lit 67, nat_lit 111, nat_lit 112, nat_lit 121, nat_lit 114, nat_lit 105, nat_lit 103, nat_lit 104, nat_lit 116, nat_lit 32, nat_lit 40, nat_lit 99, nat_lit 41, nat_lit 32, nat_lit 49, nat_lit 57, nat_lit 57, nat_lit 55, nat_lit 45, nat_lit 50, nat_lit 48, nat_lit 48, nat_lit 50, nat_lit 32, nat_lit 98, nat_lit 121, nat_lit 32, nat_lit 83, nat_lit 101, nat_lit 99, nat_lit 114, nat_lit 101, nat_lit 116, nat_lit 32, nat_lit 76, nat_lit 97, nat_lit 98, nat_lit 115, nat_lit 32, nat_lit 65, nat_lit 66, nat_lit 32])) 268)] 17), #[]⟩
noncomputable def o28v0 (P : Params) : Obj := ⟨(.type PySem.W.SL.s2766695959194262286x5), none, (.seq #[] 0), #[]⟩
noncomputable def o29v0 (P : Params) : Obj := ⟨.none, none, (.fields #[]), #[]⟩
noncomputable def o30v0 (P : Params) : Obj := ⟨(.type PySem.W.SL.s5856160107412720595x4), none, (.fields #[(.str (Str.mk (Array.mk [nat_lit 60, nat_lit 109, nat_lit 111, nat_lit 100, nat_lit 117, nat_lit 108, nat_lit 101, nat_lit 62])) 277), (.str (Str.mk (Array.mk [nat_lit 60, nat_lit 109, nat_lit 111, nat_lit 100, nat_lit 117, nat_lit 108, nat_lit 101, nat_lit 62])) 278), (.str (Str.mk (Array.mk [nat_lit 47, nat_lit 99, nat_lit 108, nat_lit 97, nat_lit 105, nat_lit 109, nat_lit 47, nat_lit 99, nat_lit 117, nat_lit 116, nat_lit 46, nat_lit 112, nat_lit 121])) 279), (.int 1 0), (.int 0 0), (.int 0 0), (.int 0 0), (.int 0 0), (.ref 28), (.bool false), (.int 276 0), (.ref 29), .none, .none, .none, .none, (.int 280 0), (.int 1 0), (.str (Str.mk (Array.mk [nat_lit 47, nat_lit 99, nat_lit 108, nat_lit 97, nat_lit 105, nat_lit 109, nat_lit 47, nat_lit 99, nat_lit 117, nat_lit 116, nat_lit 46, nat_lit 112, nat_lit 121])) 281)]), #[]⟩
noncomputable def o31v0 (P : Params) : Obj := ⟨(.type PySem.W.SL.s658472552662922059x5), none, .plain, #[(some (.ref 30)), (some (.ref 3)), (some (.ref 3)), none, (some (.str (Str.mk (Array.mk [nat_lit 95, nat_lit 95, nat_lit 109, nat_lit 97, nat_lit 105, nat_lit 110, nat_lit 95, nat_lit 95])) 164)), none, (some (.ref 0))]⟩
noncomputable def o3v1 (P : Params) : Obj := ⟨(.type PySem.W.SL.s14018661285674007319x4), none, (.dict #[ent P (Str.mk (Array.mk [nat_lit 95, nat_lit 95, nat_lit 110, nat_lit 97, nat_lit 109, nat_lit 101, nat_lit 95, nat_lit 95])) 165 (.str (Str.mk (Array.mk [nat_lit 99, nat_lit 112, nat_lit 121, nat_lit 51, nat_lit 49, nat_lit 51, nat_lit 46, nat_lit 111, nat_lit 112, nat_lit 101, nat_lit 114, nat_lit 97, nat_lit 116, nat_lit 111, nat_lit 114])) 334), ent P (Str.mk (Array.mk [nat_lit 95, nat_lit 95, nat_lit 100, nat_lit 111, nat_lit 99, nat_lit 95, nat_lit 95])) 166 .none, ent P (Str.mk (Array.mk [nat_lit 95, nat_lit 95, nat_lit 112, nat_lit 97, nat_lit 99, nat_lit 107, nat_lit 97, nat_lit 103, nat_lit 101, nat_lit 95, nat_lit 95])) 167 .none, ent P (Str.mk (Array.mk [nat_lit 95, nat_lit 95, nat_lit 108, nat_lit 111, nat_lit 97, nat_lit 100, nat_lit 101, nat_lit 114, nat_lit 95, nat_lit 95])) 168 (.builtin PySem.W.SL.s7097527257260152453x26), ent P (Str.mk (Array.mk [nat_lit 95, nat_lit 95, nat_lit 115, nat_lit 112, nat_lit 101, nat_lit 99, nat_lit 95, nat_lit 95])) 169 .none, ent P (Str.mk (Array.mk [nat_lit 95, nat_lit 95, nat_lit 97, nat_lit 110, nat_lit 110, nat_lit 111, nat_lit 116, nat_lit 97, nat_lit 116, nat_lit 105, nat_lit 111, nat_lit 110, nat_lit 115, nat_lit 95, nat_lit 95])) 170 (.ref 6), ent P (Str.mk (Array.mk [nat_lit 95, nat_lit 95, nat_lit 98, nat_lit 117, nat_lit 105, nat_lit 108, nat_lit 116, nat_lit 105, nat_lit 110, nat_lit 115, nat_lit 95, nat_lit 95])) 171 (.ref 4), ent P (Str.mk (Array.mk [nat_lit 95, nat_lit 95, nat_lit 102, nat_lit 105, nat_lit 108, nat_lit 101, nat_lit 95, nat_lit 95])) 173 (.str (Str.mk (Array.mk [nat_lit 47, nat_lit 99, nat_lit 108, nat_lit 97, nat_lit 105, nat_lit 109, nat_lit 47, nat_lit 99, nat_lit 117, nat_lit 116, nat_lit 46, nat_lit 112, nat_lit 121])) 172), ent P (Str.mk (Array.mk [nat_lit 95, nat_lit 95, nat_lit 99, nat_lit 97, nat_lit 99, nat_lit 104, nat_lit 101, nat_lit 100, nat_lit 95, nat_lit 95])) 174 .none, ent P (Str.mk (Array.mk [nat_lit 95, nat_lit 115, nat_lit 114, nat_lit 101])) 275 (.ref 12), ent P (Str.mk (Array.mk [nat_lit 67, nat_lit 79, nat_lit 77, nat_lit 80, nat_lit 73, nat_lit 76, nat_lit 69, nat_lit 82, nat_lit 95, nat_lit 70, nat_lit 76, nat_lit 65, nat_lit 71, nat_lit 95, nat_lit 78, nat_lit 65, nat_lit 77, nat_lit 69, nat_lit 83])) 314 (.ref 32), ent P (Str.mk (Array.mk [nat_lit 112, nat_lit 114, nat_lit 101, nat_lit 116, nat_lit 116, nat_lit 121, nat_lit 95, nat_lit 102, nat_lit 108, nat_lit 97, nat_lit 103, nat_lit 115])) 324 (.ref 39), ent P (Str.mk (Array.mk [nat_lit 95, nat_lit 112, nat_lit 97, nat_lit 114, nat_lit 115, nat_lit 101, nat_lit 95, nat_lit 118, nat_lit 97, nat_lit 114, nat_lit 105, nat_lit 110, nat_lit 116])) 333 (.ref 46), ent P (Str.mk (Array.mk [nat_lit 97, nat_lit 100, nat_lit 100])) 343 (.ref 53), ent P (Str.mk (Array.mk [nat_lit 97, nat_lit 110, nat_lit 100, nat_lit 95])) 351 (.ref 60), ent P (Str.mk (Array.mk [nat_lit 102, nat_lit 108, nat_lit 111, nat_lit 111, nat_lit 114, nat_lit 100, nat_lit 105, nat_lit 118])) 359 (.ref 67), ent P (Str.mk (Array.mk [nat_lit 108, nat_lit 115, nat_lit 104, nat_lit 105, nat_lit 102, nat_lit 116])) 367 (.ref 74), ent P (Str.mk (Array.mk [nat_lit 109, nat_lit 111, nat_lit 100])) 375 (.ref 81)] 18), #[]⟩
noncomputable def o29v1 (P : Params) : Obj := ⟨.none, none, (.fields #[(.int 4 0), (.int 0 0), (.ref 38), (.int 16 0), (.int 0 0), (.ref 45), (.int 25 0), (.int 0 0), (.ref 52), (.int 27 0), (.int 0 0), (.ref 59), (.int 29 0), (.int 0 0), (.ref 66), (.int 31 0), (.int 0 0), (.ref 73), (.int 33 0), (.int 0 0), (.ref 80)]), #[]⟩
noncomputable def o32v0 (P : Params) : Obj := ⟨(.type "dict"), none, (.dict #[⟨1, (.int 1 284), (.str (Str.ofString "OPTIMIZED") 285)⟩, ⟨2, (.int 2 286), (.str (Str.ofString "NEWLOCALS") 287)⟩, ⟨4, (.int 4 288), (.str (Str.ofString "VARARGS") 289)⟩, ⟨8, (.int 8 290), (.str (Str.ofString "VARKEYWORDS") 291)⟩, ⟨16, (.int 16 292), (.str (Str.ofString "NESTED") 293)⟩, ⟨32, (.int 32 294), (.str (Str.ofString "GENERATOR") 295)⟩, ⟨64, (.int 64 296), (.str (Str.ofString "NOFREE") 297)⟩, ⟨128, (.int 128 298), (.str (Str.ofString "COROUTINE") 299)⟩, ⟨256, (.int 256 300), (.str (Str.ofString "ITERABLE_COROUTINE") 301)⟩, ⟨512, (.int 512 302), (.str (Str.ofString "ASYNC_GENERATOR") 303)⟩] 10), #[]⟩
noncomputable def o33v0 (P : Params) : Obj := ⟨(.type "tuple"), none, (.seq #[] 0), #[]⟩
noncomputable def o34v0 (P : Params) : Obj := ⟨.none, none, (.fields #[]), #[]⟩
noncomputable def o35v0 (P : Params) : Obj := ⟨(.type "tuple"), none, (.seq #[(.str (Str.ofString "flags") 318), (.str (Str.ofString "names") 319), (.str (Str.ofString "i") 320), (.str (Str.ofString "flag") 321)] 0), #[]⟩
noncomputable def o36v0 (P : Params) : Obj := ⟨(.type "tuple"), none, (.seq #[] 0), #[]⟩
noncomputable def o37v0 (P : Params) : Obj := ⟨.none, none, (.func { fdAt 3 with globals := 0, closure := [], defaults := .none, kwdefaults := .none, doc := .none, pyModule := .none, annotations := none, code := .none, closureTuple := .none, builtins := 0 }), #[]⟩
noncomputable def o38v0 (P : Params) : Obj := ⟨(.type "code"), none, (.fields #[(.str (Str.ofString "pretty_flags") 315), (.str (Str.ofString "pretty_flags") 316), (.str (Str.ofString "/claim/cut.py") 317), (.int 4 0), (.int 1 0), (.int 0 0), (.int 0 0), (.int 3 0), (.ref 33), (.bool true), (.int 276 0), (.ref 34), .none, (.ref 35), (.ref 36), (.ref 37), (.int 322 0), (.int 4 0), (.str (Str.ofString "/claim/cut.py") 323)]), #[]⟩
noncomputable def o39v0 (P : Params) : Obj := ⟨(.type PySem.W.SL.s7174869446012820540x8), none, (.func { fdAt 3 with globals := 3, closure := [], defaults := .none, kwdefaults := .none, doc := .none, pyModule := (.str (Str.mk (Array.mk [nat_lit 99, nat_lit 112, nat_lit 121, nat_lit 51, nat_lit 49, nat_lit 51, nat_lit 46, nat_lit 100, nat_lit 105, nat_lit 115])) 282), annotations := none, code := (.ref 38), closureTuple := .none, builtins := 0 }), #[]⟩
noncomputable def o40v0 (P : Params) : Obj := ⟨(.type "tuple"), none, (.seq #[] 0), #[]⟩
noncomputable def o41v0 (P : Params) : Obj := ⟨.none, none, (.fields #[]), #[]⟩
noncomputable def o42v0 (P : Params) : Obj := ⟨(.type "tuple"), none, (.seq #[(.str (Str.ofString "iterator") 328), (.str (Str.ofString "b") 329), (.str (Str.ofString "val") 330)] 0), #[]⟩
noncomputable def o43v0 (P : Params) : Obj := ⟨(.type "tuple"), none, (.seq #[] 0), #[]⟩
noncomputable def o44v0 (P : Params) : Obj := ⟨.none, none, (.func { fdAt 4 with globals := 0, closure := [], defaults := .none, kwdefaults := .none, doc := .none, pyModule := .none, annotations := none, code := .none, closureTuple := .none, builtins := 0 }), #[]⟩
noncomputable def o45v0 (P : Params) : Obj := ⟨(.type "code"), none, (.fields #[(.str (Str.ofString "_parse_varint") 325), (.str (Str.ofString "_parse_varint") 326), (.str (Str.ofString "/claim/cut.py") 327), (.int 16 0), (.int 1 0), (.int 0 0), (.int 0 0), (.int 3 0), (.ref 40), (.bool true), (.int 276 0), (.ref 41), .none, (.ref 42), (.ref 43), (.ref 44), (.int 331 0), (.int 16 0), (.str (Str.ofString "/claim/cut.py") 332)]), #[]⟩
noncomputable def o46v0 (P : Params) : Obj := ⟨(.type PySem.W.SL.s7174869446012820540x8), none, (.func { fdAt 4 with globals := 3, closure := [], defaults := .none, kwdefaults := .none, doc := .none, pyModule := (.str (Str.mk (Array.mk [nat_lit 99, nat_lit 112, nat_lit 121, nat_lit 51, nat_lit 49, nat_lit 51, nat_lit 46, nat_lit 100, nat_lit 105, nat_lit 115])) 282), annotations := none, code := (.ref 45), closureTuple := .none, builtins := 0 }), #[]⟩
noncomputable def o47v0 (P : Params) : Obj := ⟨(.type "tuple"), none, (.seq #[] 0), #[]⟩
noncomputable def o48v0 (P : Params) : Obj := ⟨.none, none, (.fields #[]), #[]⟩
noncomputable def o49v0 (P : Params) : Obj := ⟨(.type "tuple"), none, (.seq #[(.str (Str.ofString "a") 339), (.str (Str.ofString "b") 340)] 0), #[]⟩
noncomputable def o50v0 (P : Params) : Obj := ⟨(.type "tuple"), none, (.seq #[] 0), #[]⟩
noncomputable def o51v0 (P : Params) : Obj := ⟨.none, none, (.func { fdAt 6 with globals := 0, closure := [], defaults := .none, kwdefaults := .none, doc := .none, pyModule := .none, annotations := none, code := .none, closureTuple := .none, builtins := 0 }), #[]⟩
noncomputable def o52v0 (P : Params) : Obj := ⟨(.type "code"), none, (.fields #[(.str (Str.ofString "add") 336), (.str (Str.ofString "add") 337), (.str (Str.ofString "/claim/cut.py") 338), (.int 25 0), (.int 2 0), (.int 0 0), (.int 0 0), (.int 3 0), (.ref 47), (.bool true), (.int 276 0), (.ref 48), .none, (.ref 49), (.ref 50), (.ref 51), (.int 341 0), (.int 25 0), (.str (Str.ofString "/claim/cut.py") 342)]), #[]⟩
noncomputable def o53v0 (P : Params) : Obj := ⟨(.type PySem.W.SL.s7174869446012820540x8), none, (.func { fdAt 6 with globals := 3, closure := [], defaults := .none, kwdefaults := .none, doc := .none, pyModule := (.str (Str.mk (Array.mk [nat_lit 99, nat_lit 112, nat_lit 121, nat_lit 51, nat_lit 49, nat_lit 51, nat_lit 46, nat_lit 111, nat_lit 112, nat_lit 101, nat_lit 114, nat_lit 97, nat_lit 116, nat_lit 111, nat_lit 114])) 334), annotations := none, code := (.ref 52), closureTuple := .none, builtins := 0 }), #[]⟩
noncomputable def o54v0 (P : Params) : Obj := ⟨(.type "tuple"), none, (.seq #[] 0), #[]⟩
noncomputable def o55v0 (P : Params) : Obj := ⟨.none, none, (.fields #[]), #[]⟩
noncomputable def o56v0 (P : Params) : Obj := ⟨(.type "tuple"), none, (.seq #[(.str (Str.ofString "a") 347), (.str (Str.ofString "b") 348)] 0), #[]⟩
noncomputable def o57v0 (P : Params) : Obj := ⟨(.type "tuple"), none, (.seq #[] 0), #[]⟩
noncomputable def o58v0 (P : Params) : Obj := ⟨.none, none, (.func { fdAt 7 with globals := 0, closure := [], defaults := .none, kwdefaults := .none, doc := .none, pyModule := .none, annotations := none, code := .none, closureTuple := .none, builtins := 0 }), #[]⟩
noncomputable def o59v0 (P : Params) : Obj := ⟨(.type "code"), none, (.fields #[(.str (Str.ofString "and_") 344), (.str (Str.ofString "and_") 345), (.str (Str.ofString "/claim/cut.py") 346), (.int 27 0), (.int 2 0), (.int 0 0), (.int 0 0), (.int 3 0), (.ref 54), (.bool true), (.int 276 0), (.ref 55), .none, (.ref 56), (.ref 57), (.ref 58), (.int 349 0), (.int 27 0), (.str (Str.ofString "/claim/cut.py") 350)]), #[]⟩
noncomputable def o60v0 (P : Params) : Obj := ⟨(.type PySem.W.SL.s7174869446012820540x8), none, (.func { fdAt 7 with globals := 3, closure := [], defaults := .none, kwdefaults := .none, doc := .none, pyModule := (.str (Str.mk (Array.mk [nat_lit 99, nat_lit 112, nat_lit 121, nat_lit 51, nat_lit 49, nat_lit 51, nat_lit 46, nat_lit 111, nat_lit 112, nat_lit 101, nat_lit 114, nat_lit 97, nat_lit 116, nat_lit 111, nat_lit 114])) 334), annotations := none, code := (.ref 59), closureTuple := .none, builtins := 0 }), #[]⟩
noncomputable def o61v0 (P : Params) : Obj := ⟨(.type "tuple"), none, (.seq #[] 0), #[]⟩
noncomputable def o62v0 (P : Params) : Obj := ⟨.none, none, (.fields #[]), #[]⟩
noncomputable def o63v0 (P : Params) : Obj := ⟨(.type "tuple"), none, (.seq #[(.str (Str.ofString "a") 355), (.str (Str.ofString "b") 356)] 0), #[]⟩
noncomputable def o64v0 (P : Params) : Obj := ⟨(.type "tuple"), none, (.seq #[] 0), #[]⟩
noncomputable def o65v0 (P : Params) : Obj := ⟨.none, none, (.func { fdAt 8 with globals := 0, closure := [], defaults := .none, kwdefaults := .none, doc := .none, pyModule := .none, annotations := none, code := .none, closureTuple := .none, builtins := 0 }), #[]⟩
noncomputable def o66v0 (P : Params) : Obj := ⟨(.type "code"), none, (.fields #[(.str (Str.ofString "floordiv") 352), (.str (Str.ofString "floordiv") 353), (.str (Str.ofString "/claim/cut.py") 354), (.int 29 0), (.int 2 0), (.int 0 0), (.int 0 0), (.int 3 0), (.ref 61), (.bool true), (.int 276 0), (.ref 62), .none, (.ref 63), (.ref 64), (.ref 65), (.int 357 0), (.int 29 0), (.str (Str.ofString "/claim/cut.py") 358)]), #[]⟩
noncomputable def o67v0 (P : Params) : Obj := ⟨(.type PySem.W.SL.s7174869446012820540x8), none, (.func { fdAt 8 with globals := 3, closure := [], defaults := .none, kwdefaults := .none, doc := .none, pyModule := (.str (Str.mk (Array.mk [nat_lit 99, nat_lit 112, nat_lit 121, nat_lit 51, nat_lit 49, nat_lit 51, nat_lit 46, nat_lit 111, nat_lit 112, nat_lit 101, nat_lit 114, nat_lit 97, nat_lit 116, nat_lit 111, nat_lit 114])) 334), annotations := none, code := (.ref 66), closureTuple := .none, builtins := 0 }), #[]⟩
noncomputable def o68v0 (P : Params) : Obj := ⟨(.type "tuple"), none, (.seq #[] 0), #[]⟩
noncomputable def o69v0 (P : Params) : Obj := ⟨.none, none, (.fields #[]), #[]⟩
noncomputable def o70v0 (P : Params) : Obj := ⟨(.type "tuple"), none, (.seq #[(.str (Str.ofString "a") 363), (.str (Str.ofString "b") 364)] 0), #[]⟩
noncomputable def o71v0 (P : Params) : Obj := ⟨(.type "tuple"), none, (.seq #[] 0), #[]⟩
noncomputable def o72v0 (P : Params) : Obj := ⟨.none, none, (.func { fdAt 9 with globals := 0, closure := [], defaults := .none, kwdefaults := .none, doc := .none, pyModule := .none, annotations := none, code := .none, closureTuple := .none, builtins := 0 }), #[]⟩
noncomputable def o73v0 (P : Params) : Obj := ⟨(.type "code"), none, (.fields #[(.str (Str.ofString "lshift") 360), (.str (Str.ofString "lshift") 361), (.str (Str.ofString "/claim/cut.py") 362), (.int 31 0), (.int 2 0), (.int 0 0), (.int 0 0), (.int 3 0), (.ref 68), (.bool true), (.int 276 0), (.ref 69), .none, (.ref 70), (.ref 71), (.ref 72), (.int 365 0), (.int 31 0), (.str (Str.ofString "/claim/cut.py") 366)]), #[]⟩
noncomputable def o74v0 (P : Params) : Obj := ⟨(.type PySem.W.SL.s7174869446012820540x8), none, (.func { fdAt 9 with globals := 3, closure := [], defaults := .none, kwdefaults := .none, doc := .none, pyModule := (.str (Str.mk (Array.mk [nat_lit 99, nat_lit 112, nat_lit 121, nat_lit 51, nat_lit 49, nat_lit 51, nat_lit 46, nat_lit 111, nat_lit 112, nat_lit 101, nat_lit 114, nat_lit 97, nat_lit 116, nat_lit 111, nat_lit 114])) 334), annotations := none, code := (.ref 73), closureTuple := .none, builtins := 0 }), #[]⟩
noncomputable def o75v0 (P : Params) : Obj := ⟨(.type "tuple"), none, (.seq #[] 0), #[]⟩
noncomputable def o76v0 (P : Params) : Obj := ⟨.none, none, (.fields #[]), #[]⟩
noncomputable def o77v0 (P : Params) : Obj := ⟨(.type "tuple"), none, (.seq #[(.str (Str.ofString "a") 371), (.str (Str.ofString "b") 372)] 0), #[]⟩
noncomputable def o78v0 (P : Params) : Obj := ⟨(.type "tuple"), none, (.seq #[] 0), #[]⟩
noncomputable def o79v0 (P : Params) : Obj := ⟨.none, none, (.func { fdAt 10 with globals := 0, closure := [], defaults := .none, kwdefaults := .none, doc := .none, pyModule := .none, annotations := none, code := .none, closureTuple := .none, builtins := 0 }), #[]⟩
noncomputable def o80v0 (P : Params) : Obj := ⟨(.type "code"), none, (.fields #[(.str (Str.ofString "mod") 368), (.str (Str.ofString "mod") 369), (.str (Str.ofString "/claim/cut.py") 370), (.int 33 0), (.int 2 0), (.int 0 0), (.int 0 0), (.int 3 0), (.ref 75), (.bool true), (.int 276 0), (.ref 76), .none, (.ref 77), (.ref 78), (.ref 79), (.int 373 0), (.int 33 0), (.str (Str.ofString "/claim/cut.py") 374)]), #[]⟩
noncomputable def o81v0 (P : Params) : Obj := ⟨(.type PySem.W.SL.s7174869446012820540x8), none, (.func { fdAt 10 with globals := 3, closure := [], defaults := .none, kwdefaults := .none, doc := .none, pyModule := (.str (Str.mk (Array.mk [nat_lit 99, nat_lit 112, nat_lit 121, nat_lit 51, nat_lit 49, nat_lit 51, nat_lit 46, nat_lit 111, nat_lit 112, nat_lit 101, nat_lit 114, nat_lit 97, nat_lit 116, nat_lit 111, nat_lit 114])) 334), annotations := none, code := (.ref 80), closureTuple := .none, builtins := 0 }), #[]⟩
noncomputable def o3v2 (P : Params) : Obj := ⟨(.type PySem.W.SL.s14018661285674007319x4), none, (.dict #[ent P (Str.mk (Array.mk [nat_lit 95, nat_lit 95, nat_lit 110, nat_lit 97, nat_lit 109, nat_lit 101, nat_lit 95, nat_lit 95])) 165 (.str (Str.mk (Array.mk [nat_lit 99, nat_lit 112, nat_lit 121, nat_lit 51, nat_lit 49, nat_lit 51, nat_lit 46, nat_lit 115, nat_lit 116, nat_lit 114, nat_lit 105, nat_lit 110, nat_lit 103, nat_lit 112, nat_lit 114, nat_lit 101, nat_lit 112])) 473), ent P (Str.mk (Array.mk [nat_lit 95, nat_lit 95, nat_lit 100, nat_lit 111, nat_lit 99, nat_lit 95, nat_lit 95])) 166 .none, ent P (Str.mk (Array.mk [nat_lit 95, nat_lit 95, nat_lit 112, nat_lit 97, nat_lit 99, nat_lit 107, nat_lit 97, nat_lit 103, nat_lit 101, nat_lit 95, nat_lit 95])) 167 .none, ent P (Str.mk (Array.mk [nat_lit 95, nat_lit 95, nat_lit 108, nat_lit 111, nat_lit 97, nat_lit 100, nat_lit 101, nat_lit 114, nat_lit 95, nat_lit 95])) 168 (.builtin PySem.W.SL.s7097527257260152453x26), ent P (Str.mk (Array.mk [nat_lit 95, nat_lit 95, nat_lit 115, nat_lit 112, nat_lit 101, nat_lit 99, nat_lit 95, nat_lit 95])) 169 .none, ent P (Str.mk (Array.mk [nat_lit 95, nat_lit 95, nat_lit 97, nat_lit 110, nat_lit 110, nat_lit 111, nat_lit 116, nat_lit 97, nat_lit 116, nat_lit 105, nat_lit 111, nat_lit 110, nat_lit 115, nat_lit 95, nat_lit 95])) 170 (.ref 6), ent P (Str.mk (Array.mk [nat_lit 95, nat_lit 95, nat_lit 98, nat_lit 117, nat_lit 105, nat_lit 108, nat_lit 116, nat_lit 105, nat_lit 110, nat_lit 115, nat_lit 95, nat_lit 95])) 171 (.ref 4), ent P (Str.mk (Array.mk [nat_lit 95, nat_lit 95, nat_lit 102, nat_lit 105, nat_lit 108, nat_lit 101, nat_lit 95, nat_lit 95])) 173 (.str (Str.mk (Array.mk [nat_lit 47, nat_lit 99, nat_lit 108, nat_lit 97, nat_lit 105, nat_lit 109, nat_lit 47, nat_lit 99, nat_lit 117, nat_lit 116, nat_lit 46, nat_lit 112, nat_lit 121])) 172), ent P (Str.mk (Array.mk [nat_lit 95, nat_lit 95, nat_lit 99, nat_lit 97, nat_lit 99, nat_lit 104, nat_lit 101, nat_lit 100, nat_lit 95, nat_lit 95])) 174 .none, ent P (Str.mk (Array.mk [nat_lit 95, nat_lit 115, nat_lit 114, nat_lit 101])) 275 (.ref 12), ent P (Str.mk (Array.mk [nat_lit 67, nat_lit 79, nat_lit 77, nat_lit 80, nat_lit 73, nat_lit 76, nat_lit 69, nat_lit 82, nat_lit 95, nat_lit 70, nat_lit 76, nat_lit 65, nat_lit 71, nat_lit 95, nat_lit 78, nat_lit 65, nat_lit 77, nat_lit 69, nat_lit 83])) 314 (.ref 32), ent P (Str.mk (Array.mk [nat_lit 112, nat_lit 114, nat_lit 101, nat_lit 116, nat_lit 116, nat_lit 121, nat_lit 95, nat_lit 102, nat_lit 108, nat_lit 97, nat_lit 103, nat_lit 115])) 324 (.ref 39), ent P (Str.mk (Array.mk [nat_lit 95, nat_lit 112, nat_lit 97, nat_lit 114, nat_lit 115, nat_lit 101, nat_lit 95, nat_lit 118, nat_lit 97, nat_lit 114, nat_lit 105, nat_lit 110, nat_lit 116])) 333 (.ref 46), ent P (Str.mk (Array.mk [nat_lit 97, nat_lit 100, nat_lit 100])) 343 (.ref 53), ent P (Str.mk (Array.mk [nat_lit 97, nat_lit 110, nat_lit 100, nat_lit 95])) 351 (.ref 60), ent P (Str.mk (Array.mk [nat_lit 102, nat_lit 108, nat_lit 111, nat_lit 111, nat_lit 114, nat_lit 100, nat_lit 105, nat_lit 118])) 359 (.ref 67), ent P (Str.mk (Array.mk [nat_lit 108, nat_lit 115, nat_lit 104, nat_lit 105, nat_lit 102, nat_lit 116])) 367 (.ref 74), ent P (Str.mk (Array.mk [nat_lit 109, nat_lit 111, nat_lit 100])) 375 (.ref 81), ent P (Str.mk (Array.mk [nat_lit 115, nat_lit 117, nat_lit 98])) 383 (.ref 88), ent P (Str.mk (Array.mk [nat_lit 99, nat_lit 111, nat_lit 117, nat_lit 110, nat_lit 116, nat_lit 79, nat_lit 102])) 393 (.ref 95), ent P (Str.mk (Array.mk [nat_lit 105, nat_lit 110, nat_lit 100, nat_lit 101, nat_lit 120, nat_lit 79, nat_lit 102])) 403 (.ref 102), ent P (Str.mk (Array.mk [nat_lit 95, nat_lit 116, nat_lit 119, nat_lit 105, nat_lit 110, nat_lit 95, nat_lit 114, nat_lit 101, nat_lit 95, nat_lit 49])) 421 (.ref 107), ent P (Str.mk (Array.mk [nat_lit 95, nat_lit 116, nat_lit 119, nat_lit 105, nat_lit 110, nat_lit 95, nat_lit 114, nat_lit 101, nat_lit 95, nat_lit 50])) 463 (.ref 112), ent P (Str.mk (Array.mk [nat_lit 67, nat_lit 82, nat_lit 76, nat_lit 70])) 465 (.str (Str.mk #[13, 10]) 464), ent P (Str.mk (Array.mk [nat_lit 113, nat_lit 117, nat_lit 111, nat_lit 116, nat_lit 101, nat_lit 100, nat_lit 97, nat_lit 116, nat_lit 97])) 472 (.ref 119)] 25), #[]⟩
noncomputable def o29v2 (P : Params) : Obj := ⟨.none, none, (.fields #[(.int 4 0), (.int 0 0), (.ref 38), (.int 16 0), (.int 0 0), (.ref 45), (.int 25 0), (.int 0 0), (.ref 52), (.int 27 0), (.int 0 0), (.ref 59), (.int 29 0), (.int 0 0), (.ref 66), (.int 31 0), (.int 0 0), (.ref 73), (.int 33 0), (.int 0 0), (.ref 80), (.int 35 0), (.int 0 0), (.ref 87), (.int 37 0), (.int 0 0), (.ref 94), (.int 43 0), (.int 0 0), (.ref 101), (.int 53 0), (.int 0 0), (.ref 118)]), #[]⟩
noncomputable def o82v0 (P : Params) : Obj := ⟨(.type "tuple"), none, (.seq #[] 0), #[]⟩
noncomputable def o83v0 (P : Params) : Obj := ⟨.none, none, (.fields #[]), #[]⟩
noncomputable def o84v0 (P : Params) : Obj := ⟨(.type "tuple"), none, (.seq #[(.str (Str.ofString "a") 379), (.str (Str.ofString "b") 380)] 0), #[]⟩
noncomputable def o85v0 (P : Params) : Obj := ⟨(.type "tuple"), none, (.seq #[] 0), #[]⟩
noncomputable def o86v0 (P : Params) : Obj := ⟨.none, none, (.func { fdAt 11 with globals := 0, closure := [], defaults := .none, kwdefaults := .none, doc := .none, pyModule := .none, annotations := none, code := .none, closureTuple := .none, builtins := 0 }), #[]⟩
noncomputable def o87v0 (P : Params) : Obj := ⟨(.type "code"), none, (.fields #[(.str (Str.ofString "sub") 376), (.str (Str.ofString "sub") 377), (.str (Str.ofString "/claim/cut.py") 378), (.int 35 0), (.int 2 0), (.int 0 0), (.int 0 0), (.int 3 0), (.ref 82), (.bool true), (.int 276 0), (.ref 83), .none, (.ref 84), (.ref 85), (.ref 86), (.int 381 0), (.int 35 0), (.str (Str.ofString "/claim/cut.py") 382)]), #[]⟩
noncomputable def o88v0 (P : Params) : Obj := ⟨(.type PySem.W.SL.s7174869446012820540x8), none, (.func { fdAt 11 with globals := 3, closure := [], defaults := .none, kwdefaults := .none, doc := .none, pyModule := (.str (Str.mk (Array.mk [nat_lit 99, nat_lit 112, nat_lit 121, nat_lit 51, nat_lit 49, nat_lit 51, nat_lit 46, nat_lit 111, nat_lit 112, nat_lit 101, nat_lit 114, nat_lit 97, nat_lit 116, nat_lit 111, nat_lit 114])) 334), annotations := none, code := (.ref 87), closureTuple := .none, builtins := 0 }), #[]⟩
noncomputable def o89v0 (P : Params) : Obj := ⟨(.type "tuple"), none, (.seq #[] 0), #[]⟩
noncomputable def o90v0 (P : Params) : Obj := ⟨.none, none, (.fields #[]), #[]⟩
noncomputable def o91v0 (P : Params) : Obj := ⟨(.type "tuple"), none, (.seq #[(.str (Str.ofString "a") 387), (.str (Str.ofString "b") 388), (.str (Str.ofString "count") 389), (.str (Str.ofString "i") 390)] 0), #[]⟩
noncomputable def o92v0 (P : Params) : Obj := ⟨(.type "tuple"), none, (.seq #[] 0), #[]⟩
noncomputable def o93v0 (P : Params) : Obj := ⟨.none, none, (.func { fdAt 12 with globals := 0, closure := [], defaults := .none, kwdefaults := .none, doc := .none, pyModule := .none, annotations := none, code := .none, closureTuple := .none, builtins := 0 }), #[]⟩
noncomputable def o94v0 (P : Params) : Obj := ⟨(.type "code"), none, (.fields #[(.str (Str.ofString "countOf") 384), (.str (Str.ofString "countOf") 385), (.str (Str.ofString "/claim/cut.py") 386), (.int 37 0), (.int 2 0), (.int 0 0), (.int 0 0), (.int 3 0), (.ref 89), (.bool true), (.int 276 0), (.ref 90), .none, (.ref 91), (.ref 92), (.ref 93), (.int 391 0), (.int 37 0), (.str (Str.ofString "/claim/cut.py") 392)]), #[]⟩
noncomputable def o95v0 (P : Params) : Obj := ⟨(.type PySem.W.SL.s7174869446012820540x8), none, (.func { fdAt 12 with globals := 3, closure := [], defaults := .none, kwdefaults := .none, doc := .none, pyModule := (.str (Str.mk (Array.mk [nat_lit 99, nat_lit 112, nat_lit 121, nat_lit 51, nat_lit 49, nat_lit 51, nat_lit 46, nat_lit 111, nat_lit 112, nat_lit 101, nat_lit 114, nat_lit 97, nat_lit 116, nat_lit 111, nat_lit 114])) 334), annotations := none, code := (.ref 94), closureTuple := .none, builtins := 0 }), #[]⟩
noncomputable def o96v0 (P : Params) : Obj := ⟨(.type "tuple"), none, (.seq #[] 0), #[]⟩
noncomputable def o97v0 (P : Params) : Obj := ⟨.none, none, (.fields #[]), #[]⟩
noncomputable def o98v0 (P : Params) : Obj := ⟨(.type "tuple"), none, (.seq #[(.str (Str.ofString "a") 397), (.str (Str.ofString "b") 398), (.str (Str.ofString "i") 399), (.str (Str.ofString "j") 400)] 0), #[]⟩
noncomputable def o99v0 (P : Params) : Obj := ⟨(.type "tuple"), none, (.seq #[] 0), #[]⟩
noncomputable def o100v0 (P : Params) : Obj := ⟨.none, none, (.func { fdAt 13 with globals := 0, closure := [], defaults := .none, kwdefaults := .none, doc := .none, pyModule := .none, annotations := none, code := .none, closureTuple := .none, builtins := 0 }), #[]⟩
noncomputable def o101v0 (P : Params) : Obj := ⟨(.type "code"), none, (.fields #[(.str (Str.ofString "indexOf") 394), (.str (Str.ofString "indexOf") 395), (.str (Str.ofString "/claim/cut.py") 396), (.int 43 0), (.int 2 0), (.int 0 0), (.int 0 0), (.int 3 0), (.ref 96), (.bool true), (.int 276 0), (.ref 97), .none, (.ref 98), (.ref 99), (.ref 100), (.int 401 0), (.int 43 0), (.str (Str.ofString "/claim/cut.py") 402)]), #[]⟩
noncomputable def o102v0 (P : Params) : Obj := ⟨(.type PySem.W.SL.s7174869446012820540x8), none, (.func { fdAt 13 with globals := 3, closure := [], defaults := .none, kwdefaults := .none, doc := .none, pyModule := (.str (Str.mk (Array.mk [nat_lit 99, nat_lit 112, nat_lit 121, nat_lit 51, nat_lit 49, nat_lit 51, nat_lit 46, nat_lit 111, nat_lit 112, nat_lit 101, nat_lit 114, nat_lit 97, nat_lit 116, nat_lit 111, nat_lit 114])) 334), annotations := none, code := (.ref 101), closureTuple := .none, builtins := 0 }), #[]⟩
noncomputable def o103v0 (P : Params) : Obj := ⟨(.type PySem.W.SL.s9222952809800978799x4), none, (.seq #[(.int 14 409), (.int 4 410), (.int 0 411), (.int 1 412), (.int 1 413), (.int 6 414), (.int 1 415), (.int 16 416), (.int 46 417), (.int 1 418)] 0), #[]⟩
noncomputable def o104v0 (P : Params) : Obj := ⟨(.type PySem.W.SL.s14018661285674007319x4), none, (.dict #[] 0), #[]⟩
noncomputable def o105v0 (P : Params) : Obj := ⟨(.type PySem.W.SL.s2766695959194262286x5), none, (.seq #[.none] 0), #[]⟩
noncomputable def o106v0 (P : Params) : Obj := ⟨(.type "tuple"), none, (.seq #[(.int 14 0), (.int 4 0), (.int 0 0), (.int 1 0), (.int 1 0), (.int 6 0), (.int 1 0), (.int 16 0), (.int 46 0), (.int 1 0)] 0), #[]⟩
noncomputable def o107v0 (P : Params) : Obj := ⟨(.type "re.Pattern"), none, (.fields #[(.str (Str.ofString "(?m)^\\.") 407), (.int 40 420), (.int 0 0), .none, .none, (.ref 106), (.int 0 0)]), #[]⟩
noncomputable def o108v0 (P : Params) : Obj := ⟨(.type PySem.W.SL.s9222952809800978799x4), none, (.seq #[(.int 14 425), (.int 9 426), (.int 4 427), (.int 1 428), (.int 2 429), (.int 16 430), (.int 10 431), (.int 16 432), (.int 13 433), (.int 0 434), (.int 7 435), (.int 7 436), (.int 16 437), (.int 13 438), (.int 16 439), (.int 10 440), (.int 15 441), (.int 18 442), (.int 5 443), (.int 16 444), (.int 10 445), (.int 15 446), (.int 13 447), (.int 11 448), (.int 16 449), (.int 13 450), (.int 5 451), (.int 5 452), (.int 0 453), (.int 16 454), (.int 10 455), (.int 1 456), (.int 15 457), (.int 2 458), (.int 0 459), (.int 1 460)] 0), #[]⟩
noncomputable def o109v0 (P : Params) : Obj := ⟨(.type PySem.W.SL.s14018661285674007319x4), none, (.dict #[] 0), #[]⟩
noncomputable def o110v0 (P : Params) : Obj := ⟨(.type PySem.W.SL.s2766695959194262286x5), none, (.seq #[.none] 0), #[]⟩
noncomputable def o111v0 (P : Params) : Obj := ⟨(.type "tuple"), none, (.seq #[(.int 14 0), (.int 9 0), (.int 4 0), (.int 1 0), (.int 2 0), (.int 16 0), (.int 10 0), (.int 16 0), (.int 13 0), (.int 0 0), (.int 7 0), (.int 7 0), (.int 16 0), (.int 13 0), (.int 16 0), (.int 10 0), (.int 15 0), (.int 18 0), (.int 5 0), (.int 16 0), (.int 10 0), (.int 15 0), (.int 13 0), (.int 11 0), (.int 16 0), (.int 13 0), (.int 5 0), (.int 5 0), (.int 0 0), (.int 16 0), (.int 10 0), (.int 1 0), (.int 15 0), (.int 2 0), (.int 0 0), (.int 1 0)] 0), #[]⟩
noncomputable def o112v0 (P : Params) : Obj := ⟨(.type "re.Pattern"), none, (.fields #[(.str (Str.ofString "(?:\\r\\n|\\n|\\r(?!\\n))") 423), (.int 32 462), (.int 0 0), .none, .none, (.ref 111), (.int 0 0)]), #[]⟩
noncomputable def o113v0 (P : Params) : Obj := ⟨(.type "tuple"), none, (.seq #[] 0), #[]⟩
noncomputable def o114v0 (P : Params) : Obj := ⟨.none, none, (.fields #[]), #[]⟩
noncomputable def o115v0 (P : Params) : Obj := ⟨(.type "tuple"), none, (.seq #[(.str (Str.ofString "data") 469)] 0), #[]⟩
noncomputable def o116v0 (P : Params) : Obj := ⟨(.type "tuple"), none, (.seq #[] 0), #[]⟩
noncomputable def o117v0 (P : Params) : Obj := ⟨.none, none, (.func { fdAt 18 with globals := 0, closure := [], defaults := .none, kwdefaults := .none, doc := .none, pyModule := .none, annotations := none, code := .none, closureTuple := .none, builtins := 0 }), #[]⟩
noncomputable def o118v0 (P : Params) : Obj := ⟨(.type "code"), none, (.fields #[(.str (Str.ofString "quotedata") 466), (.str (Str.ofString "quotedata") 467), (.str (Str.ofString "/claim/cut.py") 468), (.int 53 0), (.int 1 0), (.int 0 0), (.int 0 0), (.int 3 0), (.ref 113), (.bool true), (.int 276 0), (.ref 114), .none, (.ref 115), (.ref 116), (.ref 117), (.int 470 0), (.int 53 0), (.str (Str.ofString "/claim/cut.py") 471)]), #[]⟩
noncomputable def o119v0 (P : Params) : Obj := ⟨(.type PySem.W.SL.s7174869446012820540x8), none, (.func { fdAt 18 with globals := 3, closure := [], defaults := .none, kwdefaults := .none, doc := .none, pyModule := (.str (Str.mk (Array.mk [nat_lit 99, nat_lit 112, nat_lit 121, nat_lit 51, nat_lit 49, nat_lit 51, nat_lit 46, nat_lit 115, nat_lit 109, nat_lit 116, nat_lit 112, nat_lit 108, nat_lit 105, nat_lit 98])) 404), annotations := none, code := (.ref 118), closureTuple := .none, builtins := 0 }), #[]⟩
noncomputable def o3v3 (P : Params) : Obj := ⟨(.type PySem.W.SL.s14018661285674007319x4), none, (.dict #[ent P (Str.mk (Array.mk [nat_lit 95, nat_lit 95, nat_lit 110, nat_lit 97, nat_lit 109, nat_lit 101, nat_lit 95, nat_lit 95])) 165 (.str (Str.mk (Array.mk [nat_lit 99, nat_lit 112, nat_lit 121, nat_lit 51, nat_lit 49, nat_lit 51, nat_lit 46, nat_lit 115, nat_lit 116, nat_lit 114, nat_lit 105, nat_lit 110, nat_lit 103, nat_lit 112, nat_lit 114, nat_lit 101, nat_lit 112])) 473), ent P (Str.mk (Array.mk [nat_lit 95, nat_lit 95, nat_lit 100, nat_lit 111, nat_lit 99, nat_lit 95, nat_lit 95])) 166 .none, ent P (Str.mk (Array.mk [nat_lit 95, nat_lit 95, nat_lit 112, nat_lit 97, nat_lit 99, nat_lit 107, nat_lit 97, nat_lit 103, nat_lit 101, nat_lit 95, nat_lit 95])) 167 .none, ent P (Str.mk (Array.mk [nat_lit 95, nat_lit 95, nat_lit 108, nat_lit 111, nat_lit 97, nat_lit 100, nat_lit 101, nat_lit 114, nat_lit 95, nat_lit 95])) 168 (.builtin PySem.W.SL.s7097527257260152453x26), ent P (Str.mk (Array.mk [nat_lit 95, nat_lit 95, nat_lit 115, nat_lit 112, nat_lit 101, nat_lit 99, nat_lit 95, nat_lit 95])) 169 .none, ent P (Str.mk (Array.mk [nat_lit 95, nat_lit 95, nat_lit 97, nat_lit 110, nat_lit 110, nat_lit 111, nat_lit 116, nat_lit 97, nat_lit 116, nat_lit 105, nat_lit 111, nat_lit 110, nat_lit 115, nat_lit 95, nat_lit 95])) 170 (.ref 6), ent P (Str.mk (Array.mk [nat_lit 95, nat_lit 95, nat_lit 98, nat_lit 117, nat_lit 105, nat_lit 108, nat_lit 116, nat_lit 105, nat_lit 110, nat_lit 115, nat_lit 95, nat_lit 95])) 171 (.ref 4), ent P (Str.mk (Array.mk [nat_lit 95, nat_lit 95, nat_lit 102, nat_lit 105, nat_lit 108, nat_lit 101, nat_lit 95, nat_lit 95])) 173 (.str (Str.mk (Array.mk [nat_lit 47, nat_lit 99, nat_lit 108, nat_lit 97, nat_lit 105, nat_lit 109, nat_lit 47, nat_lit 99, nat_lit 117, nat_lit 116, nat_lit 46, nat_lit 112, nat_lit 121])) 172), ent P (Str.mk (Array.mk [nat_lit 95, nat_lit 95, nat_lit 99, nat_lit 97, nat_lit 99, nat_lit 104, nat_lit 101, nat_lit 100, nat_lit 95, nat_lit 95])) 174 .none, ent P (Str.mk (Array.mk [nat_lit 95, nat_lit 115, nat_lit 114, nat_lit 101])) 275 (.ref 12), ent P (Str.mk (Array.mk [nat_lit 67, nat_lit 79, nat_lit 77, nat_lit 80, nat_lit 73, nat_lit 76, nat_lit 69, nat_lit 82, nat_lit 95, nat_lit 70, nat_lit 76, nat_lit 65, nat_lit 71, nat_lit 95, nat_lit 78, nat_lit 65, nat_lit 77, nat_lit 69, nat_lit 83])) 314 (.ref 32), ent P (Str.mk (Array.mk [nat_lit 112, nat_lit 114, nat_lit 101, nat_lit 116, nat_lit 116, nat_lit 121, nat_lit 95, nat_lit 102, nat_lit 108, nat_lit 97, nat_lit 103, nat_lit 115])) 324 (.ref 39), ent P (Str.mk (Array.mk [nat_lit 95, nat_lit 112, nat_lit 97, nat_lit 114, nat_lit 115, nat_lit 101, nat_lit 95, nat_lit 118, nat_lit 97, nat_lit 114, nat_lit 105, nat_lit 110, nat_lit 116])) 333 (.ref 46), ent P (Str.mk (Array.mk [nat_lit 97, nat_lit 100, nat_lit 100])) 343 (.ref 53), ent P (Str.mk (Array.mk [nat_lit 97, nat_lit 110, nat_lit 100, nat_lit 95])) 351 (.ref 60), ent P (Str.mk (Array.mk [nat_lit 102, nat_lit 108, nat_lit 111, nat_lit 111, nat_lit 114, nat_lit 100, nat_lit 105, nat_lit 118])) 359 (.ref 67), ent P (Str.mk (Array.mk [nat_lit 108, nat_lit 115, nat_lit 104, nat_lit 105, nat_lit 102, nat_lit 116])) 367 (.ref 74), ent P (Str.mk (Array.mk [nat_lit 109, nat_lit 111, nat_lit 100])) 375 (.ref 81), ent P (Str.mk (Array.mk [nat_lit 115, nat_lit 117, nat_lit 98])) 383 (.ref 88), ent P (Str.mk (Array.mk [nat_lit 99, nat_lit 111, nat_lit 117, nat_lit 110, nat_lit 116, nat_lit 79, nat_lit 102])) 393 (.ref 95), ent P (Str.mk (Array.mk [nat_lit 105, nat_lit 110, nat_lit 100, nat_lit 101, nat_lit 120, nat_lit 79, nat_lit 102])) 403 (.ref 102), ent P (Str.mk (Array.mk [nat_lit 95, nat_lit 116, nat_lit 119, nat_lit 105, nat_lit 110, nat_lit 95, nat_lit 114, nat_lit 101, nat_lit 95, nat_lit 49])) 421 (.ref 107), ent P (Str.mk (Array.mk [nat_lit 95, nat_lit 116, nat_lit 119, nat_lit 105, nat_lit 110, nat_lit 95, nat_lit 114, nat_lit 101, nat_lit 95, nat_lit 50])) 463 (.ref 112), ent P (Str.mk (Array.mk [nat_lit 67, nat_lit 82, nat_lit 76, nat_lit 70])) 465 (.str (Str.mk #[13, 10]) 464), ent P (Str.mk (Array.mk [nat_lit 113, nat_lit 117, nat_lit 111, nat_lit 116, nat_lit 101, nat_lit 100, nat_lit 97, nat_lit 116, nat_lit 97])) 472 (.ref 119), ent P (Str.mk (Array.mk [nat_lit 98, nat_lit 49, nat_lit 95, nat_lit 115, nat_lit 101, nat_lit 116])) 534 (.ref 127)] 26), #[]⟩
noncomputable def o120v0 (P : Params) : Obj := ⟨(.type PySem.W.SL.s9222952809800978799x4), none, (.seq #[(.int 173 475), (.int 847 476), (.int 6150 477), (.int 6155 478), (.int 6156 479), (.int 6157 480), (.int 8203 481), (.int 8204 482), (.int 8205 483), (.int 8288 484), (.int 65279 485)] 0), #[]⟩
noncomputable def o121v0 (P : Params) : Obj := ⟨(.type PySem.W.SL.s1438033511350832697x5), none, (.fields #[(.int 65024 486), (.int 65040 487), (.int 1 488)]), #[]⟩
noncomputable def o122v0 (P : Params) : Obj := ⟨(.type PySem.W.SL.s9222952809800978799x4), none, (.seq #[(.int 65024 491), (.int 65025 492), (.int 65026 493), (.int 65027 494), (.int 65028 495), (.int 65029 496), (.int 65030 497), (.int 65031 498), (.int 65032 499), (.int 65033 500), (.int 65034 501), (.int 65035 502), (.int 65036 503), (.int 65037 504), (.int 65038 505), (.int 65039 506)] 18), #[]⟩
noncomputable def o123v0 (P : Params) : Obj := ⟨(.type PySem.W.SL.s15992201931430999065x14), none, (.fields #[(.int 65040 0), (.int 0 0), (.int 1 0)]), #[]⟩
noncomputable def o124v0 (P : Params) : Obj := ⟨(.type PySem.W.SL.s2766695959194262286x5), none, (.seq #[] 0), #[]⟩
noncomputable def o125v0 (P : Params) : Obj := ⟨(.type PySem.W.SL.s5991306692159431302x13), none, (.fields #[(.ref 124), .none, .none, .none, (.bool false), .none]), #[]⟩
noncomputable def o126v0 (P : Params) : Obj := ⟨(.type PySem.W.SL.s9222952809800978799x4), none, (.seq #[(.int 173 475), (.int 847 476), (.int 6150 477), (.int 6155 478), (.int 6156 479), (.int 6157 480), (.int 8203 481), (.int 8204 482), (.int 8205 483), (.int 8288 484), (.int 65279 485), (.int 65024 491), (.int 65025 492), (.int 65026 493), (.int 65027 494), (.int 65028 495), (.int 65029 496), (.int 65030 497), (.int 65031 498), (.int 65032 499), (.int 65033 500), (.int 65034 501), (.int 65035 502), (.int 65036 503), (.int 65037 504), (.int 65038 505), (.int 65039 506)] 0), #[]⟩
noncomputable def o127v0 (P : Params) : Obj := ⟨(.type "set"), none, (.set #[(65024, (.int 65024 491)), (65025, (.int 65025 492)), (65026, (.int 65026 493)), (65027, (.int 65027 494)), (65028, (.int 65028 495)), (65029, (.int 65029 496)), (6150, (.int 6150 477)), (65030, (.int 65030 497)), (65031, (.int 65031 498)), (65032, (.int 65032 499)), (65033, (.int 65033 500)), (6155, (.int 6155 478)), (6156, (.int 6156 479)), (6157, (.int 6157 480)), (8203, (.int 8203 481)), (8204, (.int 8204 482)), (8205, (.int 8205 483)), (65034, (.int 65034 501)), (65035, (.int 65035 502)), (65036, (.int 65036 503)), (65037, (.int 65037 504)), (65038, (.int 65038 505)), (65039, (.int 65039 506)), (173, (.int 173 475)), (847, (.int 847 476)), (8288, (.int 8288 484)), (65279, (.int 65279 485))] 29 { mask := 127, place := #[0, 1, 2, 3, 4, 5, 6, 7, 8, 9, 10, 11, 12, 13, 14, 15, 16, 17, 18, 19, 20, 21, 22, 45, 79, 96, 127], dummies := #[], finger := 0, led := !(P.followText "set-order"), moves := 2, plain := true }), #[]⟩
noncomputable def o128v0 (P : Params) : Obj := ⟨(.type PySem.W.SL.s3492446563574874994x13), none, (.fields #[.none, (.int 27 0)]), #[]⟩
noncomputable def o129v0 (P : Params) : Obj := ⟨(.type PySem.W.SL.s2766695959194262286x5), none, (.seq #[] 0), #[]⟩
noncomputable def o130v0 (P : Params) : Obj := ⟨(.type PySem.W.SL.s5991306692159431302x13), none, (.fields #[(.ref 129), .none, .none, .none, (.bool false), .none]), #[]⟩
noncomputable def o3v4 (P : Params) : Obj := ⟨(.type PySem.W.SL.s14018661285674007319x4), none, (.dict #[ent P (Str.mk (Array.mk [nat_lit 95, nat_lit 95, nat_lit 110, nat_lit 97, nat_lit 109, nat_lit 101, nat_lit 95, nat_lit 95])) 165 (.str (Str.mk (Array.mk [nat_lit 99, nat_lit 112, nat_lit 121, nat_lit 51, nat_lit 49, nat_lit 51, nat_lit 46, nat_lit 115, nat_lit 116, nat_lit 114, nat_lit 105, nat_lit 110, nat_lit 103, nat_lit 112, nat_lit 114, nat_lit 101, nat_lit 112])) 473), ent P (Str.mk (Array.mk [nat_lit 95, nat_lit 95, nat_lit 100, nat_lit 111, nat_lit 99, nat_lit 95, nat_lit 95])) 166 .none, ent P (Str.mk (Array.mk [nat_lit 95, nat_lit 95, nat_lit 112, nat_lit 97, nat_lit 99, nat_lit 107, nat_lit 97, nat_lit 103, nat_lit 101, nat_lit 95, nat_lit 95])) 167 .none, ent P (Str.mk (Array.mk [nat_lit 95, nat_lit 95, nat_lit 108, nat_lit 111, nat_lit 97, nat_lit 100, nat_lit 101, nat_lit 114, nat_lit 95, nat_lit 95])) 168 (.builtin PySem.W.SL.s7097527257260152453x26), ent P (Str.mk (Array.mk [nat_lit 95, nat_lit 95, nat_lit 115, nat_lit 112, nat_lit 101, nat_lit 99, nat_lit 95, nat_lit 95])) 169 .none, ent P (Str.mk (Array.mk [nat_lit 95, nat_lit 95, nat_lit 97, nat_lit 110, nat_lit 110, nat_lit 111, nat_lit 116, nat_lit 97, nat_lit 116, nat_lit 105, nat_lit 111, nat_lit 110, nat_lit 115, nat_lit 95, nat_lit 95])) 170 (.ref 6), ent P (Str.mk (Array.mk [nat_lit 95, nat_lit 95, nat_lit 98, nat_lit 117, nat_lit 105, nat_lit 108, nat_lit 116, nat_lit 105, nat_lit 110, nat_lit 115, nat_lit 95, nat_lit 95])) 171 (.ref 4), ent P (Str.mk (Array.mk [nat_lit 95, nat_lit 95, nat_lit 102, nat_lit 105, nat_lit 108, nat_lit 101, nat_lit 95, nat_lit 95])) 173 (.str (Str.mk (Array.mk [nat_lit 47, nat_lit 99, nat_lit 108, nat_lit 97, nat_lit 105, nat_lit 109, nat_lit 47, nat_lit 99, nat_lit 117, nat_lit 116, nat_lit 46, nat_lit 112, nat_lit 121])) 172), ent P (Str.mk (Array.mk [nat_lit 95, nat_lit 95, nat_lit 99, nat_lit 97, nat_lit 99, nat_lit 104, nat_lit 101, nat_lit 100, nat_lit 95, nat_lit 95])) 174 .none, ent P (Str.mk (Array.mk [nat_lit 95, nat_lit 115, nat_lit 114, nat_lit 101])) 275 (.ref 12), ent P (Str.mk (Array.mk [nat_lit 67, nat_lit 79, nat_lit 77, nat_lit 80, nat_lit 73, nat_lit 76, nat_lit 69, nat_lit 82, nat_lit 95, nat_lit 70, nat_lit 76, nat_lit 65, nat_lit 71, nat_lit 95, nat_lit 78, nat_lit 65, nat_lit 77, nat_lit 69, nat_lit 83])) 314 (.ref 32), ent P (Str.mk (Array.mk [nat_lit 112, nat_lit 114, nat_lit 101, nat_lit 116, nat_lit 116, nat_lit 121, nat_lit 95, nat_lit 102, nat_lit 108, nat_lit 97, nat_lit 103, nat_lit 115])) 324 (.ref 39), ent P (Str.mk (Array.mk [nat_lit 95, nat_lit 112, nat_lit 97, nat_lit 114, nat_lit 115, nat_lit 101, nat_lit 95, nat_lit 118, nat_lit 97, nat_lit 114, nat_lit 105, nat_lit 110, nat_lit 116])) 333 (.ref 46), ent P (Str.mk (Array.mk [nat_lit 97, nat_lit 100, nat_lit 100])) 343 (.ref 53), ent P (Str.mk (Array.mk [nat_lit 97, nat_lit 110, nat_lit 100, nat_lit 95])) 351 (.ref 60), ent P (Str.mk (Array.mk [nat_lit 102, nat_lit 108, nat_lit 111, nat_lit 111, nat_lit 114, nat_lit 100, nat_lit 105, nat_lit 118])) 359 (.ref 67), ent P (Str.mk (Array.mk [nat_lit 108, nat_lit 115, nat_lit 104, nat_lit 105, nat_lit 102, nat_lit 116])) 367 (.ref 74), ent P (Str.mk (Array.mk [nat_lit 109, nat_lit 111, nat_lit 100])) 375 (.ref 81), ent P (Str.mk (Array.mk [nat_lit 115, nat_lit 117, nat_lit 98])) 383 (.ref 88), ent P (Str.mk (Array.mk [nat_lit 99, nat_lit 111, nat_lit 117, nat_lit 110, nat_lit 116, nat_lit 79, nat_lit 102])) 393 (.ref 95), ent P (Str.mk (Array.mk [nat_lit 105, nat_lit 110, nat_lit 100, nat_lit 101, nat_lit 120, nat_lit 79, nat_lit 102])) 403 (.ref 102), ent P (Str.mk (Array.mk [nat_lit 95, nat_lit 116, nat_lit 119, nat_lit 105, nat_lit 110, nat_lit 95, nat_lit 114, nat_lit 101, nat_lit 95, nat_lit 49])) 421 (.ref 107), ent P (Str.mk (Array.mk [nat_lit 95, nat_lit 116, nat_lit 119, nat_lit 105, nat_lit 110, nat_lit 95, nat_lit 114, nat_lit 101, nat_lit 95, nat_lit 50])) 463 (.ref 112), ent P (Str.mk (Array.mk [nat_lit 67, nat_lit 82, nat_lit 76, nat_lit 70])) 465 (.str (Str.mk #[13, 10]) 464), ent P (Str.mk (Array.mk [nat_lit 113, nat_lit 117, nat_lit 111, nat_lit 116, nat_lit 101, nat_lit 100, nat_lit 97, nat_lit 116, nat_lit 97])) 472 (.ref 119), ent P (Str.mk (Array.mk [nat_lit 98, nat_lit 49, nat_lit 95, nat_lit 115, nat_lit 101, nat_lit 116])) 534 (.ref 127), ent P (Str.mk (Array.mk [nat_lit 105, nat_lit 110, nat_lit 95, nat_lit 116, nat_lit 97, nat_lit 98, nat_lit 108, nat_lit 101, nat_lit 95, nat_lit 98, nat_lit 49])) 541 (.ref 137)] 27), #[]⟩
noncomputable def o29v3 (P : Params) : Obj := ⟨.none, none, (.fields #[(.int 4 0), (.int 0 0), (.ref 38), (.int 16 0), (.int 0 0), (.ref 45), (.int 25 0), (.int 0 0), (.ref 52), (.int 27 0), (.int 0 0), (.ref 59), (.int 29 0), (.int 0 0), (.ref 66), (.int 31 0), (.int 0 0), (.ref 73), (.int 33 0), (.int 0 0), (.ref 80), (.int 35 0), (.int 0 0), (.ref 87), (.int 37 0), (.int 0 0), (.ref 94), (.int 43 0), (.int 0 0), (.ref 101), (.int 53 0), (.int 0 0), (.ref 118), (.int 57 0), (.int 0 0), (.ref 136)]), #[]⟩
noncomputable def o131v0 (P : Params) : Obj := ⟨(.type "tuple"), none, (.seq #[] 0), #[]⟩
noncomputable def o132v0 (P : Params) : Obj := ⟨.none, none, (.fields #[]), #[]⟩
noncomputable def o133v0 (P : Params) : Obj := ⟨(.type "tuple"), none, (.seq #[(.str (Str.ofString "code") 538)] 0), #[]⟩
noncomputable def o134v0 (P : Params) : Obj := ⟨(.type "tuple"), none, (.seq #[] 0), #[]⟩
noncomputable def o135v0 (P : Params) : Obj := ⟨.none, none, (.func { fdAt 21 with globals := 0, closure := [], defaults := .none, kwdefaults := .none, doc := .none, pyModule := .none, annotations := none, code := .none, closureTuple := .none, builtins := 0 }), #[]⟩
noncomputable def o136v0 (P : Params) : Obj := ⟨(.type "code"), none, (.fields #[(.str (Str.ofString "in_table_b1") 535), (.str (Str.ofString "in_table_b1") 536), (.str (Str.ofString "/claim/cut.py") 537), (.int 57 0), (.int 1 0), (.int 0 0), (.int 0 0), (.int 3 0), (.ref 131), (.bool true), (.int 276 0), (.ref 132), .none, (.ref 133), (.ref 134), (.ref 135), (.int 539 0), (.int 57 0), (.str (Str.ofString "/claim/cut.py") 540)]), #[]⟩
noncomputable def o137v0 (P : Params) : Obj := ⟨(.type PySem.W.SL.s7174869446012820540x8), none, (.func { fdAt 21 with globals := 3, closure := [], defaults := .none, kwdefaults := .none, doc := .none, pyModule := (.str (Str.mk (Array.mk [nat_lit 99, nat_lit 112, nat_lit 121, nat_lit 51, nat_lit 49, nat_lit 51, nat_lit 46, nat_lit 115, nat_lit 116, nat_lit 114, nat_lit 105, nat_lit 110, nat_lit 103, nat_lit 112, nat_lit 114, nat_lit 101, nat_lit 112])) 473), annotations := none, code := (.ref 136), closureTuple := .none, builtins := 0 }), #[]⟩
noncomputable def o3v5 (P : Params) : Obj := ⟨(.type PySem.W.SL.s14018661285674007319x4), none, (.dict #[ent P (Str.mk (Array.mk [nat_lit 95, nat_lit 95, nat_lit 110, nat_lit 97, nat_lit 109, nat_lit 101, nat_lit 95, nat_lit 95])) 165 (.str (Str.mk (Array.mk [nat_lit 99, nat_lit 112, nat_lit 121, nat_lit 51, nat_lit 49, nat_lit 51, nat_lit 46, nat_lit 115, nat_lit 116, nat_lit 114, nat_lit 105, nat_lit 110, nat_lit 103, nat_lit 112, nat_lit 114, nat_lit 101, nat_lit 112])) 473), ent P (Str.mk (Array.mk [nat_lit 95, nat_lit 95, nat_lit 100, nat_lit 111, nat_lit 99, nat_lit 95, nat_lit 95])) 166 .none, ent P (Str.mk (Array.mk [nat_lit 95, nat_lit 95, nat_lit 112, nat_lit 97, nat_lit 99, nat_lit 107, nat_lit 97, nat_lit 103, nat_lit 101, nat_lit 95, nat_lit 95])) 167 .none, ent P (Str.mk (Array.mk [nat_lit 95, nat_lit 95, nat_lit 108, nat_lit 111, nat_lit 97, nat_lit 100, nat_lit 101, nat_lit 114, nat_lit 95, nat_lit 95])) 168 (.builtin PySem.W.SL.s7097527257260152453x26), ent P (Str.mk (Array.mk [nat_lit 95, nat_lit 95, nat_lit 115, nat_lit 112, nat_lit 101, nat_lit 99, nat_lit 95, nat_lit 95])) 169 .none, ent P (Str.mk (Array.mk [nat_lit 95, nat_lit 95, nat_lit 97, nat_lit 110, nat_lit 110, nat_lit 111, nat_lit 116, nat_lit 97, nat_lit 116, nat_lit 105, nat_lit 111, nat_lit 110, nat_lit 115, nat_lit 95, nat_lit 95])) 170 (.ref 6), ent P (Str.mk (Array.mk [nat_lit 95, nat_lit 95, nat_lit 98, nat_lit 117, nat_lit 105, nat_lit 108, nat_lit 116, nat_lit 105, nat_lit 110, nat_lit 115, nat_lit 95, nat_lit 95])) 171 (.ref 4), ent P (Str.mk (Array.mk [nat_lit 95, nat_lit 95, nat_lit 102, nat_lit 105, nat_lit 108, nat_lit 101, nat_lit 95, nat_lit 95])) 173 (.str (Str.mk (Array.mk [nat_lit 47, nat_lit 99, nat_lit 108, nat_lit 97, nat_lit 105, nat_lit 109, nat_lit 47, nat_lit 99, nat_lit 117, nat_lit 116, nat_lit 46, nat_lit 112, nat_lit 121])) 172), ent P (Str.mk (Array.mk [nat_lit 95, nat_lit 95, nat_lit 99, nat_lit 97, nat_lit 99, nat_lit 104, nat_lit 101, nat_lit 100, nat_lit 95, nat_lit 95])) 174 .none, ent P (Str.mk (Array.mk [nat_lit 95, nat_lit 115, nat_lit 114, nat_lit 101])) 275 (.ref 12), ent P (Str.mk (Array.mk [nat_lit 67, nat_lit 79, nat_lit 77, nat_lit 80, nat_lit 73, nat_lit 76, nat_lit 69, nat_lit 82, nat_lit 95, nat_lit 70, nat_lit 76, nat_lit 65, nat_lit 71, nat_lit 95, nat_lit 78, nat_lit 65, nat_lit 77, nat_lit 69, nat_lit 83])) 314 (.ref 32), ent P (Str.mk (Array.mk [nat_lit 112, nat_lit 114, nat_lit 101, nat_lit 116, nat_lit 116, nat_lit 121, nat_lit 95, nat_lit 102, nat_lit 108, nat_lit 97, nat_lit 103, nat_lit 115])) 324 (.ref 39), ent P (Str.mk (Array.mk [nat_lit 95, nat_lit 112, nat_lit 97, nat_lit 114, nat_lit 115, nat_lit 101, nat_lit 95, nat_lit 118, nat_lit 97, nat_lit 114, nat_lit 105, nat_lit 110, nat_lit 116])) 333 (.ref 46), ent P (Str.mk (Array.mk [nat_lit 97, nat_lit 100, nat_lit 100])) 343 (.ref 53), ent P (Str.mk (Array.mk [nat_lit 97, nat_lit 110, nat_lit 100, nat_lit 95])) 351 (.ref 60), ent P (Str.mk (Array.mk [nat_lit 102, nat_lit 108, nat_lit 111, nat_lit 111, nat_lit 114, nat_lit 100, nat_lit 105, nat_lit 118])) 359 (.ref 67), ent P (Str.mk (Array.mk [nat_lit 108, nat_lit 115, nat_lit 104, nat_lit 105, nat_lit 102, nat_lit 116])) 367 (.ref 74), ent P (Str.mk (Array.mk [nat_lit 109, nat_lit 111, nat_lit 100])) 375 (.ref 81), ent P (Str.mk (Array.mk [nat_lit 115, nat_lit 117, nat_lit 98])) 383 (.ref 88), ent P (Str.mk (Array.mk [nat_lit 99, nat_lit 111, nat_lit 117, nat_lit 110, nat_lit 116, nat_lit 79, nat_lit 102])) 393 (.ref 95), ent P (Str.mk (Array.mk [nat_lit 105, nat_lit 110, nat_lit 100, nat_lit 101, nat_lit 120, nat_lit 79, nat_lit 102])) 403 (.ref 102), ent P (Str.mk (Array.mk [nat_lit 95, nat_lit 116, nat_lit 119, nat_lit 105, nat_lit 110, nat_lit 95, nat_lit 114, nat_lit 101, nat_lit 95, nat_lit 49])) 421 (.ref 107), ent P (Str.mk (Array.mk [nat_lit 95, nat_lit 116, nat_lit 119, nat_lit 105, nat_lit 110, nat_lit 95, nat_lit 114, nat_lit 101, nat_lit 95, nat_lit 50])) 463 (.ref 112), ent P (Str.mk (Array.mk [nat_lit 67, nat_lit 82, nat_lit 76, nat_lit 70])) 465 (.str (Str.mk #[13, 10]) 464), ent P (Str.mk (Array.mk [nat_lit 113, nat_lit 117, nat_lit 111, nat_lit 116, nat_lit 101, nat_lit 100, nat_lit 97, nat_lit 116, nat_lit 97])) 472 (.ref 119), ent P (Str.mk (Array.mk [nat_lit 98, nat_lit 49, nat_lit 95, nat_lit 115, nat_lit 101, nat_lit 116])) 534 (.ref 127), ent P (Str.mk (Array.mk [nat_lit 105, nat_lit 110, nat_lit 95, nat_lit 116, nat_lit 97, nat_lit 98, nat_lit 108, nat_lit 101, nat_lit 95, nat_lit 98, nat_lit 49])) 541 (.ref 137), ent P (Str.mk (Array.mk [nat_lit 98, nat_lit 51, nat_lit 95, nat_lit 101, nat_lit 120, nat_lit 99, nat_lit 101, nat_lit 112, nat_lit 116, nat_lit 105, nat_lit 111, nat_lit 110, nat_lit 115])) 2492 (.ref 138)] 28), #[]⟩
noncomputable def o138v0 (P : Params) : Obj := ⟨.type "dict", none, .dict b3all.toArray 650, #[]⟩
noncomputable def o139v0 (P : Params) : Obj := ⟨.type PySem.W.SL.s14018661285674007319x4, none, .dict (b3chunk 1).toArray 17, #[]⟩
noncomputable def o140v0 (P : Params) : Obj := ⟨.type PySem.W.SL.s14018661285674007319x4, none, .dict (b3chunk 2).toArray 17, #[]⟩
noncomputable def o141v0 (P : Params) : Obj := ⟨.type PySem.W.SL.s14018661285674007319x4, none, .dict (b3chunk 3).toArray 17, #[]⟩
noncomputable def o142v0 (P : Params) : Obj := ⟨.type PySem.W.SL.s14018661285674007319x4, none, .dict (b3chunk 4).toArray 17, #[]⟩
noncomputable def o143v0 (P : Params) : Obj := ⟨.type PySem.W.SL.s14018661285674007319x4, none, .dict (b3chunk 5).toArray 17, #[]⟩
noncomputable def o144v0 (P : Params) : Obj := ⟨.type PySem.W.SL.s14018661285674007319x4, none, .dict (b3chunk 6).toArray 17, #[]⟩
noncomputable def o145v0 (P : Params) : Obj := ⟨.type PySem.W.SL.s14018661285674007319x4, none, .dict (b3chunk 7).toArray 17, #[]⟩
noncomputable def o146v0 (P : Params) : Obj := ⟨.type PySem.W.SL.s14018661285674007319x4, none, .dict (b3chunk 8).toArray 17, #[]⟩
noncomputable def o147v0 (P : Params) : Obj := ⟨.type PySem.W.SL.s14018661285674007319x4, none, .dict (b3chunk 9).toArray 17, #[]⟩
noncomputable def o148v0 (P : Params) : Obj := ⟨.type PySem.W.SL.s14018661285674007319x4, none, .dict (b3chunk 10).toArray 17, #[]⟩
noncomputable def o149v0 (P : Params) : Obj := ⟨.type PySem.W.SL.s14018661285674007319x4, none, .dict (b3chunk 11).toArray 17, #[]⟩
noncomputable def o150v0 (P : Params) : Obj := ⟨.type PySem.W.SL.s14018661285674007319x4, none, .dict (b3chunk 12).toArray 17, #[]⟩
noncomputable def o151v0 (P : Params) : Obj := ⟨.type PySem.W.SL.s14018661285674007319x4, none, .dict (b3chunk 13).toArray 17, #[]⟩
noncomputable def o152v0 (P : Params) : Obj := ⟨.type PySem.W.SL.s14018661285674007319x4, none, .dict (b3chunk 14).toArray 17, #[]⟩
noncomputable def o153v0 (P : Params) : Obj := ⟨.type PySem.W.SL.s14018661285674007319x4, none, .dict (b3chunk 15).toArray 17, #[]⟩
noncomputable def o154v0 (P : Params) : Obj := ⟨.type PySem.W.SL.s14018661285674007319x4, none, .dict (b3chunk 16).toArray 17, #[]⟩
noncomputable def o155v0 (P : Params) : Obj := ⟨.type PySem.W.SL.s14018661285674007319x4, none, .dict (b3chunk 17).toArray 17, #[]⟩
noncomputable def o156v0 (P : Params) : Obj := ⟨.type PySem.W.SL.s14018661285674007319x4, none, .dict (b3chunk 18).toArray 17, #[]⟩
noncomputable def o157v0 (P : Params) : Obj := ⟨.type PySem.W.SL.s14018661285674007319x4, none, .dict (b3chunk 19).toArray 17, #[]⟩
noncomputable def o158v0 (P : Params) : Obj := ⟨.type PySem.W.SL.s14018661285674007319x4, none, .dict (b3chunk 20).toArray 17, #[]⟩
noncomputable def o159v0 (P : Params) : Obj := ⟨.type PySem.W.SL.s14018661285674007319x4, none, .dict (b3chunk 21).toArray 17, #[]⟩
noncomputable def o160v0 (P : Params) : Obj := ⟨.type PySem.W.SL.s14018661285674007319x4, none, .dict (b3chunk 22).toArray 17, #[]⟩
noncomputable def o161v0 (P : Params) : Obj := ⟨.type PySem.W.SL.s14018661285674007319x4, none, .dict (b3chunk 23).toArray 17, #[]⟩
noncomputable def o162v0 (P : Params) : Obj := ⟨.type PySem.W.SL.s14018661285674007319x4, none, .dict (b3chunk 24).toArray 17, #[]⟩
noncomputable def o163v0 (P : Params) : Obj := ⟨.type PySem.W.SL.s14018661285674007319x4, none, .dict (b3chunk 25).toArray 17, #[]⟩
noncomputable def o164v0 (P : Params) : Obj := ⟨.type PySem.W.SL.s14018661285674007319x4, none, .dict (b3chunk 26).toArray 17, #[]⟩
noncomputable def o165v0 (P : Params) : Obj := ⟨.type PySem.W.SL.s14018661285674007319x4, none, .dict (b3chunk 27).toArray 17, #[]⟩
noncomputable def o166v0 (P : Params) : Obj := ⟨.type PySem.W.SL.s14018661285674007319x4, none, .dict (b3chunk 28).toArray 17, #[]⟩
noncomputable def o167v0 (P : Params) : Obj := ⟨.type PySem.W.SL.s14018661285674007319x4, none, .dict (b3chunk 29).toArray 17, #[]⟩
noncomputable def o168v0 (P : Params) : Obj := ⟨.type PySem.W.SL.s14018661285674007319x4, none, .dict (b3chunk 30).toArray 17, #[]⟩
noncomputable def o169v0 (P : Params) : Obj := ⟨.type PySem.W.SL.s14018661285674007319x4, none, .dict (b3chunk 31).toArray 17, #[]⟩
noncomputable def o170v0 (P : Params) : Obj := ⟨.type PySem.W.SL.s14018661285674007319x4, none, .dict (b3chunk 32).toArray 17, #[]⟩
noncomputable def o171v0 (P : Params) : Obj := ⟨.type PySem.W.SL.s14018661285674007319x4, none, .dict (b3chunk 33).toArray 17, #[]⟩
noncomputable def o172v0 (P : Params) : Obj := ⟨.type PySem.W.SL.s14018661285674007319x4, none, .dict (b3chunk 34).toArray 17, #[]⟩
noncomputable def o173v0 (P : Params) : Obj := ⟨.type PySem.W.SL.s14018661285674007319x4, none, .dict (b3chunk 35).toArray 17, #[]⟩
noncomputable def o174v0 (P : Params) : Obj := ⟨.type PySem.W.SL.s14018661285674007319x4, none, .dict (b3chunk 36).toArray 17, #[]⟩
noncomputable def o175v0 (P : Params) : Obj := ⟨.type PySem.W.SL.s14018661285674007319x4, none, .dict (b3chunk 37).toArray 17, #[]⟩
noncomputable def o176v0 (P : Params) : Obj := ⟨(.type PySem.W.SL.s14018661285674007319x4), none, (.dict #[⟨120742, (.int 120742 2480), (.str (Str.mk #[967]) 2481)⟩, ⟨120743, (.int 120743 2482), (.str (Str.mk #[968]) 2483)⟩, ⟨120744, (.int 120744 2484), (.str (Str.mk #[969]) 2485)⟩, ⟨120763, (.int 120763 2486), (.str (Str.mk #[963]) 2487)⟩] 4), #[]⟩
noncomputable def o3v6 (P : Params) : Obj := ⟨(.type "dict"), none, (.dict #[ent P (Str.ofString "__name__") 165 (.str (Str.ofString "law_ta0050_01") 2501), ent P (Str.ofString "__doc__") 166 .none, ent P (Str.ofString "__package__") 167 .none, ent P (Str.ofString "__loader__") 168 (.builtin "__main__.__loader__#opaque"), ent P (Str.ofString "__spec__") 169 .none, ent P (Str.ofString "__annotations__") 170 (.ref 6), ent P (Str.ofString "__builtins__") 171 (.ref 4), ent P (Str.ofString "__file__") 173 (.str (Str.ofString "/claim/cut.py") 172), ent P (Str.ofString "__cached__") 174 .none, ent P (Str.ofString "_sre") 275 (.ref 12), ent P (Str.ofString "COMPILER_FLAG_NAMES") 314 (.ref 32), ent P (Str.ofString "pretty_flags") 324 (.ref 39), ent P (Str.ofString "_parse_varint") 333 (.ref 46), ent P (Str.ofString "add") 343 (.ref 53), ent P (Str.ofString "and_") 351 (.ref 60), ent P (Str.ofString "floordiv") 359 (.ref 67), ent P (Str.ofString "lshift") 367 (.ref 74), ent P (Str.ofString "mod") 375 (.ref 81), ent P (Str.ofString "sub") 383 (.ref 88), ent P (Str.ofString "countOf") 393 (.ref 95), ent P (Str.ofString "indexOf") 403 (.ref 102), ent P (Str.ofString "_twin_re_1") 421 (.ref 107), ent P (Str.ofString "_twin_re_2") 463 (.ref 112), ent P (Str.ofString "CRLF") 465 (.str (Str.mk #[13, 10]) 464), ent P (Str.ofString "quotedata") 472 (.ref 119), ent P (Str.ofString "b1_set") 534 (.ref 127), ent P (Str.ofString "in_table_b1") 541 (.ref 137), ent P (Str.ofString "b3_exceptions") 2492 (.ref 138), ent P (Str.ofString "map_table_b3") 2500 (.ref 183), ent P (Str.ofString "_law_cells") 2508 (.ref 188), ent P (Str.ofString "_law_names") 2514 (.ref 193), ent P (Str.ofString "_law_sign") 2525 (.ref 200), ent P (Str.ofString "_law_hour") 2531 (.ref 205), ent P (Str.ofString "_law_numbers") 2537 (.ref 210), ent P (Str.ofString "_law_counts") 2548 (.ref 217), ent P (Str.ofString "_law_length") 2554 (.ref 222), ent P (Str.ofString "law") 2560 (.ref 227)] 37), #[]⟩
noncomputable def o29v4 (P : Params) : Obj := ⟨.none, none, (.fields #[(.int 4 0), (.int 0 0), (.ref 38), (.int 16 0), (.int 0 0), (.ref 45), (.int 25 0), (.int 0 0), (.ref 52), (.int 27 0), (.int 0 0), (.ref 59), (.int 29 0), (.int 0 0), (.ref 66), (.int 31 0), (.int 0 0), (.ref 73), (.int 33 0), (.int 0 0), (.ref 80), (.int 35 0), (.int 0 0), (.ref 87), (.int 37 0), (.int 0 0), (.ref 94), (.int 43 0), (.int 0 0), (.ref 101), (.int 53 0), (.int 0 0), (.ref 118), (.int 57 0), (.int 0 0), (.ref 136), (.int 60 0), (.int 0 0), (.ref 182), (.int 66 0), (.int 0 0), (.ref 187), (.int 69 0), (.int 0 0), (.ref 192), (.int 71 0), (.int 0 0), (.ref 199), (.int 84 0), (.int 0 0), (.ref 204), (.int 92 0), (.int 0 0), (.ref 209), (.int 101 0), (.int 0 0), (.ref 216), (.int 111 0), (.int 0 0), (.ref 221), (.int 132 0), (.int 0 0), (.ref 226)]), #[]⟩
noncomputable def o177v0 (P : Params) : Obj := ⟨(.type "tuple"), none, (.seq #[] 0), #[]⟩
noncomputable def o178v0 (P : Params) : Obj := ⟨.none, none, (.fields #[]), #[]⟩
noncomputable def o179v0 (P : Params) : Obj := ⟨(.type "tuple"), none, (.seq #[(.str (Str.ofString "code") 2496), (.str (Str.ofString "r") 2497)] 0), #[]⟩
noncomputable def o180v0 (P : Params) : Obj := ⟨(.type "tuple"), none, (.seq #[] 0), #[]⟩
noncomputable def o181v0 (P : Params) : Obj := ⟨.none, none, (.func { fdAt 23 with globals := 0, closure := [], defaults := .none, kwdefaults := .none, doc := .none, pyModule := .none, annotations := none, code := .none, closureTuple := .none, builtins := 0 }), #[]⟩
noncomputable def o182v0 (P : Params) : Obj := ⟨(.type "code"), none, (.fields #[(.str (Str.ofString "map_table_b3") 2493), (.str (Str.ofString "map_table_b3") 2494), (.str (Str.ofString "/claim/cut.py") 2495), (.int 60 0), (.int 1 0), (.int 0 0), (.int 0 0), (.int 3 0), (.ref 177), (.bool true), (.int 276 0), (.ref 178), .none, (.ref 179), (.ref 180), (.ref 181), (.int 2498 0), (.int 60 0), (.str (Str.ofString "/claim/cut.py") 2499)]), #[]⟩
noncomputable def o183v0 (P : Params) : Obj := ⟨(.type PySem.W.SL.s7174869446012820540x8), none, (.func { fdAt 23 with globals := 3, closure := [], defaults := .none, kwdefaults := .none, doc := .none, pyModule := (.str (Str.mk (Array.mk [nat_lit 99, nat_lit 112, nat_lit 121, nat_lit 51, nat_lit 49, nat_lit 51, nat_lit 46, nat_lit 115, nat_lit 116, nat_lit 114, nat_lit 105, nat_lit 110, nat_lit 103, nat_lit 112, nat_lit 114, nat_lit 101, nat_lit 112])) 473), annotations := none, code := (.ref 182), closureTuple := .none, builtins := 0 }), #[]⟩
noncomputable def o184v0 (P : Params) : Obj := ⟨(.type "tuple"), none, (.seq #[] 0), #[]⟩
noncomputable def o185v0 (P : Params) : Obj := ⟨.none, none, (.fields #[]), #[]⟩
noncomputable def o186v0 (P : Params) : Obj := ⟨.none, none, (.func { fdAt 25 with globals := 0, closure := [], defaults := .none, kwdefaults := .none, doc := .none, pyModule := .none, annotations := none, code := .none, closureTuple := .none, builtins := 0 }), #[]⟩
noncomputable def o187v0 (P : Params) : Obj := ⟨(.type "code"), none, (.fields #[(.str (Str.ofString "_law_cells") 2503), (.str (Str.ofString "_law_cells") 2504), (.str (Str.ofString "/claim/cut.py") 2505), (.int 66 0), (.int 1 0), (.int 0 0), (.int 0 0), (.int 3 0), (.ref 184), (.bool true), (.int 276 0), (.ref 185), .none, .none, .none, (.ref 186), (.int 2506 0), (.int 66 0), (.str (Str.ofString "/claim/cut.py") 2507)]), #[]⟩
noncomputable def o188v0 (P : Params) : Obj := ⟨(.type PySem.W.SL.s7174869446012820540x8), none, (.func { fdAt 25 with globals := 3, closure := [], defaults := .none, kwdefaults := .none, doc := .none, pyModule := (.str (Str.mk (Array.mk [nat_lit 108, nat_lit 97, nat_lit 119, nat_lit 95, nat_lit 116, nat_lit 97, nat_lit 48, nat_lit 48, nat_lit 53, nat_lit 48, nat_lit 95, nat_lit 48, nat_lit 49])) 2501), annotations := none, code := (.ref 187), closureTuple := .none, builtins := 0 }), #[]⟩
noncomputable def o189v0 (P : Params) : Obj := ⟨(.type "tuple"), none, (.seq #[] 0), #[]⟩
noncomputable def o190v0 (P : Params) : Obj := ⟨.none, none, (.fields #[]), #[]⟩
noncomputable def o191v0 (P : Params) : Obj := ⟨.none, none, (.func { fdAt 26 with globals := 0, closure := [], defaults := .none, kwdefaults := .none, doc := .none, pyModule := .none, annotations := none, code := .none, closureTuple := .none, builtins := 0 }), #[]⟩
noncomputable def o192v0 (P : Params) : Obj := ⟨(.type "code"), none, (.fields #[(.str (Str.ofString "_law_names") 2509), (.str (Str.ofString "_law_names") 2510), (.str (Str.ofString "/claim/cut.py") 2511), (.int 69 0), (.int 0 0), (.int 0 0), (.int 0 0), (.int 3 0), (.ref 189), (.bool true), (.int 276 0), (.ref 190), .none, .none, .none, (.ref 191), (.int 2512 0), (.int 69 0), (.str (Str.ofString "/claim/cut.py") 2513)]), #[]⟩
noncomputable def o193v0 (P : Params) : Obj := ⟨(.type PySem.W.SL.s7174869446012820540x8), none, (.func { fdAt 26 with globals := 3, closure := [], defaults := .none, kwdefaults := .none, doc := .none, pyModule := (.str (Str.mk (Array.mk [nat_lit 108, nat_lit 97, nat_lit 119, nat_lit 95, nat_lit 116, nat_lit 97, nat_lit 48, nat_lit 48, nat_lit 53, nat_lit 48, nat_lit 95, nat_lit 48, nat_lit 49])) 2501), annotations := none, code := (.ref 192), closureTuple := .none, builtins := 0 }), #[]⟩
noncomputable def o194v0 (P : Params) : Obj := ⟨(.type "tuple"), none, (.seq #[] 0), #[]⟩
noncomputable def o195v0 (P : Params) : Obj := ⟨.none, none, (.fields #[]), #[]⟩
noncomputable def o196v0 (P : Params) : Obj := ⟨(.type "tuple"), none, (.seq #[(.str (Str.ofString "n") 2518), (.str (Str.ofString "which") 2519), (.str (Str.ofString "place") 2520), (.str (Str.ofString "marks") 2521), (.str (Str.ofString "row") 2522)] 0), #[]⟩
noncomputable def o197v0 (P : Params) : Obj := ⟨(.type "tuple"), none, (.seq #[] 0), #[]⟩
noncomputable def o198v0 (P : Params) : Obj := ⟨.none, none, (.func { fdAt 27 with globals := 0, closure := [], defaults := .none, kwdefaults := .none, doc := .none, pyModule := .none, annotations := none, code := .none, closureTuple := .none, builtins := 0 }), #[]⟩
noncomputable def o199v0 (P : Params) : Obj := ⟨(.type "code"), none, (.fields #[(.str (Str.ofString "_law_sign") 2515), (.str (Str.ofString "_law_sign") 2516), (.str (Str.ofString "/claim/cut.py") 2517), (.int 71 0), (.int 1 0), (.int 0 0), (.int 0 0), (.int 3 0), (.ref 194), (.bool true), (.int 276 0), (.ref 195), .none, (.ref 196), (.ref 197), (.ref 198), (.int 2523 0), (.int 71 0), (.str (Str.ofString "/claim/cut.py") 2524)]), #[]⟩
noncomputable def o200v0 (P : Params) : Obj := ⟨(.type PySem.W.SL.s7174869446012820540x8), none, (.func { fdAt 27 with globals := 3, closure := [], defaults := .none, kwdefaults := .none, doc := .none, pyModule := (.str (Str.mk (Array.mk [nat_lit 108, nat_lit 97, nat_lit 119, nat_lit 95, nat_lit 116, nat_lit 97, nat_lit 48, nat_lit 48, nat_lit 53, nat_lit 48, nat_lit 95, nat_lit 48, nat_lit 49])) 2501), annotations := none, code := (.ref 199), closureTuple := .none, builtins := 0 }), #[]⟩
noncomputable def o201v0 (P : Params) : Obj := ⟨(.type "tuple"), none, (.seq #[] 0), #[]⟩
noncomputable def o202v0 (P : Params) : Obj := ⟨.none, none, (.fields #[]), #[]⟩
noncomputable def o203v0 (P : Params) : Obj := ⟨.none, none, (.func { fdAt 28 with globals := 0, closure := [], defaults := .none, kwdefaults := .none, doc := .none, pyModule := .none, annotations := none, code := .none, closureTuple := .none, builtins := 0 }), #[]⟩
noncomputable def o204v0 (P : Params) : Obj := ⟨(.type "code"), none, (.fields #[(.str (Str.ofString "_law_hour") 2526), (.str (Str.ofString "_law_hour") 2527), (.str (Str.ofString "/claim/cut.py") 2528), (.int 84 0), (.int 4 0), (.int 0 0), (.int 0 0), (.int 3 0), (.ref 201), (.bool true), (.int 276 0), (.ref 202), .none, .none, .none, (.ref 203), (.int 2529 0), (.int 84 0), (.str (Str.ofString "/claim/cut.py") 2530)]), #[]⟩
noncomputable def o205v0 (P : Params) : Obj := ⟨(.type PySem.W.SL.s7174869446012820540x8), none, (.func { fdAt 28 with globals := 3, closure := [], defaults := .none, kwdefaults := .none, doc := .none, pyModule := (.str (Str.mk (Array.mk [nat_lit 108, nat_lit 97, nat_lit 119, nat_lit 95, nat_lit 116, nat_lit 97, nat_lit 48, nat_lit 48, nat_lit 53, nat_lit 48, nat_lit 95, nat_lit 48, nat_lit 49])) 2501), annotations := none, code := (.ref 204), closureTuple := .none, builtins := 0 }), #[]⟩
noncomputable def o206v0 (P : Params) : Obj := ⟨(.type "tuple"), none, (.seq #[] 0), #[]⟩
noncomputable def o207v0 (P : Params) : Obj := ⟨.none, none, (.fields #[]), #[]⟩
noncomputable def o208v0 (P : Params) : Obj := ⟨.none, none, (.func { fdAt 29 with globals := 0, closure := [], defaults := .none, kwdefaults := .none, doc := .none, pyModule := .none, annotations := none, code := .none, closureTuple := .none, builtins := 0 }), #[]⟩
noncomputable def o209v0 (P : Params) : Obj := ⟨(.type "code"), none, (.fields #[(.str (Str.ofString "_law_numbers") 2532), (.str (Str.ofString "_law_numbers") 2533), (.str (Str.ofString "/claim/cut.py") 2534), (.int 92 0), (.int 1 0), (.int 0 0), (.int 0 0), (.int 3 0), (.ref 206), (.bool true), (.int 276 0), (.ref 207), .none, .none, .none, (.ref 208), (.int 2535 0), (.int 92 0), (.str (Str.ofString "/claim/cut.py") 2536)]), #[]⟩
noncomputable def o210v0 (P : Params) : Obj := ⟨(.type PySem.W.SL.s7174869446012820540x8), none, (.func { fdAt 29 with globals := 3, closure := [], defaults := .none, kwdefaults := .none, doc := .none, pyModule := (.str (Str.mk (Array.mk [nat_lit 108, nat_lit 97, nat_lit 119, nat_lit 95, nat_lit 116, nat_lit 97, nat_lit 48, nat_lit 48, nat_lit 53, nat_lit 48, nat_lit 95, nat_lit 48, nat_lit 49])) 2501), annotations := none, code := (.ref 209), closureTuple := .none, builtins := 0 }), #[]⟩
noncomputable def o211v0 (P : Params) : Obj := ⟨(.type "tuple"), none, (.seq #[] 0), #[]⟩
noncomputable def o212v0 (P : Params) : Obj := ⟨.none, none, (.fields #[]), #[]⟩
noncomputable def o213v0 (P : Params) : Obj := ⟨(.type "tuple"), none, (.seq #[(.str (Str.ofString "numbers") 2541), (.str (Str.ofString "counts") 2542), (.str (Str.ofString "n") 2543), (.str (Str.ofString "due") 2544), (.str (Str.ofString "k") 2545)] 0), #[]⟩
noncomputable def o214v0 (P : Params) : Obj := ⟨(.type "tuple"), none, (.seq #[] 0), #[]⟩
noncomputable def o215v0 (P : Params) : Obj := ⟨.none, none, (.func { fdAt 30 with globals := 0, closure := [], defaults := .none, kwdefaults := .none, doc := .none, pyModule := .none, annotations := none, code := .none, closureTuple := .none, builtins := 0 }), #[]⟩
noncomputable def o216v0 (P : Params) : Obj := ⟨(.type "code"), none, (.fields #[(.str (Str.ofString "_law_counts") 2538), (.str (Str.ofString "_law_counts") 2539), (.str (Str.ofString "/claim/cut.py") 2540), (.int 101 0), (.int 1 0), (.int 0 0), (.int 0 0), (.int 3 0), (.ref 211), (.bool true), (.int 276 0), (.ref 212), .none, (.ref 213), (.ref 214), (.ref 215), (.int 2546 0), (.int 101 0), (.str (Str.ofString "/claim/cut.py") 2547)]), #[]⟩
noncomputable def o217v0 (P : Params) : Obj := ⟨(.type PySem.W.SL.s7174869446012820540x8), none, (.func { fdAt 30 with globals := 3, closure := [], defaults := .none, kwdefaults := .none, doc := .none, pyModule := (.str (Str.mk (Array.mk [nat_lit 108, nat_lit 97, nat_lit 119, nat_lit 95, nat_lit 116, nat_lit 97, nat_lit 48, nat_lit 48, nat_lit 53, nat_lit 48, nat_lit 95, nat_lit 48, nat_lit 49])) 2501), annotations := none, code := (.ref 216), closureTuple := .none, builtins := 0 }), #[]⟩
noncomputable def o218v0 (P : Params) : Obj := ⟨(.type "tuple"), none, (.seq #[] 0), #[]⟩
noncomputable def o219v0 (P : Params) : Obj := ⟨.none, none, (.fields #[]), #[]⟩
noncomputable def o220v0 (P : Params) : Obj := ⟨.none, none, (.func { fdAt 31 with globals := 0, closure := [], defaults := .none, kwdefaults := .none, doc := .none, pyModule := .none, annotations := none, code := .none, closureTuple := .none, builtins := 0 }), #[]⟩
noncomputable def o221v0 (P : Params) : Obj := ⟨(.type "code"), none, (.fields #[(.str (Str.ofString "_law_length") 2549), (.str (Str.ofString "_law_length") 2550), (.str (Str.ofString "/claim/cut.py") 2551), (.int 111 0), (.int 4 0), (.int 0 0), (.int 0 0), (.int 3 0), (.ref 218), (.bool true), (.int 276 0), (.ref 219), .none, .none, .none, (.ref 220), (.int 2552 0), (.int 111 0), (.str (Str.ofString "/claim/cut.py") 2553)]), #[]⟩
noncomputable def o222v0 (P : Params) : Obj := ⟨(.type PySem.W.SL.s7174869446012820540x8), none, (.func { fdAt 31 with globals := 3, closure := [], defaults := .none, kwdefaults := .none, doc := .none, pyModule := (.str (Str.mk (Array.mk [nat_lit 108, nat_lit 97, nat_lit 119, nat_lit 95, nat_lit 116, nat_lit 97, nat_lit 48, nat_lit 48, nat_lit 53, nat_lit 48, nat_lit 95, nat_lit 48, nat_lit 49])) 2501), annotations := none, code := (.ref 221), closureTuple := .none, builtins := 0 }), #[]⟩
noncomputable def o223v0 (P : Params) : Obj := ⟨(.type "tuple"), none, (.seq #[] 0), #[]⟩
noncomputable def o224v0 (P : Params) : Obj := ⟨.none, none, (.fields #[]), #[]⟩
noncomputable def o225v0 (P : Params) : Obj := ⟨.none, none, (.func { fdAt 32 with globals := 0, closure := [], defaults := .none, kwdefaults := .none, doc := .none, pyModule := .none, annotations := none, code := .none, closureTuple := .none, builtins := 0 }), #[]⟩
noncomputable def o226v0 (P : Params) : Obj := ⟨(.type "code"), none, (.fields #[(.str (Str.ofString "law") 2555), (.str (Str.ofString "law") 2556), (.str (Str.ofString "/claim/cut.py") 2557), (.int 132 0), (.int 1 0), (.int 0 0), (.int 0 0), (.int 3 0), (.ref 223), (.bool true), (.int 276 0), (.ref 224), .none, .none, .none, (.ref 225), (.int 2558 0), (.int 132 0), (.str (Str.ofString "/claim/cut.py") 2559)]), #[]⟩
noncomputable def o227v0 (P : Params) : Obj := ⟨(.type PySem.W.SL.s7174869446012820540x8), none, (.func { fdAt 32 with globals := 3, closure := [], defaults := .none, kwdefaults := .none, doc := .none, pyModule := (.str (Str.mk (Array.mk [nat_lit 108, nat_lit 97, nat_lit 119, nat_lit 95, nat_lit 116, nat_lit 97, nat_lit 48, nat_lit 48, nat_lit 53, nat_lit 48, nat_lit 95, nat_lit 48, nat_lit 49])) 2501), annotations := none, code := (.ref 226), closureTuple := .none, builtins := 0 }), #[]⟩
noncomputable def u0 (P : Params) : BT := (.node (o3v0 P) (.node (o7v0 P) (.node (o15v0 P) .nil .nil) (.node (o23v0 P) .nil .nil)) (.node (o11v0 P) (.node (o19v0 P) .nil .nil) (.node (o27v0 P) .nil .nil)))
noncomputable def u1 (P : Params) : BT := (.node (o5v0 P) (.node (o9v0 P) (.node (o17v0 P) .nil .nil) (.node (o25v0 P) .nil .nil)) (.node (o13v0 P) (.node (o21v0 P) .nil .nil) .nil))
noncomputable def u2 (P : Params) : BT := (.node (o1v0 P) (u0 P) (u1 P))
noncomputable def u3 (P : Params) : BT := (.node (o4v0 P) (.node (o8v0 P) (.node (o16v0 P) .nil .nil) (.node (o24v0 P) .nil .nil)) (.node (o12v0 P) (.node (o20v0 P) .nil .nil) .nil))
noncomputable def u4 (P : Params) : BT := (.node (o6v0 P) (.node (o10v0 P) (.node (o18v0 P) .nil .nil) (.node (o26v0 P) .nil .nil)) (.node (o14v0 P) (.node (o22v0 P) .nil .nil) .nil))
noncomputable def u5 (P : Params) : BT := (.node (o2v0 P) (u3 P) (u4 P))
noncomputable def Te (P : Params) : BT := (.node (o0v0 P) (u2 P) (u5 P))
noncomputable def u6 (P : Params) : BT := (.node (o3v0 P) (.node (o7v0 P) (.node (o15v0 P) .nil .nil) (.node (o23v0 P) .nil .nil)) (.node (o11v1 P) (.node (o19v0 P) .nil .nil) (.node (o27v0 P) .nil .nil)))
noncomputable def u7 (P : Params) : BT := (.node (o1v0 P) (u6 P) (u1 P))
noncomputable def T0 (P : Params) : BT := (.node (o0v0 P) (u7 P) (u5 P))
noncomputable def u8 (P : Params) : BT := (.node (o3v0 P) (.node (o7v0 P) (.node (o15v0 P) (.node (o31v0 P) .nil .nil) .nil) (.node (o23v0 P) .nil .nil)) (.node (o11v1 P) (.node (o19v0 P) .nil .nil) (.node (o27v0 P) .nil .nil)))
noncomputable def u9 (P : Params) : BT := (.node (o5v0 P) (.node (o9v0 P) (.node (o17v0 P) .nil .nil) (.node (o25v0 P) .nil .nil)) (.node (o13v0 P) (.node (o21v0 P) .nil .nil) (.node (o29v0 P) .nil .nil)))
noncomputable def u10 (P : Params) : BT := (.node (o1v0 P) (u8 P) (u9 P))
noncomputable def u11 (P : Params) : BT := (.node (o4v0 P) (.node (o8v0 P) (.node (o16v0 P) .nil .nil) (.node (o24v0 P) .nil .nil)) (.node (o12v0 P) (.node (o20v0 P) .nil .nil) (.node (o28v0 P) .nil .nil)))
noncomputable def u12 (P : Params) : BT := (.node (o6v0 P) (.node (o10v0 P) (.node (o18v0 P) .nil .nil) (.node (o26v0 P) .nil .nil)) (.node (o14v0 P) (.node (o22v0 P) .nil .nil) (.node (o30v0 P) .nil .nil)))
noncomputable def u13 (P : Params) : BT := (.node (o2v0 P) (u11 P) (u12 P))
noncomputable def Ta (P : Params) : BT := (.node (o0v0 P) (u10 P) (u13 P))
noncomputable def u14 (P : Params) : BT := (.node (o15v0 P) (.node (o31v0 P) (.node (o63v0 P) .nil .nil) .nil) (.node (o47v0 P) (.node (o79v0 P) .nil .nil) .nil))
noncomputable def u15 (P : Params) : BT := (.node (o7v0 P) (u14 P) (.node (o23v0 P) (.node (o39v0 P) (.node (o71v0 P) .nil .nil) .nil) (.node (o55v0 P) .nil .nil)))
noncomputable def u16 (P : Params) : BT := (.node (o11v1 P) (.node (o19v0 P) (.node (o35v0 P) (.node (o67v0 P) .nil .nil) .nil) (.node (o51v0 P) .nil .nil)) (.node (o27v0 P) (.node (o43v0 P) (.node (o75v0 P) .nil .nil) .nil) (.node (o59v0 P) .nil .nil)))
noncomputable def u17 (P : Params) : BT := (.node (o3v1 P) (u15 P) (u16 P))
noncomputable def u18 (P : Params) : BT := (.node (o17v0 P) (.node (o33v0 P) (.node (o65v0 P) .nil .nil) .nil) (.node (o49v0 P) (.node (o81v0 P) .nil .nil) .nil))
noncomputable def u19 (P : Params) : BT := (.node (o9v0 P) (u18 P) (.node (o25v0 P) (.node (o41v0 P) (.node (o73v0 P) .nil .nil) .nil) (.node (o57v0 P) .nil .nil)))
noncomputable def u20 (P : Params) : BT := (.node (o13v0 P) (.node (o21v0 P) (.node (o37v0 P) (.node (o69v0 P) .nil .nil) .nil) (.node (o53v0 P) .nil .nil)) (.node (o29v1 P) (.node (o45v0 P) (.node (o77v0 P) .nil .nil) .nil) (.node (o61v0 P) .nil .nil)))
noncomputable def u21 (P : Params) : BT := (.node (o5v0 P) (u19 P) (u20 P))
noncomputable def u22 (P : Params) : BT := (.node (o1v0 P) (u17 P) (u21 P))
noncomputable def u23 (P : Params) : BT := (.node (o16v0 P) (.node (o32v0 P) (.node (o64v0 P) .nil .nil) .nil) (.node (o48v0 P) (.node (o80v0 P) .nil .nil) .nil))
noncomputable def u24 (P : Params) : BT := (.node (o8v0 P) (u23 P) (.node (o24v0 P) (.node (o40v0 P) (.node (o72v0 P) .nil .nil) .nil) (.node (o56v0 P) .nil .nil)))
noncomputable def u25 (P : Params) : BT := (.node (o12v0 P) (.node (o20v0 P) (.node (o36v0 P) (.node (o68v0 P) .nil .nil) .nil) (.node (o52v0 P) .nil .nil)) (.node (o28v0 P) (.node (o44v0 P) (.node (o76v0 P) .nil .nil) .nil) (.node (o60v0 P) .nil .nil)))
noncomputable def u26 (P : Params) : BT := (.node (o4v0 P) (u24 P) (u25 P))
noncomputable def u27 (P : Params) : BT := (.node (o10v0 P) (.node (o18v0 P) (.node (o34v0 P) (.node (o66v0 P) .nil .nil) .nil) (.node (o50v0 P) .nil .nil)) (.node (o26v0 P) (.node (o42v0 P) (.node (o74v0 P) .nil .nil) .nil) (.node (o58v0 P) .nil .nil)))
noncomputable def u28 (P : Params) : BT := (.node (o14v0 P) (.node (o22v0 P) (.node (o38v0 P) (.node (o70v0 P) .nil .nil) .nil) (.node (o54v0 P) .nil .nil)) (.node (o30v0 P) (.node (o46v0 P) (.node (o78v0 P) .nil .nil) .nil) (.node (o62v0 P) .nil .nil)))
noncomputable def u29 (P : Params) : BT := (.node (o6v0 P) (u27 P) (u28 P))
noncomputable def u30 (P : Params) : BT := (.node (o2v0 P) (u26 P) (u29 P))
noncomputable def T9 (P : Params) : BT := (.node (o0v0 P) (u22 P) (u30 P))
noncomputable def u31 (P : Params) : BT := (.node (o15v0 P) (.node (o31v0 P) (.node (o63v0 P) .nil .nil) (.node (o95v0 P) .nil .nil)) (.node (o47v0 P) (.node (o79v0 P) .nil .nil) (.node (o111v0 P) .nil .nil)))
noncomputable def u32 (P : Params) : BT := (.node (o23v0 P) (.node (o39v0 P) (.node (o71v0 P) .nil .nil) (.node (o103v0 P) .nil .nil)) (.node (o55v0 P) (.node (o87v0 P) .nil .nil) (.node (o119v0 P) .nil .nil)))
noncomputable def u33 (P : Params) : BT := (.node (o7v0 P) (u31 P) (u32 P))
noncomputable def u34 (P : Params) : BT := (.node (o19v0 P) (.node (o35v0 P) (.node (o67v0 P) .nil .nil) (.node (o99v0 P) .nil .nil)) (.node (o51v0 P) (.node (o83v0 P) .nil .nil) (.node (o115v0 P) .nil .nil)))
noncomputable def u35 (P : Params) : BT := (.node (o27v0 P) (.node (o43v0 P) (.node (o75v0 P) .nil .nil) (.node (o107v0 P) .nil .nil)) (.node (o59v0 P) (.node (o91v0 P) .nil .nil) .nil))
noncomputable def u36 (P : Params) : BT := (.node (o11v1 P) (u34 P) (u35 P))
noncomputable def u37 (P : Params) : BT := (.node (o3v2 P) (u33 P) (u36 P))
noncomputable def u38 (P : Params) : BT := (.node (o17v0 P) (.node (o33v0 P) (.node (o65v0 P) .nil .nil) (.node (o97v0 P) .nil .nil)) (.node (o49v0 P) (.node (o81v0 P) .nil .nil) (.node (o113v0 P) .nil .nil)))
noncomputable def u39 (P : Params) : BT := (.node (o25v0 P) (.node (o41v0 P) (.node (o73v0 P) .nil .nil) (.node (o105v0 P) .nil .nil)) (.node (o57v0 P) (.node (o89v0 P) .nil .nil) .nil))
noncomputable def u40 (P : Params) : BT := (.node (o9v0 P) (u38 P) (u39 P))
noncomputable def u41 (P : Params) : BT := (.node (o21v0 P) (.node (o37v0 P) (.node (o69v0 P) .nil .nil) (.node (o101v0 P) .nil .nil)) (.node (o53v0 P) (.node (o85v0 P) .nil .nil) (.node (o117v0 P) .nil .nil)))
noncomputable def u42 (P : Params) : BT := (.node (o29v2 P) (.node (o45v0 P) (.node (o77v0 P) .nil .nil) (.node (o109v0 P) .nil .nil)) (.node (o61v0 P) (.node (o93v0 P) .nil .nil) .nil))
noncomputable def u43 (P : Params) : BT := (.node (o13v0 P) (u41 P) (u42 P))
noncomputable def u44 (P : Params) : BT := (.node (o5v0 P) (u40 P) (u43 P))
noncomputable def u45 (P : Params) : BT := (.node (o1v0 P) (u37 P) (u44 P))
noncomputable def u46 (P : Params) : BT := (.node (o16v0 P) (.node (o32v0 P) (.node (o64v0 P) .nil .nil) (.node (o96v0 P) .nil .nil)) (.node (o48v0 P) (.node (o80v0 P) .nil .nil) (.node (o112v0 P) .nil .nil)))
noncomputable def u47 (P : Params) : BT := (.node (o24v0 P) (.node (o40v0 P) (.node (o72v0 P) .nil .nil) (.node (o104v0 P) .nil .nil)) (.node (o56v0 P) (.node (o88v0 P) .nil .nil) .nil))
noncomputable def u48 (P : Params) : BT := (.node (o8v0 P) (u46 P) (u47 P))
noncomputable def u49 (P : Params) : BT := (.node (o20v0 P) (.node (o36v0 P) (.node (o68v0 P) .nil .nil) (.node (o100v0 P) .nil .nil)) (.node (o52v0 P) (.node (o84v0 P) .nil .nil) (.node (o116v0 P) .nil .nil)))
noncomputable def u50 (P : Params) : BT := (.node (o28v0 P) (.node (o44v0 P) (.node (o76v0 P) .nil .nil) (.node (o108v0 P) .nil .nil)) (.node (o60v0 P) (.node (o92v0 P) .nil .nil) .nil))
noncomputable def u51 (P : Params) : BT := (.node (o12v0 P) (u49 P) (u50 P))
noncomputable def u52 (P : Params) : BT := (.node (o4v0 P) (u48 P) (u51 P))
noncomputable def u53 (P : Params) : BT := (.node (o18v0 P) (.node (o34v0 P) (.node (o66v0 P) .nil .nil) (.node (o98v0 P) .nil .nil)) (.node (o50v0 P) (.node (o82v0 P) .nil .nil) (.node (o114v0 P) .nil .nil)))
noncomputable def u54 (P : Params) : BT := (.node (o26v0 P) (.node (o42v0 P) (.node (o74v0 P) .nil .nil) (.node (o106v0 P) .nil .nil)) (.node (o58v0 P) (.node (o90v0 P) .nil .nil) .nil))
noncomputable def u55 (P : Params) : BT := (.node (o10v0 P) (u53 P) (u54 P))
noncomputable def u56 (P : Params) : BT := (.node (o22v0 P) (.node (o38v0 P) (.node (o70v0 P) .nil .nil) (.node (o102v0 P) .nil .nil)) (.node (o54v0 P) (.node (o86v0 P) .nil .nil) (.node (o118v0 P) .nil .nil)))
noncomputable def u57 (P : Params) : BT := (.node (o30v0 P) (.node (o46v0 P) (.node (o78v0 P) .nil .nil) (.node (o110v0 P) .nil .nil)) (.node (o62v0 P) (.node (o94v0 P) .nil .nil) .nil))
noncomputable def u58 (P : Params) : BT := (.node (o14v0 P) (u56 P) (u57 P))
noncomputable def u59 (P : Params) : BT := (.node (o6v0 P) (u55 P) (u58 P))
noncomputable def u60 (P : Params) : BT := (.node (o2v0 P) (u52 P) (u59 P))
noncomputable def T18 (P : Params) : BT := (.node (o0v0 P) (u45 P) (u60 P))
noncomputable def u61 (P : Params) : BT := (.node (o15v0 P) (.node (o31v0 P) (.node (o63v0 P) (.node (o127v0 P) .nil .nil) .nil) (.node (o95v0 P) .nil .nil)) (.node (o47v0 P) (.node (o79v0 P) .nil .nil) (.node (o111v0 P) .nil .nil)))
noncomputable def u62 (P : Params) : BT := (.node (o7v0 P) (u61 P) (u32 P))
noncomputable def u63 (P : Params) : BT := (.node (o27v0 P) (.node (o43v0 P) (.node (o75v0 P) .nil .nil) (.node (o107v0 P) .nil .nil)) (.node (o59v0 P) (.node (o91v0 P) .nil .nil) (.node (o123v0 P) .nil .nil)))
noncomputable def u64 (P : Params) : BT := (.node (o11v1 P) (u34 P) (u63 P))
noncomputable def u65 (P : Params) : BT := (.node (o3v3 P) (u62 P) (u64 P))
noncomputable def u66 (P : Params) : BT := (.node (o17v0 P) (.node (o33v0 P) (.node (o65v0 P) (.node (o129v0 P) .nil .nil) .nil) (.node (o97v0 P) .nil .nil)) (.node (o49v0 P) (.node (o81v0 P) .nil .nil) (.node (o113v0 P) .nil .nil)))
noncomputable def u67 (P : Params) : BT := (.node (o25v0 P) (.node (o41v0 P) (.node (o73v0 P) .nil .nil) (.node (o105v0 P) .nil .nil)) (.node (o57v0 P) (.node (o89v0 P) .nil .nil) (.node (o121v0 P) .nil .nil)))
noncomputable def u68 (P : Params) : BT := (.node (o9v0 P) (u66 P) (u67 P))
noncomputable def u69 (P : Params) : BT := (.node (o29v2 P) (.node (o45v0 P) (.node (o77v0 P) .nil .nil) (.node (o109v0 P) .nil .nil)) (.node (o61v0 P) (.node (o93v0 P) .nil .nil) (.node (o125v0 P) .nil .nil)))
noncomputable def u70 (P : Params) : BT := (.node (o13v0 P) (u41 P) (u69 P))
noncomputable def u71 (P : Params) : BT := (.node (o5v0 P) (u68 P) (u70 P))
noncomputable def u72 (P : Params) : BT := (.node (o1v0 P) (u65 P) (u71 P))
noncomputable def u73 (P : Params) : BT := (.node (o16v0 P) (.node (o32v0 P) (.node (o64v0 P) (.node (o128v0 P) .nil .nil) .nil) (.node (o96v0 P) .nil .nil)) (.node (o48v0 P) (.node (o80v0 P) .nil .nil) (.node (o112v0 P) .nil .nil)))
noncomputable def u74 (P : Params) : BT := (.node (o24v0 P) (.node (o40v0 P) (.node (o72v0 P) .nil .nil) (.node (o104v0 P) .nil .nil)) (.node (o56v0 P) (.node (o88v0 P) .nil .nil) (.node (o120v0 P) .nil .nil)))
noncomputable def u75 (P : Params) : BT := (.node (o8v0 P) (u73 P) (u74 P))
noncomputable def u76 (P : Params) : BT := (.node (o28v0 P) (.node (o44v0 P) (.node (o76v0 P) .nil .nil) (.node (o108v0 P) .nil .nil)) (.node (o60v0 P) (.node (o92v0 P) .nil .nil) (.node (o124v0 P) .nil .nil)))
noncomputable def u77 (P : Params) : BT := (.node (o12v0 P) (u49 P) (u76 P))
noncomputable def u78 (P : Params) : BT := (.node (o4v0 P) (u75 P) (u77 P))
noncomputable def u79 (P : Params) : BT := (.node (o18v0 P) (.node (o34v0 P) (.node (o66v0 P) (.node (o130v0 P) .nil .nil) .nil) (.node (o98v0 P) .nil .nil)) (.node (o50v0 P) (.node (o82v0 P) .nil .nil) (.node (o114v0 P) .nil .nil)))
noncomputable def u80 (P : Params) : BT := (.node (o26v0 P) (.node (o42v0 P) (.node (o74v0 P) .nil .nil) (.node (o106v0 P) .nil .nil)) (.node (o58v0 P) (.node (o90v0 P) .nil .nil) (.node (o122v0 P) .nil .nil)))
noncomputable def u81 (P : Params) : BT := (.node (o10v0 P) (u79 P) (u80 P))
noncomputable def u82 (P : Params) : BT := (.node (o30v0 P) (.node (o46v0 P) (.node (o78v0 P) .nil .nil) (.node (o110v0 P) .nil .nil)) (.node (o62v0 P) (.node (o94v0 P) .nil .nil) (.node (o126v0 P) .nil .nil)))
noncomputable def u83 (P : Params) : BT := (.node (o14v0 P) (u56 P) (u82 P))
noncomputable def u84 (P : Params) : BT := (.node (o6v0 P) (u81 P) (u83 P))
noncomputable def u85 (P : Params) : BT := (.node (o2v0 P) (u78 P) (u84 P))
noncomputable def T19 (P : Params) : BT := (.node (o0v0 P) (u72 P) (u85 P))
noncomputable def u86 (P : Params) : BT := (.node (o23v0 P) (.node (o39v0 P) (.node (o71v0 P) (.node (o135v0 P) .nil .nil) .nil) (.node (o103v0 P) .nil .nil)) (.node (o55v0 P) (.node (o87v0 P) .nil .nil) (.node (o119v0 P) .nil .nil)))
noncomputable def u87 (P : Params) : BT := (.node (o7v0 P) (u61 P) (u86 P))
noncomputable def u88 (P : Params) : BT := (.node (o19v0 P) (.node (o35v0 P) (.node (o67v0 P) (.node (o131v0 P) .nil .nil) .nil) (.node (o99v0 P) .nil .nil)) (.node (o51v0 P) (.node (o83v0 P) .nil .nil) (.node (o115v0 P) .nil .nil)))
noncomputable def u89 (P : Params) : BT := (.node (o11v1 P) (u88 P) (u63 P))
noncomputable def u90 (P : Params) : BT := (.node (o3v4 P) (u87 P) (u89 P))
noncomputable def u91 (P : Params) : BT := (.node (o25v0 P) (.node (o41v0 P) (.node (o73v0 P) (.node (o137v0 P) .nil .nil) .nil) (.node (o105v0 P) .nil .nil)) (.node (o57v0 P) (.node (o89v0 P) .nil .nil) (.node (o121v0 P) .nil .nil)))
noncomputable def u92 (P : Params) : BT := (.node (o9v0 P) (u66 P) (u91 P))
noncomputable def u93 (P : Params) : BT := (.node (o21v0 P) (.node (o37v0 P) (.node (o69v0 P) (.node (o133v0 P) .nil .nil) .nil) (.node (o101v0 P) .nil .nil)) (.node (o53v0 P) (.node (o85v0 P) .nil .nil) (.node (o117v0 P) .nil .nil)))
noncomputable def u94 (P : Params) : BT := (.node (o29v3 P) (.node (o45v0 P) (.node (o77v0 P) .nil .nil) (.node (o109v0 P) .nil .nil)) (.node (o61v0 P) (.node (o93v0 P) .nil .nil) (.node (o125v0 P) .nil .nil)))
noncomputable def u95 (P : Params) : BT := (.node (o13v0 P) (u93 P) (u94 P))
noncomputable def u96 (P : Params) : BT := (.node (o5v0 P) (u92 P) (u95 P))
noncomputable def u97 (P : Params) : BT := (.node (o1v0 P) (u90 P) (u96 P))
noncomputable def u98 (P : Params) : BT := (.node (o24v0 P) (.node (o40v0 P) (.node (o72v0 P) (.node (o136v0 P) .nil .nil) .nil) (.node (o104v0 P) .nil .nil)) (.node (o56v0 P) (.node (o88v0 P) .nil .nil) (.node (o120v0 P) .nil .nil)))
noncomputable def u99 (P : Params) : BT := (.node (o8v0 P) (u73 P) (u98 P))
noncomputable def u100 (P : Params) : BT := (.node (o20v0 P) (.node (o36v0 P) (.node (o68v0 P) (.node (o132v0 P) .nil .nil) .nil) (.node (o100v0 P) .nil .nil)) (.node (o52v0 P) (.node (o84v0 P) .nil .nil) (.node (o116v0 P) .nil .nil)))
noncomputable def u101 (P : Params) : BT := (.node (o12v0 P) (u100 P) (u76 P))
noncomputable def u102 (P : Params) : BT := (.node (o4v0 P) (u99 P) (u101 P))
noncomputable def u103 (P : Params) : BT := (.node (o22v0 P) (.node (o38v0 P) (.node (o70v0 P) (.node (o134v0 P) .nil .nil) .nil) (.node (o102v0 P) .nil .nil)) (.node (o54v0 P) (.node (o86v0 P) .nil .nil) (.node (o118v0 P) .nil .nil)))
noncomputable def u104 (P : Params) : BT := (.node (o14v0 P) (u103 P) (u82 P))
noncomputable def u105 (P : Params) : BT := (.node (o6v0 P) (u81 P) (u104 P))
noncomputable def u106 (P : Params) : BT := (.node (o2v0 P) (u102 P) (u105 P))
noncomputable def T20 (P : Params) : BT := (.node (o0v0 P) (u97 P) (u106 P))
noncomputable def u107 (P : Params) : BT := (.node (o31v0 P) (.node (o63v0 P) (.node (o127v0 P) .nil .nil) .nil) (.node (o95v0 P) (.node (o159v0 P) .nil .nil) .nil))
noncomputable def u108 (P : Params) : BT := (.node (o47v0 P) (.node (o79v0 P) (.node (o143v0 P) .nil .nil) .nil) (.node (o111v0 P) (.node (o175v0 P) .nil .nil) .nil))
noncomputable def u109 (P : Params) : BT := (.node (o15v0 P) (u107 P) (u108 P))
noncomputable def u110 (P : Params) : BT := (.node (o39v0 P) (.node (o71v0 P) (.node (o135v0 P) .nil .nil) .nil) (.node (o103v0 P) (.node (o167v0 P) .nil .nil) .nil))
noncomputable def u111 (P : Params) : BT := (.node (o23v0 P) (u110 P) (.node (o55v0 P) (.node (o87v0 P) (.node (o151v0 P) .nil .nil) .nil) (.node (o119v0 P) .nil .nil)))
noncomputable def u112 (P : Params) : BT := (.node (o7v0 P) (u109 P) (u111 P))
noncomputable def u113 (P : Params) : BT := (.node (o35v0 P) (.node (o67v0 P) (.node (o131v0 P) .nil .nil) .nil) (.node (o99v0 P) (.node (o163v0 P) .nil .nil) .nil))
noncomputable def u114 (P : Params) : BT := (.node (o19v0 P) (u113 P) (.node (o51v0 P) (.node (o83v0 P) (.node (o147v0 P) .nil .nil) .nil) (.node (o115v0 P) .nil .nil)))
noncomputable def u115 (P : Params) : BT := (.node (o43v0 P) (.node (o75v0 P) (.node (o139v0 P) .nil .nil) .nil) (.node (o107v0 P) (.node (o171v0 P) .nil .nil) .nil))
noncomputable def u116 (P : Params) : BT := (.node (o27v0 P) (u115 P) (.node (o59v0 P) (.node (o91v0 P) (.node (o155v0 P) .nil .nil) .nil) (.node (o123v0 P) .nil .nil)))
noncomputable def u117 (P : Params) : BT := (.node (o11v1 P) (u114 P) (u116 P))
noncomputable def u118 (P : Params) : BT := (.node (o3v5 P) (u112 P) (u117 P))
noncomputable def u119 (P : Params) : BT := (.node (o33v0 P) (.node (o65v0 P) (.node (o129v0 P) .nil .nil) .nil) (.node (o97v0 P) (.node (o161v0 P) .nil .nil) .nil))
noncomputable def u120 (P : Params) : BT := (.node (o17v0 P) (u119 P) (.node (o49v0 P) (.node (o81v0 P) (.node (o145v0 P) .nil .nil) .nil) (.node (o113v0 P) .nil .nil)))
noncomputable def u121 (P : Params) : BT := (.node (o41v0 P) (.node (o73v0 P) (.node (o137v0 P) .nil .nil) .nil) (.node (o105v0 P) (.node (o169v0 P) .nil .nil) .nil))
noncomputable def u122 (P : Params) : BT := (.node (o25v0 P) (u121 P) (.node (o57v0 P) (.node (o89v0 P) (.node (o153v0 P) .nil .nil) .nil) (.node (o121v0 P) .nil .nil)))
noncomputable def u123 (P : Params) : BT := (.node (o9v0 P) (u120 P) (u122 P))
noncomputable def u124 (P : Params) : BT := (.node (o37v0 P) (.node (o69v0 P) (.node (o133v0 P) .nil .nil) .nil) (.node (o101v0 P) (.node (o165v0 P) .nil .nil) .nil))
noncomputable def u125 (P : Params) : BT := (.node (o21v0 P) (u124 P) (.node (o53v0 P) (.node (o85v0 P) (.node (o149v0 P) .nil .nil) .nil) (.node (o117v0 P) .nil .nil)))
noncomputable def u126 (P : Params) : BT := (.node (o45v0 P) (.node (o77v0 P) (.node (o141v0 P) .nil .nil) .nil) (.node (o109v0 P) (.node (o173v0 P) .nil .nil) .nil))
noncomputable def u127 (P : Params) : BT := (.node (o29v3 P) (u126 P) (.node (o61v0 P) (.node (o93v0 P) (.node (o157v0 P) .nil .nil) .nil) (.node (o125v0 P) .nil .nil)))
noncomputable def u128 (P : Params) : BT := (.node (o13v0 P) (u125 P) (u127 P))
noncomputable def u129 (P : Params) : BT := (.node (o5v0 P) (u123 P) (u128 P))
noncomputable def u130 (P : Params) : BT := (.node (o1v0 P) (u118 P) (u129 P))
noncomputable def u131 (P : Params) : BT := (.node (o32v0 P) (.node (o64v0 P) (.node (o128v0 P) .nil .nil) .nil) (.node (o96v0 P) (.node (o160v0 P) .nil .nil) .nil))
noncomputable def u132 (P : Params) : BT := (.node (o48v0 P) (.node (o80v0 P) (.node (o144v0 P) .nil .nil) .nil) (.node (o112v0 P) (.node (o176v0 P) .nil .nil) .nil))
noncomputable def u133 (P : Params) : BT := (.node (o16v0 P) (u131 P) (u132 P))
noncomputable def u134 (P : Params) : BT := (.node (o40v0 P) (.node (o72v0 P) (.node (o136v0 P) .nil .nil) .nil) (.node (o104v0 P) (.node (o168v0 P) .nil .nil) .nil))
noncomputable def u135 (P : Params) : BT := (.node (o24v0 P) (u134 P) (.node (o56v0 P) (.node (o88v0 P) (.node (o152v0 P) .nil .nil) .nil) (.node (o120v0 P) .nil .nil)))
noncomputable def u136 (P : Params) : BT := (.node (o8v0 P) (u133 P) (u135 P))
noncomputable def u137 (P : Params) : BT := (.node (o36v0 P) (.node (o68v0 P) (.node (o132v0 P) .nil .nil) .nil) (.node (o100v0 P) (.node (o164v0 P) .nil .nil) .nil))
noncomputable def u138 (P : Params) : BT := (.node (o20v0 P) (u137 P) (.node (o52v0 P) (.node (o84v0 P) (.node (o148v0 P) .nil .nil) .nil) (.node (o116v0 P) .nil .nil)))
noncomputable def u139 (P : Params) : BT := (.node (o44v0 P) (.node (o76v0 P) (.node (o140v0 P) .nil .nil) .nil) (.node (o108v0 P) (.node (o172v0 P) .nil .nil) .nil))
noncomputable def u140 (P : Params) : BT := (.node (o28v0 P) (u139 P) (.node (o60v0 P) (.node (o92v0 P) (.node (o156v0 P) .nil .nil) .nil) (.node (o124v0 P) .nil .nil)))
noncomputable def u141 (P : Params) : BT := (.node (o12v0 P) (u138 P) (u140 P))
noncomputable def u142 (P : Params) : BT := (.node (o4v0 P) (u136 P) (u141 P))
noncomputable def u143 (P : Params) : BT := (.node (o34v0 P) (.node (o66v0 P) (.node (o130v0 P) .nil .nil) .nil) (.node (o98v0 P) (.node (o162v0 P) .nil .nil) .nil))
noncomputable def u144 (P : Params) : BT := (.node (o18v0 P) (u143 P) (.node (o50v0 P) (.node (o82v0 P) (.node (o146v0 P) .nil .nil) .nil) (.node (o114v0 P) .nil .nil)))
noncomputable def u145 (P : Params) : BT := (.node (o42v0 P) (.node (o74v0 P) (.node (o138v0 P) .nil .nil) .nil) (.node (o106v0 P) (.node (o170v0 P) .nil .nil) .nil))
noncomputable def u146 (P : Params) : BT := (.node (o26v0 P) (u145 P) (.node (o58v0 P) (.node (o90v0 P) (.node (o154v0 P) .nil .nil) .nil) (.node (o122v0 P) .nil .nil)))
noncomputable def u147 (P : Params) : BT := (.node (o10v0 P) (u144 P) (u146 P))
noncomputable def u148 (P : Params) : BT := (.node (o38v0 P) (.node (o70v0 P) (.node (o134v0 P) .nil .nil) .nil) (.node (o102v0 P) (.node (o166v0 P) .nil .nil) .nil))
noncomputable def u149 (P : Params) : BT := (.node (o22v0 P) (u148 P) (.node (o54v0 P) (.node (o86v0 P) (.node (o150v0 P) .nil .nil) .nil) (.node (o118v0 P) .nil .nil)))
noncomputable def u150 (P : Params) : BT := (.node (o46v0 P) (.node (o78v0 P) (.node (o142v0 P) .nil .nil) .nil) (.node (o110v0 P) (.node (o174v0 P) .nil .nil) .nil))
noncomputable def u151 (P : Params) : BT := (.node (o30v0 P) (u150 P) (.node (o62v0 P) (.node (o94v0 P) (.node (o158v0 P) .nil .nil) .nil) (.node (o126v0 P) .nil .nil)))
noncomputable def u152 (P : Params) : BT := (.node (o14v0 P) (u149 P) (u151 P))
noncomputable def u153 (P : Params) : BT := (.node (o6v0 P) (u147 P) (u152 P))
noncomputable def u154 (P : Params) : BT := (.node (o2v0 P) (u142 P) (u153 P))
noncomputable def T21 (P : Params) : BT := (.node (o0v0 P) (u130 P) (u154 P))
noncomputable def u155 (P : Params) : BT := (.node (o31v0 P) (.node (o63v0 P) (.node (o127v0 P) .nil .nil) (.node (o191v0 P) .nil .nil)) (.node (o95v0 P) (.node (o159v0 P) .nil .nil) (.node (o223v0 P) .nil .nil)))
noncomputable def u156 (P : Params) : BT := (.node (o47v0 P) (.node (o79v0 P) (.node (o143v0 P) .nil .nil) (.node (o207v0 P) .nil .nil)) (.node (o111v0 P) (.node (o175v0 P) .nil .nil) .nil))
noncomputable def u157 (P : Params) : BT := (.node (o15v0 P) (u155 P) (u156 P))
noncomputable def u158 (P : Params) : BT := (.node (o39v0 P) (.node (o71v0 P) (.node (o135v0 P) .nil .nil) (.node (o199v0 P) .nil .nil)) (.node (o103v0 P) (.node (o167v0 P) .nil .nil) .nil))
noncomputable def u159 (P : Params) : BT := (.node (o55v0 P) (.node (o87v0 P) (.node (o151v0 P) .nil .nil) (.node (o215v0 P) .nil .nil)) (.node (o119v0 P) (.node (o183v0 P) .nil .nil) .nil))
noncomputable def u160 (P : Params) : BT := (.node (o23v0 P) (u158 P) (u159 P))
noncomputable def u161 (P : Params) : BT := (.node (o7v0 P) (u157 P) (u160 P))
noncomputable def u162 (P : Params) : BT := (.node (o35v0 P) (.node (o67v0 P) (.node (o131v0 P) .nil .nil) (.node (o195v0 P) .nil .nil)) (.node (o99v0 P) (.node (o163v0 P) .nil .nil) (.node (o227v0 P) .nil .nil)))
noncomputable def u163 (P : Params) : BT := (.node (o51v0 P) (.node (o83v0 P) (.node (o147v0 P) .nil .nil) (.node (o211v0 P) .nil .nil)) (.node (o115v0 P) (.node (o179v0 P) .nil .nil) .nil))
noncomputable def u164 (P : Params) : BT := (.node (o19v0 P) (u162 P) (u163 P))
noncomputable def u165 (P : Params) : BT := (.node (o43v0 P) (.node (o75v0 P) (.node (o139v0 P) .nil .nil) (.node (o203v0 P) .nil .nil)) (.node (o107v0 P) (.node (o171v0 P) .nil .nil) .nil))
noncomputable def u166 (P : Params) : BT := (.node (o59v0 P) (.node (o91v0 P) (.node (o155v0 P) .nil .nil) (.node (o219v0 P) .nil .nil)) (.node (o123v0 P) (.node (o187v0 P) .nil .nil) .nil))
noncomputable def u167 (P : Params) : BT := (.node (o27v0 P) (u165 P) (u166 P))
noncomputable def u168 (P : Params) : BT := (.node (o11v1 P) (u164 P) (u167 P))
noncomputable def u169 (P : Params) : BT := (.node (o3v6 P) (u161 P) (u168 P))
noncomputable def u170 (P : Params) : BT := (.node (o33v0 P) (.node (o65v0 P) (.node (o129v0 P) .nil .nil) (.node (o193v0 P) .nil .nil)) (.node (o97v0 P) (.node (o161v0 P) .nil .nil) (.node (o225v0 P) .nil .nil)))
noncomputable def u171 (P : Params) : BT := (.node (o49v0 P) (.node (o81v0 P) (.node (o145v0 P) .nil .nil) (.node (o209v0 P) .nil .nil)) (.node (o113v0 P) (.node (o177v0 P) .nil .nil) .nil))
noncomputable def u172 (P : Params) : BT := (.node (o17v0 P) (u170 P) (u171 P))
noncomputable def u173 (P : Params) : BT := (.node (o41v0 P) (.node (o73v0 P) (.node (o137v0 P) .nil .nil) (.node (o201v0 P) .nil .nil)) (.node (o105v0 P) (.node (o169v0 P) .nil .nil) .nil))
noncomputable def u174 (P : Params) : BT := (.node (o57v0 P) (.node (o89v0 P) (.node (o153v0 P) .nil .nil) (.node (o217v0 P) .nil .nil)) (.node (o121v0 P) (.node (o185v0 P) .nil .nil) .nil))
noncomputable def u175 (P : Params) : BT := (.node (o25v0 P) (u173 P) (u174 P))
noncomputable def u176 (P : Params) : BT := (.node (o9v0 P) (u172 P) (u175 P))
noncomputable def u177 (P : Params) : BT := (.node (o37v0 P) (.node (o69v0 P) (.node (o133v0 P) .nil .nil) (.node (o197v0 P) .nil .nil)) (.node (o101v0 P) (.node (o165v0 P) .nil .nil) .nil))
noncomputable def u178 (P : Params) : BT := (.node (o53v0 P) (.node (o85v0 P) (.node (o149v0 P) .nil .nil) (.node (o213v0 P) .nil .nil)) (.node (o117v0 P) (.node (o181v0 P) .nil .nil) .nil))
noncomputable def u179 (P : Params) : BT := (.node (o21v0 P) (u177 P) (u178 P))
noncomputable def u180 (P : Params) : BT := (.node (o45v0 P) (.node (o77v0 P) (.node (o141v0 P) .nil .nil) (.node (o205v0 P) .nil .nil)) (.node (o109v0 P) (.node (o173v0 P) .nil .nil) .nil))
noncomputable def u181 (P : Params) : BT := (.node (o61v0 P) (.node (o93v0 P) (.node (o157v0 P) .nil .nil) (.node (o221v0 P) .nil .nil)) (.node (o125v0 P) (.node (o189v0 P) .nil .nil) .nil))
noncomputable def u182 (P : Params) : BT := (.node (o29v4 P) (u180 P) (u181 P))
noncomputable def u183 (P : Params) : BT := (.node (o13v0 P) (u179 P) (u182 P))
noncomputable def u184 (P : Params) : BT := (.node (o5v0 P) (u176 P) (u183 P))
noncomputable def u185 (P : Params) : BT := (.node (o1v0 P) (u169 P) (u184 P))
noncomputable def u186 (P : Params) : BT := (.node (o32v0 P) (.node (o64v0 P) (.node (o128v0 P) .nil .nil) (.node (o192v0 P) .nil .nil)) (.node (o96v0 P) (.node (o160v0 P) .nil .nil) (.node (o224v0 P) .nil .nil)))
noncomputable def u187 (P : Params) : BT := (.node (o48v0 P) (.node (o80v0 P) (.node (o144v0 P) .nil .nil) (.node (o208v0 P) .nil .nil)) (.node (o112v0 P) (.node (o176v0 P) .nil .nil) .nil))
noncomputable def u188 (P : Params) : BT := (.node (o16v0 P) (u186 P) (u187 P))
noncomputable def u189 (P : Params) : BT := (.node (o40v0 P) (.node (o72v0 P) (.node (o136v0 P) .nil .nil) (.node (o200v0 P) .nil .nil)) (.node (o104v0 P) (.node (o168v0 P) .nil .nil) .nil))
noncomputable def u190 (P : Params) : BT := (.node (o56v0 P) (.node (o88v0 P) (.node (o152v0 P) .nil .nil) (.node (o216v0 P) .nil .nil)) (.node (o120v0 P) (.node (o184v0 P) .nil .nil) .nil))
noncomputable def u191 (P : Params) : BT := (.node (o24v0 P) (u189 P) (u190 P))
noncomputable def u192 (P : Params) : BT := (.node (o8v0 P) (u188 P) (u191 P))
noncomputable def u193 (P : Params) : BT := (.node (o36v0 P) (.node (o68v0 P) (.node (o132v0 P) .nil .nil) (.node (o196v0 P) .nil .nil)) (.node (o100v0 P) (.node (o164v0 P) .nil .nil) .nil))
noncomputable def u194 (P : Params) : BT := (.node (o52v0 P) (.node (o84v0 P) (.node (o148v0 P) .nil .nil) (.node (o212v0 P) .nil .nil)) (.node (o116v0 P) (.node (o180v0 P) .nil .nil) .nil))
noncomputable def u195 (P : Params) : BT := (.node (o20v0 P) (u193 P) (u194 P))
noncomputable def u196 (P : Params) : BT := (.node (o44v0 P) (.node (o76v0 P) (.node (o140v0 P) .nil .nil) (.node (o204v0 P) .nil .nil)) (.node (o108v0 P) (.node (o172v0 P) .nil .nil) .nil))
noncomputable def u197 (P : Params) : BT := (.node (o60v0 P) (.node (o92v0 P) (.node (o156v0 P) .nil .nil) (.node (o220v0 P) .nil .nil)) (.node (o124v0 P) (.node (o188v0 P) .nil .nil) .nil))
noncomputable def u198 (P : Params) : BT := (.node (o28v0 P) (u196 P) (u197 P))
noncomputable def u199 (P : Params) : BT := (.node (o12v0 P) (u195 P) (u198 P))
noncomputable def u200 (P : Params) : BT := (.node (o4v0 P) (u192 P) (u199 P))
noncomputable def u201 (P : Params) : BT := (.node (o34v0 P) (.node (o66v0 P) (.node (o130v0 P) .nil .nil) (.node (o194v0 P) .nil .nil)) (.node (o98v0 P) (.node (o162v0 P) .nil .nil) (.node (o226v0 P) .nil .nil)))
noncomputable def u202 (P : Params) : BT := (.node (o50v0 P) (.node (o82v0 P) (.node (o146v0 P) .nil .nil) (.node (o210v0 P) .nil .nil)) (.node (o114v0 P) (.node (o178v0 P) .nil .nil) .nil))
noncomputable def u203 (P : Params) : BT := (.node (o18v0 P) (u201 P) (u202 P))
noncomputable def u204 (P : Params) : BT := (.node (o42v0 P) (.node (o74v0 P) (.node (o138v0 P) .nil .nil) (.node (o202v0 P) .nil .nil)) (.node (o106v0 P) (.node (o170v0 P) .nil .nil) .nil))
noncomputable def u205 (P : Params) : BT := (.node (o58v0 P) (.node (o90v0 P) (.node (o154v0 P) .nil .nil) (.node (o218v0 P) .nil .nil)) (.node (o122v0 P) (.node (o186v0 P) .nil .nil) .nil))
noncomputable def u206 (P : Params) : BT := (.node (o26v0 P) (u204 P) (u205 P))
noncomputable def u207 (P : Params) : BT := (.node (o10v0 P) (u203 P) (u206 P))
noncomputable def u208 (P : Params) : BT := (.node (o38v0 P) (.node (o70v0 P) (.node (o134v0 P) .nil .nil) (.node (o198v0 P) .nil .nil)) (.node (o102v0 P) (.node (o166v0 P) .nil .nil) .nil))
noncomputable def u209 (P : Params) : BT := (.node (o54v0 P) (.node (o86v0 P) (.node (o150v0 P) .nil .nil) (.node (o214v0 P) .nil .nil)) (.node (o118v0 P) (.node (o182v0 P) .nil .nil) .nil))
noncomputable def u210 (P : Params) : BT := (.node (o22v0 P) (u208 P) (u209 P))
noncomputable def u211 (P : Params) : BT := (.node (o46v0 P) (.node (o78v0 P) (.node (o142v0 P) .nil .nil) (.node (o206v0 P) .nil .nil)) (.node (o110v0 P) (.node (o174v0 P) .nil .nil) .nil))
noncomputable def u212 (P : Params) : BT := (.node (o62v0 P) (.node (o94v0 P) (.node (o158v0 P) .nil .nil) (.node (o222v0 P) .nil .nil)) (.node (o126v0 P) (.node (o190v0 P) .nil .nil) .nil))
noncomputable def u213 (P : Params) : BT := (.node (o30v0 P) (u211 P) (u212 P))
noncomputable def u214 (P : Params) : BT := (.node (o14v0 P) (u210 P) (u213 P))
noncomputable def u215 (P : Params) : BT := (.node (o6v0 P) (u207 P) (u214 P))
noncomputable def u216 (P : Params) : BT := (.node (o2v0 P) (u200 P) (u215 P))
noncomputable def T31 (P : Params) : BT := (.node (o0v0 P) (u185 P) (u216 P))
noncomputable def Tf (P : Params) : BT := (.node (o0v0 P) (u185 P) (u216 P))
noncomputable def Sa (w : World) (os : OsState) : SharedT := ⟨Ta w.params, 32, {}, #[], {}, 282, os⟩
noncomputable def S9 (w : World) (os : OsState) : SharedT := ⟨T9 w.params, 82, {}, #[], {}, 376, os⟩
noncomputable def S18 (w : World) (os : OsState) : SharedT := ⟨T18 w.params, 120, {}, #[], {}, 475, os⟩
noncomputable def S19 (w : World) (os : OsState) : SharedT := ⟨T19 w.params, 131, {}, #[], {}, 535, os⟩
noncomputable def S20 (w : World) (os : OsState) : SharedT := ⟨T20 w.params, 138, {}, #[], {}, 542, os⟩
noncomputable def S21 (w : World) (os : OsState) : SharedT := ⟨T21 w.params, 177, {}, #[], {}, 2493, os⟩
noncomputable def S31 (w : World) (os : OsState) : SharedT := ⟨T31 w.params, 228, {}, #[], {}, 2561, os⟩
noncomputable def env0 : Env := { scope := pq.main.scope, locals := mainNs, globals := mainNs, cells := [], code := .ref 30, frame := some 31 }
noncomputable def bE : List Stmt := behindTheImports pq
noncomputable def cE : Code := .body bE env0
noncomputable def sts (a k : Nat) : List Stmt := (bE.drop a).take k
noncomputable def B0 : List Frame := [topFrame ⟨0, 0, 0, 0⟩]
noncomputable def L9 (w : World) (os : OsState) : Option (Flow × SharedT × Code × Pos) := segRunT treeTable pq w 28 (some (.ref 6)) 1 372 (Sa w os) (piecesOf (sts 0 10) env0 cE ⟨0, 0, 0, 0⟩ B0)
noncomputable def R9 (w : World) (os : OsState) : Option (Flow × SharedT × Code × Pos) := some (.next, S9 w os, cE, ⟨33, 0, 34, 16⟩)
noncomputable def Lb9 (b0 : Bool) (w : World) (os : OsState) := L9 (w.withFollow "special-get-raises" b0) os
noncomputable def Rb9 (b0 : Bool) (w : World) (os : OsState) := R9 (w.withFollow "special-get-raises" b0) os
theorem L9_rfl : @Lb9 = @Lb9 := rfl
theorem R9_rfl : @Rb9 = @Rb9 := rfl
name_quick l9q for Lb9 by L9_rfl
name_quick r9q for Rb9 by R9_rfl
theorem piece9_false (w : World) (os : OsState) : Lb9 false w os = Rb9 false w os := by
  rw [PySem.W.Fast.l9q_eq, PySem.W.Fast.r9q_eq]; kernel_rfl
theorem piece9_true (w : World) (os : OsState) : Lb9 true w os = Rb9 true w os := by
  rw [PySem.W.Fast.l9q_eq, PySem.W.Fast.r9q_eq]; kernel_rfl
theorem piece9 (w : World) : ∀ os, L9 w os = R9 w os :=
  byRow2 "special-get-raises" (P := fun w => ∀ os, L9 w os = R9 w os) (fun w os => piece9_false w os) (fun w os => piece9_true w os) w
noncomputable def L18 (w : World) (os : OsState) : Option (Flow × SharedT × Code × Pos) := segRunT treeTable pq w 28 (some (.ref 6)) 1 295 (S9 w os) (piecesOf (sts 10 9) env0 cE ⟨33, 0, 34, 16⟩ B0)
noncomputable def R18 (w : World) (os : OsState) : Option (Flow × SharedT × Code × Pos) := some (.next, S18 w os, cE, ⟨55, 0, 55, 8⟩)
theorem L18_rfl : @L18 = @L18 := rfl
theorem R18_rfl : @R18 = @R18 := rfl
name_quick l18q for L18 by L18_rfl
name_quick r18q for R18 by R18_rfl
theorem piece18 (w : World) (os : OsState) : L18 w os = R18 w os := by
  rw [PySem.W.Fast.l18q_eq, PySem.W.Fast.r18q_eq]; kernel_rfl
noncomputable def L19 (w : World) (os : OsState) : Option (Flow × SharedT × Code × Pos) := segRunT treeTable pq w 28 (some (.ref 6)) 1 999 (S18 w os) (piecesOf (sts 19 1) env0 cE ⟨55, 0, 55, 8⟩ B0)
noncomputable def R19 (w : World) (os : OsState) : Option (Flow × SharedT × Code × Pos) := some (.next, S19 w os, cE, ⟨56, 0, 56, 6⟩)
noncomputable def Lb19 (b0 : Bool) (b1 : Bool) (w : World) (os : OsState) := L19 ((w.withFollow "set-order" b0).withFollow "special-get-raises" b1) os
noncomputable def Rb19 (b0 : Bool) (b1 : Bool) (w : World) (os : OsState) := R19 ((w.withFollow "set-order" b0).withFollow "special-get-raises" b1) os
theorem L19_rfl : @Lb19 = @Lb19 := rfl
theorem R19_rfl : @Rb19 = @Rb19 := rfl
name_quick l19q for Lb19 by L19_rfl
name_quick r19q for Rb19 by R19_rfl
theorem piece19_false_false (w : World) (os : OsState) : Lb19 false false w os = Rb19 false false w os := by
  rw [PySem.W.Fast.l19q_eq, PySem.W.Fast.r19q_eq]; kernel_rfl
theorem piece19_false_true (w : World) (os : OsState) : Lb19 false true w os = Rb19 false true w os := by
  rw [PySem.W.Fast.l19q_eq, PySem.W.Fast.r19q_eq]; kernel_rfl
theorem piece19_true_false (w : World) (os : OsState) : Lb19 true false w os = Rb19 true false w os := by
  rw [PySem.W.Fast.l19q_eq, PySem.W.Fast.r19q_eq]; kernel_rfl
theorem piece19_true_true (w : World) (os : OsState) : Lb19 true true w os = Rb19 true true w os := by
  rw [PySem.W.Fast.l19q_eq, PySem.W.Fast.r19q_eq]; kernel_rfl
theorem piece19 (w : World) : ∀ os, L19 w os = R19 w os :=
  byRow2 "special-get-raises" (P := fun w => ∀ os, L19 w os = R19 w os)
    (fun w => byRow2 "set-order" (P := fun w => ∀ os, L19 (w.withFollow "special-get-raises" false) os = R19 (w.withFollow "special-get-raises" false) os) (fun w os => piece19_false_false w os) (fun w os => piece19_true_false w os) w)
    (fun w => byRow2 "set-order" (P := fun w => ∀ os, L19 (w.withFollow "special-get-raises" true) os = R19 (w.withFollow "special-get-raises" true) os) (fun w os => piece19_false_true w os) (fun w os => piece19_true_true w os) w) w
noncomputable def L20 (w : World) (os : OsState) : Option (Flow × SharedT × Code × Pos) := segRunT treeTable pq w 28 (some (.ref 6)) 1 30 (S19 w os) (piecesOf (sts 20 1) env0 cE ⟨56, 0, 56, 6⟩ B0)
noncomputable def R20 (w : World) (os : OsState) : Option (Flow × SharedT × Code × Pos) := some (.next, S20 w os, cE, ⟨57, 0, 58, 30⟩)
theorem L20_rfl : @L20 = @L20 := rfl
theorem R20_rfl : @R20 = @R20 := rfl
name_quick l20q for L20 by L20_rfl
name_quick r20q for R20 by R20_rfl
theorem piece20 (w : World) (os : OsState) : L20 w os = R20 w os := by
  rw [PySem.W.Fast.l20q_eq, PySem.W.Fast.r20q_eq]; kernel_rfl
noncomputable def L31 (w : World) (os : OsState) : Option (Flow × SharedT × Code × Pos) := segRunT treeTable pq w 28 (some (.ref 6)) 1 262 (S21 w os) (piecesOf (sts 22 10) env0 cE ⟨59, 0, 59, 13⟩ B0)
noncomputable def R31 (w : World) (os : OsState) : Option (Flow × SharedT × Code × Pos) := some (.next, S31 w os, cE, ⟨132, 0, 157, 82⟩)
theorem L31_rfl : @L31 = @L31 := rfl
theorem R31_rfl : @R31 = @R31 := rfl
name_quick l31q for L31 by L31_rfl
name_quick r31q for R31 by R31_rfl
theorem piece31 (w : World) (os : OsState) : L31 w os = R31 w os := by
  rw [PySem.W.Fast.l31q_eq, PySem.W.Fast.r31q_eq]; kernel_rfl
end
section
set_option maxRecDepth 100000
set_option maxHeartbeats 0
noncomputable def heap0_2 (P : Params) : List Obj := o24v0 P :: o25v0 P :: o26v0 P :: o27v0 P :: []
noncomputable def heap0_1 (P : Params) : List Obj := o12v0 P :: o13v0 P :: o14v0 P :: o15v0 P :: o16v0 P :: o17v0 P :: o18v0 P :: o19v0 P :: o20v0 P :: o21v0 P :: o22v0 P :: o23v0 P :: heap0_2 P
noncomputable def heap0_0 (P : Params) : List Obj := o0v0 P :: o1v0 P :: o2v0 P :: o3v0 P :: o4v0 P :: o5v0 P :: o6v0 P :: o7v0 P :: o8v0 P :: o9v0 P :: o10v0 P :: o11v1 P :: heap0_1 P
noncomputable def heap0 (P : Params) : Heap := ⟨(heap0_0 P).toArray, {}⟩
noncomputable def heapF_18 (P : Params) : List Obj := o216v0 P :: o217v0 P :: o218v0 P :: o219v0 P :: o220v0 P :: o221v0 P :: o222v0 P :: o223v0 P :: o224v0 P :: o225v0 P :: o226v0 P :: o227v0 P :: []
noncomputable def heapF_17 (P : Params) : List Obj := o204v0 P :: o205v0 P :: o206v0 P :: o207v0 P :: o208v0 P :: o209v0 P :: o210v0 P :: o211v0 P :: o212v0 P :: o213v0 P :: o214v0 P :: o215v0 P :: heapF_18 P
noncomputable def heapF_16 (P : Params) : List Obj := o192v0 P :: o193v0 P :: o194v0 P :: o195v0 P :: o196v0 P :: o197v0 P :: o198v0 P :: o199v0 P :: o200v0 P :: o201v0 P :: o202v0 P :: o203v0 P :: heapF_17 P
noncomputable def heapF_15 (P : Params) : List Obj := o180v0 P :: o181v0 P :: o182v0 P :: o183v0 P :: o184v0 P :: o185v0 P :: o186v0 P :: o187v0 P :: o188v0 P :: o189v0 P :: o190v0 P :: o191v0 P :: heapF_16 P
noncomputable def heapF_14 (P : Params) : List Obj := o168v0 P :: o169v0 P :: o170v0 P :: o171v0 P :: o172v0 P :: o173v0 P :: o174v0 P :: o175v0 P :: o176v0 P :: o177v0 P :: o178v0 P :: o179v0 P :: heapF_15 P
noncomputable def heapF_13 (P : Params) : List Obj := o156v0 P :: o157v0 P :: o158v0 P :: o159v0 P :: o160v0 P :: o161v0 P :: o162v0 P :: o163v0 P :: o164v0 P :: o165v0 P :: o166v0 P :: o167v0 P :: heapF_14 P
noncomputable def heapF_12 (P : Params) : List Obj := o144v0 P :: o145v0 P :: o146v0 P :: o147v0 P :: o148v0 P :: o149v0 P :: o150v0 P :: o151v0 P :: o152v0 P :: o153v0 P :: o154v0 P :: o155v0 P :: heapF_13 P
noncomputable def heapF_11 (P : Params) : List Obj := o132v0 P :: o133v0 P :: o134v0 P :: o135v0 P :: o136v0 P :: o137v0 P :: o138v0 P :: o139v0 P :: o140v0 P :: o141v0 P :: o142v0 P :: o143v0 P :: heapF_12 P
noncomputable def heapF_10 (P : Params) : List Obj := o120v0 P :: o121v0 P :: o122v0 P :: o123v0 P :: o124v0 P :: o125v0 P :: o126v0 P :: o127v0 P :: o128v0 P :: o129v0 P :: o130v0 P :: o131v0 P :: heapF_11 P
noncomputable def heapF_9 (P : Params) : List Obj := o108v0 P :: o109v0 P :: o110v0 P :: o111v0 P :: o112v0 P :: o113v0 P :: o114v0 P :: o115v0 P :: o116v0 P :: o117v0 P :: o118v0 P :: o119v0 P :: heapF_10 P
noncomputable def heapF_8 (P : Params) : List Obj := o96v0 P :: o97v0 P :: o98v0 P :: o99v0 P :: o100v0 P :: o101v0 P :: o102v0 P :: o103v0 P :: o104v0 P :: o105v0 P :: o106v0 P :: o107v0 P :: heapF_9 P
noncomputable def heapF_7 (P : Params) : List Obj := o84v0 P :: o85v0 P :: o86v0 P :: o87v0 P :: o88v0 P :: o89v0 P :: o90v0 P :: o91v0 P :: o92v0 P :: o93v0 P :: o94v0 P :: o95v0 P :: heapF_8 P
noncomputable def heapF_6 (P : Params) : List Obj := o72v0 P :: o73v0 P :: o74v0 P :: o75v0 P :: o76v0 P :: o77v0 P :: o78v0 P :: o79v0 P :: o80v0 P :: o81v0 P :: o82v0 P :: o83v0 P :: heapF_7 P
noncomputable def heapF_5 (P : Params) : List Obj := o60v0 P :: o61v0 P :: o62v0 P :: o63v0 P :: o64v0 P :: o65v0 P :: o66v0 P :: o67v0 P :: o68v0 P :: o69v0 P :: o70v0 P :: o71v0 P :: heapF_6 P
noncomputable def heapF_4 (P : Params) : List Obj := o48v0 P :: o49v0 P :: o50v0 P :: o51v0 P :: o52v0 P :: o53v0 P :: o54v0 P :: o55v0 P :: o56v0 P :: o57v0 P :: o58v0 P :: o59v0 P :: heapF_5 P
noncomputable def heapF_3 (P : Params) : List Obj := o36v0 P :: o37v0 P :: o38v0 P :: o39v0 P :: o40v0 P :: o41v0 P :: o42v0 P :: o43v0 P :: o44v0 P :: o45v0 P :: o46v0 P :: o47v0 P :: heapF_4 P
noncomputable def heapF_2 (P : Params) : List Obj := o24v0 P :: o25v0 P :: o26v0 P :: o27v0 P :: o28v0 P :: o29v4 P :: o30v0 P :: o31v0 P :: o32v0 P :: o33v0 P :: o34v0 P :: o35v0 P :: heapF_3 P
noncomputable def heapF_1 (P : Params) : List Obj := o12v0 P :: o13v0 P :: o14v0 P :: o15v0 P :: o16v0 P :: o17v0 P :: o18v0 P :: o19v0 P :: o20v0 P :: o21v0 P :: o22v0 P :: o23v0 P :: heapF_2 P
noncomputable def heapF_0 (P : Params) : List Obj := o0v0 P :: o1v0 P :: o2v0 P :: o3v6 P :: o4v0 P :: o5v0 P :: o6v0 P :: o7v0 P :: o8v0 P :: o9v0 P :: o10v0 P :: o11v1 P :: heapF_1 P
noncomputable def heapF (P : Params) : Heap := ⟨(heapF_0 P).toArray, {}⟩
noncomputable def opT (tb : String → Option Builtin) (p : Program) (w : World) : Nat → SharedT → Thread → Option SharedT
  | 0, _, _ => none
  | n + 1, s, t => match t.atExitBegin with
    | some [] => some s
    | some (_ :: _) => none
    | none => match stepT (denote tb) p w s t with
      | some (s', t') => opT tb p w n s' t'
      | none => none
theorem op_of {tb : String → Option Builtin} {p : Program} {w : World} : ∀ {n : Nat} {s s' : SharedT} {t : Thread}, opT tb p w n s t = some s' → importEnds tb p w n s.abs t = some s'.abs
  | 0, _, _, _, h => by cases h
  | n + 1, s, s', t, h => by
    unfold opT at h
    unfold importEnds
    cases he : t.atExitBegin with
    | some x =>
      rw [he] at h
      cases x with
      | nil => cases h; rfl
      | cons _ _ => cases h
    | none =>
      rw [he] at h
      cases hs : stepT (denote tb) p w s t with
      | none => rw [hs] at h; cases h
      | some r => obtain ⟨s₂, t₂⟩ := r; rw [hs] at h; dsimp only; rw [stepT_spec hs]; exact op_of h
noncomputable def Le (w : World) : Option SharedT := opT treeTable (opening pq) w 800 ⟨.nil, 0, {}, #[], {}, 1, (start (opening pq)).1.os⟩ (start (opening pq)).2
noncomputable def Re (w : World) : Option SharedT := some ⟨Te w.params, 28, {}, #[], {}, 276, (start (opening pq)).1.os⟩
theorem Le_rfl : Le = Le := rfl
theorem Re_rfl : Re = Re := rfl
name_quick leq for Le by Le_rfl
name_quick req for Re by Re_rfl
theorem opens (w : World) : Le w = Re w := by
  rw [PySem.W.Fast.leq_eq, PySem.W.Fast.req_eq]; kernel_rfl
noncomputable def Lf (w : World) (os : OsState) : Option (Heap × Array GenState × Drawn × Nat) := (fenceModules? pq ⟨absHeap (Te w.params) 28 {}, #[], {}, 276, os⟩).map (fun s => (s.heap, s.gens, s.drawn, s.toks))
noncomputable def Rf (w : World) (os : OsState) : Option (Heap × Array GenState × Drawn × Nat) := some (heap0 w.params, #[], {}, 276)
theorem Lf_rfl : Lf = Lf := rfl
theorem Rf_rfl : Rf = Rf := rfl
name_quick lfq for Lf by Lf_rfl
name_quick rfq for Rf by Rf_rfl
theorem fences (w : World) (os : OsState) : Lf w os = Rf w os := by
  rw [PySem.W.Fast.lfq_eq, PySem.W.Fast.rfq_eq]; kernel_rfl
noncomputable def NN : Nat := 300000
theorem st0 : SharedT.abs ⟨.nil, 0, {}, #[], {}, 1, (start (opening pq)).1.os⟩ = (start (opening pq)).1 := by kernel_rfl
theorem opens1 (w : World) : importEnds treeTable (opening pq) w 800 (SharedT.abs ⟨.nil, 0, {}, #[], {}, 1, (start (opening pq)).1.os⟩) (start (opening pq)).2 = some (SharedT.abs ⟨Te w.params, 28, {}, #[], {}, 276, (start (opening pq)).1.os⟩) := by
  have h := opens w
  unfold Le Re at h
  exact op_of h
theorem opens2 (w : World) : importEnds treeTable (opening pq) w 800 (start (opening pq)).1 (start (opening pq)).2 = some ⟨absHeap (Te w.params) 28 {}, #[], {}, 276, (start (opening pq)).1.os⟩ := by
  have h := opens1 w
  rw [st0] at h
  unfold SharedT.abs at h
  exact h
theorem opened : ∀ w : World, (fencedOpening treeTable pq w NN).map (fun s => (s.heap, s.gens, s.drawn, s.toks)) = some (heap0 w.params, #[], {}, 276) :=
  open_cut (p := pq) (N := NN) (M := 800) (He := fun P => absHeap (Te P) 28 {}) (H₀ := heap0) (ge := #[]) (g₀ := #[]) (de := {}) (d₀ := {}) (ke := 276) (k₀ := 276)
    opens2 (by decide) (fun w => funext fun os => fences w os)
noncomputable def Lp (w : World) (os : OsState) : Option (Shared × Thread) := topGo treeTable pq w 28 (some (.ref 6)) 12 ⟨heap0 w.params, #[], {}, 276, os⟩ (topStub pq)
noncomputable def Rp (w : World) (os : OsState) : Option (Shared × Thread) := some ((Sa w os).abs, ⟨denote treeTable cE, cE, ⟨0, 0, 0, 0⟩, B0⟩)
theorem Lp_rfl : Lp = Lp := rfl
theorem Rp_rfl : Rp = Rp := rfl
name_quick lpq for Lp by Lp_rfl
name_quick rpq for Rp by Rp_rfl
theorem pre_ok (w : World) (os : OsState) : Lp w os = Rp w os := by
  rw [PySem.W.Fast.lpq_eq, PySem.W.Fast.rpq_eq]; kernel_rfl
noncomputable def Lk (w : World) (os : OsState) : Option (Flow × Shared × Code × Pos) := segRun treeTable pq w 28 (some (.ref 6)) 1 1 (Sa w os).abs (blockOf bE env0 cE ⟨0, 0, 0, 0⟩ B0)
noncomputable def Rk (w : World) (os : OsState) : Option (Flow × Shared × Code × Pos) := some (.next, (Sa w os).abs, cE, ⟨0, 0, 0, 0⟩)
theorem Lk_rfl : Lk = Lk := rfl
theorem Rk_rfl : Rk = Rk := rfl
name_quick lkq for Lk by Lk_rfl
name_quick rkq for Rk by Rk_rfl
theorem block_ok (w : World) (os : OsState) : Lk w os = Rk w os := by
  rw [PySem.W.Fast.lkq_eq, PySem.W.Fast.rkq_eq]; kernel_rfl
noncomputable def Lz (w : World) (os : OsState) : Option Shared := topRun treeTable pq w 28 (some (.ref 6)) 2 (S31 w os).abs ⟨doneF .next, cE, ⟨132, 0, 157, 82⟩, B0⟩
noncomputable def Rz (w : World) (os : OsState) : Option Shared := some ⟨heapF w.params, #[], {}, 2561, os⟩
theorem Lz_rfl : Lz = Lz := rfl
theorem Rz_rfl : Rz = Rz := rfl
name_quick lzq for Lz by Lz_rfl
name_quick rzq for Rz by Rz_rfl
theorem fin_ok (w : World) (os : OsState) : Lz w os = Rz w os := by
  rw [PySem.W.Fast.lzq_eq, PySem.W.Fast.rzq_eq]; kernel_rfl
theorem body_is : bE = sts 0 10 ++ (sts 10 9 ++ (sts 19 1 ++ (sts 20 1 ++ (sts 21 1 ++ (sts 22 10 ++ []))))) := by kernel_rfl
end
local macro_rules | `(tactic| omega) => `(tactic| first | lia | omega (config := {}))
section
set_option maxRecDepth 100000
set_option maxHeartbeats 400000
section
variable {w : World} {α β : Type}
theorem segGo_add {tb : String → Option Builtin} {p : Program} {w : World} {n₀ : Nat} {ann : Option Value} {b : Nat} : ∀ {n m : Nat} {s s' s'' : Shared} {t t' t'' : Thread},
    segGo tb p w n₀ ann b n s t = some (s', t') → segGo tb p w n₀ ann b m s' t' = some (s'', t'') → segGo tb p w n₀ ann b (n + m) s t = some (s'', t'')
  | 0, m, s, s', s'', t, t', t'', h, k => by
    obtain ⟨rfl, rfl⟩ : s = s' ∧ t = t' := by simpa [segGo] using h
    rw [Nat.zero_add]; exact k
  | n + 1, m, s, s', s'', t, t', t'', h, k => by
    rw [show n + 1 + m = n + m + 1 by omega]
    unfold segGo at h ⊢
    cases he : endAt b t with
    | some f => rw [he] at h; cases h
    | none =>
      rw [he] at h
      cases hk : stepOk n₀ ann t with
      | false => rw [hk] at h; cases h
      | true =>
        rw [hk] at h
        cases hs : step (denote tb) p w s t with
        | halt o s₂ => rw [hs] at h; cases h
        | go s₂ t₂ => rw [hs] at h; exact segGo_add h k
noncomputable abbrev An : Option Value := some (.ref 6)
noncomputable def G (w : World) (N : Nat) (s : Shared) (q : Pos) (t : Sem Fin) (s' : Shared) (q' : Pos) (t' : Sem Fin) : Prop :=
  ∃ n, n ≤ N ∧ segGo treeTable pq w 28 An 1 n s ⟨t, cE, q, B0⟩ = some (s', ⟨t', cE, q', B0⟩)
theorem G.refl {s : Shared} {q : Pos} {t : Sem Fin} : G w 0 s q t s q t := ⟨0, Nat.le_refl _, rfl⟩
theorem G.trans {N M : Nat} {s s1 s2 : Shared} {q q1 q2 : Pos} {t t1 t2 : Sem Fin} (a : G w N s q t s1 q1 t1) (b : G w M s1 q1 t1 s2 q2 t2) : G w (N + M) s q t s2 q2 t2 := by
  obtain ⟨n, hn, a⟩ := a
  obtain ⟨m, hm, b⟩ := b
  exact ⟨n + m, Nat.add_le_add hn hm, segGo_add a b⟩
theorem G.le {N M : Nat} {s s1 : Shared} {q q1 : Pos} {t t1 : Sem Fin} (a : G w N s q t s1 q1 t1) (h : N ≤ M) : G w M s q t s1 q1 t1 := by
  obtain ⟨n, hn, a⟩ := a
  exact ⟨n, Nat.le_trans hn h, a⟩
theorem G.one {s s' : Shared} {q q' : Pos} {t t' : Sem Fin} (he : endAt 1 ⟨t, cE, q, B0⟩ = none) (hk : stepOk 28 An ⟨t, cE, q, B0⟩ = true)
    (hs : step (denote treeTable) pq w s ⟨t, cE, q, B0⟩ = .go s' ⟨t', cE, q', B0⟩) : G w 1 s q t s' q' t' := by
  refine ⟨1, Nat.le_refl _, ?_⟩
  unfold segGo
  rw [he, hk, hs]
  rfl
noncomputable def Go (w : World) (N : Nat) (s : Shared) (q : Pos) (m : Sem α) (a : α) (s' : Shared) (q' : Pos) : Prop :=
  ∀ (K : α → Sem Fin) (H : Value → Sem Fin) (gd : Bool → Bool) (lv : List Value → List Value), G w N s q (m.wrap K H gd lv) s' q' (K a)
theorem Go.le {N M : Nat} {s s1 : Shared} {q q1 : Pos} {m : Sem α} {a : α} (h : Go w N s q m a s1 q1) (e : N ≤ M) : Go w M s q m a s1 q1 := fun K H gd lv => (h K H gd lv).le e
theorem Go.pure {s : Shared} {q : Pos} {a : α} : Go w 0 s q (Pure.pure a : Sem α) a s q := fun _ _ _ _ => G.refl
theorem Go.bind {N M : Nat} {s s1 s2 : Shared} {q q1 q2 : Pos} {m : Sem α} {f : α → Sem β} {a : α} {b : β} (h : Go w N s q m a s1 q1) (k : Go w M s1 q1 (f a) b s2 q2) : Go w (N + M) s q (m >>= f) b s2 q2 := by
  intro K H gd lv
  rw [show (m >>= f) = m.wrap f .raise id id from Sem.bind_eq_wrap' m f, Sem.wrap_wrap]
  exact (h _ _ _ _).trans (k K H gd lv)
theorem Go.keep {N : Nat} {s s1 : Shared} {q q1 : Pos} {m : Sem α} {a : α} (vs : List Value) (h : Go w N s q m a s1 q1) : Go w N s q (m.keep vs) a s1 q1 := by
  intro K H gd lv
  rw [Sem.keep_eq_wrap, Sem.wrap_wrap]
  exact h _ _ _ _
theorem Go.onRaise {N : Nat} {s s1 : Shared} {q q1 : Pos} {m : Sem α} {a : α} (hd : Value → Sem Unit) (h : Go w N s q m a s1 q1) : Go w N s q (m.onRaise hd) a s1 q1 := by
  intro K H gd lv
  rw [Sem.onRaise_eq_wrap, Sem.wrap_wrap]
  exact h _ _ _ _
theorem Go.holding {N : Nat} {s s1 : Shared} {q q1 : Pos} {m : Sem α} {a : α} (vs : List Value) (h : Go w N s q m a s1 q1) : Go w N s q (PySem.holding vs m) a s1 q1 := by
  unfold PySem.holding
  split
  · exact h
  · exact h.keep _
theorem Go.at {s : Shared} {q p : Pos} : Go w 1 s q (standAt p) () s p := fun _ _ _ _ => G.one rfl rfl rfl
theorem Go.rule {s : Shared} {q : Pos} {tag : String} : Go w 1 s q (PySem.rule tag) () s q := fun _ _ _ _ => G.one rfl rfl rfl
theorem Go.fresh {s : Shared} {q : Pos} : Go w 1 s q PySem.fresh s.toks { s with toks := s.toks + 1 } q := fun _ _ _ _ => G.one rfl rfl rfl
theorem Go.alloc {s : Shared} {q : Pos} {o : Obj} : Go w 1 s q (PySem.alloc o) s.heap.objs.size { s with heap := s.heap.push o } q := fun _ _ _ _ => G.one rfl rfl rfl
theorem Go.loadPart {s : Shared} {q : Pos} {a : Addr} {p : Option Value} {o : Obj} (h : s.heap.get? a = some o) : Go w 1 s q (PySem.loadPart a p) o s q := fun K H gd lv =>
  G.one rfl rfl (by
    show step (denote treeTable) pq w s ⟨.load a p fun x => (Sem.pure x).wrap K H gd lv, cE, q, B0⟩ = _
    simp only [step, h]; rfl)
theorem Go.load {s : Shared} {q : Pos} {a : Addr} {o : Obj} (h : s.heap.get? a = some o) : Go w 1 s q (PySem.load a) o s q := Go.loadPart (p := none) h
theorem Go.updatePart {s : Shared} {q : Pos} {a : Addr} {p : Option Value} {f : Obj → Obj} {o : Obj} (h : s.heap.get? a = some o) (ha : Nat.ble 28 a = true) :
    Go w 1 s q (PySem.updatePart a p f) () { s with heap := s.heap.update a f } q := fun K H gd lv =>
  G.one rfl (by
    show (true && (Nat.ble 28 a || a == mainNs || a == cStatics || An == some (.ref a))) = true
    rw [ha]; rfl) (by
    show step (denote treeTable) pq w s ⟨.update a p f fun x => (Sem.pure x).wrap K H gd lv, cE, q, B0⟩ = _
    simp only [step, h, Option.isSome_some, if_true]; rfl)
/-- trees that look at one object only (f: so many looks at most) -/
noncomputable def peekO (o : Obj) (S : Setting) : Nat → Sem α → Option (α × List Addr × Nat)
  | 0, _ => none
  | f + 1, m => match m with
    | .pure a => some (a, [], 0)
    | .rule _ k => (peekO o S f (k ())).map fun y => (y.1, y.2.1, y.2.2 + 1)
    | .point _ k => (peekO o S f (k ())).map fun y => (y.1, y.2.1, y.2.2 + 1)
    | .ask k => (peekO o S f (k S)).map fun y => (y.1, y.2.1, y.2.2 + 1)
    | .load a _ k => (peekO o S f (k o)).map fun y => (y.1, a :: y.2.1, y.2.2 + 1)
    | _ => none
theorem map_use {A B : Type} {g : A → B} {x : Option A} {y : B} {C : B → Prop} (e : x.map g = some y) (h : ∀ z, x = some z → C (g z)) : C y := by
  cases x with
  | none => exact nomatch e
  | some z => exact Option.some.inj e ▸ h z rfl
theorem some_use {B : Type} {x y : B} {C : B → Prop} (e : some x = some y) (h : C x) : C y := Option.some.inj e ▸ h
noncomputable def PkC (w : World) (s : Shared) (q : Pos) (o : Obj) (m : Sem α) (y : α × List Addr × Nat) : Prop := (∀ b ∈ y.2.1, s.heap.get? b = some o) → Go w y.2.2 s q m y.1 s q
theorem PkC.one {s : Shared} {q : Pos} {o : Obj} {m k : Sem α} {z : α × List Addr × Nat} (h : PkC w s q o k z) (e : Go w z.2.2 s q k z.1 s q → Go w (1 + z.2.2) s q m z.1 s q) : PkC w s q o m (z.1, z.2.1, z.2.2 + 1) :=
  fun hl => (e (h hl)).le (Nat.le_of_eq (Nat.add_comm _ _))
theorem Go.peek {s : Shared} {q : Pos} {o : Obj} : ∀ {f : Nat} {m : Sem α} {y : α × List Addr × Nat}, peekO o ⟨pq, w.params⟩ f m = some y → PkC w s q o m y := by
  intro f
  induction f with
  | zero => intro m y e; exact nomatch (show none = some y from e)
  | succ f ih =>
    intro m y e
    unfold peekO at e
    split at e
    · exact some_use e fun _ => Go.pure
    · exact map_use e fun z hz => (ih hz).one fun h K H gd lv => (G.one rfl rfl rfl).trans (h K H gd lv)
    · exact map_use e fun z hz => (ih hz).one fun h K H gd lv => (G.one rfl rfl rfl).trans (h K H gd lv)
    · exact map_use e fun z hz => (ih hz).one fun h K H gd lv => (G.one rfl rfl rfl).trans (h K H gd lv)
    · exact map_use e fun z hz hl => (Go.bind (Go.loadPart (hl _ (.head _))) (ih hz (fun b hb => hl b (.tail _ hb)))).le (Nat.le_of_eq (Nat.add_comm _ _))
    · exact nomatch e
end
end
section
set_option maxRecDepth 100000
set_option maxHeartbeats 400000
noncomputable def hp (base l : List Obj) : Heap := ⟨(base ++ l).toArray, {}⟩
noncomputable def dobj (es : List DictEntry) (n : Nat) : Obj := ⟨.type "dict", none, .dict es.toArray n, #[]⟩
theorem hp_push (base l : List Obj) (o : Obj) : (hp base l).push o = hp base (l ++ [o]) := by
  unfold hp Heap.push; simp
theorem hp_size (base l : List Obj) : (hp base l).objs.size = base.length + l.length := by unfold hp; simp
theorem hp_get {base l : List Obj} {i : Nat} {es : List DictEntry} {n : Nat} (h : l[i]? = some (dobj es n)) : (hp base l).get? (base.length + i) = some (dobj es n) := by
  unfold hp Heap.get?
  rw [List.getElem?_toArray, List.getElem?_append_right (Nat.le_add_right _ _), Nat.add_sub_cancel_left, h]
  rfl
theorem modify_some {l : List Obj} {i : Nat} {o : Obj} {f : Obj → Obj} (h : l[i]? = some o) : l.modify i f = l.set i (f o) := by
  apply List.ext_getElem?
  intro j
  rw [List.getElem?_modify, List.getElem?_set]
  by_cases e : i = j
  · subst e
    have hi : i < l.length := by
      rcases Nat.lt_or_ge i l.length with q | q
      · exact q
      · rw [List.getElem?_eq_none q] at h; cases h
    have h' : l[i] = o := by rw [List.getElem?_eq_getElem hi] at h; exact Option.some.inj h
    simp [hi, h']
  · simp [e]
theorem hp_upd {base l : List Obj} {i : Nat} {o : Obj} {f : Obj → Obj} (h : l[i]? = some o) : (hp base l).update (base.length + i) f = hp base (l.set i (f o)) := by
  rw [← modify_some h]
  show Heap.mk ((base ++ l).toArray.modify (base.length + i) f) {} = Heap.mk (base ++ l.modify i f).toArray {}
  congr 1
  apply Array.ext_getElem?
  intro j
  rw [Array.getElem?_modify, List.getElem?_toArray, List.getElem?_toArray]
  rcases Nat.lt_or_ge j base.length with q | q
  · rw [List.getElem?_append_left q, List.getElem?_append_left q]
    have : base.length + i ≠ j := by omega
    simp [this]
  · rw [List.getElem?_append_right q, List.getElem?_append_right q, List.getElem?_modify]
    by_cases e : base.length + i = j
    · subst e; simp
    · have : i ≠ j - base.length := by omega
      simp [e, this]
noncomputable def st (base l : List Obj) (tk : Nat) (os : OsState) : Shared := ⟨hp base l, #[], {}, tk, os⟩
section
variable {w : World} {base l : List Obj} {tk : Nat} {os : OsState} {q : Pos} {d i : Nat} {es : List DictEntry} {n : Nat}
theorem go_entries {p : Option Value} (h : l[i]? = some (dobj es n)) (hd : d = base.length + i) : Go w 1 (st base l tk os) q (dictEntries d p) es.toArray (st base l tk os) q := by
  subst hd
  exact Go.bind (N := 1) (M := 0) (Go.loadPart (hp_get h)) Go.pure
theorem go_epoch {p : Option Value} (h : l[i]? = some (dobj es n)) (hd : d = base.length + i) : Go w 1 (st base l tk os) q (dictEpoch d p) n (st base l tk os) q := by
  subst hd
  exact Go.bind (N := 1) (M := 0) (Go.loadPart (hp_get h)) Go.pure
theorem places_nil {k : Int} (hne : ∀ e ∈ es, e.hash ≠ k) : placesWithHash es.toArray.size (fun i => es.toArray[i]?.map (·.hash)) k = [] := by
  unfold placesWithHash
  rw [List.filter_eq_nil_iff]
  intro j hj
  have hj' : j < es.length := by simpa using hj
  have : es.toArray[j]?.map (·.hash) = some (es[j].hash) := by simp [hj']
  show ¬ ((es.toArray[j]?.map (·.hash)) == some k) = true
  rw [this]
  have := hne es[j] (List.getElem_mem hj')
  simpa using this
theorem go_find {k : Int} {t : Tok} (h : l[i]? = some (dobj es n)) (hd : d = base.length + i) (hne : ∀ e ∈ es, e.hash ≠ k) :
    Go w 1 (st base l tk os) q (dictFind d (.int k t) k) none (st base l tk os) q := by
  unfold dictFind
  refine Go.holding _ (Go.bind (N := 1) (M := 0) (go_entries h hd) ?_)
  dsimp only
  rw [places_nil hne]
  exact Go.bind (N := 0) (M := 0) Go.pure Go.pure
theorem line_ok {es' : List DictEntry} {m : Nat} (hs : es'.length ≤ 1000) : (Data.dict es'.toArray m).pastItsLine = none := by
  unfold Data.pastItsLine
  have h1 : ¬ (es'.toArray.size > sizeLine + 1) := by
    rw [List.size_toArray]; unfold sizeLine
    have : (2 : Nat) ^ 24 = 16777216 := rfl
    omega
  exact if_neg h1
theorem go_keys {f : Array DictEntry → Array DictEntry} {p : Option Value} {es' : List DictEntry} (h : l[i]? = some (dobj es n)) (hd : d = base.length + i) (hb : 28 ≤ base.length) (he : f es.toArray = es'.toArray) (hs : es'.length ≤ 1000) :
    Go w 3 (st base l tk os) q (updateDictKeys d f p) () (st base (l.set i (dobj es' (n + 1))) tk os) q := by
  subst hd
  unfold updateDictKeys
  refine Go.bind (N := 1) (M := 2) (Go.loadPart (hp_get h)) ?_
  dsimp only [dobj]
  refine Go.bind (N := 1) (M := 1) (Go.updatePart (hp_get h) (Nat.ble_eq_true_of_le (by omega))) ?_
  have e : ({ st base l tk os with heap := (st base l tk os).heap.update (base.length + i) (Obj.mapDictKeys f) } : Shared) = st base (l.set i (dobj es' (n + 1))) tk os := by
    show (⟨(hp base l).update (base.length + i) (Obj.mapDictKeys f), #[], {}, tk, os⟩ : Shared) = _
    rw [hp_upd h]
    show (⟨hp base (l.set i (⟨.type "dict", none, .dict (f es.toArray) (n + 1), #[]⟩)), #[], {}, tk, os⟩ : Shared) = _
    rw [he]
    rfl
  rw [e]
  unfold lookBehind
  have hi : i < l.length := by
    rcases Nat.lt_or_ge i l.length with q | q
    · exact q
    · rw [List.getElem?_eq_none q] at h; cases h
  have h' : (l.set i (dobj es' (n + 1)))[i]? = some (dobj es' (n + 1)) := by simp [hi]
  refine Go.bind (N := 1) (M := 0) (Go.loadPart (hp_get h')) ?_
  have e2 : (dobj es' (n + 1)).data.pastItsLine = none := line_ok hs
  rw [e2]
  exact Go.pure
noncomputable def Lh (b : Bool) (w : World) (heap : Heap) (gens : Array GenState) (drawn : Drawn) (toks : Nat) (os : OsState) (q : Pos) (k : Int) (t : Tok) (K : Int → Sem Fin) (H : Value → Sem Fin) (gd : Bool → Bool) (lv : List Value → List Value) : Option (Shared × Thread) :=
  segGo treeTable pq (w.withFollow "special-get-raises" b) 28 An 1 5 ⟨heap, gens, drawn, toks, os⟩ ⟨(pyHash (.int k t)).wrap K H gd lv, cE, q, B0⟩
noncomputable def Rh (b : Bool) (w : World) (heap : Heap) (gens : Array GenState) (drawn : Drawn) (toks : Nat) (os : OsState) (q : Pos) (k : Int) (t : Tok) (K : Int → Sem Fin) (H : Value → Sem Fin) (gd : Bool → Bool) (lv : List Value → List Value) : Option (Shared × Thread) :=
  some (⟨heap, gens, drawn, toks + 1, os⟩, ⟨(pyHashByItsType.reduced (rawHash k)).wrap K H gd lv, cE, q, B0⟩)
theorem Lh_rfl : Lh = Lh := rfl
theorem Rh_rfl : Rh = Rh := rfl
name_quick lhq for Lh by Lh_rfl
name_quick rhq for Rh by Rh_rfl
theorem hash_f (w heap gens drawn toks os q k t K H gd lv) : Lh false w heap gens drawn toks os q k t K H gd lv = Rh false w heap gens drawn toks os q k t K H gd lv := by
  rw [PySem.W.Fast.lhq_eq, PySem.W.Fast.rhq_eq]; kernel_rfl
theorem hash_t (w heap gens drawn toks os q k t K H gd lv) : Lh true w heap gens drawn toks os q k t K H gd lv = Rh true w heap gens drawn toks os q k t K H gd lv := by
  rw [PySem.W.Fast.lhq_eq, PySem.W.Fast.rhq_eq]; kernel_rfl
theorem go_hash {k : Int} {t : Tok} (hk : hashInt k = k) : Go w 5 (st base l tk os) q (pyHash (.int k t)) k (st base l (tk + 1) os) q := by
  intro K H gd lv
  have h1 : G w 5 (st base l tk os) q ((pyHash (.int k t)).wrap K H gd lv) (st base l (tk + 1) os) q ((pyHashByItsType.reduced (rawHash k)).wrap K H gd lv) :=
    ⟨5, Nat.le_refl _, byRow2 "special-get-raises" (P := fun w => segGo treeTable pq w 28 An 1 5 (st base l tk os) ⟨(pyHash (.int k t)).wrap K H gd lv, cE, q, B0⟩ = some (st base l (tk + 1) os, ⟨(pyHashByItsType.reduced (rawHash k)).wrap K H gd lv, cE, q, B0⟩))
      (fun w => hash_f w (hp base l) #[] {} tk os q k t K H gd lv) (fun w => hash_t w (hp base l) #[] {} tk os q k t K H gd lv) w⟩
  refine G.trans (N := 5) (M := 0) h1 ?_
  have e : pyHashByItsType.reduced (rawHash k) = Pure.pure k := by
    have hr := rawHash_range k
    unfold pyHashByItsType.reduced
    rw [if_pos (by simp only [Bool.and_eq_true, decide_eq_true_eq]; exact ⟨hr.1, hr.2⟩)]
    unfold hashInt at hk
    show Pure.pure (if (rawHash k == -1) = true then -2 else rawHash k) = _
    rw [hk]
  rw [e]
  exact G.refl
theorem go_set {k : Int} {t : Tok} {v : Value} (h : l[i]? = some (dobj es n)) (hd : d = base.length + i) (hb : 28 ≤ base.length) (hk : hashInt k = k) (hne : ∀ e ∈ es, e.hash ≠ k) (hs : es.length < 1000) :
    Go w 10 (st base l tk os) q (dictSet d (.int k t) v) () (st base (l.set i (dobj (es ++ [⟨k, .int k t, v⟩]) (n + 1))) (tk + 1) os) q := by
  unfold dictSet
  refine Go.holding _ (Go.bind (N := 5) (M := 5) (go_hash hk) ?_)
  unfold dictSetHashed
  refine Go.holding _ (Go.bind (N := 1) (M := 4) (go_find h hd hne) ?_)
  dsimp only
  exact Go.bind (N := 1) (M := 3) Go.rule (go_keys h hd hb (by simp) (by simp; omega))
theorem go_put {k : Int} {t : Tok} {v : Value} (h : l[i]? = some (dobj es n)) (hd : d = base.length + i) (hb : 28 ≤ base.length) (hne : ∀ e ∈ es, e.hash ≠ k) (hs : es.length < 1000) :
    Go w 4 (st base l tk os) q (dictPut d k (.int k t) v) () (st base (l.set i (dobj (es ++ [⟨k, .int k t, v⟩]) (n + 1))) tk os) q := by
  unfold dictPut
  refine Go.bind (N := 1) (M := 3) (go_find h hd hne) ?_
  dsimp only
  exact go_keys h hd hb (by simp) (by simp; omega)
end
end
section
set_option maxRecDepth 100000
set_option maxHeartbeats 400000
section
variable {w : World} {γ β : Type}
theorem Go.forIn {f : γ → β → Sem (ForInStep β)} (c : Nat) : ∀ {xs : List γ} (n : Nat) (hn : xs.length = n) (b : Nat → β) (S : Nat → Shared) (P : Nat → Pos),
    (∀ i x, xs[i]? = some x → i < n → Go w c (S i) (P i) (f x (b i)) (.yield (b (i + 1))) (S (i + 1)) (P (i + 1))) →
    Go w (n * c) (S 0) (P 0) (forIn xs (b 0) f) (b n) (S n) (P n)
  | [], n, hn, b, S, P, _ => by subst hn; exact Go.le Go.pure (Nat.zero_le _)
  | x :: xs, n, hn, b, S, P, h => by
    subst hn
    rw [List.forIn_cons]
    refine Go.le (Go.bind (N := c) (M := xs.length * c) (h 0 x rfl (Nat.zero_lt_succ _)) ?_) (by rw [List.length_cons, Nat.succ_mul]; omega)
    exact Go.forIn c xs.length rfl (fun i => b (i + 1)) (fun i => S (i + 1)) (fun i => P (i + 1)) fun i y hy hi => h (i + 1) y (by rw [List.getElem?_cons_succ]; exact hy) (Nat.succ_lt_succ hi)
end
noncomputable def Lm (b : Bool) (w : World) (a : Addr) (es : List DictEntry) (n : Nat) : Option (Bool × List Addr × Nat) := peekO (dobj es n) ⟨pq, (w.withFollow "special-get-raises" b).params⟩ 8 (isInstance (.ref a) (.type "dict"))
noncomputable def Ln (b : Bool) (w : World) (a : Addr) (es : List DictEntry) (n : Nat) : Option (Option Value × List Addr × Nat) := peekO (dobj es n) ⟨pq, (w.withFollow "special-get-raises" b).params⟩ 8 (specialOf (.ref a) "__iter__")
theorem Lm_rfl : Lm = Lm := rfl
name_quick lmq for Lm by Lm_rfl
theorem Ln_rfl : Ln = Ln := rfl
name_quick lnq for Ln by Ln_rfl
theorem m_f (w a es n) : Lm false w a es n = some (true, [a], 1) := by rw [PySem.W.Fast.lmq_eq]; kernel_rfl
theorem m_t (w a es n) : Lm true w a es n = some (true, [a], 1) := by rw [PySem.W.Fast.lmq_eq]; kernel_rfl
theorem n_f (w a es n) : Ln false w a es n = some (some (.builtin "dict.__iter__"), [a], 1) := by rw [PySem.W.Fast.lnq_eq]; kernel_rfl
theorem n_t (w a es n) : Ln true w a es n = some (some (.builtin "dict.__iter__"), [a], 1) := by rw [PySem.W.Fast.lnq_eq]; kernel_rfl
section
variable {w : World} {base l : List Obj} {tk : Nat} {os : OsState} {q : Pos} {d i : Nat} {es : List DictEntry} {n : Nat}
theorem go_isdict {j : Nat} {a : Nat} (h : l[j]? = some (dobj es n)) (ha : a = base.length + j) : Go w 1 (st base l tk os) q (isInstance (.ref a) (.type "dict")) true (st base l tk os) q := by
  subst ha
  refine Go.peek (f := 8) (o := dobj es n) (y := (true, [base.length + j], 1)) ?_ ?_
  · exact byRow2 "special-get-raises" (P := fun w => peekO (dobj es n) ⟨pq, w.params⟩ 8 (isInstance (.ref (base.length + j)) (.type "dict")) = some (true, [base.length + j], 1)) (fun w => m_f w _ es n) (fun w => m_t w _ es n) w
  · intro b hb
    have : b = base.length + j := by simpa using hb
    subst this
    exact hp_get h
theorem go_iterOf {j : Nat} {a : Nat} (h : l[j]? = some (dobj es n)) (ha : a = base.length + j) : Go w 1 (st base l tk os) q (specialOf (.ref a) "__iter__") (some (.builtin "dict.__iter__")) (st base l tk os) q := by
  subst ha
  refine Go.peek (f := 8) (o := dobj es n) (y := (some (Value.builtin "dict.__iter__"), [base.length + j], 1)) ?_ ?_
  · exact byRow2 "special-get-raises" (P := fun w => peekO (dobj es n) ⟨pq, w.params⟩ 8 (specialOf (.ref (base.length + j)) "__iter__") = some (some (.builtin "dict.__iter__"), [base.length + j], 1)) (fun w => n_f w _ es n) (fun w => n_t w _ es n) w
  · intro b hb
    have : b = base.length + j := by simpa using hb
    subst this
    exact hp_get h
end
/-- one pair of the display -/
noncomputable abbrev dpos : Pos := ⟨59, 16, 59, 10000⟩
noncomputable def prK (k : Int) : Sem Value := mkInt k
noncomputable def prV (p : Pos) (x : Str) : Sem Value := do let v ← mkText x; standAt p; pure v
noncomputable def prs (p : Pos) (ps : List (Int × Str)) : List (Sem Value × Sem Value) := ps.map fun y => (prK y.1, prV p y.2)
theorem b3ents_snoc : ∀ (t : Nat) (ps : List (Int × Str)) (k : Int) (x : Str), b3ents t (ps ++ [(k, x)]) = b3ents t ps ++ [⟨k, .int k (t + 3 * ps.length), .str x (t + 3 * ps.length + 1)⟩]
  | t, [], k, x => by simp [b3ents]
  | t, (k', x') :: ps, k, x => by
    show _ :: b3ents (t + 3) (ps ++ [(k, x)]) = _ :: (b3ents (t + 3) ps ++ _)
    rw [b3ents_snoc (t + 3) ps k x]
    have e : t + 3 + 3 * ps.length = t + 3 * ((k', x') :: ps).length := by simp only [List.length_cons]; omega
    rw [e]
theorem b3ents_len : ∀ (t : Nat) (ps : List (Int × Str)), (b3ents t ps).length = ps.length
  | t, [] => rfl
  | t, (k', x') :: ps => by show (b3ents (t + 3) ps).length + 1 = _; rw [b3ents_len]; rfl
theorem b3ents_hash : ∀ (t : Nat) (ps : List (Int × Str)) (e : DictEntry), e ∈ b3ents t ps → ∃ y ∈ ps, e.hash = y.1
  | t, [], e, h => by cases h
  | t, (k', x') :: ps, e, h => by
    rcases List.mem_cons.mp h with rfl | h
    · exact ⟨_, .head _, rfl⟩
    · obtain ⟨y, hy, r⟩ := b3ents_hash (t + 3) ps e h
      exact ⟨y, .tail _ hy, r⟩
theorem take_snoc (ps : List (Int × Str)) (i : Nat) (hi : i < ps.length) : ps.take (i + 1) = ps.take i ++ [(ps[i].1, ps[i].2)] := by
  rw [List.take_add_one, List.getElem?_eq_getElem hi]; rfl
section
variable {w : World} {base l : List Obj} {tk : Nat} {os : OsState} {q p : Pos}
theorem go_pair {es : List DictEntry} {n i d : Nat} {k : Int} {x : Str} (h : l[i]? = some (dobj es n)) (hd : d = base.length + i) (hb : 28 ≤ base.length) (hk : hashInt k = k) (hne : ∀ e ∈ es, e.hash ≠ k) (hs : es.length < 1000) :
    Go w 13 (st base l tk os) q (do let kv ← prK k; let vv ← holding [kv] (prV p x); holding [kv, vv] (dictSet d kv vv); Pure.pure (ForInStep.yield PUnit.unit)) (ForInStep.yield PUnit.unit) (st base (l.set i (dobj (es ++ [⟨k, .int k tk, .str x (tk + 1)⟩]) (n + 1))) (tk + 3) os) p := by
  refine Go.bind (N := 1) (M := 12) (s1 := st base l (tk + 1) os) (q1 := q) (a := .int k tk) (Go.bind (N := 1) (M := 0) Go.fresh Go.pure) ?_
  refine Go.bind (N := 2) (M := 10) (s1 := st base l (tk + 2) os) (q1 := p) (a := .str x (tk + 1)) (Go.holding _ (Go.bind (N := 1) (M := 1) (Go.bind (N := 1) (M := 0) Go.fresh Go.pure) (Go.bind (N := 1) (M := 0) Go.at Go.pure))) ?_
  exact Go.bind (N := 10) (M := 0) (Go.holding _ (go_set h hd hb hk hne hs)) Go.pure
theorem prs_get {p : Pos} {ps : List (Int × Str)} {i : Nat} (h : i < (prs p ps).length) (h' : i < ps.length) : (prs p ps)[i] = (prK ps[i].1, prV p ps[i].2) := List.getElem_map ..
theorem go_sub {ps : List (Int × Str)} (hb : 28 ≤ base.length) (hl : 15 < ps.length) (hl2 : ps.length < 1000) (hk : ∀ y ∈ ps, hashInt y.1 = y.1) (hn : (ps.map (·.1)).Nodup) :
    Go w (2 + ps.length * 13) (st base l tk os) q (subDict (prs p ps)) (base.length + l.length) (st base (l ++ [dobj (b3ents tk ps) ps.length]) (tk + 3 * ps.length) os) p := by
  unfold subDict
  have e0 : ({ st base l tk os with heap := (st base l tk os).heap.push ({ cls := .type "dict", data := .dict #[] } : Obj) } : Shared) = st base (l ++ [dobj [] 0]) tk os := by
    show (⟨(hp base l).push _, #[], {}, tk, os⟩ : Shared) = _
    rw [hp_push]; rfl
  have e1 : (st base l tk os).heap.objs.size = base.length + l.length := hp_size base l
  refine Go.le (Go.bind (N := 1) (M := 1 + ps.length * 13) Go.alloc ?_) (by omega)
  rw [e0, e1]
  refine Go.bind (N := 1 + ps.length * 13) (M := 0) (a := ()) (s1 := st base (l ++ [dobj (b3ents tk ps) ps.length]) (tk + 3 * ps.length) os) (q1 := p) (Go.holding _ ?_) Go.pure
  have hlen : ¬ (prs p ps).length ≤ 15 := by unfold prs; rw [List.length_map]; omega
  rw [if_neg hlen]
  refine Go.bind (N := 1) (M := ps.length * 13) Go.rule ?_
  have hlp : (prs p ps).length = ps.length := by unfold prs; rw [List.length_map]
  have key := Go.forIn (w := w) (xs := prs p ps) (f := fun (y : Sem Value × Sem Value) (r : PUnit) => (do
      let kv ← y.1
      let vv ← holding [kv] y.2
      holding [kv, vv] (dictSet (base.length + l.length) kv vv)
      Pure.pure (ForInStep.yield PUnit.unit) : Sem (ForInStep PUnit))) 13 ps.length hlp (fun _ => PUnit.unit)
    (fun i => st base (l ++ [dobj (b3ents tk (ps.take i)) i]) (tk + 3 * i) os) (fun i => if i = 0 then q else p) ?_
  · rw [List.take_length] at key
    have e3 : (if ps.length = 0 then q else p) = p := if_neg (by omega)
    rw [e3] at key
    exact Go.bind (N := ps.length * 13) (M := 0) key Go.pure
  · intro i x hx hi
    have e4 : x = (prK ps[i].1, prV p ps[i].2) := by
      rw [List.getElem?_eq_getElem (by rw [hlp]; exact hi)] at hx
      exact (Option.some.inj hx).symm.trans (prs_get _ _)
    rw [e4, if_neg (Nat.succ_ne_zero i)]
    have h1 : (l ++ [dobj (b3ents tk (ps.take i)) i])[l.length]? = some (dobj (b3ents tk (ps.take i)) i) := by simp
    have hlt : (ps.take i).length = i := by rw [List.length_take]; omega
    have hne : ∀ e ∈ b3ents tk (ps.take i), e.hash ≠ ps[i].1 := by
      intro e he
      obtain ⟨y, hy, r⟩ := b3ents_hash _ _ _ he
      rw [r]
      intro q
      obtain ⟨j, hj, rfl⟩ := List.getElem_of_mem hy
      have hj' : j < i := by rw [hlt] at hj; exact hj
      rw [List.getElem_take] at q
      have := List.pairwise_iff_getElem.mp hn j i (by rw [List.length_map]; omega) (by rw [List.length_map]; exact hi) hj'
      rw [List.getElem_map, List.getElem_map] at this
      exact this q
    have g := go_pair (w := w) (base := base) (l := l ++ [dobj (b3ents tk (ps.take i)) i]) (tk := tk + 3 * i) (os := os) (q := if i = 0 then q else p) (p := p) (d := base.length + l.length) (x := ps[i].2) h1 rfl hb (hk _ (List.getElem_mem hi)) hne (by rw [b3ents_len, hlt]; omega)
    have e5 : (l ++ [dobj (b3ents tk (ps.take i)) i]).set l.length (dobj (b3ents tk (ps.take i) ++ [⟨ps[i].1, .int ps[i].1 (tk + 3 * i), .str ps[i].2 (tk + 3 * i + 1)⟩]) (i + 1)) = l ++ [dobj (b3ents tk (ps.take (i + 1))) (i + 1)] := by
      rw [take_snoc ps i hi, b3ents_snoc, hlt]
      simp
    rw [e5] at g
    have e6 : tk + 3 * i + 3 = tk + 3 * (i + 1) := by omega
    rw [e6] at g
    exact g
theorem ents_get : ∀ (t : Nat) (ps : List (Int × Str)) (i : Nat) (h : i < ps.length), (b3ents t ps)[i]? = some ⟨ps[i].1, .int ps[i].1 (t + 3 * i), .str ps[i].2 (t + 3 * i + 1)⟩
  | t, [], i, h => by cases h
  | t, (k, x) :: ps, 0, h => by simp [b3ents]
  | t, (k, x) :: ps, i + 1, h => by
    have := ents_get (t + 3) ps i (Nat.lt_of_succ_lt_succ h)
    simp only [b3ents, List.getElem?_cons_succ, List.getElem_cons_succ]
    rw [this]
    have e : t + 3 + 3 * i = t + 3 * (i + 1) := by omega
    rw [e]
theorem go_merge {ms : List DictEntry} {N : Nat} {subs : List Obj} {t' : Nat} {ps : List (Int × Str)} (hb : 28 ≤ base.length) (hm : ms ≠ []) (hn : (ps.map (·.1)).Nodup) (hne : ∀ y ∈ ps, ∀ e ∈ ms, e.hash ≠ y.1) (hs : ms.length + ps.length < 1000) (l2 : List DictEntry) (hl2 : l2.length = ps.length)
    (hget : ∀ i (h : i < ps.length), ∃ t x, l2[i]? = some ⟨ps[i].1, .int ps[i].1 t, .str ps[i].2 x⟩) :
    Go w (5 + ps.length * 6) (st base (dobj ms N :: (subs ++ [dobj l2 t'])) tk os) q (mergeMapping base.length (.ref (base.length + (subs.length + 1))) false) ()
      (st base (dobj (ms ++ l2) (N + ps.length) :: (subs ++ [dobj l2 t'])) tk os) q := by
  have hsub : ∀ (o : Obj), (o :: (subs ++ [dobj l2 t']))[subs.length + 1]? = some (dobj l2 t') := by intro o; simp
  unfold mergeMapping
  have hsys : ¬ (base.length + (subs.length + 1) == sysModules) = true := by
    rw [beq_iff_eq]; show base.length + (subs.length + 1) ≠ 1; omega
  have hem : ¬ ms.toArray.isEmpty = true := by cases ms with | nil => exact absurd rfl hm | cons _ _ => exact Bool.false_ne_true
  refine Go.le (Go.bind (N := 1) (M := 4 + ps.length * 6) (go_isdict (hsub _) rfl) ?_) (by omega)
  rw [if_pos rfl]
  refine Go.le (Go.bind (N := 1) (M := 3 + ps.length * 6) (go_iterOf (hsub _) rfl) ?_) (by omega)
  refine Go.le (Go.bind (N := 0) (M := 3 + ps.length * 6) Go.pure ?_) (by omega)
  rw [show (some (Value.builtin "dict.__iter__") == some (Value.builtin "dict.__iter__")) = true from beq_self_eq_true _]
  dsimp only
  rw [if_neg hsys]
  refine Go.le (Go.bind (N := 1) (M := 2 + ps.length * 6) (go_entries (i := 0) (es := ms) (n := N) rfl rfl) ?_) (by omega)
  rw [if_neg hem]
  refine Go.le (Go.bind (N := 1) (M := 1 + ps.length * 6) (go_entries (hsub _) rfl) ?_) (by omega)
  refine Go.le (Go.bind (N := 1) (M := ps.length * 6) (go_epoch (hsub _) rfl) ?_) (by omega)
  have hsz : (List.range l2.toArray.size).length = ps.length := by simp [hl2]
  refine Go.bind (N := ps.length * 6) (M := 0) (a := PUnit.unit) (s1 := st base (dobj (ms ++ l2) (N + ps.length) :: (subs ++ [dobj l2 t'])) tk os) (q1 := q) ?_ Go.pure
  have key := fun f => Go.forIn (w := w) (xs := List.range l2.toArray.size) (f := f) 6 ps.length hsz (fun _ => PUnit.unit)
    (fun i => st base (dobj (ms ++ l2.take i) (N + i) :: (subs ++ [dobj l2 t'])) tk os) (fun i => q)
  rw [List.take_zero, List.append_nil, Nat.add_zero, show l2.take ps.length = l2 from by rw [← hl2, List.take_length]] at key
  refine key _ ?_
  intro i y hy hi
  have hy' : i = y := by
    rw [List.getElem?_range (by rw [List.length_range] at hsz; omega)] at hy
    exact Option.some.inj hy
  subst hy'
  obtain ⟨t, x, hx⟩ := hget i hi
  refine Go.bind (N := 1) (M := 5) (go_entries (hsub _) rfl) ?_
  rw [show l2.toArray[i]? = some ⟨ps[i].1, .int ps[i].1 t, .str ps[i].2 x⟩ from by simpa using hx]
  dsimp only
  have hl : l2.take (i + 1) = l2.take i ++ [⟨ps[i].1, .int ps[i].1 t, .str ps[i].2 x⟩] := by rw [List.take_add_one, hx]; rfl
  refine Go.bind (N := 4) (M := 1) (a := ()) (s1 := st base (dobj (ms ++ l2.take (i + 1)) (N + (i + 1)) :: (subs ++ [dobj l2 t'])) tk os) (q1 := q) ?_ ?_
  · refine Go.holding _ ?_
    rw [if_neg Bool.false_ne_true]
    have g := go_put (w := w) (base := base) (l := dobj (ms ++ l2.take i) (N + i) :: (subs ++ [dobj l2 t'])) (tk := tk) (os := os) (q := q) (d := base.length) (i := 0) (t := t) (v := .str ps[i].2 x) (k := ps[i].1) rfl rfl hb ?_ ?_
    · rw [hl, ← List.append_assoc]
      exact g
    · intro e he
      rcases List.mem_append.mp he with he | he
      · exact hne _ (List.getElem_mem hi) e he
      · obtain ⟨j, hj, rfl⟩ := List.getElem_of_mem he
        have hj' : j < i := by rw [List.length_take] at hj; omega
        obtain ⟨t2, x2, hx2⟩ := hget j (by omega)
        have hj2 : j < l2.length := by omega
        rw [List.getElem_take]
        rw [List.getElem?_eq_getElem hj2] at hx2
        rw [Option.some.inj hx2]
        have := List.pairwise_iff_getElem.mp hn j i (by rw [List.length_map]; omega) (by rw [List.length_map]; exact hi) hj'
        rw [List.getElem_map, List.getElem_map] at this
        exact this
    · rw [List.length_append, List.length_take]; omega
  · refine Go.bind (N := 1) (M := 0) (go_epoch (hsub _) rfl) ?_
    rw [if_neg (by simp)]
    exact Go.pure
end
end
section
set_option maxRecDepth 100000
set_option maxHeartbeats 400000
theorem b3ents_app : ∀ (t : Nat) (a b : List (Int × Str)), b3ents t (a ++ b) = b3ents t a ++ b3ents (t + 3 * a.length) b
  | t, [], b => by simp [b3ents]
  | t, (k, x) :: a, b => by
    show _ :: b3ents (t + 3) (a ++ b) = _ :: (b3ents (t + 3) a ++ _)
    rw [b3ents_app (t + 3) a b]
    have e : t + 3 + 3 * a.length = t + 3 * ((k, x) :: a).length := by simp only [List.length_cons]; omega
    rw [e]
theorem b3last_snoc : ∀ (t : Nat) (ps : List (Int × Str)) (k : Int) (x : Str), b3last t (ps ++ [(k, x)]) = b3last t ps ++ [⟨k, .int k (t + 2 * ps.length), .str x (t + 2 * ps.length + 1)⟩]
  | t, [], k, x => by simp [b3last]
  | t, (k', x') :: ps, k, x => by
    show _ :: b3last (t + 2) (ps ++ [(k, x)]) = _ :: (b3last (t + 2) ps ++ _)
    rw [b3last_snoc (t + 2) ps k x]
    have e : t + 2 + 2 * ps.length = t + 2 * ((k', x') :: ps).length := by simp only [List.length_cons]; omega
    rw [e]
theorem b3last_len : ∀ (t : Nat) (ps : List (Int × Str)), (b3last t ps).length = ps.length
  | t, [] => rfl
  | t, (k', x') :: ps => by show (b3last (t + 2) ps).length + 1 = _; rw [b3last_len]; rfl
theorem b3last_hash : ∀ (t : Nat) (ps : List (Int × Str)) (e : DictEntry), e ∈ b3last t ps → ∃ y ∈ ps, e.hash = y.1
  | t, [], e, h => by cases h
  | t, (k', x') :: ps, e, h => by
    rcases List.mem_cons.mp h with rfl | h
    · exact ⟨_, .head _, rfl⟩
    · obtain ⟨y, hy, r⟩ := b3last_hash (t + 2) ps e h
      exact ⟨y, .tail _ hy, r⟩
theorem last_get : ∀ (t : Nat) (ps : List (Int × Str)) (i : Nat) (h : i < ps.length), (b3last t ps)[i]? = some ⟨ps[i].1, .int ps[i].1 (t + 2 * i), .str ps[i].2 (t + 2 * i + 1)⟩
  | t, [], i, h => by cases h
  | t, (k, x) :: ps, 0, h => by simp [b3last]
  | t, (k, x) :: ps, i + 1, h => by
    have := last_get (t + 2) ps i (Nat.lt_of_succ_lt_succ h)
    simp only [b3last, List.getElem?_cons_succ, List.getElem_cons_succ]
    rw [this]
    have e : t + 2 + 2 * i = t + 2 * (i + 1) := by omega
    rw [e]
noncomputable def vals (t : Nat) : List (Int × Str) → List (Value × Value)
  | [] => []
  | (k, x) :: r => (.int k t, .str x (t + 1)) :: vals (t + 2) r
theorem vals_len : ∀ (t : Nat) (ps : List (Int × Str)), (vals t ps).length = ps.length
  | t, [] => rfl
  | t, (k', x') :: ps => by show (vals (t + 2) ps).length + 1 = _; rw [vals_len]; rfl
theorem vals_get : ∀ (t : Nat) (ps : List (Int × Str)) (i : Nat) (h : i < ps.length), (vals t ps)[i]? = some (.int ps[i].1 (t + 2 * i), .str ps[i].2 (t + 2 * i + 1))
  | t, [], i, h => by cases h
  | t, (k, x) :: ps, 0, h => by simp [vals]
  | t, (k, x) :: ps, i + 1, h => by
    have := vals_get (t + 2) ps i (Nat.lt_of_succ_lt_succ h)
    simp only [vals, List.getElem?_cons_succ, List.getElem_cons_succ]
    rw [this]
    have e : t + 2 + 2 * i = t + 2 * (i + 1) := by omega
    rw [e]
section
variable {w : World} {base l : List Obj} {os : OsState} {q p : Pos}
theorem go_evals : ∀ (ps : List (Int × Str)) (tk : Nat) (q : Pos), Go w (ps.length * 3) (st base l tk os) q (evalPairs (prs p ps)) (vals tk ps) (st base l (tk + 2 * ps.length) os) (if ps = [] then q else p)
  | [], tk, q => Go.pure
  | (k, x) :: ps, tk, q => by
    show Go w _ (st base l tk os) q (do let kv ← prK k; let vv ← holding [kv] (prV p x); Pure.pure ((kv, vv) :: (← holding [kv, vv] (evalPairs (prs p ps))))) _ _ _
    refine Go.le (Go.bind (N := 1) (M := 2 + ps.length * 3) (s1 := st base l (tk + 1) os) (q1 := q) (a := .int k tk) (Go.bind (N := 1) (M := 0) Go.fresh Go.pure) ?_) (by rw [List.length_cons]; omega)
    refine Go.bind (N := 2) (M := ps.length * 3) (s1 := st base l (tk + 2) os) (q1 := p) (a := .str x (tk + 1)) (Go.holding _ (Go.bind (N := 1) (M := 1) (Go.bind (N := 1) (M := 0) Go.fresh Go.pure) (Go.bind (N := 1) (M := 0) Go.at Go.pure))) ?_
    have h := go_evals ps (tk + 2) p
    have e1 : tk + 2 + 2 * ps.length = tk + 2 * ((k, x) :: ps).length := by simp only [List.length_cons]; omega
    have e2 : (if ps = [] then p else p) = if (k, x) :: ps = [] then q else p := by simp
    rw [e1, e2] at h
    exact Go.bind (N := ps.length * 3) (M := 0) (Go.holding _ h) Go.pure
theorem go_subShort {tk : Nat} {ps : List (Int × Str)} (hb : 28 ≤ base.length) (h0 : ps ≠ []) (hl : ps.length ≤ 15) (hk : ∀ y ∈ ps, hashInt y.1 = y.1) (hn : (ps.map (·.1)).Nodup) :
    Go w (1 + ps.length * 13) (st base l tk os) q (subDict (prs p ps)) (base.length + l.length) (st base (l ++ [dobj (b3last tk ps) ps.length]) (tk + 3 * ps.length) os) p := by
  unfold subDict
  have e0 : ({ st base l tk os with heap := (st base l tk os).heap.push ({ cls := .type "dict", data := .dict #[] } : Obj) } : Shared) = st base (l ++ [dobj [] 0]) tk os := by
    show (⟨(hp base l).push _, #[], {}, tk, os⟩ : Shared) = _
    rw [hp_push]; rfl
  have e1 : (st base l tk os).heap.objs.size = base.length + l.length := hp_size base l
  refine Go.bind (N := 1) (M := ps.length * 13) Go.alloc ?_
  rw [e0, e1]
  refine Go.bind (N := ps.length * 13) (M := 0) (a := ()) (s1 := st base (l ++ [dobj (b3last tk ps) ps.length]) (tk + 3 * ps.length) os) (q1 := p) (Go.holding _ ?_) Go.pure
  have hlen : (prs p ps).length ≤ 15 := by unfold prs; rw [List.length_map]; omega
  rw [if_pos hlen]
  have hev := go_evals (w := w) (base := base) (l := l ++ [dobj [] 0]) (os := os) (p := p) ps tk q
  rw [if_neg h0] at hev
  refine Go.le (Go.bind (N := ps.length * 3) (M := ps.length * 10) hev (Go.holding _ ?_)) (by omega)
  have key := Go.forIn (w := w) (xs := vals tk ps) (f := fun (y : Value × Value) (r : PUnit) => (do
      dictSet (base.length + l.length) y.1 y.2
      Pure.pure (ForInStep.yield PUnit.unit) : Sem (ForInStep PUnit))) 10 ps.length (vals_len tk ps) (fun _ => PUnit.unit)
    (fun i => st base (l ++ [dobj (b3last tk (ps.take i)) i]) (tk + 2 * ps.length + i) os) (fun i => p) ?_
  · rw [List.take_length] at key
    have e3 : tk + 2 * ps.length + ps.length = tk + 3 * ps.length := by omega
    rw [e3] at key
    exact Go.bind (N := ps.length * 10) (M := 0) key Go.pure
  · intro i x hx hi
    rw [vals_get tk ps i hi] at hx
    have e4 := (Option.some.inj hx).symm
    rw [e4]
    dsimp only
    have h1 : (l ++ [dobj (b3last tk (ps.take i)) i])[l.length]? = some (dobj (b3last tk (ps.take i)) i) := by simp
    have hlt : (ps.take i).length = i := by rw [List.length_take]; omega
    have hne : ∀ e ∈ b3last tk (ps.take i), e.hash ≠ ps[i].1 := by
      intro e he
      obtain ⟨y, hy, r⟩ := b3last_hash _ _ _ he
      rw [r]
      intro q
      obtain ⟨j, hj, rfl⟩ := List.getElem_of_mem hy
      have hj' : j < i := by rw [hlt] at hj; exact hj
      rw [List.getElem_take] at q
      have := List.pairwise_iff_getElem.mp hn j i (by rw [List.length_map]; omega) (by rw [List.length_map]; exact hi) hj'
      rw [List.getElem_map, List.getElem_map] at this
      exact this q
    have g := go_set (w := w) (base := base) (l := l ++ [dobj (b3last tk (ps.take i)) i]) (tk := tk + 2 * ps.length + i) (os := os) (q := p) (d := base.length + l.length) (k := ps[i].1) (t := tk + 2 * i) (v := .str ps[i].2 (tk + 2 * i + 1)) h1 rfl hb (hk _ (List.getElem_mem hi)) hne (by rw [b3last_len, hlt]; omega)
    have e5 : (l ++ [dobj (b3last tk (ps.take i)) i]).set l.length (dobj (b3last tk (ps.take i) ++ [⟨ps[i].1, .int ps[i].1 (tk + 2 * i), .str ps[i].2 (tk + 2 * i + 1)⟩]) (i + 1)) = l ++ [dobj (b3last tk (ps.take (i + 1))) (i + 1)] := by
      rw [take_snoc ps i hi, b3last_snoc, hlt]
      simp
    rw [e5] at g
    exact Go.bind (N := 10) (M := 0) g Go.pure
noncomputable def fl (run : List (Sem Value × Sem Value)) (main : Option Addr) : Sem (Option Addr) :=
  if run.isEmpty = true then Pure.pure main
  else
    match main with
    | none => do
      let d ← subDict run
      Pure.pure (some d)
    | some d => do
      let sub ← holding [Value.ref d] (subDict run)
      (holding [Value.ref d, Value.ref sub] (mergeMapping d (Value.ref sub) false)).onRaise fun x => do
          let _ ← holding [Value.ref d, x] (runValue (Code.builtin "proto.let_go" { }))
          Pure.pure ()
      Pure.pure (some d)
theorem prs_ne {ps : List (Int × Str)} (h : ps ≠ []) : ¬ (prs p ps).isEmpty = true := by
  cases ps with
  | nil => exact absurd rfl h
  | cons _ _ => exact Bool.false_ne_true
theorem go_fl0 {tk : Nat} {ps : List (Int × Str)} (hb : 28 ≤ base.length) (hl : 15 < ps.length) (hl2 : ps.length < 1000) (hk : ∀ y ∈ ps, hashInt y.1 = y.1) (hn : (ps.map (·.1)).Nodup) :
    Go w (2 + ps.length * 13) (st base [] tk os) q (fl (prs p ps) none) (some base.length) (st base [dobj (b3ents tk ps) ps.length] (tk + 3 * ps.length) os) p := by
  have h0 : ps ≠ [] := by rintro rfl; cases hl
  unfold fl
  rw [if_neg (prs_ne h0)]
  exact Go.bind (N := 2 + ps.length * 13) (M := 0) (go_sub (l := []) hb hl hl2 hk hn) Go.pure
theorem go_fl {tk N : Nat} {ms : List DictEntry} {subs : List Obj} {ps : List (Int × Str)} (hb : 28 ≤ base.length) (hl : 15 < ps.length) (hl2 : ps.length < 1000) (hk : ∀ y ∈ ps, hashInt y.1 = y.1) (hn : (ps.map (·.1)).Nodup)
    (hm : ms ≠ []) (hne : ∀ y ∈ ps, ∀ e ∈ ms, e.hash ≠ y.1) (hs : ms.length + ps.length < 1000) :
    Go w (7 + ps.length * 19) (st base (dobj ms N :: subs) tk os) q (fl (prs p ps) (some base.length)) (some base.length) (st base (dobj (ms ++ b3ents tk ps) (N + ps.length) :: (subs ++ [dobj (b3ents tk ps) ps.length])) (tk + 3 * ps.length) os) p := by
  have h0 : ps ≠ [] := by rintro rfl; cases hl
  unfold fl
  rw [if_neg (prs_ne h0)]
  refine Go.le (Go.bind (N := 2 + ps.length * 13) (M := 5 + ps.length * 6) (Go.holding _ (go_sub hb hl hl2 hk hn)) ?_) (by omega)
  exact Go.bind (N := 5 + ps.length * 6) (M := 0) (Go.onRaise _ (Go.holding _ (go_merge hb hm hn hne hs _ (b3ents_len _ _) fun i h => ⟨_, _, ents_get _ _ i h⟩))) Go.pure
theorem go_flS {tk N : Nat} {ms : List DictEntry} {subs : List Obj} {ps : List (Int × Str)} (hb : 28 ≤ base.length) (h0 : ps ≠ []) (hl : ps.length ≤ 15) (hk : ∀ y ∈ ps, hashInt y.1 = y.1) (hn : (ps.map (·.1)).Nodup)
    (hm : ms ≠ []) (hne : ∀ y ∈ ps, ∀ e ∈ ms, e.hash ≠ y.1) (hs : ms.length + ps.length < 1000) :
    Go w (7 + ps.length * 19) (st base (dobj ms N :: subs) tk os) q (fl (prs p ps) (some base.length)) (some base.length) (st base (dobj (ms ++ b3last tk ps) (N + ps.length) :: (subs ++ [dobj (b3last tk ps) ps.length])) (tk + 3 * ps.length) os) p := by
  unfold fl
  rw [if_neg (prs_ne h0)]
  refine Go.le (Go.bind (N := 1 + ps.length * 13) (M := 5 + ps.length * 6) (Go.holding _ (go_subShort hb h0 hl hk hn)) ?_) (by omega)
  exact Go.bind (N := 5 + ps.length * 6) (M := 0) (Go.onRaise _ (Go.holding _ (go_merge hb hm hn hne hs _ (b3last_len _ _) fun i h => ⟨_, _, last_get _ _ i h⟩))) Go.pure
noncomputable def subC (t : Nat) (ps : List (Int × Str)) (c : Nat) : List Obj := (List.range (c - 1)).map fun j => dobj (b3ents (t + 51 * (j + 1)) ((ps.drop (17 * (j + 1))).take 17)) 17
noncomputable def Sc (base : List Obj) (t : Nat) (os : OsState) (ps : List (Int × Str)) (c : Nat) : Shared :=
  if c = 0 then st base [] t os else st base (dobj (b3ents t (ps.take (17 * c))) (17 * c) :: subC t ps c) (t + 51 * c) os
theorem go_chunk {t c : Nat} {ps : List (Int × Str)} (hb : 28 ≤ base.length) (hl2 : ps.length < 1000) (hk : ∀ y ∈ ps, hashInt y.1 = y.1) (hn : (ps.map (·.1)).Nodup) (hc : 17 * (c + 1) ≤ ps.length) :
    Go w 330 (Sc base t os ps c) q (fl (prs p ((ps.drop (17 * c)).take 17)) (if c = 0 then none else some base.length)) (some base.length) (Sc base t os ps (c + 1)) p := by
  have hlen : ((ps.drop (17 * c)).take 17).length = 17 := by rw [List.length_take, List.length_drop]; omega
  have hsub : ((ps.drop (17 * c)).take 17).Sublist ps := (List.take_sublist _ _).trans (List.drop_sublist _ _)
  have hk' : ∀ y ∈ (ps.drop (17 * c)).take 17, hashInt y.1 = y.1 := fun y hy => hk y (hsub.subset hy)
  have hn' : (((ps.drop (17 * c)).take 17).map (·.1)).Nodup := hn.sublist (hsub.map _)
  unfold Sc
  rw [if_neg (Nat.succ_ne_zero c)]
  by_cases h0 : c = 0
  · subst h0
    rw [if_pos rfl, if_pos rfl]
    have g := go_fl0 (w := w) (base := base) (os := os) (q := q) (p := p) (tk := t) hb (by rw [hlen]; omega) (by rw [hlen]; omega) hk' hn'
    rw [hlen] at g
    exact g.le (by omega)
  · rw [if_neg h0, if_neg h0]
    have e1 : ps.take (17 * (c + 1)) = ps.take (17 * c) ++ (ps.drop (17 * c)).take 17 := by rw [show 17 * (c + 1) = 17 * c + 17 by omega, List.take_add]
    have hl1 : (ps.take (17 * c)).length = 17 * c := by rw [List.length_take]; omega
    have g := go_fl (w := w) (base := base) (os := os) (q := q) (p := p) (tk := t + 51 * c) (N := 17 * c) (ms := b3ents t (ps.take (17 * c))) (subs := subC t ps c) hb (by rw [hlen]; omega) (by rw [hlen]; omega) hk' hn' ?_ ?_ ?_
    · rw [hlen] at g
      have e2 : b3ents t (ps.take (17 * (c + 1))) = b3ents t (ps.take (17 * c)) ++ b3ents (t + 51 * c) ((ps.drop (17 * c)).take 17) := by
        rw [e1, b3ents_app, hl1, show t + 3 * (17 * c) = t + 51 * c by omega]
      have e3 : subC t ps (c + 1) = subC t ps c ++ [dobj (b3ents (t + 51 * c) ((ps.drop (17 * c)).take 17)) 17] := by
        unfold subC
        obtain ⟨d, rfl⟩ : ∃ d, c = d + 1 := ⟨c - 1, by omega⟩
        rw [show d + 1 + 1 - 1 = d + 1 by omega, show d + 1 - 1 = d by omega, List.range_succ, List.map_append]
        rfl
      rw [e2, e3, show 17 * (c + 1) = 17 * c + 17 by omega, show t + 51 * (c + 1) = t + 51 * c + 3 * 17 by omega]
      exact g.le (by omega)
    · intro e
      have := congrArg List.length e
      rw [b3ents_len, hl1] at this
      simp at this
      omega
    · intro y hy e he q
      obtain ⟨z, hz, r⟩ := b3ents_hash _ _ _ he
      rw [r] at q
      have hsp : ps.map (·.1) = (ps.take (17 * c)).map (·.1) ++ (ps.drop (17 * c)).map (·.1) := by rw [← List.map_append, List.take_append_drop]
      rw [hsp] at hn
      exact (List.nodup_append.mp hn).2.2 z.1 (List.mem_map_of_mem hz) y.1 (List.mem_map_of_mem (List.mem_of_mem_take hy)) q
    · rw [b3ents_len, hl1, hlen]; omega
noncomputable def items (p : Pos) (ps : List (Int × Str)) : List (Option (Sem Value) × Sem Value) := ps.map fun y => (some (prK y.1), prV p y.2)
theorem go_display {t C : Nat} {ps : List (Int × Str)} (hb : 28 ≤ base.length) (hl2 : ps.length < 1000) (hk : ∀ y ∈ ps, hashInt y.1 = y.1) (hn : (ps.map (·.1)).Nodup) (hC : ps.length / 17 = C) (h1 : 1 ≤ C) (hr : 0 < ps.length % 17) (hr' : ps.length % 17 ≤ 15) :
    Go w (ps.length * 330 + 330) (st base [] t os) q (dictDisplay (items p ps)) (.ref base.length)
      (st base (dobj (b3ents t (ps.take (17 * C)) ++ b3last (t + 51 * C) (ps.drop (17 * C))) ps.length :: (subC t ps C ++ [dobj (b3last (t + 51 * C) (ps.drop (17 * C))) (ps.length - 17 * C)])) (t + 51 * C + 3 * (ps.length - 17 * C)) os) p := by
  unfold dictDisplay
  have hil : (items p ps).length = ps.length := by unfold items; rw [List.length_map]
  have hC17 : ¬ ps.length < 17 := by omega
  have hC0 : C ≠ 0 := by omega
  have hdl : (ps.drop (17 * C)).length = ps.length - 17 * C := List.length_drop
  have hsub : (ps.drop (17 * C)).Sublist ps := List.drop_sublist _ _
  have hl1 : (ps.take (17 * C)).length = 17 * C := by rw [List.length_take]; omega
  refine Go.bind (N := ps.length * 330) (M := 330) (a := ((some base.length : Option Addr), prs p (ps.drop (17 * C)))) (s1 := Sc base t os ps C) (q1 := p) ?_ ?_
  · have key := fun f => Go.forIn (w := w) (xs := items p ps) (f := f) 330 ps.length hil (fun i => ((if i < 17 then none else some base.length : Option Addr), prs p ((ps.take i).drop (17 * (i / 17)))))
      (fun i => Sc base t os ps (i / 17)) (fun i => if i < 17 then q else p)
    rw [if_neg hC17, if_neg hC17, List.take_length, hC] at key
    refine key _ ?_
    intro i x hx hi
    have hx' : x = (some (prK ps[i].1), prV p ps[i].2) := by
      unfold items at hx
      rw [List.getElem?_map, List.getElem?_eq_getElem hi] at hx
      exact (Option.some.inj hx).symm
    rw [hx']
    dsimp only
    have e1 : prs p ((ps.take i).drop (17 * (i / 17))) ++ [(prK ps[i].1, prV p ps[i].2)] = prs p ((ps.take (i + 1)).drop (17 * (i / 17))) := by
      rw [take_snoc ps i hi, List.drop_append_of_le_length (by rw [List.length_take]; omega)]
      unfold prs
      rw [List.map_append]; rfl
    rw [e1]
    have e2 : (prs p ((ps.take (i + 1)).drop (17 * (i / 17)))).length = i % 17 + 1 := by
      unfold prs
      rw [List.length_map, List.length_drop, List.length_take]; omega
    by_cases h16 : i % 17 = 16
    · have c16 : ((prs p ((ps.take (i + 1)).drop (17 * (i / 17)))).length == 17) = true := by rw [e2, h16]; rfl
      rw [if_pos c16]
      have hc : (i + 1) / 17 = i / 17 + 1 := by omega
      have e3 : (ps.take (i + 1)).drop (17 * (i / 17)) = (ps.drop (17 * (i / 17))).take 17 := by
        rw [List.drop_take]; congr 1; omega
      have e4 : (if i < 17 then none else some base.length : Option Addr) = if i / 17 = 0 then none else some base.length := by
        by_cases h : i < 17
        · rw [if_pos h, if_pos (by omega)]
        · rw [if_neg h, if_neg (by omega)]
      rw [e3, e4, hc, if_neg (show ¬ i + 1 < 17 by omega), if_neg (show ¬ i + 1 < 17 by omega)]
      have e5 : prs p ((ps.take (i + 1)).drop (17 * (i / 17 + 1))) = [] := by
        rw [List.drop_eq_nil_of_le (by rw [List.length_take]; omega)]; rfl
      rw [e5]
      exact Go.bind (N := 330) (M := 0) (go_chunk hb hl2 hk hn (by omega)) Go.pure
    · have c16 : ¬ ((prs p ((ps.take (i + 1)).drop (17 * (i / 17)))).length == 17) = true := by rw [e2, beq_iff_eq]; omega
      rw [if_neg c16]
      have hc : (i + 1) / 17 = i / 17 := by omega
      rw [hc]
      by_cases h : i < 17
      · rw [if_pos h, if_pos h, if_pos (show i + 1 < 17 by omega), if_pos (show i + 1 < 17 by omega)]
        exact Go.le Go.pure (Nat.zero_le _)
      · rw [if_neg h, if_neg h, if_neg (show ¬ i + 1 < 17 by omega), if_neg (show ¬ i + 1 < 17 by omega)]
        exact Go.le Go.pure (Nat.zero_le _)
  · dsimp only
    unfold Sc
    rw [if_neg hC0]
    have hnl : ps.drop (17 * C) ≠ [] := by
      intro e
      have := congrArg List.length e
      rw [hdl] at this
      simp at this
      omega
    have g := go_flS (w := w) (base := base) (os := os) (q := p) (p := p) (tk := t + 51 * C) (N := 17 * C) (ms := b3ents t (ps.take (17 * C))) (subs := subC t ps C) hb hnl (by rw [hdl]; omega) (fun y hy => hk y (hsub.subset hy)) (hn.sublist (hsub.map _)) ?_ ?_ ?_
    · rw [hdl] at g
      rw [show 17 * C + (ps.length - 17 * C) = ps.length by omega] at g
      exact Go.bind (N := 330) (M := 0) (g.le (by omega)) Go.pure
    · intro e
      have := congrArg List.length e
      rw [b3ents_len, hl1] at this
      simp at this
      omega
    · intro y hy e he q
      obtain ⟨z, hz, r⟩ := b3ents_hash _ _ _ he
      rw [r] at q
      have hsp : ps.map (·.1) = (ps.take (17 * C)).map (·.1) ++ (ps.drop (17 * C)).map (·.1) := by rw [← List.map_append, List.take_append_drop]
      rw [hsp] at hn
      exact (List.nodup_append.mp hn).2.2 z.1 (List.mem_map_of_mem hz) y.1 (List.mem_map_of_mem hy) q
    · rw [b3ents_len, hl1, hdl]; omega
end
end
section
set_option maxRecDepth 100000
set_option maxHeartbeats 400000
noncomputable def u217 (P : Params) : BT := (.node (o3v4 P) (u112 P) (u117 P))
noncomputable def u218 (P : Params) : BT := (.node (o1v0 P) (u217 P) (u129 P))
noncomputable def T21m (P : Params) : BT := (.node (o0v0 P) (u218 P) (u154 P))
noncomputable def S21m (w : World) (os : OsState) : SharedT := ⟨T21m w.params, 177, {}, #[], {}, 2492, os⟩
noncomputable def b3st : List Stmt := sts 21 1
noncomputable def b3t : List Expr := match b3st with
  | [PySem.Stmt.Assign ts _ _] => ts
  | _ => []
noncomputable def b3hv : Expr := match b3st with
  | [PySem.Stmt.Assign _ v _] => v
  | _ => .Constant .none 0 default
noncomputable def b3p : Pos := match b3st with
  | [PySem.Stmt.Assign _ _ p] => p
  | _ => default
noncomputable def b3dp : Pos := match b3hv with
  | .Dict _ _ p => p
  | _ => default
noncomputable def b3rest (v : Value) : Sem Flow := do
  let x ← swappedStores b3t b3hv env0
  assignStores env0 v x ((assignEach b3t env0).map (·.2))
noncomputable def b3tree : Sem Flow := do
  standAt b3p
  let v ← (do standAt b3dp; dictDisplay (items b3dp b3pairs))
  b3rest v
noncomputable def Lx : Sem Flow := execs b3st env0
noncomputable def Rx : Sem Flow := do
  match ← b3tree with
  | .next => Pure.pure .next
  | f => Pure.pure f
theorem Lx_rfl : Lx = Lx := rfl
theorem Rx_rfl : Rx = Rx := rfl
name_quick lxq for Lx by Lx_rfl
name_quick rxq for Rx by Rx_rfl
theorem tree_ok : Lx = Rx := by rw [PySem.W.Fast.lxq_eq, PySem.W.Fast.rxq_eq]; kernel_rfl
noncomputable def inc : Int → List (Int × Str) → Bool
  | _, [] => true
  | a, (k, _) :: r => decide (a < k) && inc k r
theorem inc_nodup : ∀ (a : Int) (l : List (Int × Str)), inc a l = true → (∀ y ∈ l, a < y.1) ∧ (l.map (·.1)).Nodup
  | a, [], _ => ⟨fun y h => (nomatch h), List.nodup_nil⟩
  | a, (k, x) :: r, h => by
    unfold inc at h
    obtain ⟨h1, h2⟩ := Bool.and_eq_true_iff.mp h
    have h1 := of_decide_eq_true h1
    obtain ⟨i1, i2⟩ := inc_nodup k r h2
    refine ⟨fun y hy => ?_, ?_⟩
    · rcases List.mem_cons.mp hy with rfl | hy
      · exact h1
      · have := i1 y hy; omega
    · rw [List.map_cons, List.nodup_cons]
      refine ⟨fun hm => ?_, i2⟩
      obtain ⟨y, hy, e⟩ := List.mem_map.mp hm
      have := i1 y hy
      dsimp only at e
      omega
noncomputable def Lc : Bool × Bool × Nat := (inc 0 b3pairs, b3pairs.all (fun y => hashInt y.1 == y.1), b3pairs.length)
theorem Lc_rfl : Lc = Lc := rfl
name_quick lcq for Lc by Lc_rfl
theorem facts : Lc = (true, true, 650) := by rw [PySem.W.Fast.lcq_eq]; kernel_rfl
theorem f_nodup : (b3pairs.map (·.1)).Nodup := (inc_nodup 0 b3pairs (congrArg Prod.fst facts)).2
theorem f_hash : ∀ y ∈ b3pairs, hashInt y.1 = y.1 := fun y hy => by
  have h : b3pairs.all (fun y => hashInt y.1 == y.1) = true := congrArg (fun z => z.2.1) facts
  exact beq_iff_eq.mp (List.all_eq_true.mp h y hy)
theorem f_len : b3pairs.length = 650 := congrArg (fun z => z.2.2) facts
noncomputable def base20 (P : Params) : List Obj := (T20 P).list 138
theorem base20_len (P : Params) : (base20 P).length = 138 := by unfold base20 BT.list; rw [List.length_map, List.length_range]
theorem st20 (w : World) (os : OsState) : (S20 w os).abs = st (base20 w.params) [] 542 os := by
  show (⟨⟨((T20 w.params).list 138).toArray, {}⟩, #[], {}, 542, os⟩ : Shared) = ⟨⟨((T20 w.params).list 138 ++ []).toArray, {}⟩, #[], {}, 542, os⟩
  rw [List.append_nil]
theorem st21m (w : World) (os : OsState) : st (base20 w.params) (dobj (b3ents 542 (b3pairs.take (17 * 38)) ++ b3last (542 + 51 * 38) (b3pairs.drop (17 * 38))) 650 :: (subC 542 b3pairs 38 ++ [dobj (b3last (542 + 51 * 38) (b3pairs.drop (17 * 38))) (650 - 17 * 38)])) (542 + 51 * 38 + 3 * (650 - 17 * 38)) os = (S21m w os).abs := by kernel_rfl
noncomputable def Ls (w : World) (os : OsState) (K : Flow → Sem Fin) (H : Value → Sem Fin) (gd : Bool → Bool) (lv : List Value → List Value) : Option (SharedT × Thread) := segGoT treeTable pq w 28 An 1 7 (S21m w os) ⟨(b3rest (.ref 138)).wrap K H gd lv, cE, b3dp, B0⟩
noncomputable def Rs (w : World) (os : OsState) (K : Flow → Sem Fin) (H : Value → Sem Fin) (gd : Bool → Bool) (lv : List Value → List Value) : Option (SharedT × Thread) := some (S21 w os, ⟨K .next, cE, ⟨59, 0, 59, 13⟩, B0⟩)
theorem Ls_rfl : Ls = Ls := rfl
theorem Rs_rfl : Rs = Rs := rfl
name_quick lsq for Ls by Ls_rfl
name_quick rsq for Rs by Rs_rfl
theorem store_ok (w os K H gd lv) : Ls w os K H gd lv = Rs w os K H gd lv := by rw [PySem.W.Fast.lsq_eq, PySem.W.Fast.rsq_eq]; kernel_rfl
theorem go_store (w : World) (os : OsState) : Go w 7 (S21m w os).abs b3dp (b3rest (.ref 138)) .next (S21 w os).abs ⟨59, 0, 59, 13⟩ := by
  intro K H gd lv
  have h := store_ok w os K H gd lv
  unfold Ls Rs at h
  exact ⟨7, Nat.le_refl _, segGo_of h⟩
theorem go_b3 (w : World) (os : OsState) : Go w 214850 (S20 w os).abs ⟨57, 0, 58, 30⟩ Rx .next (S21 w os).abs ⟨59, 0, 59, 13⟩ := by
  have hd := go_display (w := w) (base := base20 w.params) (os := os) (q := b3dp) (p := b3dp) (t := 542) (C := 38) (ps := b3pairs) (by rw [base20_len]; omega) (by rw [f_len]; omega) f_hash f_nodup (by rw [f_len]) (by omega) (by rw [f_len]; omega) (by rw [f_len]; omega)
  rw [f_len, st21m, base20_len, ← st20] at hd
  unfold Rx b3tree
  refine Go.le (Go.bind (N := 214840) (M := 0) (Go.le (Go.bind (N := 1) (M := 1 + (650 * 330 + 330) + 7) Go.at (Go.bind (N := 1 + (650 * 330 + 330)) (M := 7) (Go.bind (N := 1) (M := 650 * 330 + 330) Go.at hd) (go_store w os))) (by omega)) ?_) (by omega)
  exact Go.pure
theorem piece21 (w : World) (os : OsState) : ∃ n, n ≤ 214851 ∧ segRun treeTable pq w 28 An 1 n (S20 w os).abs (piecesOf (sts 21 1) env0 cE ⟨57, 0, 58, 30⟩ B0) = some (.next, (S21 w os).abs, cE, ⟨59, 0, 59, 13⟩) := by
  obtain ⟨n, hn, h⟩ := go_b3 w os doneF deadEnd id id
  rw [← tree_ok] at h
  exact ⟨n + 1, by omega, seg_go h rfl⟩
end
section
set_option maxRecDepth 100000
set_option maxHeartbeats 4000000
noncomputable def mkF (fd : FuncData) (pm code : Value) : FuncData := match fd with
  | ⟨n, q, p, b, s, _, _, _, _, _, _, _, _, _, _⟩ => ⟨n, q, p, b, s, 3, [], .none, .none, .none, pm, none, code, .none, 0⟩
structure IsFn (k : Nat) (pm code : Value) (f : FuncData) : Prop where
  eq : mkF (fdW k) pm code = f
noncomputable def f39 : { f : FuncData // IsFn 3 (.str (Str.ofString "cpy313.dis") 282) (.ref 38) f } := ⟨_, ⟨by conv => lhs; whnf⟩⟩
noncomputable def f46 : { f : FuncData // IsFn 4 (.str (Str.ofString "cpy313.dis") 282) (.ref 45) f } := ⟨_, ⟨by conv => lhs; whnf⟩⟩
noncomputable def f53 : { f : FuncData // IsFn 6 (.str (Str.ofString "cpy313.operator") 334) (.ref 52) f } := ⟨_, ⟨by conv => lhs; whnf⟩⟩
noncomputable def f60 : { f : FuncData // IsFn 7 (.str (Str.ofString "cpy313.operator") 334) (.ref 59) f } := ⟨_, ⟨by conv => lhs; whnf⟩⟩
noncomputable def f67 : { f : FuncData // IsFn 8 (.str (Str.ofString "cpy313.operator") 334) (.ref 66) f } := ⟨_, ⟨by conv => lhs; whnf⟩⟩
noncomputable def f74 : { f : FuncData // IsFn 9 (.str (Str.ofString "cpy313.operator") 334) (.ref 73) f } := ⟨_, ⟨by conv => lhs; whnf⟩⟩
noncomputable def f81 : { f : FuncData // IsFn 10 (.str (Str.ofString "cpy313.operator") 334) (.ref 80) f } := ⟨_, ⟨by conv => lhs; whnf⟩⟩
noncomputable def f88 : { f : FuncData // IsFn 11 (.str (Str.ofString "cpy313.operator") 334) (.ref 87) f } := ⟨_, ⟨by conv => lhs; whnf⟩⟩
noncomputable def f95 : { f : FuncData // IsFn 12 (.str (Str.ofString "cpy313.operator") 334) (.ref 94) f } := ⟨_, ⟨by conv => lhs; whnf⟩⟩
noncomputable def f102 : { f : FuncData // IsFn 13 (.str (Str.ofString "cpy313.operator") 334) (.ref 101) f } := ⟨_, ⟨by conv => lhs; whnf⟩⟩
noncomputable def f119 : { f : FuncData // IsFn 18 (.str (Str.ofString "cpy313.smtplib") 404) (.ref 118) f } := ⟨_, ⟨by conv => lhs; whnf⟩⟩
noncomputable def f137 : { f : FuncData // IsFn 21 (.str (Str.ofString "cpy313.stringprep") 473) (.ref 136) f } := ⟨_, ⟨by conv => lhs; whnf⟩⟩
noncomputable def f183 : { f : FuncData // IsFn 23 (.str (Str.ofString "cpy313.stringprep") 473) (.ref 182) f } := ⟨_, ⟨by conv => lhs; whnf⟩⟩
noncomputable def f188 : { f : FuncData // IsFn 25 (.str (Str.ofString "law_ta0050_01") 2501) (.ref 187) f } := ⟨_, ⟨by conv => lhs; whnf⟩⟩
noncomputable def f193 : { f : FuncData // IsFn 26 (.str (Str.ofString "law_ta0050_01") 2501) (.ref 192) f } := ⟨_, ⟨by conv => lhs; whnf⟩⟩
noncomputable def f200 : { f : FuncData // IsFn 27 (.str (Str.ofString "law_ta0050_01") 2501) (.ref 199) f } := ⟨_, ⟨by conv => lhs; whnf⟩⟩
noncomputable def f205 : { f : FuncData // IsFn 28 (.str (Str.ofString "law_ta0050_01") 2501) (.ref 204) f } := ⟨_, ⟨by conv => lhs; whnf⟩⟩
noncomputable def f210 : { f : FuncData // IsFn 29 (.str (Str.ofString "law_ta0050_01") 2501) (.ref 209) f } := ⟨_, ⟨by conv => lhs; whnf⟩⟩
noncomputable def f217 : { f : FuncData // IsFn 30 (.str (Str.ofString "law_ta0050_01") 2501) (.ref 216) f } := ⟨_, ⟨by conv => lhs; whnf⟩⟩
noncomputable def f222 : { f : FuncData // IsFn 31 (.str (Str.ofString "law_ta0050_01") 2501) (.ref 221) f } := ⟨_, ⟨by conv => lhs; whnf⟩⟩
noncomputable def f227 : { f : FuncData // IsFn 32 (.str (Str.ofString "law_ta0050_01") 2501) (.ref 226) f } := ⟨_, ⟨by conv => lhs; whnf⟩⟩
noncomputable def K (P : Params) : Frag := (nat_lit 2, o2v0 P) :: (nat_lit 3, o3v6 P) :: (nat_lit 32, o32v0 P) :: (nat_lit 33, o33v0 P) :: (nat_lit 35, o35v0 P) :: (nat_lit 36, o36v0 P) :: (nat_lit 38, o38v0 P) :: (nat_lit 39, ⟨.type "function", none, .func f39.val, #[]⟩) :: (nat_lit 40, o40v0 P) :: (nat_lit 42, o42v0 P) :: (nat_lit 43, o43v0 P) :: (nat_lit 45, o45v0 P) :: (nat_lit 46, ⟨.type "function", none, .func f46.val, #[]⟩) :: (nat_lit 47, o47v0 P) :: (nat_lit 49, o49v0 P) :: (nat_lit 50, o50v0 P) :: (nat_lit 52, o52v0 P) :: (nat_lit 53, ⟨.type "function", none, .func f53.val, #[]⟩) :: (nat_lit 54, o54v0 P) :: (nat_lit 56, o56v0 P) :: (nat_lit 57, o57v0 P) :: (nat_lit 59, o59v0 P) :: (nat_lit 60, ⟨.type "function", none, .func f60.val, #[]⟩) :: (nat_lit 61, o61v0 P) :: (nat_lit 63, o63v0 P) :: (nat_lit 64, o64v0 P) :: (nat_lit 66, o66v0 P) :: (nat_lit 67, ⟨.type "function", none, .func f67.val, #[]⟩) :: (nat_lit 68, o68v0 P) :: (nat_lit 70, o70v0 P) :: (nat_lit 71, o71v0 P) :: (nat_lit 73, o73v0 P) :: (nat_lit 74, ⟨.type "function", none, .func f74.val, #[]⟩) :: (nat_lit 75, o75v0 P) :: (nat_lit 77, o77v0 P) :: (nat_lit 78, o78v0 P) :: (nat_lit 80, o80v0 P) :: (nat_lit 81, ⟨.type "function", none, .func f81.val, #[]⟩) :: (nat_lit 82, o82v0 P) :: (nat_lit 84, o84v0 P) :: (nat_lit 85, o85v0 P) :: (nat_lit 87, o87v0 P) :: (nat_lit 88, ⟨.type "function", none, .func f88.val, #[]⟩) :: (nat_lit 89, o89v0 P) :: (nat_lit 91, o91v0 P) :: (nat_lit 92, o92v0 P) :: (nat_lit 94, o94v0 P) :: (nat_lit 95, ⟨.type "function", none, .func f95.val, #[]⟩) :: (nat_lit 96, o96v0 P) :: (nat_lit 98, o98v0 P) :: (nat_lit 99, o99v0 P) :: (nat_lit 101, o101v0 P) :: (nat_lit 102, ⟨.type "function", none, .func f102.val, #[]⟩) :: (nat_lit 106, o106v0 P) :: (nat_lit 107, o107v0 P) :: (nat_lit 111, o111v0 P) :: (nat_lit 112, o112v0 P) :: (nat_lit 113, o113v0 P) :: (nat_lit 115, o115v0 P) :: (nat_lit 116, o116v0 P) :: (nat_lit 118, o118v0 P) :: (nat_lit 119, ⟨.type "function", none, .func f119.val, #[]⟩) :: (nat_lit 127, o127v0 P) :: (nat_lit 131, o131v0 P) :: (nat_lit 133, o133v0 P) :: (nat_lit 134, o134v0 P) :: (nat_lit 136, o136v0 P) :: (nat_lit 137, ⟨.type "function", none, .func f137.val, #[]⟩) :: (nat_lit 138, o138v0 P) :: (nat_lit 177, o177v0 P) :: (nat_lit 179, o179v0 P) :: (nat_lit 180, o180v0 P) :: (nat_lit 182, o182v0 P) :: (nat_lit 183, ⟨.type "function", none, .func f183.val, #[]⟩) :: (nat_lit 184, o184v0 P) :: (nat_lit 187, o187v0 P) :: (nat_lit 188, ⟨.type "function", none, .func f188.val, #[]⟩) :: (nat_lit 189, o189v0 P) :: (nat_lit 192, o192v0 P) :: (nat_lit 193, ⟨.type "function", none, .func f193.val, #[]⟩) :: (nat_lit 194, o194v0 P) :: (nat_lit 196, o196v0 P) :: (nat_lit 197, o197v0 P) :: (nat_lit 199, o199v0 P) :: (nat_lit 200, ⟨.type "function", none, .func f200.val, #[]⟩) :: (nat_lit 201, o201v0 P) :: (nat_lit 204, o204v0 P) :: (nat_lit 205, ⟨.type "function", none, .func f205.val, #[]⟩) :: (nat_lit 206, o206v0 P) :: (nat_lit 209, o209v0 P) :: (nat_lit 210, ⟨.type "function", none, .func f210.val, #[]⟩) :: (nat_lit 211, o211v0 P) :: (nat_lit 213, o213v0 P) :: (nat_lit 214, o214v0 P) :: (nat_lit 216, o216v0 P) :: (nat_lit 217, ⟨.type "function", none, .func f217.val, #[]⟩) :: (nat_lit 218, o218v0 P) :: (nat_lit 221, o221v0 P) :: (nat_lit 222, ⟨.type "function", none, .func f222.val, #[]⟩) :: (nat_lit 223, o223v0 P) :: (nat_lit 226, o226v0 P) :: (nat_lit 227, ⟨.type "function", none, .func f227.val, #[]⟩) :: []
noncomputable def kas : List Addr := [2, 3, 32, 33, 35, 36, 38, 39, 40, 42, 43, 45, 46, 47, 49, 50, 52, 53, 54, 56, 57, 59, 60, 61, 63, 64, 66, 67, 68, 70, 71, 73, 74, 75, 77, 78, 80, 81, 82, 84, 85, 87, 88, 89, 91, 92, 94, 95, 96, 98, 99, 101, 102, 106, 107, 111, 112, 113, 115, 116, 118, 119, 127, 131, 133, 134, 136, 137, 138, 177, 179, 180, 182, 183, 184, 187, 188, 189, 192, 193, 194, 196, 197, 199, 200, 201, 204, 205, 206, 209, 210, 211, 213, 214, 216, 217, 218, 221, 222, 223, 226, 227]
theorem kas_ok : ∀ P, kas = (K P).map (·.1) := fun P => by kernel_rfl
noncomputable def qBody : List Stmt := [0, 2, 3, 4, 6, 7, 8, 9, 10, 11, 12, 13, 15, 16, 17, 18, 20, 21, 23, 25, 26, 27, 28, 29, 30, 31, 32].filterMap fun i => pw.main.body[i]?
noncomputable def q : Program := { pw with main := { pw.main with body := qBody } }
noncomputable def loose : List Str := [Str.ofString "COMPILER_FLAG_NAMES", Str.ofString "_twin_re_1", Str.ofString "_twin_re_2", Str.ofString "b1_set", Str.ofString "b3_exceptions"]
noncomputable def qqBody : List Stmt := [0, 2, 3, 4, 6, 7, 8, 9, 10, 11, 12, 13, 15, 16, 17, 18, 20, 21, 23, 25, 26, 27, 28, 29, 30, 31, 32].filterMap fun i => pq.main.body[i]?
noncomputable def qq : Program := { pq with main := { pq.main with body := qqBody } }
theorem q_is : q = qq := congrArg (fun p : Program => ({ p with main := { p.main with body := [0, 2, 3, 4, 6, 7, 8, 9, 10, 11, 12, 13, 15, 16, 17, 18, 20, 21, 23, 25, 26, 27, 28, 29, 30, 31, 32].filterMap fun i => p.main.body[i]? } } : Program)) pw_is
noncomputable def looseM : List Str := loose ++ [Str.ofString "_sre"]
theorem looseM_eq : looseW q loose = looseM := by rw [q_is]; kernel_rfl
noncomputable abbrev row : OpenRow := PySem.Challenge.rw_ta0050_01.row
noncomputable abbrev Xt : Shared → Bool := fun s => xlAt q [] s && recOk (RowW.records row.toRowW) s
noncomputable abbrev H : Hook := kHook K kas kas_ok
end
section
set_option maxRecDepth 100000
set_option maxHeartbeats 4000000
noncomputable abbrev F1 (w : World) (os : OsState) : Shared := ⟨heapF w.params, #[], {}, 2561, os⟩
noncomputable def A1 (w : World) (os : OsState) : Bool := staticsOk (importedModules pq.main.body) (heap0 w.params) (heapF w.params) && namesBound pq (heapF w.params) && gensDone (F1 w os) && laidKept (heap0 w.params) (heapF w.params)
theorem A1_rfl : A1 = A1 := rfl
name_quick a1q for A1 by A1_rfl
theorem look1 (w os) : A1 w os = true := by rw [PySem.W.Fast.a1q_eq]; kernel_rfl
noncomputable def Xq : Shared → Bool := fun s => xlAt qq [] s && recOk [] s
theorem Xt_is : Xt = Xq := by
  funext s
  show (xlAt q [] s && recOk [] s) = (xlAt qq [] s && recOk [] s)
  rw [q_is]
noncomputable def A2 (w : World) (os : OsState) := openSeen qq loose (importedModules pq.main.body) Xq true (F1 w os)
noncomputable def B2 (w : World) (os : OsState) := openGood qq loose
theorem A2_rfl : A2 = A2 := rfl
theorem B2_rfl : B2 = B2 := rfl
name_quick a2q for A2 by A2_rfl
theorem look2q (w os) : A2 w os = B2 w os := by rw [PySem.W.Fast.a2q_eq]; kernel_rfl
theorem look2 (w : World) (os : OsState) : openSeen q loose (importedModules pq.main.body) Xt true (F1 w os) = openGood q loose := by
  rw [Xt_is, q_is]
  exact look2q w os
theorem look3 (w os) : H.obs (F1 w os) = H.val w := by kernel_rfl
noncomputable def Lg (w : World) : Bool × Nat × Option Value := ((heap0 w.params).isNs mainGlobals && (#[] : Array GenState).size == 0, (heap0 w.params).objs.size, (heap0 w.params).nsMap mainGlobals "__annotations__")
theorem Lg_rfl : Lg = Lg := rfl
name_quick lgq for Lg by Lg_rfl
theorem size0 (w : World) : Lg w = (true, 28, some (.ref 6)) := by rw [PySem.W.Fast.lgq_eq]; kernel_rfl
theorem run0 (w : World) (os : OsState) : ∃ M, M ≤ 250000 ∧ topRun treeTable pq w 28 An M ⟨heap0 w.params, #[], {}, 276, os⟩ (topStub pq) = some (F1 w os) := by
  obtain ⟨n21, hn, h21⟩ := piece21 w os
  have hp := pre_ok w os
  have hk := block_ok w os
  have hz := fin_ok w os
  have h9 := piece9 w os
  have h18 := piece18 w os
  have h19 := piece19 w os
  have h20 := piece20 w os
  have h31 := piece31 w os
  unfold Lp Rp at hp
  unfold Lk Rk at hk
  unfold Lz Rz at hz
  unfold L9 R9 at h9
  unfold L18 R18 at h18
  unfold L19 R19 at h19
  unfold L20 R20 at h20
  unfold L31 R31 at h31
  have k := piece_app (segRun_of h31) (piece_nil hz)
  have k := piece_app h21 k
  have k := piece_app (segRun_of h20) k
  have k := piece_app (segRun_of h19) k
  have k := piece_app (segRun_of h18) k
  have k := piece_app (segRun_of h9) k
  rw [← body_is] at k
  exact ⟨_, by omega, go_top hp (piece_block hk k)⟩
theorem run1 (w : World) (os : OsState) : topRun treeTable pq w 28 An 250000 ⟨heap0 w.params, #[], {}, 276, os⟩ (topStub pq) = some ⟨heapF w.params, #[], {}, 2561, os⟩ := by
  obtain ⟨M, hM, h⟩ := run0 w os
  have := topRun_mono (250000 - M) _ _ _ _ h
  rw [show M + (250000 - M) = 250000 by omega] at this
  exact this
end
section
set_option maxRecDepth 100000
set_option maxHeartbeats 4000000
noncomputable abbrev Yo (s : Shared) := (H.obs s, s.toks)
noncomputable abbrev Yv (w : World) := (H.val w, 2561)
theorem looksT (w : World) : (fun os => ((staticsOk (importedModules pq.main.body) (heap0 w.params) (heapF w.params) && namesBound pq (heapF w.params) && gensDone ⟨heapF w.params, #[], {}, 2561, os⟩ && laidKept (heap0 w.params) (heapF w.params)),
        openSeen q loose (importedModules pq.main.body) Xt true ⟨heapF w.params, #[], {}, 2561, os⟩, Yo ⟨heapF w.params, #[], {}, 2561, os⟩)) = fun _ => (true, openGood q loose, Yv w) := by
  funext os
  have h1 := look1 w os
  have h2 := look2 w os
  have h3 := look3 w os
  unfold A1 at h1
  unfold Yo Yv
  rw [h1, h2, h3]
theorem leftTq : LeftO pq q loose Xt Yo Yv NN true :=
  LeftO.of_pieces (H₀ := heap0) (H₁ := heapF) (gs₀ := #[]) (gs₁ := #[]) (d₀ := {}) (d₁ := {}) (k₀ := 276) (k₁ := 2561) (m₀ := 28) (ann := An) (M := 250000)
    opened size0 run1 (by decide) looksT
theorem leftT : LeftO pw q loose Xt Yo Yv NN true := (congrArg (fun p => LeftO p q loose Xt Yo Yv NN true) pw_is).mpr leftTq
/-- the walk's premises for this law: WalkO with the tokens drawn so far -/
noncomputable abbrev WalkT (d : DefRec) (kwd : List (Str × Expr)) : Prop :=
  ∀ (w : World) (s₀ s₁ : Shared) (mg mb : Str → Option Value), Ground q loose PySem.Challenge.rw_ta0050_01.row.records (XL q []) w s₀ mg mb s₁.heap → H.says w s₁.heap → 2561 ≤ s₁.toks → ∀ (a : Addr) (o : Obj) (pm cd doc dV kV : Value), s₁.heap.get? a = some o →
    o.data = .func { docDef d.name d.params d.body d.scope pm cd doc with defaults := dV, kwdefaults := kV } → s₁.heap.CodeRec cd d.name → Dflts mg s₁.heap d.params kwd dV kV → mg d.name = some (.ref a) → s₁.gens = #[] →
    ∀ (args : List WData) (vals : List Value) (as : List Addr), row.claim.pre args = true → WData.layableAll args = true → ReadsAllW row.records (classAt s₀.heap) s₁.heap vals args as → WellAll w.params s₁.heap vals args → (∀ a ∈ as, (a == sysModules) = false) →
      wpAny (model row.prog w) callerA (PySem.call (.ref a) vals) (fun v s' => GoodWG row.claim (classAt s₀.heap) (ExcName.means s₀.heap) args s₁ (.ok (.ret v)) s')
        (fun e s' => GoodWG row.claim (classAt s₀.heap) (ExcName.means s₀.heap) args s₁ (.error e) s') s₁
theorem holdsT {r : OpenRow} (hr : r = row) {d : DefRec} {kwd : List (Str × Expr)} (hdef : defOf q r.name = some (d, kwd)) (hp : r.prog.theDef r.name = some (d.params, d.body, d.scope))
    (hk : kwWritten? d.params.kwonlyargs d.params.kw_defaults = some kwd) (hwr : (!r.writes || r.records.isEmpty) = true) (k1 : r.wellSaid = true)
    (ok : (chainsOk q && opensWell r.prog && (frees r.toRowW && r.within.isEmpty)) = true) (hb : r.prog.bare) (hw : r.toRowW.promised) (walk : WalkT d kwd) : r.Holds := by
  subst hr
  obtain ⟨ok1, ok2⟩ := Bool.and_eq_true_iff.mp ok
  obtain ⟨hch, o1⟩ := Bool.and_eq_true_iff.mp ok1
  obtain ⟨k5, k6⟩ := Bool.and_eq_true_iff.mp ok2
  obtain ⟨hsame, hu, ha, hap, hm⟩ := frees_parts k5
  have hwi : row.claim.within = [] := List.isEmpty_iff.mp k6
  have hi := ident_freeW (r := row.toRowW) hu ha hap
  refine ⟨k1, hw, ⟨hb, o1, ?_⟩, hw.witness, fun w => ?_⟩
  · rfl
  have bh := leftT.behind (XP := fun mg h => XL q [] mg h ∧ RecFacts row.records h) (fun s hs => ⟨xl_of s (Bool.and_eq_true_iff.mp hs).1, recFacts_of (Bool.and_eq_true_iff.mp hs).2⟩) hch w
  refine ⟨bh.1, fun s' hs' => ?_⟩
  obtain ⟨s₀, hf, hg0, s, hT, hz, hgens, hg, G00, y⟩ := bh.2 s' hs'
  have G0 : Ground q loose [] (XL q []) w s (s.heap.nsMap mainGlobals) (s.heap.nsMap builtinsNs) s.heap :=
    { T := G00.T, B := G00.B, D := G00.D, TE := G00.TE, TD := G00.TD, W := G00.W, X := G00.X.1, cls := G00.cls, has := G00.has, apart := G00.apart, once := G00.once, K := G00.K }
  have RF := G00.X.2
  have hgens : s.gens = #[] := Array.eq_empty_of_size_eq_zero (beq_iff_eq.mp hgens)
  refine ⟨s₀, hf, hg0, s, hT, fun n hn => ?_, RF.1, RF.2.1, ClaimW.callFrom_of_specG (c := row.claim) hz hgens fun args hpre hlay ord hord => ?_⟩
  · have hn' : n = row.name := by split at hn <;> simp_all
    rw [hn']
    exact pinned_of_view hg G0 hdef hp hk
  have G : Ground q loose row.records (XL q []) w s _ _ s.heap := RF.ground G0
  obtain ⟨⟨vs, s₁⟩, hlaid⟩ := Option.isSome_iff_exists.mp (layAllW_isSome (P := w.params) (ord := ord) G.has args row.args s (pre_splitW hpre).1)
  have gr := layAllW_grows _ _ _ hlaid
  have keeps := gr.keeps
  have hal := layAllW_rest _ _ _ hlaid
  obtain ⟨as, hrd, hin, hold⟩ := reads_layAllW hord _ _ _ hlaid hlay s₁.heap (fun _ _ e => e)
  have L : Laid row.records w s s₁ args vs as := { laid := ⟨ord, hord, hlaid⟩, reads := hrd, within := hin, old := hold, keeps := keeps, gens := hal.1.trans hgens, os := hal.2.2.1 }
  have G₁ := G.keeps XL.keeps keeps
  have y1 : H.obs s = H.val w := congrArg Prod.fst y
  have y2 : s.toks = 2561 := congrArg Prod.snd y
  obtain ⟨a, o, pm, cd, doc, dV, kV, h1, h2, h3, h4, h5⟩ := G₁.fn hdef
  have h := walk w s s₁ _ _ G₁ (Hook.keeps H w _ _ (Hook.of H w s y1) keeps) (by have g' : s.toks ≤ s₁.toks := gr.toks; omega) a o pm cd doc dV kV h2 h3 h4 h5 (defOf_name hdef ▸ h1) L.gens args vs as hpre hlay L.reads L.well (L.low G.low)
  refine ⟨vs, s₁, hlaid, wpAny_bind (wpAny_nsGet G₁.T.g ?_)⟩
  rw [h1]
  have fin : ∀ r s', GoodWG row.claim (classAt s.heap) (ExcName.means s.heap) args s₁ r s' → _ := fun r s' g => g.laid (c := row.claim) hsame hwi hi L
  exact wpAny_bind (wpAny_mono h (fun v s' g => wpAny_pure ⟨_, rfl, (fin _ _ g).1, (fin _ _ g).2.1, (fin _ _ g).2.2, fun q => ⟨namesKept_of hT hg _ keeps g.2.1.old, noTable hwr q⟩⟩)
    fun e s' g => ⟨(fin _ _ g).1, (fin _ _ g).2.1, (fin _ _ g).2.2, fun q => ⟨namesKept_of hT hg _ keeps g.2.1.old, noTable hwr q⟩⟩)
end
section
set_option maxRecDepth 100000
set_option maxHeartbeats 4000000
theorem setGen_toks (s : Shared) (g : Nat) (x : GenState) : (s.setGen g x).toks = s.toks := rfl
theorem runs_toks {M : Model} {Γ : PySem.Ctx} {p : Pos} {t : Sem PySem.Fin} {fs : List Frame} {s : Shared} {e : End} {s' : Shared} (h : Runs M Γ p t fs s e s') : s.toks ≤ s'.toks := by
  induction h with
  | done | raise | yield => exact Nat.le_refl _
  | callSusp _ ih => exact ih
  | call _ _ ih1 ih2 => exact Nat.le_trans ih1 ih2
  | resumeFresh _ _ _ _ ih1 ih2 => simp only [setGen_toks] at *; omega
  | resumeSuspended _ _ _ _ ih1 ih2 => simp only [setGen_toks] at *; omega
  | resumeThrowFresh _ _ ih => simp only [setGen_toks] at *; omega
  | segRet _ _ ih1 ih2 => exact Nat.le_trans ih1 ih2
  | segGen _ _ ih1 ih2 => simp only [setGen_toks] at *; omega
  | segSuspOut _ _ ih => exact ih
  | segSuspGen _ _ _ _ ih1 ih2 => simp only [setGen_toks] at *; omega
  | fresh _ ih => simp only at ih; omega
  | _ => rename_i ih; exact ih
theorem wakes_toks {M : Model} {Γ : PySem.Ctx} {p : Pos} {g : Nat} {r : Resume} {s : Shared} {res : GenResult} {s' : Shared} (h : Wakes M Γ p g r s res s') : s.toks ≤ s'.toks := by
  unfold Wakes at h
  split at h
  · exact h.elim
  · split at h
    · obtain ⟨e₁, s₁, h₁, _, _, rfl⟩ := h
      have := runs_toks h₁
      simp only [setGen_toks] at *; omega
    · rw [h.2]; exact Nat.le_refl _
    · rw [h.2]; exact Nat.le_refl _
  · obtain ⟨e₁, s₁, h₁, _, _, rfl⟩ := h
    have := runs_toks h₁
    simp only [setGen_toks] at *; omega
  · rw [h.2]; exact Nat.le_refl _
  · rw [h.2]; exact Nat.le_refl _
theorem wp_toks {α : Type} {M : Model} {Γ : PySem.Ctx} (t : Sem α) : ∀ {Q : α → Pos → Shared → Prop} {E : Value → Pos → Shared → Prop} {p : Pos} {s : Shared}, Sem.wp M Γ t Q E p s →
    Sem.wp M Γ t (fun a p' s' => s.toks ≤ s'.toks ∧ Q a p' s') (fun e p' s' => s.toks ≤ s'.toks ∧ E e p' s') p s := by
  have up : ∀ {α : Type} (t : Sem α) {Q : α → Pos → Shared → Prop} {E : Value → Pos → Shared → Prop} {p : Pos} {s s₀ : Shared}, s₀.toks ≤ s.toks →
      Sem.wp M Γ t (fun a p' s' => s.toks ≤ s'.toks ∧ Q a p' s') (fun e p' s' => s.toks ≤ s'.toks ∧ E e p' s') p s → Sem.wp M Γ t (fun a p' s' => s₀.toks ≤ s'.toks ∧ Q a p' s') (fun e p' s' => s₀.toks ≤ s'.toks ∧ E e p' s') p s :=
    fun t _ _ _ _ _ h0 h => Sem.wp_mono M Γ t (fun _ _ _ q => ⟨Nat.le_trans h0 q.1, q.2⟩) (fun _ _ _ q => ⟨Nat.le_trans h0 q.1, q.2⟩) _ _ h
  induction t with
  | pure x => intro Q E p s h; exact ⟨Nat.le_refl _, h⟩
  | raise v => intro Q E p s h; exact ⟨Nat.le_refl _, h⟩
  | unsupported | finish | yield | fork | await | register => intro Q E p s h; exact h
  | rule _ k ih | «at» _ k ih | alloc _ k ih | loadIfAlive _ k ih | point _ k ih | ask k ih | os _ _ k ih | handled _ k ih | newGen _ k ih | stack k ih | thread k ih => intro Q E p s h; exact ih _ h
  | fresh k ih =>
    intro Q E p s h
    rw [Sem.wp_fresh] at h ⊢
    exact up _ (s := { s with toks := s.toks + 1 }) (Nat.le_succ _) (ih _ h)
  | load a _ k ih => rintro Q E p s ⟨o, ho, h⟩; exact ⟨o, ho, ih _ h⟩
  | genState g k ih => rintro Q E p s ⟨o, ho, h⟩; exact ⟨o, ho, ih _ h⟩
  | update a _ f k ih => rintro Q E p s ⟨ha, h⟩; exact ⟨ha, ih _ h⟩
  | choose _ _ k ih => rintro Q E p s ⟨ha, h⟩; exact ⟨ha, ih _ h⟩
  | call c h g l k ih =>
    rintro Q E p s ⟨r, s', hr, hk⟩
    exact ⟨r, s', hr, up _ (runs_toks hr) (ih _ hk)⟩
  | resume g r l k ih =>
    rintro Q E p s ⟨res, s', hw, h⟩
    exact ⟨res, s', hw, up _ (wakes_toks hw) (ih _ h)⟩
theorem wpAny_toks {α : Type} {M : Model} {A : Around} {t : Sem α} {Q : α → Shared → Prop} {E : Value → Shared → Prop} {s : Shared} (h : wpAny M A t Q E s) :
    wpAny M A t (fun a s' => s.toks ≤ s'.toks ∧ Q a s') (fun e s' => s.toks ≤ s'.toks ∧ E e s') s := fun Γ p hΓ => wp_toks t (h Γ p hΓ)
/-- what is behind a tree may lean on tokens being drawn already -/
theorem pos {α : Type} {M : Model} {A : Around} {t : Sem α} {Q : α → Shared → Prop} {E : Value → Shared → Prop} {s : Shared} (h0 : 0 < s.toks)
    (h : wpAny M A t (fun a s' => 0 < s'.toks → Q a s') (fun e s' => 0 < s'.toks → E e s') s) : wpAny M A t Q E s :=
  wpAny_mono (wpAny_toks h) (fun _ _ q => q.2 (Nat.lt_of_lt_of_le h0 q.1)) fun _ _ q => q.2 (Nat.lt_of_lt_of_le h0 q.1)
theorem code_toks {M : Model} {A : Around} {c : Code} {R : Result → Shared → Prop} {s : Shared} (h : codeAny M A c R s) : codeAny M A c (fun r s' => s.toks ≤ s'.toks ∧ R r s') s :=
  fun Γ p hc hΓ => let ⟨r, s', hr, hR⟩ := h Γ p hc hΓ; ⟨r, s', hr, runs_toks hr, hR⟩
end
section
set_option maxRecDepth 100000
set_option maxHeartbeats 400000
open Sre
noncomputable def cA : Array Nat := #[14, 4, 0, 1, 1, 6, 1, 16, 46, 1]
noncomputable def cB : Array Nat := #[14, 9, 4, 1, 2, 16, 10, 16, 13, 0, 7, 7, 16, 13, 16, 10, 15, 18, 5, 16, 10, 15, 13, 11, 16, 13, 5, 5, 0, 16, 10, 1, 15, 2, 0, 1]
/-- a machine's ends: what is asked of it behind the run -/
noncomputable def Ends (m : Sre.M) (r : Option (Nat × Nat)) : Prop := ∃ n, n ≤ 2 ^ 30 ∧ match r with
  | some (p, e) => (m.runFor n).outcome = some .matched ∧ (m.runFor n).start = p ∧ (m.runFor n).handed = e
  | none => (m.runFor n).outcome = some .failed
theorem runFor_succ {n : Nat} {m : Sre.M} (h : m.outcome = none) : m.runFor (n + 1) = m.step.runFor n := by
  show (if m.outcome.isSome then m else m.step.runFor n) = _
  rw [h]; rfl
noncomputable def EndsN (N : Nat) (m : Sre.M) (r : Option (Nat × Nat)) : Prop := ∃ n, n ≤ N ∧ match r with
  | some (p, e) => (m.runFor n).outcome = some .matched ∧ (m.runFor n).start = p ∧ (m.runFor n).handed = e
  | none => (m.runFor n).outcome = some .failed
theorem EndsN.step {N : Nat} {m : Sre.M} {r : Option (Nat × Nat)} (h : m.outcome = none) (k : EndsN N m.step r) : EndsN (N + 1) m r := by
  obtain ⟨n, hn, k⟩ := k
  refine ⟨n + 1, by omega, ?_⟩
  rw [runFor_succ h]
  exact k
theorem EndsN.le {N M : Nat} {m : Sre.M} {r : Option (Nat × Nat)} (k : EndsN N m r) (h : N ≤ M) : EndsN M m r := by
  obtain ⟨n, hn, k⟩ := k
  exact ⟨n, by omega, k⟩
theorem EndsN.fail {m : Sre.M} (h : m.outcome = some .failed) : EndsN 0 m none := ⟨0, Nat.le_refl _, h⟩
theorem EndsN.match {m : Sre.M} {p e : Nat} (h : m.outcome = some .matched) (h1 : m.start = p) (h2 : m.handed = e) : EndsN 0 m (some (p, e)) := ⟨0, Nat.le_refl _, h, h1, h2⟩
/-- the first pattern's machine at the start of an attempt -/
noncomputable def XA (t : Array Nat) (s : Nat) (must first : Bool) (sn : Sre.Seen) : Sre.M :=
  { code := cA, text := t, lim := t.size, start := s, lastStart := t.size, mustAdvance := must, pc := 5, pos := s, handed := s, outermost := first, marks := #[],
    lastmark := -1, lastindex := -1, frames := [{ wait := .nextStart, pc := 5, pos := s, outermost := first }], weight := 1, seen := sn }
theorem XA_at (t s must first sn) : (XA t s must first sn).step =
    (if (s == 0 || t.getD (s - 1) 0 == 10) = true then { XA t s must first ((sn.add 6).add 44) with pc := 7 }
     else { XA t s must first ((sn.add 6).add 44) with pc := 5, pos := s, answer := some false }) := rfl
theorem XA_lit (t s must first sn) : ({ XA t s must first sn with pc := 7 } : Sre.M).step =
    (if s ≥ t.size then { XA t s must first (sn.add 16) with pc := 7, answer := some false }
     else match (t.getD s 0 == 46 : Bool) with
      | false => { XA t s must first (sn.add 16) with pc := 7, answer := some false }
      | true => { XA t s must first (sn.add 16) with pc := 9, pos := s + 1 }) := by
  show (if s ≥ t.size then _ else _) = _
  by_cases h : s ≥ t.size
  · rw [if_pos h, if_pos h]; rfl
  · rw [if_neg h, if_neg h]
    show (match (Except.ok (t.getD s 0 == 46, _) : Except String (Bool × Sre.Seen)) with | .error why => _ | .ok (false, seen) => _ | .ok (true, seen) => _) = _
    cases (t.getD s 0 == 46 : Bool) <;> rfl
theorem XA_suc (t s must first sn) : EndsN 3 ({ XA t s must first sn with pc := 9, pos := s + 1 } : Sre.M) (some (s, s + 1)) := by
  refine EndsN.step rfl ?_
  have e : ({ XA t s must first sn with pc := 9, pos := s + 1 } : Sre.M).step = { XA t s must first (sn.add 1) with pc := 9, pos := s + 1, handed := s + 1, answer := some true } := by
    show (if (first && ((false && (s + 1 != t.size)) || (must && (s + 1 == s)))) = true then _ else _) = _
    rw [if_neg (by simp)]
    rfl
  rw [e]
  refine EndsN.step rfl ?_
  refine EndsN.step rfl ?_
  exact EndsN.match rfl rfl rfl
/-- what an answer «no» leads to -/
theorem XA_no (t s must first sn pc ps) : ({ XA t s must first sn with pc := pc, pos := ps, answer := some false } : Sre.M).step =
    (if s < t.size then XA t (s + 1) false false sn else { XA t s must first sn with frames := [], weight := 0, outermost := first, pc := 5, pos := s, answer := some false }) := by
  show (if s < t.size then _ else _) = _
  by_cases h : s < t.size
  · rw [if_pos h, if_pos h]; rfl
  · rw [if_neg h, if_neg h]; rfl
noncomputable def condA (t : Array Nat) (s : Nat) : Bool := (s == 0 || t.getD (s - 1) 0 == 10) && (decide (s < t.size) && t.getD s 0 == 46)
noncomputable def findA (t : Array Nat) : Nat → Nat → Option Nat
  | 0, _ => none
  | n + 1, s => if condA t s = true then some s else findA t n (s + 1)
theorem EndsN.none' {m : Sre.M} (h : m.answer = some false) (hf : m.frames = []) (ho : m.outcome = none) : EndsN 1 m none := by
  refine EndsN.step ho (EndsN.fail ?_)
  unfold Sre.M.step
  rw [ho, h, hf]
  rfl
theorem XA_runs (t : Array Nat) : ∀ (n s : Nat) (must first : Bool) (sn : Sre.Seen), n + s = t.size + 1 → EndsN (6 * n + 6) (XA t s must first sn) ((findA t n s).map fun p => (p, p + 1)) := by
  intro n
  induction n with
  | zero =>
    intro s must first sn h
    -- past the end: nothing is begun there
    have hs : ¬ s < t.size := by omega
    refine EndsN.step rfl ?_
    rw [XA_at]
    by_cases h1 : (s == 0 || t.getD (s - 1) 0 == 10) = true
    · rw [if_pos h1]
      refine EndsN.step rfl ?_
      rw [XA_lit, if_pos (by omega)]
      refine EndsN.step rfl ?_
      rw [XA_no, if_neg hs]
      exact (EndsN.none' rfl rfl rfl).le (by omega)
    · rw [if_neg h1]
      refine EndsN.step rfl ?_
      rw [XA_no, if_neg hs]
      exact (EndsN.none' rfl rfl rfl).le (by omega)
  | succ n ih =>
    intro s must first sn h
    have next : ∀ (sn : Sre.Seen) (pc ps : Nat), condA t s = false → EndsN (6 * n + 10) ({ XA t s must first sn with pc := pc, pos := ps, answer := some false } : Sre.M) ((findA t (n + 1) s).map fun p => (p, p + 1)) := by
      intro sn pc ps hc
      refine EndsN.le (EndsN.step (N := 6 * n + 8) rfl ?_) (by omega)
      rw [XA_no]
      have e : findA t (n + 1) s = findA t n (s + 1) := by unfold findA; rw [if_neg (by rw [hc]; exact Bool.false_ne_true)]; cases n <;> rfl
      rw [e]
      by_cases hs : s < t.size
      · rw [if_pos hs]
        exact (ih (s + 1) false false sn (by omega)).le (by omega)
      · rw [if_neg hs]
        have hn : n = 0 := by omega
        subst hn
        exact (EndsN.none' rfl rfl rfl).le (by omega)
    refine EndsN.le (EndsN.step (N := 6 * n + 11) rfl ?_) (by omega)
    rw [XA_at]
    by_cases h1 : (s == 0 || t.getD (s - 1) 0 == 10) = true
    · rw [if_pos h1]
      refine EndsN.step rfl ?_
      rw [XA_lit]
      by_cases hs : s ≥ t.size
      · rw [if_pos hs]
        exact next _ 7 s (by unfold condA; rw [h1]; simp; omega)
      · rw [if_neg hs]
        cases h2 : (t.getD s 0 == 46 : Bool) with
        | false =>
          dsimp only
          exact next _ 7 s (by unfold condA; rw [h1, h2]; simp)
        | true =>
          dsimp only
          have e : findA t (n + 1) s = some s := by unfold findA; rw [if_pos (by unfold condA; rw [h1, h2]; simp; omega)]
          rw [e]
          exact (XA_suc t s must first _).le (by omega)
    · rw [if_neg h1]
      have := next ((sn.add 6).add 44) 5 s (by unfold condA; rw [Bool.not_eq_true] at h1; rw [h1]; rfl)
      exact this.le (by omega)
theorem searchA (t : Array Nat) (pos : Nat) (h : pos ≤ t.size) : EndsN (6 * t.size + 20) (Sre.forSearch cA t 0 pos t.size false) (if pos < t.size then (findA t (t.size + 1 - pos) pos).map fun p => (p, p + 1) else none) := by
  by_cases h1 : pos < t.size
  · rw [if_pos h1]
    have e : ∃ sn, Sre.forSearch cA t 0 pos t.size false = XA t pos false true sn := by
      refine ⟨({} : Sre.Seen).add 14, ?_⟩
      unfold Sre.forSearch
      rw [if_neg (by show ¬ (decide (pos > t.size) || decide (t.size - pos < 1)) = true; simp; omega)]
      rfl
    obtain ⟨sn, e⟩ := e
    rw [e]
    exact (XA_runs t (t.size + 1 - pos) pos false true sn (by omega)).le (by omega)
  · rw [if_neg h1]
    unfold Sre.forSearch
    rw [if_pos (by show (decide (pos > t.size) || decide (t.size - pos < 1)) = true; simp; omega)]
    exact (EndsN.none' rfl rfl rfl).le (by omega)
/-- the second pattern's machine behind the search for a first sign -/
noncomputable def XB (t : Array Nat) (s : Nat) (first : Bool) (sn : Sre.Seen) : Sre.M :=
  { code := cB, text := t, lim := t.size, start := s, lastStart := t.size, pc := 10, pos := s, handed := s, outermost := first, marks := #[],
    lastmark := -1, lastindex := -1, frames := [{ wait := .nextStart, pc := 10, pos := s, outermost := first }], weight := 1, seen := sn }
noncomputable abbrev fr0 (s : Nat) (first : Bool) : Sre.Frame := { wait := .nextStart, pc := 10, pos := s, outermost := first }
noncomputable abbrev fr1 (s pc : Nat) (first : Bool) : Sre.Frame := { wait := .nextBranch, pc := pc, pos := s, outermost := first, kept := { lastmark := -1, lastindex := -1, whole := false, marks := #[] } }
noncomputable def YB (t : Array Nat) (s : Nat) (first : Bool) (bpc pc pos : Nat) (sn : Sre.Seen) : Sre.M :=
  { XB t s first sn with frames := [fr1 s bpc first, fr0 s first], weight := 2, pc := pc, pos := pos }
theorem XB_br (t s first sn) : (XB t s first sn).step = YB t s first 11 12 s (sn.add 7) := rfl
theorem YB_lit12 (t s first b pos sn) : (YB t s first b 12 pos sn).step =
    (if pos ≥ t.size then { YB t s first b 12 pos (sn.add 16) with answer := some false }
     else match (t.getD pos 0 == 13 : Bool) with
      | false => { YB t s first b 12 pos (sn.add 16) with answer := some false }
      | true => YB t s first b 14 (pos + 1) (sn.add 16)) := by
  show (if pos ≥ t.size then _ else _) = _
  by_cases h : pos ≥ t.size
  · rw [if_pos h, if_pos h]; rfl
  · rw [if_neg h, if_neg h]
    show (match (Except.ok (t.getD pos 0 == 13, _) : Except String (Bool × Sre.Seen)) with | .error why => _ | .ok (false, seen) => _ | .ok (true, seen) => _) = _
    cases (t.getD pos 0 == 13 : Bool) <;> rfl
theorem YB_lit14 (t s first b pos sn) : (YB t s first b 14 pos sn).step =
    (if pos ≥ t.size then { YB t s first b 14 pos (sn.add 16) with answer := some false }
     else match (t.getD pos 0 == 10 : Bool) with
      | false => { YB t s first b 14 pos (sn.add 16) with answer := some false }
      | true => YB t s first b 16 (pos + 1) (sn.add 16)) := by
  show (if pos ≥ t.size then _ else _) = _
  by_cases h : pos ≥ t.size
  · rw [if_pos h, if_pos h]; rfl
  · rw [if_neg h, if_neg h]
    show (match (Except.ok (t.getD pos 0 == 10, _) : Except String (Bool × Sre.Seen)) with | .error why => _ | .ok (false, seen) => _ | .ok (true, seen) => _) = _
    cases (t.getD pos 0 == 10 : Bool) <;> rfl
theorem YB_lit19 (t s first b pos sn) : (YB t s first b 19 pos sn).step =
    (if pos ≥ t.size then { YB t s first b 19 pos (sn.add 16) with answer := some false }
     else match (t.getD pos 0 == 10 : Bool) with
      | false => { YB t s first b 19 pos (sn.add 16) with answer := some false }
      | true => YB t s first b 21 (pos + 1) (sn.add 16)) := by
  show (if pos ≥ t.size then _ else _) = _
  by_cases h : pos ≥ t.size
  · rw [if_pos h, if_pos h]; rfl
  · rw [if_neg h, if_neg h]
    show (match (Except.ok (t.getD pos 0 == 10, _) : Except String (Bool × Sre.Seen)) with | .error why => _ | .ok (false, seen) => _ | .ok (true, seen) => _) = _
    cases (t.getD pos 0 == 10 : Bool) <;> rfl
theorem YB_lit24 (t s first b pos sn) : (YB t s first b 24 pos sn).step =
    (if pos ≥ t.size then { YB t s first b 24 pos (sn.add 16) with answer := some false }
     else match (t.getD pos 0 == 13 : Bool) with
      | false => { YB t s first b 24 pos (sn.add 16) with answer := some false }
      | true => YB t s first b 26 (pos + 1) (sn.add 16)) := by
  show (if pos ≥ t.size then _ else _) = _
  by_cases h : pos ≥ t.size
  · rw [if_pos h, if_pos h]; rfl
  · rw [if_neg h, if_neg h]
    show (match (Except.ok (t.getD pos 0 == 13, _) : Except String (Bool × Sre.Seen)) with | .error why => _ | .ok (false, seen) => _ | .ok (true, seen) => _) = _
    cases (t.getD pos 0 == 13 : Bool) <;> rfl
theorem YB_no1 (t s first pc pos sn) : ({ YB t s first 11 pc pos sn with answer := some false } : Sre.M).step = YB t s first 18 19 s sn := rfl
theorem YB_no2 (t s first pc pos sn) : ({ YB t s first 18 pc pos sn with answer := some false } : Sre.M).step = YB t s first 23 24 s sn := rfl
theorem YB_suc (t s first b pos sn) : EndsN 4 (YB t s first b 35 pos sn) (some (s, pos)) := by
  refine EndsN.step rfl ?_
  have e : (YB t s first b 35 pos sn).step = { YB t s first b 35 pos (sn.add 1) with handed := pos, answer := some true } := by
    show (if (first && ((false && (pos != t.size)) || (false && (pos == s)))) = true then _ else _) = _
    rw [if_neg (by simp)]
    rfl
  rw [e]
  refine EndsN.step rfl ?_
  refine EndsN.step rfl ?_
  refine EndsN.step rfl ?_
  exact EndsN.match rfl rfl rfl
theorem YB_jump16 (t s first b pos sn) : (YB t s first b 16 pos sn).step = YB t s first b 35 pos (sn.add 15) := rfl
theorem YB_jump21 (t s first b pos sn) : (YB t s first b 21 pos sn).step = YB t s first b 35 pos (sn.add 15) := rfl
theorem YB_jump32 (t s first b pos sn) : (YB t s first b 32 pos sn).step = YB t s first b 35 pos (sn.add 15) := rfl
noncomputable abbrev fr2 (pos : Nat) (first : Bool) : Sre.Frame := { wait := .lookNot, pc := 26, pos := pos, outermost := first, kept := { lastmark := -1, lastindex := -1, whole := false, marks := #[] } }
noncomputable def ZB (t : Array Nat) (s : Nat) (first : Bool) (pos : Nat) (sn : Sre.Seen) : Sre.M :=
  { XB t s first sn with frames := [fr2 pos first, fr1 s 23 first, fr0 s first], weight := 3, pc := 29, pos := pos, handed := pos, outermost := false }
theorem YB_look (t s first pos sn) : (YB t s first 23 26 pos sn).step = ZB t s first pos (sn.add 5) := rfl
theorem ZB_lit (t s first pos sn) : (ZB t s first pos sn).step =
    (if pos ≥ t.size then { ZB t s first pos (sn.add 16) with answer := some false }
     else match (t.getD pos 0 == 10 : Bool) with
      | false => { ZB t s first pos (sn.add 16) with answer := some false }
      | true => { ZB t s first pos (sn.add 16) with pc := 31, pos := pos + 1 }) := by
  show (if pos ≥ t.size then _ else _) = _
  by_cases h : pos ≥ t.size
  · rw [if_pos h, if_pos h]; rfl
  · rw [if_neg h, if_neg h]
    show (match (Except.ok (t.getD pos 0 == 10, _) : Except String (Bool × Sre.Seen)) with | .error why => _ | .ok (false, seen) => _ | .ok (true, seen) => _) = _
    cases (t.getD pos 0 == 10 : Bool) <;> rfl
theorem ZB_no (t s first pos sn) : EndsN 6 ({ ZB t s first pos sn with answer := some false } : Sre.M) (some (s, pos)) := by
  refine EndsN.step rfl ?_
  have e : ∃ h0, ({ ZB t s first pos sn with answer := some false } : Sre.M).step = { YB t s first 23 32 pos sn with handed := h0 } := ⟨pos, rfl⟩
  obtain ⟨h0, e⟩ := e
  rw [e]
  refine EndsN.step rfl ?_
  have e2 : ({ YB t s first 23 32 pos sn with handed := h0 } : Sre.M).step = { YB t s first 23 35 pos (sn.add 15) with handed := h0 } := rfl
  rw [e2]
  refine EndsN.step rfl ?_
  have e : ({ YB t s first 23 35 pos (sn.add 15) with handed := h0 } : Sre.M).step = { YB t s first 23 35 pos ((sn.add 15).add 1) with handed := pos, answer := some true } := by
    show (if (first && ((false && (pos != t.size)) || (false && (pos == s)))) = true then _ else _) = _
    rw [if_neg (by simp)]
    rfl
  rw [e]
  refine EndsN.step rfl ?_
  refine EndsN.step rfl ?_
  refine EndsN.step rfl ?_
  exact EndsN.match rfl rfl rfl
noncomputable def endB (t : Array Nat) (p : Nat) : Nat := if t.getD p 0 = 13 ∧ p + 1 < t.size ∧ t.getD (p + 1) 0 = 10 then p + 2 else p + 1
theorem XB_runs (t : Array Nat) (s : Nat) (first : Bool) (sn : Sre.Seen) (hs : s < t.size) (hc : t.getD s 0 = 10 ∨ t.getD s 0 = 13) : EndsN 20 (XB t s first sn) (some (s, endB t s)) := by
  refine EndsN.step rfl ?_
  rw [XB_br]
  refine EndsN.step rfl ?_
  rw [YB_lit12, if_neg (by omega)]
  rcases hc with hc | hc
  · have e : endB t s = s + 1 := by unfold endB; rw [if_neg (by rw [hc]; omega)]
    rw [e, show (t.getD s 0 == 13 : Bool) = false by rw [hc]; rfl]
    dsimp only
    refine EndsN.step rfl ?_
    rw [YB_no1]
    refine EndsN.step rfl ?_
    rw [YB_lit19, if_neg (by omega), show (t.getD s 0 == 10 : Bool) = true by rw [hc]; rfl]
    dsimp only
    refine EndsN.step rfl ?_
    rw [YB_jump21]
    exact (YB_suc _ _ _ _ _ _).le (by omega)
  · rw [show (t.getD s 0 == 13 : Bool) = true by rw [hc]; rfl]
    dsimp only
    refine EndsN.step rfl ?_
    rw [YB_lit14]
    have third : ∀ (sn : Sre.Seen) (pc pos : Nat), ¬ (s + 1 < t.size ∧ t.getD (s + 1) 0 = 10) → EndsN 17 ({ YB t s first 11 pc pos sn with answer := some false } : Sre.M) (some (s, endB t s)) := by
      intro sn pc pos hno
      have e : endB t s = s + 1 := by unfold endB; rw [if_neg (by omega)]
      rw [e]
      refine EndsN.step rfl ?_
      rw [YB_no1]
      refine EndsN.step rfl ?_
      rw [YB_lit19, if_neg (by omega), show (t.getD s 0 == 10 : Bool) = false by rw [hc]; rfl]
      dsimp only
      refine EndsN.step rfl ?_
      rw [YB_no2]
      refine EndsN.step rfl ?_
      rw [YB_lit24, if_neg (by omega), show (t.getD s 0 == 13 : Bool) = true by rw [hc]; rfl]
      dsimp only
      refine EndsN.step rfl ?_
      rw [YB_look]
      refine EndsN.step rfl ?_
      rw [ZB_lit]
      by_cases h1 : s + 1 ≥ t.size
      · rw [if_pos h1]
        exact (ZB_no _ _ _ _ _).le (by omega)
      · rw [if_neg h1]
        cases h2 : (t.getD (s + 1) 0 == 10 : Bool) with
        | false => exact (ZB_no _ _ _ _ _).le (by omega)
        | true => exact absurd ⟨by omega, beq_iff_eq.mp h2⟩ hno
    by_cases h1 : s + 1 ≥ t.size
    · rw [if_pos h1]
      exact third _ 14 (s + 1) (by omega)
    · rw [if_neg h1]
      cases h2 : (t.getD (s + 1) 0 == 10 : Bool) with
      | false =>
        dsimp only
        refine third _ 14 (s + 1) ?_
        rintro ⟨_, h3⟩
        rw [h3] at h2
        cases h2
      | true =>
        dsimp only
        have e : endB t s = s + 2 := by unfold endB; rw [if_pos ⟨hc, by omega, beq_iff_eq.mp h2⟩]
        rw [e]
        refine EndsN.step rfl ?_
        rw [YB_jump16]
        exact (YB_suc _ _ _ _ _ _).le (by omega)
noncomputable def findB (t : Array Nat) : Nat → Nat → Option Nat
  | 0, _ => none
  | n + 1, s => if s ≥ t.size then none else if t.getD s 0 = 10 ∨ t.getD s 0 = 13 then some s else findB t n (s + 1)
theorem inSetB (c : Nat) (sn : Sre.Seen) : Sre.inSet cB c 36 5 true sn =
    (if (c == 10) = true then .ok (true, sn.add 16) else if (c == 13) = true then .ok (true, (sn.add 16).add 16) else .ok (false, ((sn.add 16).add 16).add 0)) := rfl
theorem admB (m : Sre.M) (t : Array Nat) (hm : m.code = cB) (ht : m.text = t) (hl : m.lim = t.size) : ∀ (n s : Nat) (sn : Sre.Seen), ∃ sn', Sre.M.admitted m n s sn = .ok (findB t n s, sn') ∧ ∀ p, findB t n s = some p → p < t.size ∧ s ≤ p ∧ (t.getD p 0 = 10 ∨ t.getD p 0 = 13) := by
  intro n
  induction n with
  | zero => intro s sn; exact ⟨sn, rfl, fun p h => by cases h⟩
  | succ n ih =>
    intro s sn
    unfold Sre.M.admitted findB
    rw [hl]
    by_cases hs : s ≥ t.size
    · rw [if_pos hs, if_pos hs]; exact ⟨sn, rfl, fun p h => by cases h⟩
    · rw [if_neg hs, if_neg hs, hm, ht, show cB.size = 36 from rfl, inSetB]
      by_cases h1 : t.getD s 0 = 10
      · rw [if_pos (by rw [h1]; rfl), if_pos (.inl h1)]
        exact ⟨_, rfl, fun p h => by cases h; exact ⟨by omega, Nat.le_refl _, .inl h1⟩⟩
      · rw [if_neg (by rw [beq_iff_eq]; exact h1)]
        by_cases h2 : t.getD s 0 = 13
        · rw [if_pos (by rw [h2]; rfl), if_pos (.inr h2)]
          exact ⟨_, rfl, fun p h => by cases h; exact ⟨by omega, Nat.le_refl _, .inr h2⟩⟩
        · rw [if_neg (by rw [beq_iff_eq]; exact h2), if_neg (by rintro (h | h); exact h1 h; exact h2 h)]
          obtain ⟨sn', e, hp⟩ := ih (s + 1) (((sn.add 16).add 16).add 0)
          exact ⟨sn', e, fun p h => by obtain ⟨a, b, c⟩ := hp p h; exact ⟨a, by omega, c⟩⟩
noncomputable def FB (t : Array Nat) (pos : Nat) : Sre.M :=
  { code := cB, text := t, lim := t.size, start := pos, lastStart := t.size, pc := 10, pos := pos, handed := pos, marks := #[], seen := ({} : Sre.Seen).add 14 }
theorem FB_from (t : Array Nat) (pos : Nat) : (FB t pos).attemptFrom pos true =
    match Sre.M.admitted (FB t pos) (t.size + 1 - pos) pos (({} : Sre.Seen).add 14) with
    | .ok (some s, seen) => { FB t pos with mustAdvance := false, seen := seen }.attemptAt s true
    | .ok (none, seen) => { FB t pos with seen := seen }.say false
    | .error why => (FB t pos).stick why := rfl
theorem searchB (t : Array Nat) (pos : Nat) (h : pos ≤ t.size) : EndsN 30 (Sre.forSearch cB t 0 pos t.size false) (if pos < t.size then (findB t (t.size + 1 - pos) pos).map fun p => (p, endB t p) else none) := by
  by_cases h1 : pos < t.size
  · rw [if_pos h1]
    have e0 : Sre.forSearch cB t 0 pos t.size false = (FB t pos).attemptFrom pos true := by
      unfold Sre.forSearch
      rw [if_neg (by show ¬ (decide (pos > t.size) || decide (t.size - pos < 1)) = true; simp; omega)]
      rfl
    rw [e0, FB_from]
    obtain ⟨sn', e, hp⟩ := admB (FB t pos) t rfl rfl rfl (t.size + 1 - pos) pos (({} : Sre.Seen).add 14)
    rw [e]
    cases hf : findB t (t.size + 1 - pos) pos with
    | none =>
      dsimp only
      exact (EndsN.none' rfl rfl rfl).le (by omega)
    | some p =>
      dsimp only
      obtain ⟨a, b, c⟩ := hp p hf
      exact (XB_runs t p true sn' a c).le (by omega)
  · rw [if_neg h1]
    unfold Sre.forSearch
    rw [if_pos (by show (decide (pos > t.size) || decide (t.size - pos < 1)) = true; simp; omega)]
    exact (EndsN.none' rfl rfl rfl).le (by omega)
end
section
set_option maxRecDepth 100000
set_option maxHeartbeats 400000
open Builtin.Re
theorem runFor_add (a b : Nat) : ∀ m : Sre.M, m.runFor (a + b) = (m.runFor a).runFor b := by
  induction a with
  | zero => intro m; rw [Nat.zero_add]; rfl
  | succ a ih =>
    intro m
    rw [show a + 1 + b = (a + b) + 1 by omega]
    show (if m.outcome.isSome then m else m.step.runFor (a + b)) = (if m.outcome.isSome then m else m.step.runFor a).runFor b
    by_cases h : m.outcome.isSome = true
    · rw [if_pos h, if_pos h]
      cases b with
      | zero => rfl
      | succ b => show _ = (if m.outcome.isSome then m else m.step.runFor b); rw [if_pos h]
    · rw [if_neg h, if_neg h]; exact ih _
theorem runFor_done {m : Sre.M} (h : m.outcome.isSome = true) (n : Nat) : m.runFor n = m := by
  cases n with
  | zero => rfl
  | succ n => show (if m.outcome.isSome then m else m.step.runFor n) = _; rw [if_pos h]
/-- what an end says of the machine's last state -/
noncomputable def Says (m : Sre.M) : Option (Nat × Nat) → Prop
  | some (p, e) => m.outcome = some .matched ∧ m.start = p ∧ m.handed = e
  | none => m.outcome = some .failed
theorem Says.isSome {m : Sre.M} {r : Option (Nat × Nat)} (h : Says m r) : m.outcome.isSome = true := by
  cases r with
  | none => rw [show m.outcome = _ from h]; rfl
  | some p => rw [h.1]; rfl
theorem ends_says {N : Nat} {m : Sre.M} {r : Option (Nat × Nat)} (h : EndsN N m r) : ∃ n, n ≤ N ∧ Says (m.runFor n) r := by
  obtain ⟨n, hn, h⟩ := h
  refine ⟨n, hn, ?_⟩
  cases r with
  | none => exact h
  | some p => exact h
section
variable {M : Model} {A : Around} {E : Value → Shared → Prop} {s : Shared}
theorem wp_drive {r : Option (Nat × Nat)} {Q : Sre.M → Shared → Prop} (hQ : ∀ m, Says m r → Q m s) : ∀ (k : Nat) (m : Sre.M) (n : Nat), n < 4 * k → Says (m.runFor n) r → wpAny M A (reDrive k m) Q E s
  | 0, m, n, hn, h => by omega
  | k + 1, m, n, hn, h => by
    show wpAny M A (if (m.runFor 4).outcome.isSome then Pure.pure (m.runFor 4) else do PySem.rule "sre.turn"; reDrive k (m.runFor 4)) Q E s
    by_cases h4 : (m.runFor 4).outcome.isSome = true
    · rw [if_pos h4]
      refine wpAny_pure (hQ _ ?_)
      have e1 : m.runFor (4 + n) = m.runFor 4 := by rw [runFor_add, runFor_done h4]
      have e2 : m.runFor (n + 4) = m.runFor n := by rw [runFor_add, runFor_done h.isSome]
      rw [show m.runFor 4 = m.runFor n by rw [← e1, ← e2, Nat.add_comm]]
      exact h
    · rw [if_neg h4]
      refine wpAny_bind (wpAny_rule ?_)
      by_cases hle : n ≤ 4
      · exfalso
        apply h4
        have : m.runFor 4 = m.runFor n := by
          rw [show 4 = n + (4 - n) by omega, runFor_add, runFor_done h.isSome]
        rw [this]; exact h.isSome
      · refine wp_drive hQ k (m.runFor 4) (n - 4) (by omega) ?_
        rw [← runFor_add, show 4 + (n - 4) = n by omega]
        exact h
theorem wp_run {N : Nat} {m : Sre.M} {r : Option (Nat × Nat)} {Q : Option Sre.M → Shared → Prop} (h : EndsN N m r) (hN : N < 2 ^ 60)
    (hQ : match r with
      | some (p, e) => ∀ m' : Sre.M, m'.start = p → m'.handed = e → Q (some m') s
      | none => Q none s) : wpAny M A (reRunToEnd m) Q E s := by
  obtain ⟨n, hn, hs⟩ := ends_says h
  unfold reRunToEnd
  refine wpAny_bind (wp_drive (r := r) (fun m' hm' => ?_) (2 ^ 64) m n (by omega) hs)
  refine wpAny_bind (wpAny_forIn_list _ (fun _ _ s' => s' = s) _ (fun x rest b s' hs' => ?_) (fun b s' hs' => ?_) _ _ rfl)
  · subst hs'
    by_cases hx : m'.seen.has x = true
    · rw [if_pos hx]; exact wpAny_bind (wpAny_rule (wpAny_pure rfl))
    · rw [if_neg hx]; exact wpAny_pure rfl
  · subst hs'
    cases r with
    | none =>
      rw [show m'.outcome = some .failed from hm']
      exact wpAny_pure hQ
    | some p =>
      obtain ⟨p, e⟩ := p
      rw [hm'.1]
      exact wpAny_pure (hQ m' hm'.2.1 hm'.2.2)
noncomputable def Ks (P : Params) : Frag := [(106, o106v0 P), (107, o107v0 P), (111, o111v0 P), (112, o112v0 P)]
theorem ks_of {w : World} {h : Heap} (X : (K w.params).In h) : (Ks w.params).In h := by
  intro a o e
  refine X a o ?_
  simp only [Ks, List.lookup] at e
  revert e
  split
  · rename_i q; rw [beq_iff_eq.mp q]; intro e; exact e
  · split
    · rename_i q; rw [beq_iff_eq.mp q]; intro e; exact e
    · split
      · rename_i q; rw [beq_iff_eq.mp q]; intro e; exact e
      · split
        · rename_i q; rw [beq_iff_eq.mp q]; intro e; exact e
        · intro e; cases e
noncomputable def tgt (pat : Addr) (code : Array Nat) (x : Str) (t : Tok) : ReTarget := { pattern := .ref pat, string := .str x t, code := code, text := x.cps, kind := 0, groups := 0, pos := 0, lim := x.cps.size }
noncomputable def L107 (b : Bool) (w : World) (x : Str) (t : Tok) : Option ReTarget := peek (Ks w.params) ⟨pw, (w.withFollow "special-get-raises" b).params⟩ (reWholeTarget (.ref 107) (.str x t))
noncomputable def L107q (b : Bool) (w : World) (x : Str) (t : Tok) : Option ReTarget := peek (Ks w.params) ⟨pq, (w.withFollow "special-get-raises" b).params⟩ (reWholeTarget (.ref 107) (.str x t))
noncomputable def L112 (b : Bool) (w : World) (x : Str) (t : Tok) : Option ReTarget := peek (Ks w.params) ⟨pw, (w.withFollow "special-get-raises" b).params⟩ (reWholeTarget (.ref 112) (.str x t))
noncomputable def L112q (b : Bool) (w : World) (x : Str) (t : Tok) : Option ReTarget := peek (Ks w.params) ⟨pq, (w.withFollow "special-get-raises" b).params⟩ (reWholeTarget (.ref 112) (.str x t))
theorem L107_rfl : L107q = L107q := rfl
theorem L112_rfl : L112q = L112q := rfl
name_quick l107q for L107q by L107_rfl
name_quick l112q for L112q by L112_rfl
theorem tgt107q (b w x t) : L107q b w x t = some (tgt 107 cA x t) := by cases b <;> (rw [PySem.W.Fast.l107q_eq]; kernel_rfl)
theorem tgt107 (b w x t) : L107 b w x t = some (tgt 107 cA x t) := by unfold L107; rw [pw_is]; exact tgt107q b w x t
theorem tgt112q (b w x t) : L112q b w x t = some (tgt 112 cB x t) := by cases b <;> (rw [PySem.W.Fast.l112q_eq]; kernel_rfl)
theorem tgt112 (b w x t) : L112 b w x t = some (tgt 112 cB x t) := by unfold L112; rw [pw_is]; exact tgt112q b w x t
theorem peek107 (w : World) (x : Str) (t : Tok) : peek (Ks w.params) ⟨pw, w.params⟩ (reWholeTarget (.ref 107) (.str x t)) = some (tgt 107 cA x t) := by
  have := tgt107 (w.params.followText "special-get-raises") w x t
  unfold L107 at this
  rwa [World.withFollow_self] at this
theorem peek112 (w : World) (x : Str) (t : Tok) : peek (Ks w.params) ⟨pw, w.params⟩ (reWholeTarget (.ref 112) (.str x t)) = some (tgt 112 cB x t) := by
  have := tgt112 (w.params.followText "special-get-raises") w x t
  unfold L112 at this
  rwa [World.withFollow_self] at this
end
end
section
set_option maxRecDepth 100000
set_option maxHeartbeats 400000
noncomputable abbrev Kp (h h' : Heap) : Prop := ∀ b o, h.get? b = some o → h'.get? b = some o
open Builtin.Re
theorem glued_nil (ys : List Str) : (Txt.join ⟨#[]⟩ ys).cps.toList = ys.flatMap fun y => y.cps.toList := by
  unfold Txt.join Builtin.Str.glued
  dsimp only
  have key : ∀ (l : List Str) (acc : Array Nat), (l.foldl (fun acc p => acc ++ (#[] : Array Nat) ++ p.cps) acc).toList = acc.toList ++ l.flatMap fun y => y.cps.toList := by
    intro l
    induction l with
    | nil => intro acc; simp
    | cons y l ih => intro acc; rw [List.foldl_cons, ih]; simp
  cases ys with
  | nil => rfl
  | cons y l =>
    show (((y :: l).drop 1).foldl _ y.cps).toList = _
    rw [List.drop_one, List.tail_cons, key]
    rfl
theorem strsAre_snoc {vs : List Value} {ys : List Str} (h : StrsAre vs ys) (y : Str) (t : Tok) : StrsAre (vs ++ [.str y t]) (ys ++ [y]) := by
  induction h with
  | nil => exact .cons y t .nil
  | cons z u _ ih => exact .cons z u ih
theorem strsAre_len {vs : List Value} {ys : List Str} (h : StrsAre vs ys) : vs.length = ys.length := by
  induction h with
  | nil => rfl
  | cons z u _ ih => simp [ih]
section
variable {M : Model} {A : Around} {E : Value → Shared → Prop} {s : Shared}
theorem wp_push {l : Addr} {vs : List Value} {v : Value} {Q : Unit → Shared → Prop} (h : s.heap.IsList l vs.toArray) (hz : vs.length < 2 ^ 24)
    (hQ : ∀ h', h'.IsList l (vs ++ [v]).toArray → Heap.SameBut l s.heap h' → Q () { s with heap := h' }) : wpAny M A (updateSeq l (·.push v)) Q E s := by
  obtain ⟨o, ho, hc, n, hd⟩ := h
  have e : sizeLine = 2 ^ 24 := rfl
  refine wpAny_updateSeq ho hd (hQ _ ?_ (Heap.SameBut.update ..)) (by rw [List.size_toArray, e]; omega) (by rw [Array.size_push, List.size_toArray, e]; omega)
  obtain ⟨c, d, dt, sl⟩ := o
  simp only at hc hd
  subst hc hd
  refine ⟨_, Heap.get?_update_self _ ho rfl, rfl, (if (vs.toArray.push v).size == vs.toArray.size then n else n + 1), ?_⟩
  rw [← List.push_toArray]
  rfl
end
structure PatOk (w : World) (pat : Addr) (code : Array Nat) (find : Array Nat → Nat → Option (Nat × Nat)) : Prop where
  peek : ∀ x t, PySem.W.peek (Ks w.params) ⟨pw, w.params⟩ (reWholeTarget (.ref pat) (.str x t)) = some (tgt pat code x t)
  search : ∀ t pos, pos ≤ t.size → EndsN (6 * t.size + 40) (Sre.forSearch code t 0 pos t.size false) (find t pos)
  find : ∀ t pos p e, find t pos = some (p, e) → pos ≤ p ∧ p < e ∧ e ≤ t.size
noncomputable def subF (find : Array Nat → Nat → Option (Nat × Nat)) (t : Array Nat) (r : List Nat) : Nat → Nat → List Nat
  | 0, d => (t.extract d t.size).toList
  | n + 1, d => match find t d with
    | some (p, e) => (t.extract d p).toList ++ r ++ subF find t r n e
    | none => (t.extract d t.size).toList
theorem subF_none {find : Array Nat → Nat → Option (Nat × Nat)} {t : Array Nat} {r : List Nat} {d : Nat} (h : find t d = none) (n : Nat) : subF find t r n d = (t.extract d t.size).toList := by
  cases n with
  | zero => rfl
  | succ n => unfold subF; rw [h]
noncomputable def sumL (ys : List Str) : Nat := (ys.map (·.length)).sum
theorem sumL_snoc (ys : List Str) (y : Str) : sumL (ys ++ [y]) = sumL ys + y.length := by unfold sumL; simp
noncomputable abbrev loopArgs (pat : Addr) (x : Str) (tx : Tok) (r : Str) (tr : Tok) (k d : Nat) (l : Addr) : Args :=
  ⟨[.ref pat, .str x tx, .str r tr, rawInt 0, rawInt 0, .int k 0, .int d 0, .int d 0, .bool false, .ref l, .bool false], []⟩
theorem entry_loop : entryFor table "re.Pattern.sub.loop" = some Builtin.«re.Pattern.sub.loop» := entryFor_of_tree (by kernel_rfl)
theorem entry_sub : entryFor table "re.Pattern.sub" = some Builtin.«re.Pattern.sub» := entryFor_of_tree (by kernel_rfl)
theorem ext_len (t : Array Nat) (a b : Nat) : (t.extract a b).size ≤ t.size := by rw [Array.size_extract]; omega
section
variable {w : World} {pat : Addr} {code : Array Nat} {find : Array Nat → Nat → Option (Nat × Nat)}
theorem ks_same {w : World} {l : Addr} {h h' : Heap} (hl : (Ks w.params).lookup l = none) (X : (Ks w.params).In h) (k : Heap.SameBut l h h') : (Ks w.params).In h' := by
  intro a o e
  have : a ≠ l := by rintro rfl; rw [hl] at e; cases e
  rw [k.2 a this]; exact X a o e
theorem wp_slice {M : Model} {A : Around} {E : Value → Shared → Prop} {s : Shared} {t : Array Nat} {b e : Nat} {Q : Value → Shared → Prop} (ht : t.size ≤ 2 ^ 20)
    (h : Q (.str ⟨t.extract b e⟩ s.toks) { s with toks := s.toks + 1 }) : wpAny M A (reSlice t 0 b e) Q E s := by
  unfold reSlice
  rw [if_pos (show ((0 : Nat) == 0) = true from rfl)]
  exact wpAny_mkStr h (by show (t.extract b e).size ≤ 2 ^ 24; have := ext_len t b e; omega)
/-- the end of the run: what is left is cut off, and all is joined -/
theorem sub_end (x : Str) (hx : x.length ≤ 2 ^ 20) (l : Addr) {d : Nat} {ys : List Str} {vs : List Value} {A : Around} {s : Shared} {Q : PySem.Fin → Shared → Prop} {E : Value → Shared → Prop}
    (hd : d ≤ x.cps.size) (hys : StrsAre vs ys) (hs2 : sumL ys ≤ 3 * d) (hyl : ys.length ≤ 2 * d) (hil : s.heap.IsList l vs.toArray) {n : Int}
    (hR : ∀ h' tk' t', Heap.SameBut l s.heap h' → Q (.done (.ret (.str ⟨(ys.flatMap (fun y => y.cps.toList) ++ (x.cps.extract d x.cps.size).toList).toArray⟩ t'))) { s with heap := h', toks := tk' }) :
    wpAny (model pw w) A (do
      if d < x.cps.size then updateSeq l (·.push (← reSlice x.cps 0 d x.cps.size))
      let joiner ← reSlice x.cps 0 0 0
      let text ← if ((← seqItems? (.ref l)).getD #[]).isEmpty then Pure.pure joiner
        else call (.builtin (if (0 : Nat) == 0 then "str.join" else "bytes.join")) [joiner, .ref l]
      if false then ret (← holding [text] do newTuple [text, ← mkInt n]) else ret text)
      Q E s := by
  have hxs : x.cps.size ≤ 2 ^ 20 := hx
  -- behind the last piece
  have fin : ∀ (ys : List Str) (vs : List Value) (s' : Shared) , StrsAre vs ys → sumL ys ≤ 2 ^ 23 → s'.heap.IsList l vs.toArray → Heap.SameBut l s.heap s'.heap → (∃ h' tk', s' = { s with heap := h', toks := tk' }) →
      (∀ h' tk' t', Heap.SameBut l s.heap h' → Q (.done (.ret (.str ⟨(ys.flatMap (fun y => y.cps.toList)).toArray⟩ t'))) { s with heap := h', toks := tk' }) →
      wpAny (model pw w) A (do
        let joiner ← reSlice x.cps 0 0 0
        let text ← if ((← seqItems? (.ref l)).getD #[]).isEmpty then Pure.pure joiner
          else call (.builtin (if (0 : Nat) == 0 then "str.join" else "bytes.join")) [joiner, .ref l]
        if false then ret (← holding [text] do newTuple [text, ← mkInt n]) else ret text)
        Q E s' := by
    intro ys vs s' hys hsum hil hsame hform hR
    obtain ⟨h', tk', rfl⟩ := hform
    have ej : x.cps.extract 0 0 = #[] := by simp
    refine wpAny_bind (wp_slice hxs ?_)
    rw [ej]
    obtain ⟨o, ho, hc, m, hd'⟩ := hil
    refine wpAny_bind (wpAny_seqItems ho hd' ?_)
    dsimp only [Option.getD]
    by_cases h0 : vs = []
    · subst h0
      cases hys
      rw [if_pos (show (([] : List Value).toArray.isEmpty) = true from rfl)]
      refine wpAny_bind (wpAny_pure ?_)
      rw [if_neg Bool.false_ne_true]
      exact wpAny_pure (hR h' _ _ hsame)
    · rw [if_neg (by cases vs with | nil => exact absurd rfl h0 | cons _ _ => exact Bool.false_ne_true)]
      refine wpAny_bind (join_list (s := { s with heap := h', toks := tk' + 1 }) ⟨o, ho, hc, m, hd'⟩ (by simpa using hys) ?_ fun t' k => ?_)
      · show sumL ys + ys.length * 0 ≤ 16777216
        omega
      · rw [if_neg Bool.false_ne_true]
        refine wpAny_pure ?_
        have := hR h' k t' hsame
        rw [← glued_nil] at this
        exact this
  by_cases hlt : d < x.cps.size
  · rw [if_pos hlt]
    refine wpAny_bind (wp_slice hxs ?_)
    refine wpAny_bind ?_
    refine wp_push (s := { s with toks := s.toks + 1 }) hil (by rw [strsAre_len hys]; omega) fun h' hil' hsame => ?_
    refine fin (ys ++ [⟨x.cps.extract d x.cps.size⟩]) _ _ (strsAre_snoc hys _ _) ?_ hil' hsame ⟨_, _, rfl⟩ ?_
    · rw [sumL_snoc]
      have := ext_len x.cps d x.cps.size
      show sumL ys + (x.cps.extract d x.cps.size).size ≤ 2 ^ 23
      omega
    · intro h' tk' t' hk
      have := hR h' tk' t' hk
      rw [List.flatMap_append]
      simpa using this
  · rw [if_neg hlt]
    refine fin ys vs s hys (by omega) hil (.refl ..) ⟨_, _, rfl⟩ ?_
    intro h' tk' t' hk
    have := hR h' tk' t' hk
    rw [show x.cps.extract d x.cps.size = #[] by simp; omega] at this
    simpa using this
theorem sub_loop (hp : PatOk w pat code find) (x : Str) (tx : Tok) (r : Str) (tr : Tok) (hx : x.length ≤ 2 ^ 20) (hr : r.length ≤ 2) (l : Addr) (hl : (Ks w.params).lookup l = none) :
    ∀ (fuel d k : Nat) (ys : List Str) (vs : List Value) (A : Around) (s : Shared) (R : Result → Shared → Prop), x.cps.size - d ≤ fuel → d ≤ x.cps.size → StrsAre vs ys → sumL ys ≤ 3 * d → ys.length ≤ 2 * d →
    s.heap.IsList l vs.toArray → (Ks w.params).In s.heap →
    (∀ h' tk' t', Heap.SameBut l s.heap h' → R (.ok (.ret (.str ⟨(ys.flatMap (fun y => y.cps.toList) ++ subF find x.cps r.cps.toList fuel d).toArray⟩ t'))) { s with heap := h', toks := tk' }) →
    codeAny (model pw w) A (.builtin "re.Pattern.sub.loop" (loopArgs pat x tx r tr k d l)) R s := by
  have hxs : x.cps.size ≤ 2 ^ 20 := hx
  have hlit : reLiteralCannotBeTurned (Value.str r tr) = Pure.pure () := rfl
  intro fuel
  induction fuel with
  | zero =>
    intro d k ys vs A s R hf hd hys hs2 hyl hil hK hR
    have hn : find x.cps d = none := by
      cases h : find x.cps d with
      | none => rfl
      | some pe => obtain ⟨p, e⟩ := pe; have := hp.find _ _ _ _ h; omega
    refine codeAny_builtin entry_loop ?_
    unfold Builtin.«re.Pattern.sub.loop»
    dsimp only [loopArgs]
    refine wpAny_bind ((Looks.of_peek (M := model pw w) hK (hp.peek x tx)).here ?_)
    rw [if_pos (show ((0 : Int) == 0) = true from rfl), hlit]
    refine wpAny_bind (wpAny_pure ?_)
    rw [if_neg (show ¬ ((0 : Int) != 0 && decide ((k : Int) ≥ 0)) = true from Bool.false_ne_true)]
    refine wpAny_bind (wp_run (hp.search x.cps d hd) (by omega) ?_)
    rw [hn]
    dsimp only
    exact sub_end (n := k) x hx l hd hys hs2 hyl hil hR
  | succ fuel ih =>
    intro d k ys vs A s R hf hd hys hs2 hyl hil hK hR
    refine codeAny_builtin entry_loop ?_
    unfold Builtin.«re.Pattern.sub.loop»
    dsimp only [loopArgs]
    refine wpAny_bind ((Looks.of_peek (M := model pw w) hK (hp.peek x tx)).here ?_)
    rw [if_pos (show ((0 : Int) == 0) = true from rfl), hlit]
    refine wpAny_bind (wpAny_pure ?_)
    rw [if_neg (show ¬ ((0 : Int) != 0 && decide ((k : Int) ≥ 0)) = true from Bool.false_ne_true)]
    refine wpAny_bind (wp_run (hp.search x.cps d hd) (by omega) ?_)
    cases hfd : find x.cps d with
    | none =>
      rw [subF_none hfd] at hR
      dsimp only
      exact sub_end (n := k) x hx l hd hys hs2 hyl hil hR
    | some pe =>
      obtain ⟨p, e⟩ := pe
      obtain ⟨f1, f2, f3⟩ := hp.find _ _ _ _ hfd
      unfold subF at hR
      rw [hfd] at hR
      dsimp only at hR ⊢
      intro m' hst hhd
      -- behind the piece before the match
      have rest : ∀ (ys : List Str) (vs : List Value) (s' : Shared), StrsAre vs ys → sumL ys + r.length ≤ 3 * e → ys.length + 1 ≤ 2 * e → s'.heap.IsList l vs.toArray → Heap.SameBut l s.heap s'.heap → (∃ h' tk', s' = { s with heap := h', toks := tk' }) →
          (∀ h' tk' t', Heap.SameBut l s.heap h' → R (.ok (.ret (.str ⟨(ys.flatMap (fun y => y.cps.toList) ++ (r.cps.toList ++ subF find x.cps r.cps.toList fuel e)).toArray⟩ t'))) { s with heap := h', toks := tk' }) →
          wpAny (model pw w) (A.under (.builtin "re.Pattern.sub.loop" (loopArgs pat x tx r tr k d l))) (do
            updateSeq l (·.push (.str r tr))
            again (.builtin "re.Pattern.sub.loop" ⟨[.ref pat, .str x tx, .str r tr, rawInt 0, rawInt 0, rawInt (k + 1), rawInt m'.handed, rawInt m'.handed, .bool (m'.handed == m'.start), .ref l, .bool false], []⟩))
            (fun fin s' => match fin with | .done f => R (.ok f) s' | .again c' => c'.quiet = true ∧ codeAny (model pw w) A c' R s') (fun e s' => R (.error e) s') s' := by
        intro ys vs s' hys hsum hlen hil hsame hform hR
        obtain ⟨h', tk', rfl⟩ := hform
        refine wpAny_bind (wp_push hil (by rw [strsAre_len hys]; omega) fun h'' hil'' hsame'' => ?_)
        refine wpAny_pure ⟨Code.quiet_builtin _ (by decide +kernel), ?_⟩
        rw [hhd, hst, show (e == p) = false by rw [beq_eq_false_iff_ne]; omega]
        have hsm := hsame.trans hsame''
        refine ih e (k + 1) (ys ++ [r]) _ A _ R (by omega) f3 (strsAre_snoc hys r tr) (by rw [sumL_snoc]; omega) (by rw [List.length_append]; simp; omega) hil'' (ks_same hl hK hsm) ?_
        intro h3 tk3 t3 hs3
        have := hR h3 tk3 t3 (hsm.trans hs3)
        rw [List.flatMap_append, List.append_assoc]
        simpa using this
      by_cases hlt : d < p
      · rw [if_pos (by rw [hst]; exact hlt)]
        refine wpAny_bind (wp_slice hxs ?_)
        refine wpAny_bind (wp_push (s := { s with toks := s.toks + 1 }) hil (by rw [strsAre_len hys]; omega) fun h' hil' hsame => ?_)
        refine rest (ys ++ [⟨x.cps.extract d m'.start⟩]) _ _ (strsAre_snoc hys _ _) ?_ ?_ hil' hsame ⟨_, _, rfl⟩ ?_
        · rw [sumL_snoc, hst]
          show sumL ys + (x.cps.extract d p).size + r.length ≤ 3 * e
          rw [Array.size_extract]
          omega
        · rw [List.length_append]; simp; omega
        · intro h' tk' t' hk
          have := hR h' tk' t' hk
          rw [List.flatMap_append, hst]
          simpa using this
      · rw [if_neg (by rw [hst]; exact hlt)]
        refine rest ys vs s hys (by omega) (by omega) hil (.refl ..) ⟨_, _, rfl⟩ ?_
        intro h' tk' t' hk
        have := hR h' tk' t' hk
        rw [show x.cps.extract d p = #[] by simp; omega] at this
        simpa using this
noncomputable def Lk1 (b : Bool) (w : World) (pat : Addr) (x : Str) (tx : Tok) (r : Str) (tr : Tok) : Option Unit := peek (Ks w.params) ⟨pw, (w.withFollow "special-get-raises" b).params⟩ (checkBuiltinCall "re.Pattern.sub" ⟨[.ref pat, .str r tr, .str x tx], []⟩)
noncomputable def Lk1q (b : Bool) (w : World) (pat : Addr) (x : Str) (tx : Tok) (r : Str) (tr : Tok) : Option Unit := peek (Ks w.params) ⟨pq, (w.withFollow "special-get-raises" b).params⟩ (checkBuiltinCall "re.Pattern.sub" ⟨[.ref pat, .str r tr, .str x tx], []⟩)
noncomputable def Lk2 (b : Bool) (w : World) (x : Str) (tx : Tok) (r : Str) (tr : Tok) : Option (List (Option Value)) := peek (Ks w.params) ⟨pw, (w.withFollow "special-get-raises" b).params⟩ (reNamed "re.Pattern.sub" "sub" ["repl", "string", "count"] 2 [.str r tr, .str x tx] [])
noncomputable def Lk2q (b : Bool) (w : World) (x : Str) (tx : Tok) (r : Str) (tr : Tok) : Option (List (Option Value)) := peek (Ks w.params) ⟨pq, (w.withFollow "special-get-raises" b).params⟩ (reNamed "re.Pattern.sub" "sub" ["repl", "string", "count"] 2 [.str r tr, .str x tx] [])
noncomputable def Lk3 (b : Bool) (w : World) (r : Str) (tr : Tok) : Option (Option Value) := peek (Ks w.params) ⟨pw, (w.withFollow "special-get-raises" b).params⟩ (specialOf (.str r tr) "__call__")
noncomputable def Lk3q (b : Bool) (w : World) (r : Str) (tr : Tok) : Option (Option Value) := peek (Ks w.params) ⟨pq, (w.withFollow "special-get-raises" b).params⟩ (specialOf (.str r tr) "__call__")
theorem Lk1_rfl : Lk1q = Lk1q := rfl
theorem Lk2_rfl : Lk2q = Lk2q := rfl
theorem Lk3_rfl : Lk3q = Lk3q := rfl
name_quick lk1q for Lk1q by Lk1_rfl
name_quick lk2q for Lk2q by Lk2_rfl
name_quick lk3q for Lk3q by Lk3_rfl
theorem k1aq (b w x tx r tr) : Lk1q b w 107 x tx r tr = some () := by cases b <;> (rw [PySem.W.Fast.lk1q_eq]; kernel_rfl)
theorem k1a (b w x tx r tr) : Lk1 b w 107 x tx r tr = some () := by unfold Lk1; rw [pw_is]; exact k1aq b w x tx r tr
theorem k1bq (b w x tx r tr) : Lk1q b w 112 x tx r tr = some () := by cases b <;> (rw [PySem.W.Fast.lk1q_eq]; kernel_rfl)
theorem k1b (b w x tx r tr) : Lk1 b w 112 x tx r tr = some () := by unfold Lk1; rw [pw_is]; exact k1bq b w x tx r tr
theorem k2q (b w x tx r tr) : Lk2q b w x tx r tr = some [some (.str r tr), some (.str x tx), none] := by cases b <;> (rw [PySem.W.Fast.lk2q_eq]; kernel_rfl)
theorem k2 (b w x tx r tr) : Lk2 b w x tx r tr = some [some (.str r tr), some (.str x tx), none] := by unfold Lk2; rw [pw_is]; exact k2q b w x tx r tr
theorem k3q (b w r tr) : Lk3q b w r tr = some none := by cases b <;> (rw [PySem.W.Fast.lk3q_eq]; kernel_rfl)
theorem k3 (b w r tr) : Lk3 b w r tr = some none := by unfold Lk3; rw [pw_is]; exact k3q b w r tr
/-- a fact of every world from the two of one row -/
theorem byB {α : Type} {w : World} {t : Sem α} {r : α} {K : Frag} (h : ∀ b, peek K ⟨pw, (w.withFollow "special-get-raises" b).params⟩ t = some r) : peek K ⟨pw, w.params⟩ t = some r := by
  have := h (w.params.followText "special-get-raises")
  rwa [World.withFollow_self] at this
theorem wp_sub (hp : PatOk w pat code find) (hck : ∀ x tx r tr, peek (Ks w.params) ⟨pw, w.params⟩ (checkBuiltinCall "re.Pattern.sub" ⟨[.ref pat, .str r tr, .str x tx], []⟩) = some ())
    {x : Str} {tx : Tok} {r : Str} {tr : Tok} (hx : x.length ≤ 2 ^ 20) (hr : r.length ≤ 2) (hr92 : r.cps.contains 92 = false) {A : Around} {s : Shared} {Q E : Value → Shared → Prop} (hK : (Ks w.params).In s.heap) (hsz : 200 ≤ s.heap.objs.size)
    (hQ : ∀ h' tk' t', Kp s.heap h' → Q (.str ⟨(subF find x.cps r.cps.toList x.cps.size 0).toArray⟩ t') { s with heap := h', toks := tk' }) :
    wpAny (model pw w) A (call (.builtin "re.Pattern.sub") [.ref pat, .str r tr, .str x tx]) Q E s := by
  refine wpAny_call (codeAny_call_builtin (by decide +kernel) entry_sub ?_)
  refine (Looks.of_peek (M := model pw w) hK (hck x tx r tr)).here ?_
  unfold Builtin.«re.Pattern.sub» reSubstitute
  dsimp only
  refine wpAny_bind ((Looks.of_peek (M := model pw w) hK (byB fun b => k2 b w x tx r tr)).here ?_)
  dsimp only
  refine wpAny_bind (wpAny_pure ?_)
  refine wpAny_bind ((Looks.of_peek (M := model pw w) hK (byB fun b => k3 b w r tr)).here ?_)
  rw [if_neg (show ¬ (none : Option Value).isSome = true from Bool.false_ne_true)]
  refine wpAny_bind (m := asStr? (.str r tr)) (wpAny_pure (a := some r) ?_)
  dsimp only
  refine wpAny_bind (wpAny_pure ?_)
  rw [if_neg (show ¬ (none : Option Value).isSome = true from Bool.false_ne_true), hr92, if_pos (show (!false) = true from rfl)]
  refine wpAny_bind (wpAny_pure ?_)
  dsimp only
  refine wpAny_bind (wpAny_holding ((Looks.of_peek (M := model pw w) hK (hp.peek x tx)).here ?_))
  rw [if_neg (show ¬ ((0 : Int) == 1) = true from Bool.false_ne_true)]
  refine wpAny_bind (wpAny_newList ?_ (by decide))
  refine wpAny_pure ⟨Code.quiet_builtin _ (by decide +kernel), ?_⟩
  have hl : (Ks w.params).lookup s.heap.objs.size = none := by
    generalize s.heap.objs.size = n at hsz
    simp only [Ks, List.lookup]
    rw [show (n == 106) = false by rw [beq_eq_false_iff_ne]; omega, show (n == 107) = false by rw [beq_eq_false_iff_ne]; omega, show (n == 111) = false by rw [beq_eq_false_iff_ne]; omega, show (n == 112) = false by rw [beq_eq_false_iff_ne]; omega]
  have kp : Kp s.heap (s.heap.push { cls := .type "list", data := .seq ([] : List Value).toArray }) := fun b o e => Heap.get?_push_of_some _ e
  refine sub_loop hp x tx r tr hx hr s.heap.objs.size hl x.cps.size 0 0 [] [] _ _ _ (by omega) (Nat.zero_le _) .nil (Nat.zero_le _) (Nat.zero_le _) ⟨_, Heap.get?_push_size _ rfl, rfl, 0, rfl⟩ (fun a o e => kp _ _ (hK a o e)) ?_
  intro h' tk' t' hs
  refine hQ h' tk' t' fun b o e => ?_
  rw [hs.2 b (Nat.ne_of_lt (Heap.lt_size e))]
  exact kp _ _ e
end
noncomputable def find1 (t : Array Nat) (d : Nat) : Option (Nat × Nat) := if d < t.size then (findA t (t.size + 1 - d) d).map fun p => (p, p + 1) else none
noncomputable def find2 (t : Array Nat) (d : Nat) : Option (Nat × Nat) := if d < t.size then (findB t (t.size + 1 - d) d).map fun p => (p, endB t p) else none
theorem findA_spec (t : Array Nat) : ∀ (n d p : Nat), findA t n d = some p → d ≤ p ∧ condA t p = true ∧ ∀ i, d ≤ i → i < p → condA t i = false
  | 0, d, p, h => by cases h
  | n + 1, d, p, h => by
    unfold findA at h
    by_cases hc : condA t d = true
    · rw [if_pos hc] at h; cases h; exact ⟨Nat.le_refl _, hc, fun i a b => by omega⟩
    · rw [if_neg hc] at h
      obtain ⟨a, b, c⟩ := findA_spec t n (d + 1) p h
      refine ⟨by omega, b, fun i h1 h2 => ?_⟩
      by_cases e : i = d
      · subst e; simpa using hc
      · exact c i (by omega) h2
theorem findB_spec (t : Array Nat) : ∀ (n d p : Nat), findB t n d = some p → d ≤ p ∧ p < t.size ∧ (t.getD p 0 = 10 ∨ t.getD p 0 = 13) ∧ ∀ i, d ≤ i → i < p → ¬ (t.getD i 0 = 10 ∨ t.getD i 0 = 13)
  | 0, d, p, h => by cases h
  | n + 1, d, p, h => by
    unfold findB at h
    by_cases hs : d ≥ t.size
    · rw [if_pos hs] at h; cases h
    · rw [if_neg hs] at h
      by_cases hc : t.getD d 0 = 10 ∨ t.getD d 0 = 13
      · rw [if_pos hc] at h; cases h; exact ⟨Nat.le_refl _, by omega, hc, fun i a b => by omega⟩
      · rw [if_neg hc] at h
        obtain ⟨a, b, c, e⟩ := findB_spec t n (d + 1) p h
        refine ⟨by omega, b, c, fun i h1 h2 => ?_⟩
        by_cases q : i = d
        · subst q; exact hc
        · exact e i (by omega) h2
theorem endB_le {t : Array Nat} {p : Nat} (h : p < t.size) : p < endB t p ∧ endB t p ≤ t.size := by
  unfold endB
  by_cases q : t.getD p 0 = 13 ∧ p + 1 < t.size ∧ t.getD (p + 1) 0 = 10
  · rw [if_pos q]; have := q.2.1; omega
  · rw [if_neg q]; omega
theorem pat1 (w : World) : PatOk w 107 cA find1 where
  peek := peek107 w
  search := fun t pos h => (searchA t pos h).le (by omega)
  find := fun t pos p e h => by
    unfold find1 at h
    split at h
    · cases hf : findA t (t.size + 1 - pos) pos with
      | none => rw [hf] at h; cases h
      | some q =>
        rw [hf] at h; cases h
        obtain ⟨a, b, _⟩ := findA_spec t _ _ _ hf
        unfold condA at b
        simp only [Bool.and_eq_true, decide_eq_true_eq] at b
        omega
    · cases h
theorem pat2 (w : World) : PatOk w 112 cB find2 where
  peek := peek112 w
  search := fun t pos h => (searchB t pos h).le (by omega)
  find := fun t pos p e h => by
    unfold find2 at h
    split at h
    · cases hf : findB t (t.size + 1 - pos) pos with
      | none => rw [hf] at h; cases h
      | some q =>
        rw [hf] at h; cases h
        obtain ⟨a, b, _, _⟩ := findB_spec t _ _ _ hf
        exact ⟨a, endB_le b⟩
    · cases h
end
section
set_option maxRecDepth 100000
set_option maxHeartbeats 4000000
def ol : OpenLaw := PySem.Challenge.rw_ta0050_01
theorem fill : ol = ol ∧ ∀ P, K P = K P := by
  k_fill
  exact ⟨rfl, fun _ => rfl⟩
noncomputable abbrev aro (dp un : Nat) (gd : Option (List Code)) (outer : List Env) : Around := { handled := none, depth := dp, frames := some outer, guards := gd, units := un }
theorem room {dp n k L : Nat} (h : dp + n < L) (hk : 1 + k ≤ n) : dp + 1 + k < L := by omega
theorem room3 {dp n k L : Nat} (h : dp + n < L) (hk : 3 + k ≤ n) : dp + 3 + k < L := by omega
theorem aro_eq {A : Around} {outer : List Env} (hh : A.handled = none) (hf : A.frames = some outer) : A = aro A.depth A.units A.guards outer := by
  obtain ⟨a, b, c, d, e⟩ := A
  simp only at hh hf
  subst hh hf
  rfl
structure Tp (w : World) (h : Heap) : Prop where
  top : ∃ mean mg mb, Top q looseM mean mg mb h
/-- a call that keeps the heap: k is the room it needs -/
noncomputable def Pure (k : Nat) (w : World) (mean : ExcName → Option Value) (mg mb : Str → Option Value) (f : Addr) (vs : List Value) (Pre : Shared → Prop) (Post : Shared → Value → Heap → Nat → Prop) : Prop :=
  ∀ (dp un : Nat) (gd : Option (List Code)) (outer : List Env) (base : Heap) (s : Shared) (Q E : Value → Shared → Prop),
    dp + k < recursionLimit → un + 20 * k < cLine → Below (aro dp un gd outer) base outer s.heap → (K w.params).In s.heap → Top q looseM mean mg mb s.heap → 0 < s.toks → Pre s →
    (∀ v h' tk', Kp s.heap h' → s.toks ≤ tk' → Post s v h' tk' → Q v { s with heap := h', toks := tk' }) →
    wpAny (model pw w) (aro dp un gd outer) (call (.ref f) vs) Q E s
theorem le_toks {α : Type} {M : Model} {A : Around} {t : Sem α} {Q : α → Shared → Prop} {E : Value → Shared → Prop} {s : Shared}
    (h : wpAny M A t (fun a s' => s.toks ≤ s'.toks → Q a s') (fun e s' => s.toks ≤ s'.toks → E e s') s) : wpAny M A t Q E s :=
  wpAny_mono (wpAny_toks h) (fun _ _ q => q.2 q.1) fun _ _ q => q.2 q.1
theorem size_of {w : World} {h : Heap} (X : (K w.params).In h) : 228 ≤ h.objs.size := Heap.lt_size (X 227 _ rfl)
theorem Pure.of {k : Nat} {w : World} {mean : ExcName → Option Value} {mg mb : Str → Option Value} {f : Addr} {vs : List Value} {Pre : Shared → Prop} {Post : Shared → Value → Heap → Nat → Prop}
    (h : ∀ (dp un : Nat) (gd : Option (List Code)) (outer : List Env) (base : Heap) (s : Shared) (Q E : Value → Shared → Prop),
      dp + k < recursionLimit → un + 20 * k < cLine → Below (aro dp un gd outer) base outer s.heap → (K w.params).In s.heap → Top q looseM mean mg mb s.heap → 0 < s.toks → Pre s →
      (∀ v h' tk', Kp s.heap h' → Post s v h' tk' → Q v { s with heap := h', toks := tk' }) →
      wpAny (model pw w) (aro dp un gd outer) (call (.ref f) vs) Q E s) : Pure k w mean mg mb f vs Pre Post :=
  fun dp un gd outer base s Q E hd hu B X T h0 hp hret => le_toks (h dp un gd outer base s _ _ hd hu B X T h0 hp fun v h' tk' k p le => hret v h' tk' k le p)
theorem Pure.use {k : Nat} {w : World} {mean : ExcName → Option Value} {mg mb : Str → Option Value} {f : Addr} {vs : List Value} {Pre : Shared → Prop} {Post : Shared → Value → Heap → Nat → Prop} (C : Pure k w mean mg mb f vs Pre Post)
    {A A₀ : Around} {env : Env} {outer : List Env} {base h₀ : Heap} {L : Addr} {m : Str → Option Value} {news : List (Addr × Obj)} {s : Shared} {Q E : Value → Shared → Prop}
    (hA : A.frames = some (env :: outer)) (hh : A.handled = none) (hf : env.frame = some L) (hke : env.scope.kind = .function)
    (B : Below A₀ base outer h₀) (F : Fr h₀ L s.heap m) (X : (K w.params).In h₀) (N : News h₀ L s.heap news) (T : Top q looseM mean mg mb h₀) (hd : A.depth + k < recursionLimit) (hu : A.units + 20 * k < cLine) (h0 : 0 < s.toks) (hpre : Pre s)
    (h : ∀ v h' tk', Fr h₀ L h' m → News h₀ L h' news → Kp s.heap h' → s.toks ≤ tk' → Post s v h' tk' → Q v { s with heap := h', toks := tk' }) : wpAny (model pw w) A (call (.ref f) vs) Q E s := by
  rw [aro_eq hh hA]
  have B' := pushX B F hf hke
  refine C A.depth A.units A.guards (env :: outer) base s _ _ hd hu ⟨rfl, B'.stays, B'.frames⟩ (X.keeps F.keep) (T.keeps F.keep) h0 hpre ?_
  intro v h' tk' k h1 p
  exact h v h' tk' ⟨F.ns.keeps k, fun b o e => k _ _ (F.keep b o e), F.above⟩ (fun p hp => ⟨k _ _ (N p hp).1, (N p hp).2⟩) k h1 p
theorem cons_le {M : Model} {A : Around} {st : Stmt} {rest : List Stmt} {env : Env} {Q : Flow → Shared → Prop} {E : Value → Shared → Prop} {h : Heap} {g : Array GenState} {d : Drawn} {os : OsState} {X : Nat}
    (k : ∀ tk, X ≤ tk → wpAny M A (exec st env) (fun fl s' => tk ≤ s'.toks → match fl with | .next => wpAny M A (execs rest env) Q E s' | fl => Q fl s') E ⟨h, g, d, tk, os⟩) : wpAny M A (execs (st :: rest) env) Q E ⟨h, g, d, X, os⟩ :=
  wpAny_execs_cons (le_toks (wpAny_mono (k X (Nat.le_refl _)) (fun _ _ q => q) fun _ _ q _ => q))
theorem nsAt_none {K : Frag} {h : Heap} {a : Addr} {m : Str → Option Value} {n : Str} (X : K.In h) (G : h.Ns a m) (e : nsIn K a n = some none) : m n = none := by
  obtain ⟨o, es, ep, ho, hd, _, hf⟩ := G
  rw [← hf]
  unfold nsIn at e
  split at e
  · rename_i q
    have z := X _ _ q
    rw [ho] at z
    injection z with z
    rw [z] at hd
    injection hd with h1 h2
    subst h1
    split at e
    · cases e
    · rename_i he
      show nsFind _ n = none
      unfold nsFind findBy
      rw [← Array.find?_toList, he]
      rfl
  · cases e
theorem noneBooked {w : World} {mean : ExcName → Option Value} {mg mb : Str → Option Value} {h : Heap} (X : (K w.params).In h) (T : Top q looseM mean mg mb h) : NoneBooked h := by
  obtain ⟨mc, h1, _⟩ := T.nodigits
  exact ⟨mc, h1, nsAt_none X h1 (by k_is)⟩
theorem sameInt {M : Model} {A : Around} {E : Value → Shared → Prop} {s : Shared} {a b : Int} {t u : Nat} {Q : Bool → Shared → Prop} (ht : t ≠ 0) (hu : u ≠ 0) (hb : NoneBooked s.heap) (hq : ∀ c, (c = true → a = b ∨ t = u) → Q c s) :
    wpAny M A (isSame (.int a t) (.int b u)) Q E s := by
  have h0 : (t == 0 || u == 0) = false := by simp [ht, hu]
  show wpAny M A (if (a == b && smallInt a) = true then isSame.cachedInt t u else isSame.created (a == b) t u) Q E s
  by_cases hs : (a == b && smallInt a) = true
  · rw [if_pos hs]
    unfold isSame.cachedInt
    rw [h0, if_neg Bool.false_ne_true]
    exact wpAny_bind (wpAny_rule (wpAny_pure (hq _ fun _ => .inl (by simpa using (Bool.and_eq_true_iff.mp hs).1))))
  · rw [if_neg hs]
    unfold isSame.created
    rw [h0]
    refine wpAny_ite ?_
    rw [if_neg Bool.false_ne_true]
    refine wpAny_ite ?_
    split
    · rename_i e; exact wpAny_pure (hq _ fun _ => .inr (by simpa using e))
    refine wpAny_ite ?_
    split
    · exact wpAny_pure (hq _ fun e => by cases e)
    rename_i e
    refine wpAny_bind (wpAny_sharingNotTold_none hb ?_)
    rw [if_neg Bool.false_ne_true]
    refine wpAny_bind (wpAny_sharingNotTold_none hb ?_)
    rw [if_neg Bool.false_ne_true]
    exact wpAny_bind (wpAny_rule (wpAny_bind (wpAny_askSetting (wpAny_pure (hq _ fun _ => .inl (by simpa using e))))))
section
variable {w : World} {mean : ExcName → Option Value} {mg mb : Str → Option Value} {dp un : Nat} {gd : Option (List Code)} {outer : List Env} {base : Heap} {s : Shared} {R : Result → Shared → Prop}
    {name qual : Str} {params : Arguments} {body : List Stmt} {scope : Scope} {dV kV doc pm cdv ct oc : Value} {an od : Option Addr} {osl : Array (Option Value)} {f : Addr} {args : Args} {binds : List (Str × Value)}
theorem pure_enter
    (B : Below (aro dp un gd outer) base outer s.heap) (X : (K w.params).In s.heap) (T : Top q looseM mean mg mb s.heap)
    (ho : (K w.params).lookup f = some ⟨oc, od, .func (fnOf name qual params body scope dV kV doc pm an cdv ct), osl⟩) (hcd : codeIn (K w.params) cdv qual = true) (hroom : dp < recursionLimit)
    (hbind : BindsTo s (fnOf name qual params body scope dV kV doc pm an cdv ct) args binds) (hloc : ∀ y ∈ binds, scope.names.lookup y.1 = some .local)
    (h : ∀ L' h₁ tk, s.toks ≤ tk → Fr s.heap L' h₁ (fun y => binds.reverse.lookup y) → News s.heap L' h₁ [] →
      wpAny (model pw w) ((aro dp un gd outer).deeper (envOf qual scope L' f cdv)) (execs body (envOf qual scope L' f cdv))
        (fun fl s' => R (.ok (.ret (match fl with | .ret v => v | _ => .none))) s')
        (fun e s' => wpAny (model pw w) ((aro dp un gd outer).deeper (envOf qual scope L' f cdv)) (leaving (envOf qual scope L' f cdv) e) (fun _ s'' => R (.error e) s'') (fun e' s'' => R (.error e') s'') s')
        { s with heap := h₁, toks := tk })
    (hco : scope.isCoroutine = false) (hgen : scope.isGenerator = false) (hk : scope.kind = .function) (hcell : ∀ x ∈ scope.names, x.2 ≠ .cell) : codeAny (model pw w) (aro dp un gd outer) (.call (.ref f) args) R s := by
  refine codeAny_call_def (fd := fnOf name qual params body scope dV kV doc pm an cdv ct) (body := body) (binds := binds) hroom (X _ _ ho) rfl T.nolimit (codeRec_of X hcd) rfl hbind hcell hloc (fun h₁ hns hk₁ => ?_) hco hgen hk
  exact h s.heap.objs.size h₁ _ (Nat.le_add_right _ _) ⟨hns, hk₁, Nat.le_refl _⟩ News.nil
theorem pure_enterC
    (B : Below (aro dp un gd outer) base outer s.heap) (X : (K w.params).In s.heap) (T : Top q looseM mean mg mb s.heap)
    (ho : (K w.params).lookup f = some ⟨oc, od, .func (fnOf name qual params body scope dV kV doc pm an cdv ct), osl⟩) (hcd : codeIn (K w.params) cdv qual = true) (hroom : dp < recursionLimit)
    (hbind : BindsTo s (fnOf name qual params body scope dV kV doc pm an cdv ct) args binds) (hkind : (binds.all fun y => scope.names.lookup y.1 == some .local || scope.names.lookup y.1 == some .cell) = true)
    (hnd : ((cellsFrom 0 scope.names []).map (·.1)).Nodup)
    (h : ∀ L' h₁ tk cells, s.toks ≤ tk → Fr s.heap L' h₁ (bindL (envOfC qual scope L' f cdv).kindOf binds fun _ => none) → News s.heap L' h₁ cells →
      CellsAre (bindC (envOfC qual scope L' f cdv).kindOf binds fun _ => none) (cellsFrom (L' + 1) scope.names []) cells →
      wpAny (model pw w) ((aro dp un gd outer).deeper (envOfC qual scope L' f cdv)) (execs body (envOfC qual scope L' f cdv))
        (fun fl s' => R (.ok (.ret (match fl with | .ret v => v | _ => .none))) s')
        (fun e s' => wpAny (model pw w) ((aro dp un gd outer).deeper (envOfC qual scope L' f cdv)) (leaving (envOfC qual scope L' f cdv) e) (fun _ s'' => R (.error e) s'') (fun e' s'' => R (.error e') s'') s')
        { s with heap := h₁, toks := tk })
    (hco : scope.isCoroutine = false) (hgen : scope.isGenerator = false) (hk : scope.kind = .function) : codeAny (model pw w) (aro dp un gd outer) (.call (.ref f) args) R s := by
  refine codeAny_call_function hroom (X _ _ ho) rfl hco hgen rfl (codeRec_of X hcd) (hbind _ _ _ _ ?_)
  refine le_toks (wpAny_newFunctionEnv_cells hk (kindsX hkind _) fun env' he s' x ht => ?_)
  subst he
  refine ⟨T.nolimit.keeps x.toInCall.keep, codeAny_func ?_⟩
  obtain ⟨h₁, tk, rfl, _⟩ := x.done
  have hk₁ := x.toInCall.keep
  obtain ⟨cells, NC, Y⟩ := Cl.news (h₀ := s.heap) (Nat.le_refl _) fun n c hm => ⟨x.cell n c (lookup_of_mem_nodup (cellsFrom_names scope.names 0 (s.heap.objs.size + 1) [] [] rfl ▸ hnd) hm), x.above n c hm⟩
  exact h s.heap.objs.size h₁ tk cells ht ⟨x.toInCall.ns, hk₁, Nat.le_refl _⟩ NC Y
end
theorem frKp {h₀ h h' : Heap} {L : Addr} {m : Str → Option Value} (F : Fr h₀ L h m) (k : Kp h h') : Fr h₀ L h' m := ⟨F.ns.keeps k, fun b o e => k _ _ (F.keep b o e), F.above⟩
theorem newsKp {h₀ h h' : Heap} {L : Addr} {news : List (Addr × Obj)} (N : News h₀ L h news) (k : Kp h h') : News h₀ L h' news := fun p hp => ⟨k _ _ (N p hp).1, (N p hp).2⟩
noncomputable def Lg1 (b : Bool) (w : World) (pl : Sem Bool) : Option (Value × List Value) := peek (Ks w.params) ⟨pw, (w.withFollow "special-get-raises" b).params⟩ (getMethod (.ref 107) "sub" pl)
noncomputable def Lg1q (b : Bool) (w : World) (pl : Sem Bool) : Option (Value × List Value) := peek (Ks w.params) ⟨pq, (w.withFollow "special-get-raises" b).params⟩ (getMethod (.ref 107) "sub" pl)
noncomputable def Lg2 (b : Bool) (w : World) (pl : Sem Bool) : Option (Value × List Value) := peek (Ks w.params) ⟨pw, (w.withFollow "special-get-raises" b).params⟩ (getMethod (.ref 112) "sub" pl)
noncomputable def Lg2q (b : Bool) (w : World) (pl : Sem Bool) : Option (Value × List Value) := peek (Ks w.params) ⟨pq, (w.withFollow "special-get-raises" b).params⟩ (getMethod (.ref 112) "sub" pl)
theorem Lg1_rfl : Lg1q = Lg1q := rfl
theorem Lg2_rfl : Lg2q = Lg2q := rfl
name_quick lg1q for Lg1q by Lg1_rfl
name_quick lg2q for Lg2q by Lg2_rfl
theorem g1q (b w pl) : Lg1q b w pl = some (.builtin "re.Pattern.sub", [.ref 107]) := by cases b <;> (rw [PySem.W.Fast.lg1q_eq]; kernel_rfl)
theorem g1 (b w pl) : Lg1 b w pl = some (.builtin "re.Pattern.sub", [.ref 107]) := by unfold Lg1; rw [pw_is]; exact g1q b w pl
theorem g2q (b w pl) : Lg2q b w pl = some (.builtin "re.Pattern.sub", [.ref 112]) := by cases b <;> (rw [PySem.W.Fast.lg2q_eq]; kernel_rfl)
theorem g2 (b w pl) : Lg2 b w pl = some (.builtin "re.Pattern.sub", [.ref 112]) := by unfold Lg2; rw [pw_is]; exact g2q b w pl
theorem get107 {w : World} {A : Around} {E : Value → Shared → Prop} {s : Shared} {pl : Sem Bool} {Q : Value × List Value → Shared → Prop} (X : (K w.params).In s.heap) (h : Q (.builtin "re.Pattern.sub", [.ref 107]) s) :
    wpAny (model pw w) A (getMethod (.ref 107) (Str.ofString "sub") pl) Q E s := (Looks.of_peek (M := model pw w) (ks_of X) (byB fun b => g1 b w pl)).here h
theorem get112 {w : World} {A : Around} {E : Value → Shared → Prop} {s : Shared} {pl : Sem Bool} {Q : Value × List Value → Shared → Prop} (X : (K w.params).In s.heap) (h : Q (.builtin "re.Pattern.sub", [.ref 112]) s) :
    wpAny (model pw w) A (getMethod (.ref 112) (Str.ofString "sub") pl) Q E s := (Looks.of_peek (M := model pw w) (ks_of X) (byB fun b => g2 b w pl)).here h
noncomputable def crlf (x : Str) : Str := ⟨(subF find2 x.cps [13, 10] x.cps.size 0).toArray⟩
noncomputable def dots (x : Str) : Str := ⟨(subF find1 x.cps [46, 46] x.cps.size 0).toArray⟩
local macro_rules | `(tactic| walk_at "getMethod ref") => `(tactic| (k_here; (with_reducible show wpAny _ _ (getMethod (Value.ref _) _ _) _ _ _); first | refine' get107 ?gx ?_; (case gx => exact Frag.In.keeps (by k_asm) (Fr.keep (by k_asm))) | refine' get112 ?gx ?_; (case gx => exact Frag.In.keeps (by k_asm) (Fr.keep (by k_asm)))))
theorem c_quote : ∀ (w : World) (mean mg mb) (x : Str) (tx : Tok), x.length ≤ 2 ^ 20 → (crlf x).length ≤ 2 ^ 20 →
    Pure 10 w mean mg mb 119 [.str x tx] (fun _ => True) (fun _ v _ tk' => ∃ t, v = .str (dots (crlf x)) t) := by
  intro w mean mg mb x tx hx hc
  refine Pure.of ?_
  intro dp un gd outer base s Q E hd hu B X T h0 _ hret
  refine wpAny_call ?_
  k_dflt (refine' pure_enter ?k1 ?k2 ?k3 ?k6 ?k7 ?k8 ?k9 ?kB ?_ ?c2 ?c3 ?c4 ?c5; (case k1 => k_asm); (case k2 => k_asm); (case k3 => k_asm); (case k6 => k_is); (case k7 => k_is); (case k8 => (unfold recursionLimit at *; omega)); (case k9 => exact BindsTo.of_eq rfl); (case c5 => decide); (case kB => exact locs rfl); (case c2 => exact rfl); (case c3 => exact rfl); (case c4 => exact rfl); k_whole; intro L' h' tk' le' F' N'; (try dsimp only); (try k_fold))
  k_steps
  have ck1 : ∀ x tx r tr, peek (Ks w.params) ⟨pw, w.params⟩ (checkBuiltinCall "re.Pattern.sub" ⟨[.ref 107, .str r tr, .str x tx], []⟩) = some () := fun x tx r tr => byB fun b => k1a b w x tx r tr
  have ck2 : ∀ x tx r tr, peek (Ks w.params) ⟨pw, w.params⟩ (checkBuiltinCall "re.Pattern.sub" ⟨[.ref 112, .str r tr, .str x tx], []⟩) = some () := fun x tx r tr => byB fun b => k1b b w x tx r tr
  refine wp_sub (pat2 w) ck2 hx (by decide +kernel) (by decide +kernel) (ks_of (X.keeps F'.keep)) (Nat.le_trans (by decide) (size_of (X.keeps F'.keep))) ?_
  intro h2 tk2 t2 kp2
  have F2 := frKp F' kp2
  have N2 := newsKp N' kp2
  clear N'
  k_steps
  refine wp_sub (pat1 w) ck1 hc (by decide +kernel) (by decide +kernel) (ks_of (X.keeps F2.keep)) (Nat.le_trans (by decide) (size_of (X.keeps F2.keep))) ?_
  intro h3 tk3 t3 kp3
  refine hret _ _ _ (frKp F2 kp3).keep ⟨t3, ?_⟩
  rfl
end
local macro_rules | `(tactic| walk_at "mine enter") => `(tactic| k_dflt (refine' pure_enter ?k1 ?k2 ?k3 ?k6 ?k7 ?k8 ?k9 ?kB ?_ ?c2 ?c3 ?c4 ?c5; (case k1 => k_asm); (case k2 => k_asm); (case k3 => k_asm); (case k6 => k_is); (case k7 => k_is); (case k8 => (unfold recursionLimit at *; omega)); (case k9 => exact BindsTo.of_eq rfl); (case c5 => decide); (case kB => exact locs rfl); (case c2 => exact rfl); (case c3 => exact rfl); (case c4 => exact rfl); k_whole; intro L' h' tk' le' F' N'; (try dsimp only); (try k_fold)))
local macro_rules | `(tactic| walk_at "mine enterC") => `(tactic| k_dflt (refine' pure_enterC ?k1 ?k2 ?k3 ?k6 ?k7 ?k8 ?k9 ?kB ?kD ?_ ?c2 ?c3 ?c4; (case k1 => k_asm); (case k2 => k_asm); (case k3 => k_asm); (case k6 => k_is); (case k7 => k_is); (case k8 => (unfold recursionLimit at *; omega)); (case k9 => exact BindsTo.of_eq rfl); (case kB => exact rfl); (case kD => decide +kernel); (case c2 => exact rfl); (case c3 => exact rfl); (case c4 => exact rfl); k_whole; intro L' h' tk' cells' le' F' N' Y'; k_cells Y'; (try simp only [List.cons_append, List.nil_append] at N'); (try dsimp only); (try k_fold)))
section
set_option maxRecDepth 100000
set_option maxHeartbeats 4000000
local macro_rules | `(tactic| walk_at "execs cons") => `(tactic| (k_here; with_reducible refine cons_le ?_; intro tk le))
local macro_rules | `(tactic| walk_at "binaryOp FloorDiv int int") => `(tactic| (k_here; with_reducible refine floordiv_int (by omega) ?_ (Or.inl (PyProof.noPylong_small (by omega)))))
local macro_rules | `(tactic| walk_at "binaryOp LShift int int") => `(tactic| (k_here; with_reducible refine lshift_int_small (by omega) (by omega) (by omega) ?_))
theorem c_add : ∀ (w : World) (mean mg mb) (a b : Int) (ta tb : Tok), Pure 5 w mean mg mb 53 [.int a ta, .int b tb] (fun _ => True) (fun s v _ _ => ∃ t, v = .int (a + b) t ∧ s.toks ≤ t) := by
  intro w mean mg mb a b ta tb 
  refine Pure.of ?_
  intro dp un gd outer base s Q E hd hu B X T h0 _ hret
  refine wpAny_call ?_
  walk_at "mine enter"
  k_steps
  dsimp only
  exact hret _ _ _ (Fr.keep (by assumption)) ⟨_, rfl, by (try dsimp only); omega⟩
theorem c_and : ∀ (w : World) (mean mg mb) (a b : Int) (ta tb : Tok), Pure 5 w mean mg mb 60 [.int a ta, .int b tb] (fun _ => True) (fun s v _ _ => ∃ t, v = .int (Builtin.bitAnd a b) t ∧ s.toks ≤ t) := by
  intro w mean mg mb a b ta tb 
  refine Pure.of ?_
  intro dp un gd outer base s Q E hd hu B X T h0 _ hret
  refine wpAny_call ?_
  walk_at "mine enter"
  k_steps
  dsimp only
  exact hret _ _ _ (Fr.keep (by assumption)) ⟨_, rfl, by (try dsimp only); omega⟩
theorem c_fdiv : ∀ (w : World) (mean mg mb) (a b : Int) (ta tb : Tok), 0 < b → -10000 < a → a < 10000 → b < 10000 → Pure 5 w mean mg mb 67 [.int a ta, .int b tb] (fun _ => True) (fun s v _ _ => ∃ t, v = .int (a.fdiv b) t ∧ s.toks ≤ t) := by
  intro w mean mg mb a b ta tb hb h1 h2 h3
  refine Pure.of ?_
  intro dp un gd outer base s Q E hd hu B X T h0 _ hret
  refine wpAny_call ?_
  walk_at "mine enter"
  k_steps
  dsimp only
  exact hret _ _ _ (Fr.keep (by assumption)) ⟨_, rfl, by (try dsimp only); omega⟩
theorem c_lshift : ∀ (w : World) (mean mg mb) (a b : Int) (ta tb : Tok), 0 ≤ b → b < 40 → 0 ≤ a → a < 10000 → Pure 5 w mean mg mb 74 [.int a ta, .int b tb] (fun _ => True) (fun s v _ _ => ∃ t, v = .int (a * 2 ^ b.toNat) t ∧ s.toks ≤ t) := by
  intro w mean mg mb a b ta tb hb hb' h1 h2
  refine Pure.of ?_
  intro dp un gd outer base s Q E hd hu B X T h0 _ hret
  refine wpAny_call ?_
  walk_at "mine enter"
  k_steps
  dsimp only
  exact hret _ _ _ (Fr.keep (by assumption)) ⟨_, rfl, by (try dsimp only); omega⟩
theorem c_mod : ∀ (w : World) (mean mg mb) (a b : Int) (ta tb : Tok), 0 < b → Pure 5 w mean mg mb 81 [.int a ta, .int b tb] (fun _ => True) (fun s v _ _ => ∃ t, v = .int (a.fmod b) t ∧ s.toks ≤ t) := by
  intro w mean mg mb a b ta tb hb
  refine Pure.of ?_
  intro dp un gd outer base s Q E hd hu B X T h0 _ hret
  refine wpAny_call ?_
  walk_at "mine enter"
  k_steps
  dsimp only
  exact hret _ _ _ (Fr.keep (by assumption)) ⟨_, rfl, by (try dsimp only); omega⟩
theorem c_sub : ∀ (w : World) (mean mg mb) (a b : Int) (ta tb : Tok), Pure 5 w mean mg mb 88 [.int a ta, .int b tb] (fun _ => True) (fun s v _ _ => ∃ t, v = .int (a - b) t ∧ s.toks ≤ t) := by
  intro w mean mg mb a b ta tb 
  refine Pure.of ?_
  intro dp un gd outer base s Q E hd hu B X T h0 _ hret
  refine wpAny_call ?_
  walk_at "mine enter"
  k_steps
  dsimp only
  exact hret _ _ _ (Fr.keep (by assumption)) ⟨_, rfl, by (try dsimp only); omega⟩
end
section
set_option maxRecDepth 100000
set_option maxHeartbeats 4000000
/-- how one turn of a loop ends -/
noncomputable def LoopEnd (h₀ : Heap) (L I : Addr) (oI : Obj) (S : List (Addr × Obj) → Prop) (J : (Str → Option Value) → List (Addr × Obj) → Nat → Prop) (gs : Array GenState) (dr : Drawn) (os : OsState) (Q : Flow → Shared → Prop) (f : Flow) (s' : Shared) : Prop :=
  match f with
  | .brk => Q .next s'
  | .ret v => Q (.ret v) s'
  | _ => ∃ h' tk' m' news', s' = ⟨h', gs, dr, tk', os⟩ ∧ Fr h₀ L h' m' ∧ News h₀ L h' ((I, oI) :: news') ∧ (∀ p ∈ news', p.1 ≠ I) ∧ S news' ∧ J m' news' tk'
theorem LoopEnd.next {h₀ : Heap} {L I : Addr} {oI : Obj} {S : List (Addr × Obj) → Prop} {J : (Str → Option Value) → List (Addr × Obj) → Nat → Prop} {gs : Array GenState} {dr : Drawn} {os : OsState} {Q : Flow → Shared → Prop} {h' : Heap} {tk' : Nat} {m' : Str → Option Value} {news' all : List (Addr × Obj)}
    (F : Fr h₀ L h' m') (N : News h₀ L h' all) (sub : ∀ p ∈ (I, oI) :: news', p ∈ all) (off : ∀ p ∈ news', p.1 ≠ I) (hS : S news') (hJ : J m' news' tk') : LoopEnd h₀ L I oI S J gs dr os Q .next ⟨h', gs, dr, tk', os⟩ :=
  ⟨h', tk', m', news', rfl, F, fun p hp => N p (sub p hp), off, hS, hJ⟩
section
variable {prog : Program} {w : World} {A : Around} {s : Shared} {env : Env} {h₀ : Heap} {E : Value → Shared → Prop}
theorem loop_walk {x : Str} {px : Pos} {body orelse : List Stmt} {I : Addr} {fp : List Addr} {n : Nat} {P : Nat → Value → Prop} {St : Nat → Heap → Prop} {S : List (Addr × Obj) → Prop} {m : Str → Option Value} {news : List (Addr × Obj)} {Q : Flow → Shared → Prop}
    (W : Walks prog w A I fp [I] n P St) (hx : env.kindOf x = some .local) (hp : (env.scope.kind == .class || (env.scope.kind == .module && env.locals != env.globals)) = false)
    (hIo : ∀ i h, St i h → ∃ o, h.get? I = some o)
    (hSt : ∀ i h h' o nw, St i h → h.get? I = some o → h'.get? I = some o → (∀ b o, h₀.get? b = some o → h'.get? b = some o) → News h₀ env.locals h' nw → S nw → St i h')
    (hIL : env.locals ≠ I) (hI₀ : h₀.get? I = none) (off : ∀ p ∈ news, p.1 ≠ I) (hst : St 0 s.heap) (F : Fr h₀ env.locals s.heap m) (N : News h₀ env.locals s.heap news) (hS : S news)
    (J : Nat → (Str → Option Value) → List (Addr × Obj) → Nat → Prop) (h0 : J 0 m news s.toks) (mono : ∀ i m nw t t', t ≤ t' → J i m nw t → J i m nw t')
    (turn : ∀ i v m₁ news₁ oI h tk E', i < n → P i v → s.toks ≤ tk → J i m₁ news₁ tk → (∀ p ∈ news₁, p.1 ≠ I) → S news₁ → Fr h₀ env.locals h (fun y => if y = x then some v else m₁ y) → News h₀ env.locals h ((I, oI) :: news₁) →
      wpAny (model prog w) A (execs body env) (LoopEnd h₀ env.locals I oI S (J (i + 1)) s.gens s.drawn s.os Q) E' { s with heap := h, toks := tk })
    (done : ∀ m₁ news₁ h tk E', s.toks ≤ tk → J n m₁ news₁ tk → S news₁ → Fr h₀ env.locals h m₁ → News h₀ env.locals h news₁ → wpAny (model prog w) A (execs orelse env) Q E' { s with heap := h, toks := tk }) :
    codeAny (model prog w) A (.forLoop (.Name x px) (.ref I) body orelse env) (fun r s' => match r with | .ok f => Q f s' | .error e => E e s') s := by
  have drop : ∀ {h h' : Heap}, (∀ b o, b ∉ [I] → h.get? b = some o → h'.get? b = some o) → ∀ {m₁ news₁}, (∀ p ∈ news₁, p.1 ≠ I) → Fr h₀ env.locals h m₁ → News h₀ env.locals h news₁ → Fr h₀ env.locals h' m₁ ∧ News h₀ env.locals h' news₁ := fun hk m₁ news₁ ho F N =>
    ⟨⟨F.ns.at' fun o e => hk _ o (by simpa using hIL) e, fun b o e => hk b o (fun q => by rw [List.mem_singleton.mp q, hI₀] at e; cases e) (F.keep b o e), F.above⟩, fun p hp => ⟨hk _ _ (by simpa using ho p hp) (N p hp).1, (N p hp).2⟩⟩
  refine codeAny_forLoop
    (fun k s' => ∃ h' tk i m' news', s' = { s with heap := h', toks := tk } ∧ s.toks ≤ tk ∧ St i h' ∧ Fr h₀ env.locals h' m' ∧ News h₀ env.locals h' news' ∧ (∀ p ∈ news', p.1 ≠ I) ∧ S news' ∧ J i m' news' tk ∧ i ≤ n ∧ k = n + 1 - i) ?_ (n + 1)
    ⟨s.heap, s.toks, 0, m, news, rfl, Nat.le_refl _, hst, F, N, off, hS, h0, Nat.zero_le _, rfl⟩
  rintro k s' ⟨h', tk, i, m', news', rfl, ht, hst', F', N', off', hS', hJ, hi, rfl⟩
  by_cases hlt : i < n
  · refine le_toks (W.item i _ _ _ hlt hst' fun v h₁ tk₁ hP hst₁ hk₁ le₁ => ?_)
    obtain ⟨F₁, N₁⟩ := drop hk₁ off' F' N'
    refine wpAny_assign_Name (wpAny_storeName_local hx F₁.ns (fun h₂ hn₂ hs₂ => ?_) hp)
    have F₂ := F₁.set hn₂ hs₂
    have N₂ := N₁.set hs₂
    obtain ⟨oI, hoI⟩ := hIo _ _ hst₁
    have hoI₂ : h₂.get? I = some oI := hs₂.extBut _ _ (Ne.symm hIL) hoI
    have hst₂ : St (i + 1) h₂ := hSt _ _ _ oI news' hst₁ hoI hoI₂ F₂.keep N₂ hS'
    have N₃ : News h₀ env.locals h₂ ((I, oI) :: news') := fun p hp => by
      rcases List.mem_cons.mp hp with rfl | hp
      · exact ⟨hoI₂, Ne.symm hIL, hI₀⟩
      · exact N₂ p hp
    have le₂ : tk ≤ tk₁ + 1 := Nat.le_succ_of_le le₁
    refine le_toks (wpAny_mono (turn i v m' news' oI h₂ (tk₁ + 1) (fun _ _ => False) hlt hP (Nat.le_trans ht le₂) (mono _ _ _ _ _ le₂ hJ) off' hS' F₂ N₃) (fun f s₃ h₃ le₃ => ?_) fun _ _ e => e.elim)
    have le₄ : s.toks ≤ s₃.toks := Nat.le_trans (Nat.le_trans ht le₂) le₃
    have cont : (∃ h' tk' m' news', s₃ = { s with heap := h', toks := tk' } ∧ Fr h₀ env.locals h' m' ∧ News h₀ env.locals h' ((I, oI) :: news') ∧ (∀ p ∈ news', p.1 ≠ I) ∧ S news' ∧ J (i + 1) m' news' tk') → s.toks ≤ s₃.toks →
        ∃ k', k' < n + 1 - i ∧ ∃ h' tk i m' news', s₃ = { s with heap := h', toks := tk } ∧ s.toks ≤ tk ∧ St i h' ∧ Fr h₀ env.locals h' m' ∧ News h₀ env.locals h' news' ∧ (∀ p ∈ news', p.1 ≠ I) ∧ S news' ∧ J i m' news' tk ∧ i ≤ n ∧ k' = n + 1 - i := by
      rintro ⟨h₄, tk₄, m₄, news₄, rfl, F₄, N₄, off₄, hS₄, hJ₄⟩ ht₄
      have N₅ : News h₀ env.locals h₄ news₄ := fun p hp => N₄ p (List.mem_cons_of_mem _ hp)
      exact ⟨n + 1 - (i + 1), by omega, h₄, tk₄, i + 1, m₄, news₄, rfl, ht₄, hSt _ _ _ oI news₄ hst₂ hoI₂ (N₄ (I, oI) List.mem_cons_self).1 F₄.keep N₅ hS₄, F₄, N₅, off₄, hS₄, hJ₄, hlt, rfl⟩
    cases f with
    | ret v => exact h₃
    | brk => exact h₃
    | cont => exact cont h₃ le₄
    | next => exact cont h₃ le₄
  · obtain rfl : i = n := by omega
    refine le_toks (W.done _ _ _ hst' fun h₁ tk₁ hk₁ le₁ => ?_)
    obtain ⟨F₁, N₁⟩ := drop hk₁ off' F' N'
    have le₂ : tk ≤ tk₁ := le₁
    exact wpAny_mono (done m' news' h₁ tk₁ (fun _ _ => False) (by omega) (mono _ _ _ _ _ le₂ hJ) hS' F₁ N₁) (fun _ _ q => q) fun _ _ e => e.elim
/-- a for loop whose iterable is worked out -/
noncomputable def AtIter (prog : Program) (w : World) (A : Around) (env : Env) (target : Expr) (body orelse : List Stmt) (Q : Flow → Shared → Prop) (E : Value → Shared → Prop) (x : Value) (s₁ : Shared) : Prop :=
  wpAny (model prog w) A (pyIter x) (fun it s₂ => codeAny (model prog w) A (.forLoop target it body orelse env) (fun r s' => match r with | .ok f => Q f s' | .error e => cameBackBy (model prog w) A env E e s') s₂) E s₁
theorem for_enter {target iter : Expr} {body orelse : List Stmt} {pos : Pos} {Q : Flow → Shared → Prop} (h : wpAny (model prog w) A (eval iter env) (AtIter prog w A env target body orelse Q E) E s)
    (hs : ∀ x, foldedSetIterable iter env x = Pure.pure x := by intro _; rfl) : wpAny (model prog w) A (exec (.For target iter body orelse pos) env) Q E s := wpAny_For h hs
open LCg in
theorem iter_list {x : Str} {px : Pos} {body orelse : List Stmt} {l : Addr} {its : Array Value} {m : Str → Option Value} {news : List (Addr × Obj)} {Q : Flow → Shared → Prop} {hs : Heap} {gs : Array GenState} {dr : Drawn} {tk0 : Nat} {os : OsState}
    (hh : A.handled = none) (hx : env.kindOf x = some .local) (hp : (env.scope.kind == .class || (env.scope.kind == .module && env.locals != env.globals)) = false)
    (F : Fr h₀ env.locals hs m) (N : News h₀ env.locals hs news) (hS : SrcAt h₀ l its news)
    (J : Nat → (Str → Option Value) → List (Addr × Obj) → Nat → Prop) (h0 : J 0 m news tk0) (mono : ∀ i m nw t t', t ≤ t' → J i m nw t → J i m nw t')
    (turn : ∀ I i v m₁ news₁ oI h tk E', its[i]? = some v → tk0 ≤ tk → J i m₁ news₁ tk → (∀ p ∈ news₁, p.1 ≠ I) → SrcAt h₀ l its news₁ → Fr h₀ env.locals h (fun y => if y = x then some v else m₁ y) → News h₀ env.locals h ((I, oI) :: news₁) →
      wpAny (model prog w) A (execs body env) (LoopEnd h₀ env.locals I oI (SrcAt h₀ l its) (J (i + 1)) gs dr os Q) E' ⟨h, gs, dr, tk, os⟩)
    (done : ∀ m₁ news₁ h tk E', tk0 ≤ tk → J its.size m₁ news₁ tk → SrcAt h₀ l its news₁ → Fr h₀ env.locals h m₁ → News h₀ env.locals h news₁ → wpAny (model prog w) A (execs orelse env) Q E' ⟨h, gs, dr, tk, os⟩) :
    AtIter prog w A env (.Name x px) body orelse Q E (.ref l) ⟨hs, gs, dr, tk0, os⟩ := by
  have hl := hS.list F.keep N
  have hlt : l < hs.objs.size := by obtain ⟨_, e, _⟩ := hl; exact Heap.lt_size e
  refine wpAny_pyIter_list hl ?_
  have up : ∀ b o, hs.get? b = some o → (hs.push { cls := .type "list_iterator", data := .fields #[.ref l, .int 0 0] }).get? b = some o := fun b o e => Heap.get?_push_of_some _ e
  exact loop_walk (s := { (⟨hs, gs, dr, tk0, os⟩ : Shared) with heap := hs.push { cls := .type "list_iterator", data := .fields #[.ref l, .int 0 0] } }) (S := SrcAt h₀ l its) (Walks.list hh hs.objs.size l (Nat.ne_of_lt hlt) its) hx hp (fun i h st => by obtain ⟨o, e, _⟩ := st.1; exact ⟨o, e⟩) (fun i h h' o nw st e e' k N S => list_st i h h' o nw st e e' k N S)
    (Nat.ne_of_lt F.ns.lt) (next_is_new F) (fun p hp => Nat.ne_of_lt (Heap.lt_size (N p hp).1)) ⟨⟨_, Heap.get?_push_size _ rfl, rfl, rfl⟩, hl.push _⟩ (F.keeps up) (N.grown up) hS J h0 mono
    (fun i v m₁ news₁ oI h tk E' _ hv => turn _ i v m₁ news₁ oI h tk E' hv) done
theorem iter_range {x : Str} {px : Pos} {body orelse : List Stmt} {r : Addr} {a b : Int} {tt u v : Tok} {n : Nat} {m : Str → Option Value} {news : List (Addr × Obj)} {Q : Flow → Shared → Prop} {hs : Heap} {gs : Array GenState} {dr : Drawn} {tk0 : Nat} {os : OsState}
    (hh : A.handled = none) (hx : env.kindOf x = some .local) (hp : (env.scope.kind == .class || (env.scope.kind == .module && env.locals != env.globals)) = false)
    (F : Fr h₀ env.locals hs m) (N : News h₀ env.locals hs news) (hr : IsRange hs r a b 1 tt u v) (hsm : Builtin.Range.small a b 1 = true) (hn : Builtin.Range.rangeSize a b 1 = ((n : Nat) : Int))
    (J : Nat → (Str → Option Value) → List (Addr × Obj) → Nat → Prop) (h0 : J 0 m news tk0) (mono : ∀ i m nw t t', t ≤ t' → J i m nw t → J i m nw t')
    (turn : ∀ I i t m₁ news₁ oI h tk E', i < n → tk0 ≤ tk → J i m₁ news₁ tk → (∀ p ∈ news₁, p.1 ≠ I) → Fr h₀ env.locals h (fun y => if y = x then some (.int (a + (i : Int)) t) else m₁ y) → News h₀ env.locals h ((I, oI) :: news₁) →
      wpAny (model prog w) A (execs body env) (LoopEnd h₀ env.locals I oI (fun _ => True) (J (i + 1)) gs dr os Q) E' ⟨h, gs, dr, tk, os⟩)
    (done : ∀ m₁ news₁ h tk E', tk0 ≤ tk → J n m₁ news₁ tk → Fr h₀ env.locals h m₁ → News h₀ env.locals h news₁ → wpAny (model prog w) A (execs orelse env) Q E' ⟨h, gs, dr, tk, os⟩) :
    AtIter prog w A env (.Name x px) body orelse Q E (.ref r) ⟨hs, gs, dr, tk0, os⟩ := by
  refine wpAny_pyIter_range hr hsm ?_
  have up : ∀ o : Obj, ∀ b o', hs.get? b = some o' → (hs.push o).get? b = some o' := fun o b o' e => Heap.get?_push_of_some _ e
  exact loop_walk (s := { (⟨hs, gs, dr, tk0, os⟩ : Shared) with heap := hs.push { cls := .type "range_iterator", data := .fields #[rawInt a, rawInt (Builtin.Range.rangeSize a b 1), rawInt 1] } }) (S := fun _ => True) (LCg.range_walks hh a n) hx hp (fun i h st => ⟨_, st⟩) (fun i h h' o nw st e e' k N S => LCg.range_st (h₀ := h₀) (L := env.locals) i h h' o nw st e e' k N S)
    (Nat.ne_of_lt F.ns.lt) (next_is_new F) (fun p hp => Nat.ne_of_lt (Heap.lt_size (N p hp).1)) (by show IsRangeIter _ _ _ _ _; rw [hn]; simpa using Heap.get?_push_size _ rfl) (F.keeps (up _)) (N.grown (up _)) trivial J h0 mono
    (fun i v m₁ news₁ oI h tk E' hi hv le hJ off _ F N => by obtain ⟨t, rfl⟩ := hv; exact turn _ i t m₁ news₁ oI h tk E' hi le hJ off F N) (fun m₁ news₁ h tk E' le hJ _ F N => done m₁ news₁ h tk E' le hJ F N)
theorem iter_str {x : Str} {px : Pos} {body orelse : List Stmt} {y : Str} {ty : Tok} {m : Str → Option Value} {news : List (Addr × Obj)} {Q : Flow → Shared → Prop} {hs : Heap} {gs : Array GenState} {dr : Drawn} {tk0 : Nat} {os : OsState}
    (hh : A.handled = none) (hx : env.kindOf x = some .local) (hp : (env.scope.kind == .class || (env.scope.kind == .module && env.locals != env.globals)) = false)
    (F : Fr h₀ env.locals hs m) (N : News h₀ env.locals hs news)
    (J : Nat → (Str → Option Value) → List (Addr × Obj) → Nat → Prop) (h0 : J 0 m news tk0) (mono : ∀ i m nw t t', t ≤ t' → J i m nw t → J i m nw t')
    (turn : ∀ I i c t m₁ news₁ oI h tk E', y.cps[i]? = some c → tk0 ≤ tk → J i m₁ news₁ tk → (∀ p ∈ news₁, p.1 ≠ I) → Fr h₀ env.locals h (fun z => if z = x then some (.str ⟨#[c]⟩ t) else m₁ z) → News h₀ env.locals h ((I, oI) :: news₁) →
      wpAny (model prog w) A (execs body env) (LoopEnd h₀ env.locals I oI (fun _ => True) (J (i + 1)) gs dr os Q) E' ⟨h, gs, dr, tk, os⟩)
    (done : ∀ m₁ news₁ h tk E', tk0 ≤ tk → J y.cps.size m₁ news₁ tk → Fr h₀ env.locals h m₁ → News h₀ env.locals h news₁ → wpAny (model prog w) A (execs orelse env) Q E' ⟨h, gs, dr, tk, os⟩) :
    AtIter prog w A env (.Name x px) body orelse Q E (.str y ty) ⟨hs, gs, dr, tk0, os⟩ := by
  have up : ∀ o : Obj, ∀ b o', hs.get? b = some o' → (hs.push o).get? b = some o' := fun o b o' e => Heap.get?_push_of_some _ e
  have same : ∀ (cls : String) (i : Nat) (h h' : Heap) (o : Obj) (I : Addr), h.IsStrIter I cls y ty i → h.get? I = some o → h'.get? I = some o → h'.IsStrIter I cls y ty i := fun cls i h h' o I st e e' => by
    obtain ⟨o', q, r⟩ := st; rw [e] at q; cases q; exact ⟨o, e', r⟩
  have key : ∀ (cls : String) (o : Obj), Walks prog w A hs.objs.size [hs.objs.size] [hs.objs.size] y.cps.size (SignAt y) (fun i h => h.IsStrIter hs.objs.size cls y ty i) → (hs.push o).IsStrIter hs.objs.size cls y ty 0 →
      codeAny (model prog w) A (.forLoop (.Name x px) (.ref hs.objs.size) body orelse env) (fun r s' => match r with | .ok f => Q f s' | .error e => cameBackBy (model prog w) A env E e s') { (⟨hs, gs, dr, tk0, os⟩ : Shared) with heap := hs.push o } := fun cls o W h1 =>
    loop_walk (s := { (⟨hs, gs, dr, tk0, os⟩ : Shared) with heap := hs.push o }) (S := fun _ => True) W hx hp (fun i h st => by obtain ⟨o, e, _⟩ := st; exact ⟨o, e⟩) (fun i h h' o nw st e e' k N S => same cls i h h' o _ st e e')
      (Nat.ne_of_lt F.ns.lt) (next_is_new F) (fun p hp => Nat.ne_of_lt (Heap.lt_size (N p hp).1)) h1 (F.keeps (up _)) (N.grown (up _)) trivial J h0 mono
      (fun i v m₁ news₁ oI h tk E' hi hv le hJ off _ F N => by obtain ⟨c, t, hc, rfl⟩ := hv; exact turn _ i c t m₁ news₁ oI h tk E' hc le hJ off F N) (fun m₁ news₁ h tk E' le hJ _ F N => done m₁ news₁ h tk E' le hJ F N)
  cases ha : y.cps.all (· < 128)
  · exact wpAny_pyIter_wide ha (key _ _ (Walks.strWide hh _ y ty) ⟨_, Heap.get?_push_size _ rfl, rfl, rfl⟩)
  · exact wpAny_pyIter_ascii ha (key _ _ (Walks.strAscii hh _ y ty) ⟨_, Heap.get?_push_size _ rfl, rfl, rfl⟩)
noncomputable def EnumEnd (h₀ : Heap) (L e it : Addr) (oe oi : Obj) (J : (Str → Option Value) → Prop) (gs : Array GenState) (dr : Drawn) (os : OsState) (Q : Flow → Shared → Prop) (f : Flow) (s' : Shared) : Prop :=
  match f with
  | .brk => Q .next s'
  | .ret v => Q (.ret v) s'
  | _ => ∃ h' tk' m', s' = ⟨h', gs, dr, tk', os⟩ ∧ Fr h₀ L h' m' ∧ News h₀ L h' [(e, oe), (it, oi)] ∧ J m'
theorem enum_at {xi xv : Str} {pi pv pt : Pos} {x1 : Nat} {body orelse : List Stmt} {l : Addr} {its : Array Value} {m : Str → Option Value} {Q : Flow → Shared → Prop} {hs : Heap} {gs : Array GenState} {dr : Drawn} {tk0 : Nat} {os : OsState}
    (hh : A.handled = none) (hxi : env.kindOf xi = some .local) (hxv : env.kindOf xv = some .local) (hp : (env.scope.kind == .class || (env.scope.kind == .module && env.locals != env.globals)) = false)
    (F : Fr h₀ env.locals hs m) (hl : h₀.IsList l its) (J : Nat → (Str → Option Value) → Prop) (h0 : J 0 m)
    (turn : ∀ e it oe oi i v (t : Nat) m₁ h tk E', its[i]? = some v → tk0 ≤ t → t ≤ tk → J i m₁ → Fr h₀ env.locals h (fun y => if y = xv then some v else if y = xi then some (.int i t) else m₁ y) → News h₀ env.locals h [(e, oe), (it, oi)] →
      wpAny (model prog w) A (execs body env) (EnumEnd h₀ env.locals e it oe oi (J (i + 1)) gs dr os Q) E' ⟨h, gs, dr, tk, os⟩)
    (done : ∀ m₁ h tk E', J its.size m₁ → Fr h₀ env.locals h m₁ → wpAny (model prog w) A (execs orelse env) Q E' ⟨h, gs, dr, tk, os⟩) :
    wpAny (model prog w) A (call (.type "enumerate") [.ref l]) (AtIter prog w A env (.Tuple [.Name xi pi, .Name xv pv] x1 pt) body orelse Q E) E ⟨hs, gs, dr, tk0, os⟩ := by
  have hls : hs.IsList l its := hl.at fun o e => F.keep l o e
  have hLlt : env.locals < hs.objs.size := F.ns.lt
  have hl0 : l < h₀.objs.size := by obtain ⟨_, e, _⟩ := hl; exact Heap.lt_size e
  have h0s : h₀.objs.size ≤ env.locals := F.above
  refine call_enumerate_list (s := ⟨hs, gs, dr, tk0, os⟩) hls fun hE he hit hsz hk => ?_
  refine wpAny_pyIter_enum he ?_
  dsimp only at he hit hsz hk ⊢
  obtain ⟨N, hN⟩ : ∃ N, hs.objs.size = N := ⟨_, rfl⟩
  rw [hN] at he hit hsz hLlt ⊢
  have hLN : @LT.lt Nat instLTNat env.locals N := hLlt
  have h0s' : @LE.le Nat instLENat h₀.objs.size env.locals := h0s
  have new : ∀ a : Nat, N ≤ a → h₀.get? a = none := fun a ha => Heap.get?_none_of_le (by omega)
  have a1 : env.locals ≠ N := Nat.ne_of_lt hLlt
  have a2 : env.locals ≠ N + 1 := Nat.ne_of_lt (Nat.lt_succ_of_lt hLlt)
  have a3 : N ≠ N + 1 := Nat.ne_of_lt (Nat.lt_succ_self N)
  refine codeAny_forLoop_any
    (fun k s' => ∃ h' tk m' i old, s' = ⟨h', gs, dr, tk, os⟩ ∧ tk0 ≤ tk ∧ IsEnum h' (N + 1) N ((i : Nat) : Int) old ∧ h'.IsListIter N l i ∧ Fr h₀ env.locals h' m' ∧ J i m' ∧ i ≤ its.size ∧ k = its.size + 1 - i) ?_ (its.size + 1)
    ⟨hE, tk0, m, 0, .none, rfl, Nat.le_refl _, he, hit, F.keeps hk, h0, Nat.zero_le _, rfl⟩
  rintro k s' ⟨H, tk, m', i, old, rfl, ht, he', hit', F', hJ, hi, rfl⟩
  have hl' : H.IsList l its := hl.at fun o e => F'.keep l o e
  have hne : ∀ b o, h₀.get? b = some o → b ≠ N + 1 ∧ b ≠ N := fun b o e => by
    have q : @LT.lt Nat instLTNat b h₀.objs.size := Heap.lt_size e
    exact ⟨Nat.ne_of_lt (by omega), Nat.ne_of_lt (by omega)⟩
  cases hv : its[i]? with
  | none =>
    have hsz' : i = its.size := Nat.le_antisymm hi (by simpa using hv)
    refine wpAny_pyNext_enum_end (s := ⟨H, gs, dr, tk, os⟩) hh he' hit' hl' hv fun h₁ he₁ => ?_
    refine wpAny_mono (done m' h₁ tk (fun _ _ => False) (hsz' ▸ hJ) ⟨F'.ns.at' fun o e => he₁ _ o a1 e, fun b o e => he₁ b o (hne b o e).2 (F'.keep b o e), F'.above⟩) (fun _ _ q => q) fun _ _ q => q.elim
  | some v =>
    have hlt : i < its.size := (Array.getElem?_eq_some_iff.mp hv).1
    have heH : @LT.lt Nat instLTNat (N + 1) H.objs.size := Heap.lt_size he'
    have hiH : @LT.lt Nat instLTNat N H.objs.size := by omega
    refine wpAny_pyNext_enum_item (s := ⟨H, gs, dr, tk, os⟩) he' hit' hl' hv (Ne.symm a3) fun h₁ heo hit₁ ht₁ hz₁ hk₁ => ?_
    dsimp only at heo hit₁ ht₁ hz₁ hk₁ ⊢
    refine wpAny_letOwnedTupleGo_enum heo fun h₂ he₂ hs₂ => ?_
    replace hs₂ : Heap.SameBut (N + 1) h₁ h₂ := hs₂
    have ht₂ : h₂.IsTuple H.objs.size #[.int i tk, v] := ⟨_, (hs₂.2 _ (Nat.ne_of_gt heH)).trans ht₁, rfl, _, rfl⟩
    have hz₂ : h₂.objs.size = H.objs.size + 1 := hs₂.1.trans hz₁
    refine wpAny_assign_Tuple hh ht₂ rfl rfl fun h₃ hx₃ => ?_
    replace hx₃ : Heap.ExtBut h₂.objs.size h₂ h₃ := hx₃
    have old₃ : ∀ b o, b < H.objs.size → h₂.get? b = some o → h₃.get? b = some o := fun b o hb x => hx₃ b o (by rw [hz₂]; exact Nat.ne_of_lt (Nat.lt_succ_of_lt hb)) x
    have up₃ : ∀ b o, b ≠ N + 1 → b ≠ N → H.get? b = some o → h₃.get? b = some o := fun b o h1 h2 e => old₃ b o (Heap.lt_size e) (hs₂.extBut b o h1 (hk₁ b o h1 h2 e))
    have F₃ : Fr h₀ env.locals h₃ m' := ⟨F'.ns.at' fun o e => up₃ _ o a2 a1 e, fun b o e => up₃ b o (hne b o e).1 (hne b o e).2 (F'.keep b o e), F'.above⟩
    show wpAny _ A (do holding [v] (assign (.Name xi pi) env (.int i tk)); do holding [] (assign (.Name xv pv) env v); Pure.pure ()) _ _ _
    refine wpAny_bind (wpAny_holding (wpAny_assign_Name (wpAny_storeName_local hxi F₃.ns (fun h₄ hn₄ hs₄ => ?_) hp)))
    replace hs₄ : Heap.SameBut env.locals h₃ h₄ := hs₄
    have F₄ := F₃.set hn₄ hs₄
    refine wpAny_bind (wpAny_holding (wpAny_assign_Name (wpAny_storeName_local hxv hn₄ (fun h₅ hn₅ hs₅ => wpAny_pure ?_) hp)))
    replace hs₅ : Heap.SameBut env.locals h₄ h₅ := hs₅
    have F₅ := F₄.set hn₅ hs₅
    have e₅ : IsEnum h₅ (N + 1) N ((i + 1 : Nat) : Int) v := by
      have q : ((i + 1 : Nat) : Int) = (i : Int) + 1 := by push_cast; rfl
      rw [q]
      exact hs₅.extBut _ _ (Ne.symm a2) (hs₄.extBut _ _ (Ne.symm a2) (old₃ _ _ heH he₂))
    obtain ⟨oi, hoi, _⟩ := id hit₁
    have it₅ : h₅.IsListIter N l (i + 1) := ((hit₁.extBut hs₂.extBut a3).at fun o x => old₃ N o hiH x).extBut hs₄.extBut (Ne.symm a1) |>.extBut hs₅.extBut (Ne.symm a1)
    obtain ⟨oi', hoi', hoi''⟩ := id it₅
    have N₅ : News h₀ env.locals h₅ [(N + 1, ({ cls := .type "enumerate", dict := none, data := .fields #[.none, .bool false, .ref N, rawInt ((i + 1 : Nat) : Int), .none, v], slots := #[] } : Obj)), (N, oi')] := fun p hp => by
      rcases List.mem_cons.mp hp with rfl | hp
      · exact ⟨e₅, Ne.symm a2, new _ (Nat.le_succ N)⟩
      · rw [List.mem_singleton.mp hp]; exact ⟨hoi', Ne.symm a1, new _ (Nat.le_refl _)⟩
    refine le_toks (wpAny_mono (turn _ _ _ _ i v tk m' h₅ (tk + 1 + 1 + 1) (fun _ _ => False) hv ht (by omega) hJ F₅ N₅) (fun f s₃ h₆ le₆ => ?_) fun _ _ q => q.elim)
    have le₇ : tk + 1 + 1 + 1 ≤ s₃.toks := le₆
    have cont : (∃ h' tk' m', s₃ = ⟨h', gs, dr, tk', os⟩ ∧ Fr h₀ env.locals h' m' ∧ News h₀ env.locals h' [(N + 1, ({ cls := .type "enumerate", dict := none, data := .fields #[.none, .bool false, .ref N, rawInt ((i + 1 : Nat) : Int), .none, v], slots := #[] } : Obj)), (N, oi')] ∧ J (i + 1) m') → ∃ k', k' < its.size + 1 - i ∧ ∃ h' tk m' i old, s₃ = ⟨h', gs, dr, tk, os⟩ ∧ tk0 ≤ tk ∧ IsEnum h' (N + 1) N ((i : Nat) : Int) old ∧ h'.IsListIter N l i ∧ Fr h₀ env.locals h' m' ∧ J i m' ∧ i ≤ its.size ∧ k' = its.size + 1 - i := by
      rintro ⟨g₆, tk₆, m₆, e₆, F₆, N₆, hJ₆⟩
      have le₈ : tk + 1 + 1 + 1 ≤ tk₆ := by rw [e₆] at le₇; exact le₇
      exact ⟨its.size + 1 - (i + 1), by omega, g₆, tk₆, m₆, i + 1, v, e₆, by omega, (N₆ _ List.mem_cons_self).1, ⟨oi', (N₆ (N, oi') (List.mem_cons_of_mem _ List.mem_cons_self)).1, hoi''⟩, F₆, hJ₆, hlt, rfl⟩
    cases f with
    | ret v => exact h₆
    | brk => exact h₆
    | cont => exact cont h₆
    | next => exact cont h₆
end
end
local macro_rules | `(tactic| walk_at "evN") => `(tactic| (k_here; k_dflt (refine' ld ?k1 ?k2 ?_; (case k1 => k_asm); (case k2 => assumption); k_whole)))
local macro_rules | `(tactic| walk_at "execs cons") => `(tactic| (k_here; with_reducible refine cons_le ?_; intro tk le; (try dsimp only at le)))
local macro_rules | `(tactic| walk_at "forall") => `(tactic| (intro lef; (try dsimp only at lef)))
local macro_rules | `(tactic| walk_at "exec For Tuple Call cons cons") => `(tactic| (k_here; k_dflt (refine for_enter ?_)))
local macro_rules | `(tactic| walk_at "loadName") => `(tactic| (k_here; k_dflt (refine' wpAny_loadName_local ?k0 ?k1 (Fr.ns ?k2) ?k3 ?_; (case k0 => exact rfl); (case k1 => exact rfl); (case k2 => k_asm); (case k3 => first | exact rfl | assumption); k_whole)))
section
section
set_option maxRecDepth 100000
set_option maxHeartbeats 4000000
/-- a list of ints whose tokens are drawn before hi -/
noncomputable def TkInts (hi : Nat) (vs : List Value) (ns : List Int) : Prop := vs.length = ns.length ∧ ∀ (i : Nat) (n : Int), ns[i]? = some n → ∃ t : Nat, vs[i]? = some (.int n t) ∧ 0 < t ∧ t < hi
theorem TkInts.mono {a b : Nat} {vs ns} (h : TkInts a vs ns) (le : a ≤ b) : TkInts b vs ns := ⟨h.1, fun i n e => by obtain ⟨t, h1, h2, h3⟩ := h.2 i n e; exact ⟨t, h1, h2, Nat.lt_of_lt_of_le h3 le⟩⟩
theorem is_int {M : Model} {A : Around} {E : Value → Shared → Prop} {s : Shared} {a b : Int} {t u : Nat} {Q : Value → Shared → Prop} (ht : t ≠ 0) (hu : u ≠ 0) (hb : NoneBooked s.heap) (hq : ∀ c, (c = true → a = b ∨ t = u) → Q (.bool c) s) :
    wpAny M A (compareOp .Is (.int a t) (.int b u)) Q E s := wpAny_bind (sameInt ht hu hb fun c hc => wpAny_pure (hq c hc))
end
local macro_rules | `(tactic| walk_at "exec For Name Name cons nil") => `(tactic| (k_here; k_dflt (refine for_enter ?_)))
local macro_rules | `(tactic| walk_at "exec For Name Call cons nil") => `(tactic| (k_here; k_dflt (refine for_enter ?_)))
local macro_rules | `(tactic| walk_at "exec For Name Call cons cons") => `(tactic| (k_here; k_dflt (refine for_enter ?_)))
local macro_rules | `(tactic| walk_at "eval Name") => `(tactic| walk_at "evN")
local macro_rules | `(tactic| walk_at "compareOp Is int int") => `(tactic| (k_here; with_reducible refine is_int (by omega) (by omega) (by first | assumption | exact noneBooked (Frag.In.keeps (by k_asm) (Fr.keep (by k_asm))) (Top.keeps (by k_asm) (Fr.keep (by k_asm)))) ?_; intro c hc))
section
set_option maxRecDepth 100000
set_option maxHeartbeats 4000000
theorem c_count : ∀ (w : World) (mean mg mb) (l : Addr) (vs : List Value) (ns : List Int) (b : Int) (tb hi : Nat), TkInts hi vs ns → hi ≤ tb → 0 < tb →
    Pure 5 w mean mg mb 95 [.ref l, .int b tb] (fun s => s.heap.IsList l vs.toArray) (fun s v _ _ => ∃ t, v = .int (ns.count b) t ∧ s.toks ≤ t) := by
  intro w mean mg mb l vs ns b tb hi hv hle h0b
  refine Pure.of ?_
  intro dp un gd outer base s Q E hd hu B X T h0 hl hret
  refine wpAny_call ?_
  walk_at "mine enter"
  k_steps
  refine' iter_list (its := vs.toArray) ?hh ?hx ?hp ?F ?N (.inl hl) (fun i m nw tk => nw = [] ∧ ∃ t : Nat, m (Str.ofString "count") = some (.int ((ns.take i).count b) t) ∧ m (Str.ofString "b") = some (.int b tb) ∧ s.toks ≤ t ∧ t ≤ tk) ?h0 ?mono ?turn ?done
  case hh => exact rfl
  case hx => exact rfl
  case hp => exact rfl
  case F => k_asm
  case N => k_asm
  case h0 => refine ⟨rfl, _, rfl, rfl, ?_, ?_⟩ <;> dsimp only <;> omega
  case mono => rintro i m nw t t' le ⟨rfl, t0, h1, h2, h3, h4⟩; exact ⟨rfl, t0, h1, h2, h3, Nat.le_trans h4 le⟩
  case turn =>
    rintro I i v m₁ news₁ oI h tk E' hv' le ⟨rfl, t, hm1, hm2, h1, h2⟩ off _ F N
    have hi' : i < ns.length := by
      have := (Array.getElem?_eq_some_iff.mp hv').1
      simp at this; rw [← hv.1]; exact this
    obtain ⟨t', e, p1, p2⟩ := hv.2 i ns[i] (by simp [hi'])
    have hv2 : v = .int ns[i] t' := by
      have : vs[i]? = some v := by simpa using hv'
      rw [e] at this; exact (Option.some.inj this).symm
    subst hv2
    have cnt : (((ns.take (i + 1)).count b : Nat) : Int) = ((ns.take i).count b : Nat) + (if ns[i] = b then 1 else 0) := by
      rw [List.take_add_one, show ns[i]? = some ns[i] by simp [hi']]
      simp only [Option.toList_some, List.count_append, List.count_singleton, beq_iff_eq]
      by_cases q : ns[i] = b <;> simp [q]
    k_steps
    · rename_i tk1 le1 c hc ha tk2 le2 h2' F2 N2 lef1 lef2
      rcases hc ha with q | q
      · rw [if_pos q] at cnt
        exact LoopEnd.next F2 N2 (fun p hp => hp) off (.inl hl) ⟨rfl, _, (by rw [cnt]; rfl), hm2, by dsimp only; omega, by dsimp only; omega⟩
      · omega
    · rename_i tk1 le1 c hc ha q tk2 le2 h2' F2 N2 lef1 lef2
      rw [if_pos q] at cnt
      exact LoopEnd.next F2 N2 (fun p hp => hp) off (.inl hl) ⟨rfl, _, (by rw [cnt]; rfl), hm2, by dsimp only; omega, by dsimp only; omega⟩
    · rename_i tk1 le1 c hc ha q lef1
      rw [if_neg q, Int.add_zero] at cnt
      exact LoopEnd.next F N (fun p hp => hp) off (.inl hl) ⟨rfl, _, (by rw [cnt]; exact hm1), hm2, by omega, by omega⟩
  case done =>
    rintro m₁ news₁ h tk E' le ⟨rfl, t, hm1, hm2, h1, h2⟩ _ F N
    k_steps
    dsimp only
    refine hret _ _ _ (Fr.keep (by assumption)) ⟨_, ?_, h1⟩
    rw [List.take_of_length_le (by simp [hv.1])]
end
section
set_option maxRecDepth 100000
set_option maxHeartbeats 4000000
theorem idxOf_at {ns : List Int} {b : Int} {i : Nat} (hi : i < ns.length) (h0 : b ∉ ns.take i) (e : ns[i] = b) : ns.idxOf b = i := by
  have q : ns.take i ++ ns[i] :: ns.drop (i + 1) = ns := by simp
  have z : (ns.take i ++ ns[i] :: ns.drop (i + 1)).idxOf b = i := by
    rw [List.idxOf_append, if_neg h0, e, List.idxOf_cons_self]
    simp; omega
  rw [q] at z
  exact z
theorem c_index : ∀ (w : World) (mean mg mb) (l : Addr) (vs : List Value) (ns : List Int) (b : Int) (tb hi : Nat), TkInts hi vs ns → hi ≤ tb → 0 < tb → b ∈ ns →
    Pure 5 w mean mg mb 102 [.ref l, .int b tb] (fun s => s.heap.IsList l vs.toArray) (fun s v _ _ => ∃ t, v = .int (ns.idxOf b) t ∧ s.toks ≤ t) := by
  intro w mean mg mb l vs ns b tb hi hv hle h0b hmem
  refine Pure.of ?_
  intro dp un gd outer base s Q E hd hu B X T h0 hl hret
  refine wpAny_call ?_
  walk_at "mine enter"
  k_steps
  refine' enum_at (its := vs.toArray) ?hh ?hx ?hy ?hp ?F hl (fun i m => b ∉ ns.take i ∧ m (Str.ofString "b") = some (.int b tb)) ?h0 ?turn ?done
  case hh => exact rfl
  case hx => exact rfl
  case hy => exact rfl
  case hp => exact rfl
  case F => k_asm
  case h0 => exact ⟨by simp, rfl⟩
  case turn =>
    rintro e it oe oi i v t m₁ h tk E' hv' ht htk ⟨hm0, hm1⟩ F N
    have hi' : i < ns.length := by
      have := (Array.getElem?_eq_some_iff.mp hv').1
      simp at this; rw [← hv.1]; exact this
    obtain ⟨t', ee, p1, p2⟩ := hv.2 i ns[i] (by simp [hi'])
    have hv2 : v = .int ns[i] t' := by
      have : vs[i]? = some v := by simpa using hv'
      rw [ee] at this; exact (Option.some.inj this).symm
    subst hv2
    have fin : ns[i] = b → ns.idxOf b = i := idxOf_at hi' hm0
    have nxt : ns[i] ≠ b → b ∉ ns.take (i + 1) := fun q mem => by
      rw [List.take_add_one, show ns[i]? = some ns[i] by simp [hi']] at mem
      rcases List.mem_append.mp mem with x | x
      · exact hm0 x
      · have x' : b = ns[i] := by simpa using x
        exact q x'.symm
    k_steps
    · rename_i tk1 le1 c hc ha tk2 le2 lef1 lef2
      rcases hc ha with q | q
      · dsimp only; unfold EnumEnd; dsimp only; intro _; exact hret (.int ((i : Nat) : Int) t) _ _ (Fr.keep F) ⟨t, (by rw [fin q]), by omega⟩
      · omega
    · rename_i tk1 le1 c hc ha q tk2 le2 lef1 lef2
      dsimp only; unfold EnumEnd; dsimp only; intro _; exact hret (.int ((i : Nat) : Int) t) _ _ (Fr.keep F) ⟨t, (by rw [fin q]), by omega⟩
    · rename_i tk1 le1 c hc ha q lef1
      exact ⟨_, _, _, rfl, F, N, nxt q, hm1⟩
  case done =>
    rintro m₁ h tk E' ⟨hm0, hm1⟩ F
    exact absurd (by simpa [hv.1] using hm0 : b ∉ ns) (fun q => q hmem)
end
section
set_option maxRecDepth 100000
set_option maxHeartbeats 4000000
noncomputable def b1l : List Int := [65024, 65025, 65026, 65027, 65028, 65029, 6150, 65030, 65031, 65032, 65033, 6155, 6156, 6157, 8203, 8204, 8205, 65034, 65035, 65036, 65037, 65038, 65039, 173, 847, 8288, 65279]
noncomputable def b1s (k : Int) : Bool := b1l.contains k
theorem elems_check {w : World} {es : List (Int × Value)} (h : (es.all fun e => match e.2 with | .int k _ => e.1 == (intKind pw w).hash k | _ => false) = true) : ElemsOf (intKind pw w) es := by
  intro e he
  have z := List.all_eq_true.mp h e he
  obtain ⟨a, v⟩ := e
  cases v <;> simp only at z <;> try exact absurd z Bool.false_ne_true
  rename_i k t
  exact ⟨⟨k, intKind_is _ _ k t, by simpa using z⟩, rfl⟩
noncomputable def kvals (es : List (Int × Value)) : List Int := es.filterMap fun e => match e.2 with | .int k _ => some k | _ => none
theorem mem_check {w : World} {es : List (Int × Value)} (k : Int) : (kvals es).contains k = true ↔ ∃ e ∈ es, (intKind pw w).is k e.2 = true := by
  simp only [kvals, List.contains_eq_mem, decide_eq_true_eq, List.mem_filterMap]
  constructor
  · rintro ⟨⟨a, v⟩, he, hk⟩
    cases v <;> simp only at hk <;> try cases hk
    exact ⟨_, he, intKind_is _ _ _ _⟩
  · rintro ⟨⟨a, v⟩, he, hk⟩
    refine ⟨⟨a, v⟩, he, ?_⟩
    cases v <;> simp_all [intKind, Value.isInt]
theorem b1_is (w : World) : ∃ o, (K w.params).lookup 127 = some o ∧ o.SetObjOf (intKind pw w) b1s 27 := by
  refine ⟨_, rfl, ⟨rfl, rfl, rfl⟩, _, _, _, rfl, ?_, ?_, rfl, ?_⟩
  · exact elems_check (by kernel_rfl)
  · intro k
    rw [← mem_check]
    exact Iff.rfl
  · kernel_rfl
/-- a text of one sign, code c -/
theorem c_b1 : ∀ (w : World) (mean mg mb) (c : Nat) (tc : Tok), c < 1114112 → Pure 5 w mean mg mb 137 [.str ⟨#[c]⟩ tc] (fun _ => True) (fun s v _ _ => v = .bool (b1s c)) := by
  intro w mean mg mb c tc hc
  refine Pure.of ?_
  intro dp un gd outer base s Q E hd hu B X T h0 _ hret
  refine wpAny_call ?_
  walk_at "mine enter"
  k_steps
  obtain ⟨o, ho, hs⟩ := b1_is w
  refine in_argsetI (by k_asm) hs (X _ _ ho) (by decide) ?_
  k_steps
  intros
  exact hret _ _ _ (Fr.keep (by assumption)) rfl
end
section
set_option maxRecDepth 100000
set_option maxHeartbeats 4000000
noncomputable def E138 (P : Params) : Array DictEntry := match (K P).lookup 138 with | some ⟨_, _, .dict es _, _⟩ => es | _ => #[]
noncomputable def b3v (P : Params) (k : Int) : Value := (findBy Value.isInt (E138 P) k).getD .none
theorem keys_check {w : World} {es : Array DictEntry} (h : (es.toList.all fun e => match e.key with | .int k _ => e.hash == (intKind pw w).hash k | _ => false) = true) : KeysOf (intKind pw w) es := by
  intro e he
  have z := List.all_eq_true.mp h e (by simpa using he)
  obtain ⟨a, v, u⟩ := e
  cases v <;> simp only at z <;> try exact absurd z Bool.false_ne_true
  rename_i k t
  exact ⟨k, intKind_is _ _ k t, by simpa using z⟩
theorem b3_is (w : World) {h : Heap} (X : (K w.params).In h) : h.MapOf (intKind pw w) 138 fun k => findBy Value.isInt (E138 w.params) k :=
  ⟨_, _, _, X 138 _ rfl, ⟨rfl, rfl, rfl⟩, rfl, keys_check (by kernel_rfl), fun _ => rfl⟩
theorem get138 {w : World} {A : Around} {E : Value → Shared → Prop} {s : Shared} {pl : Sem Bool} {Q : Value × List Value → Shared → Prop} (X : (K w.params).In s.heap) (h : Q (.builtin "dict.get", [.ref 138]) s) :
    wpAny (model pw w) A (getMethod (.ref 138) (Str.ofString "get") pl) Q E s :=
  getMethod_builtin (b3_is w X).typeIs PySem.F.plainAttrs_dict PySem.F.slot_dict_get PySem.F.type_dict_get (b3_is w X).noDict h
theorem dictget138 {w : World} {A : Around} {E : Value → Shared → Prop} {s : Shared} {k : Int} {t : Tok} {Q : Value → Shared → Prop} (X : (K w.params).In s.heap) (h : Q (b3v w.params k) { s with toks := s.toks + 1 }) :
    wpAny (model pw w) A (call (.builtin "dict.get") [.ref 138, .int k t]) Q E s :=
  call_meetsIn PySem.F.slot_dict_get (b3_is w X).typeIs PySem.F.entry_dict_get (PySem.F.args_dict_get_2 _ _) (meets_dict_get (intKind pw w) 138 (intKind_is _ _ k t) (by decide)) ⟨_, b3_is w X, h⟩
local macro_rules | `(tactic| walk_at "getMethod ref") => `(tactic| (k_here; (with_reducible show wpAny _ _ (getMethod (Value.ref 138) _ _) _ _ _); refine get138 (Frag.In.keeps (by k_asm) (Fr.keep (by k_asm))) ?_))
theorem c_b3a : ∀ (w : World) (mean mg mb) (c : Nat) (tc : Tok) (r : Str) (tr : Tok), c < 1114112 → b3v w.params c = .str r tr → Pure 5 w mean mg mb 183 [.str ⟨#[c]⟩ tc] (fun _ => True) (fun s v _ _ => v = .str r tr) := by
  intro w mean mg mb c tc r tr hc hr
  refine Pure.of ?_
  intro dp un gd outer base s Q E hd hu B X T h0 _ hret
  refine wpAny_call ?_
  walk_at "mine enter"
  k_steps
  refine dictget138 (X.keeps (Fr.keep (by assumption))) ?_
  rw [hr]
  k_steps
  dsimp only
  exact hret _ _ _ (Fr.keep (by assumption)) rfl
theorem c_b3b : ∀ (w : World) (mean mg mb) (c : Nat) (tc : Tok), c < 1114112 → b3v w.params c = .none → Pure 5 w mean mg mb 183 [.str ⟨#[c]⟩ tc] (fun _ => True) (fun s v _ _ => ∃ t, v = .str (Txt.lower ⟨#[c]⟩) t) := by
  intro w mean mg mb c tc hc hr
  refine Pure.of ?_
  intro dp un gd outer base s Q E hd hu B X T h0 _ hret
  refine wpAny_call ?_
  walk_at "mine enter"
  k_steps
  refine dictget138 (X.keeps (Fr.keep (by assumption))) ?_
  rw [hr]
  k_steps
  refine SCL.lower (by show (1 : Nat) ≤ 5592405; decide) ?_
  intro _
  dsimp only
  intros
  exact hret _ _ _ (Fr.keep (by assumption)) ⟨_, rfl⟩
end
end
section
set_option maxRecDepth 100000
set_option maxHeartbeats 4000000
open LCg
/-- how an element of a comprehension ends -/
noncomputable def CompElt (h₀ : Heap) (L : Addr) (m : Str → Option Value) (led : List (Addr × Obj)) (gs : Array GenState) (dr : Drawn) (os : OsState) (El : Value → Nat → Prop) (y : Value) (s' : Shared) : Prop :=
  ∃ h' tk', s' = ⟨h', gs, dr, tk', os⟩ ∧ Fr h₀ L h' m ∧ News h₀ L h' led ∧ El y tk'
theorem CompElt.intro {h₀ : Heap} {L : Addr} {m : Str → Option Value} {led all : List (Addr × Obj)} {gs : Array GenState} {dr : Drawn} {os : OsState} {El : Value → Nat → Prop} {y : Value} {h' : Heap} {tk' : Nat}
    (F : Fr h₀ L h' m) (N : News h₀ L h' all) (sub : ∀ p ∈ led, p ∈ all) (h : El y tk') : CompElt h₀ L m led gs dr os El y ⟨h', gs, dr, tk', os⟩ := ⟨h', tk', rfl, F, fun p hp => N p (sub p hp), h⟩
/-- a test of a comprehension: told right, nothing moved -/
noncomputable def CompTest (h₀ : Heap) (L : Addr) (m : Str → Option Value) (led : List (Addr × Obj)) (gs : Array GenState) (dr : Drawn) (os : OsState) (r : Bool) (ok : Bool) (s' : Shared) : Prop :=
  ok = r ∧ ∃ h' tk', s' = ⟨h', gs, dr, tk', os⟩ ∧ Fr h₀ L h' m ∧ News h₀ L h' led
section
variable {prog : Program} {w : World} {A : Around} {env : Env} {h₀ : Heap} {L : Addr} {E : Value → Shared → Prop}
theorem comp_block {elt iter : Expr} {x : Str} {px : Pos} {ifs : List Expr} {scope : Scope} {cl : List (Str × Addr)} {pos : Pos} {I : Addr} {fp : List Addr} {n : Nat} {P : Nat → Value → Prop} {St : Nat → Heap → Prop} {S : List (Addr × Obj) → Prop}
    {m : Str → Option Value} {news : List (Addr × Obj)} {hs : Heap} {gs : Array GenState} {dr : Drawn} {tk0 : Nat} {os : OsState} {RR : Value → Addr → Result → Shared → Prop}
    (W : Walks prog w A I fp [I] n P St) (hsz : n ≤ sizeLine) (hIo : ∀ i h, St i h → ∃ o, h.get? I = some o)
    (hSt : ∀ i h h' o nw, St i h → h.get? I = some o → h'.get? I = some o → (∀ b o, h₀.get? b = some o → h'.get? b = some o) → News h₀ L h' nw → S nw → St i h')
    (hcell : ∀ y ∈ scope.names, y.2 ≠ .cell) (hkind : scope.kind = .function) (hx : scope.names.lookup x = some .local) (hst : St 0 hs) (hfp : ∀ b ∈ fp, b < hs.objs.size)
    (F : Fr h₀ L hs m) (N : News h₀ L hs news) (hIL : L ≠ I) (hI₀ : h₀.get? I = none) (off : ∀ p ∈ news, p.1 ≠ I) (hS : S news)
    (p : Value → Bool) (Inv : Nat → List Value → Nat → Prop) (i0 : Inv 0 [] tk0) (mono : ∀ i ys t t', t ≤ t' → Inv i ys t → Inv i ys t')
    (tests : ∀ C D oI oC i v ys m₂ h tk E', P i v → NsObj oC m₂ → m₂ x = some v → Fr h₀ L h m → News h₀ L h ((I, oI) :: (C, oC) :: (D, lst ys) :: news) → Off3 I C D news → ((@Ne Nat I C) ∧ (@Ne Nat I D) ∧ (@Ne Nat C D)) →
      wpAny (model prog w) A (forIn ifs true fun c r => if r = true then do let ok ← isTrue c (compEnvC scope cl C env) (eval c (compEnvC scope cl C env)); Pure.pure (ForInStep.yield ok) else Pure.pure (ForInStep.yield r))
        (CompTest h₀ L m ((I, oI) :: (C, oC) :: (D, lst ys) :: news) gs dr os (p v)) E' ⟨h, gs, dr, tk, os⟩)
    (skip : ∀ i v ys tk, P i v → p v = false → Inv i ys tk → Inv (i + 1) ys tk)
    (turn : ∀ C D oI oC i v ys m₂ h tk E', i < n → P i v → p v = true → tk0 ≤ tk → Inv i ys tk → NsObj oC m₂ → m₂ x = some v → Fr h₀ L h m → News h₀ L h ((I, oI) :: (C, oC) :: (D, lst ys) :: news) → Off3 I C D news → ((@Ne Nat I C) ∧ (@Ne Nat I D) ∧ (@Ne Nat C D)) →
      wpAny (model prog w) A (eval elt (compEnvC scope cl C env)) (CompElt h₀ L m ((I, oI) :: (C, oC) :: (D, lst ys) :: news) gs dr os (fun y tk' => Inv (i + 1) (ys ++ [y]) tk')) E' ⟨h, gs, dr, tk, os⟩)
    (hRR : ∀ D C h tk m' ys, tk0 ≤ tk → Inv n ys tk → Fr h₀ L h m → News h₀ L h ((D, lst ys) :: news) → Off1 D news → h.Ns C m' → h₀.get? C = none → h₀.get? D = none → C ≠ L → D ≠ L → C ≠ D → (∀ p ∈ news, p.1 ≠ C) → RR (.ref D) C (.ok .next) ⟨h, gs, dr, tk, os⟩) :
    wpAny (model prog w) A (newList []) (fun acc s₃ => wpAny (model prog w) A (newFunctionEnv scope env.globals cl [] env.qual none .none (some env)) (fun cenv s₄ =>
      codeAny (model prog w) A (.compStart (.ListComp elt [⟨.Name x px, iter, ifs, 0⟩] scope pos) 0 (.ref I) acc { cenv with scope := relabel scope env }) (RR acc cenv.locals) s₄) E s₃) E ⟨hs, gs, dr, tk0, os⟩ := by
  refine wpAny_newObj_type (wpAny_newFunctionEnv hcell (by intro y hy; simp at hy) (fun h₁ hns₁ hsb₁ => ?_) hkind)
  dsimp only at hns₁ hsb₁ ⊢
  generalize hH2 : hs.push { cls := .type "list", dict := none, data := .seq ([] : List Value).toArray } = H2 at hns₁ hsb₁ ⊢
  have hC : H2.objs.size = hs.objs.size + 1 := by rw [← hH2, Heap.size_push]
  have hDC : hs.objs.size ≠ H2.objs.size := by rw [hC]; exact Nat.ne_of_lt (Nat.lt_succ_self _)
  have below : ∀ b, b < hs.objs.size → b ≠ H2.objs.size ∧ b ≠ hs.objs.size := fun b hb => ⟨by rw [hC]; exact Nat.ne_of_lt (Nat.lt_succ_of_lt hb), Nat.ne_of_lt hb⟩
  have hDf : hs.objs.size ∉ fp := fun hm => Nat.lt_irrefl _ (hfp _ hm)
  have hCf : H2.objs.size ∉ fp := fun hm => by have := hfp _ hm; rw [hC] at this; exact Nat.lt_irrefl _ (Nat.lt_of_succ_lt this)
  have hIlt : I < hs.objs.size := hfp I (W.sub I (List.mem_singleton.mpr rfl))
  have old : ∀ b o, hs.get? b = some o → h₁.get? b = some o := fun b o e => hsb₁.extBut b o (below b (Heap.lt_size e)).1 (Heap.get?_push_of_some _ (hH2 ▸ Heap.get?_push_of_some _ e))
  have hacc : h₁.get? hs.objs.size = some (lst []) := hsb₁.extBut _ _ hDC (Heap.get?_push_of_some _ (hH2 ▸ Heap.get?_push_size _ rfl))
  have hst₁ : St 0 h₁ := W.frame _ _ _ hst fun b _ o e => old b o e
  have fresh₀ : ∀ a, hs.objs.size ≤ a → h₀.get? a = none := fun a ha => by
    cases e : h₀.get? a with
    | none => rfl
    | some o' => exact absurd (Heap.lt_size (F.keep a o' e)) (Nat.not_lt.mpr ha)
  have hD₀ : h₀.get? hs.objs.size = none := fresh₀ _ (Nat.le_refl _)
  have hC₀ : h₀.get? H2.objs.size = none := fresh₀ _ (by rw [hC]; exact Nat.le_succ _)
  have hLlt : L < hs.objs.size := F.ns.lt
  have hDL : hs.objs.size ≠ L := Ne.symm (below _ hLlt).2
  have hCL : H2.objs.size ≠ L := Ne.symm (below _ hLlt).1
  have hCI : I ≠ H2.objs.size := (below I hIlt).1
  have hDI : I ≠ hs.objs.size := (below I hIlt).2
  have off₀ : Off3 I H2.objs.size hs.objs.size news := Off3.of fun p hp => ⟨off p hp, (below _ (Heap.lt_size (N p hp).1)).1, (below _ (Heap.lt_size (N p hp).1)).2⟩
  have off3 := off₀.mem
  have loop : ∀ s₃ : Shared, s₃ = ⟨h₁, gs, dr, tk0 + ([] : List (Str × Value)).length, os⟩ →
      codeAny (model prog w) A (.compLoop (.ListComp elt [⟨.Name x px, iter, ifs, 0⟩] scope pos) 0 (.ref I) (.ref hs.objs.size) (compEnvC scope cl H2.objs.size env)) (RR (.ref hs.objs.size) H2.objs.size) s₃ := by
    rintro s₃ rfl
    refine codeAny_compLoop_tests
      (fun k s' => ∃ h' tk i ys m', s' = ⟨h', gs, dr, tk, os⟩ ∧ tk0 ≤ tk ∧ i ≤ n ∧ k = n + 1 - i ∧ ys.length ≤ i ∧ Inv i ys tk ∧ St i h' ∧ Fr h₀ L h' m ∧ h'.Ns H2.objs.size m' ∧ News h₀ L h' ((hs.objs.size, lst ys) :: news)) ?_ (n + 1)
      ⟨h₁, tk0, 0, [], _, rfl, Nat.le_refl _, Nat.zero_le _, rfl, Nat.le_refl _, i0, hst₁, F.keeps old, hns₁, fun p hp => ?_⟩
    · rintro k s' ⟨h', tk, i, ys, m', rfl, ht, hi, rfl, hyl, hJ, hst', F', hn', N'⟩
      by_cases hlt : i < n
      · refine le_toks (W.item i _ _ _ hlt hst' fun v h₂ tk₂ hPv hst₂ hk₂ le₂ => ?_)
        replace le₂ : tk ≤ tk₂ := le₂
        refine wpAny_assign_Name (wpAny_storeName_local (lookup_relabel_local hx) (hn'.at' fun o e => hk₂ _ o (by simpa using Ne.symm hCI) e) (fun h₃ hn₃ hs₃ => ?_) (by simp [compEnvC, relabel, hkind]))
        have hst₃ : St (i + 1) h₃ := W.frame _ _ _ hst₂ fun b hb o e => hs₃.extBut b o (fun q => hCf (by have q' : b = H2.objs.size := q; rw [← q']; exact hb)) e
        obtain ⟨oI, heI⟩ := hIo _ _ hst₃
        obtain ⟨oC, heC, hoC⟩ := ns_obj hn₃
        have F₃ : Fr h₀ L h₃ m := (fr_but F' hk₂ hIL hI₀).change hs₃ hCL hC₀
        have N₂ : News h₀ L h₂ ((hs.objs.size, lst ys) :: news) := news_but N' hk₂ fun p hp => by
          rcases List.mem_cons.mp hp with rfl | hp
          · exact Ne.symm hDI
          · exact (off3 p hp).1
        have N₃ : News h₀ L h₃ ((I, oI) :: (H2.objs.size, oC) :: (hs.objs.size, lst ys) :: news) := fun p hp => by
          rcases List.mem_cons.mp hp with rfl | hp
          · exact ⟨heI, Ne.symm hIL, hI₀⟩
          · rcases List.mem_cons.mp hp with rfl | hp
            · exact ⟨heC, hCL, hC₀⟩
            · have z := N₂ p hp
              refine ⟨hs₃.extBut _ _ ?_ z.1, z.2⟩
              rcases List.mem_cons.mp hp with rfl | hp
              · exact hDC
              · exact (off3 p hp).2.1
        have hm₃ : ∀ y : Str → Option Value, (fun y_1 => if y_1 = x then some v else m' y_1) x = some v := fun _ => by simp
        have ne3 : (@Ne Nat I H2.objs.size) ∧ (@Ne Nat I hs.objs.size) ∧ (@Ne Nat H2.objs.size hs.objs.size) := ⟨hCI, hDI, Ne.symm hDC⟩
        refine le_toks (wpAny_mono (tests H2.objs.size hs.objs.size oI oC i v ys _ h₃ (tk₂ + 1) (fun _ _ => False) hPv hoC (hm₃ m') F₃ N₃ off₀ ne3) (fun ok s₄ h₄ le₄ => ?_) fun _ _ q => q.elim)
        obtain ⟨rfl, g₄, tk₄, e₄, F₄, N₄⟩ := h₄
        have le₅ : tk ≤ tk₄ := by
          rw [e₄] at le₄
          exact Nat.le_trans (Nat.le_succ_of_le le₂) le₄
        rw [e₄]
        have back : ∀ {g : Heap}, Fr h₀ L g m → News h₀ L g ((I, oI) :: (H2.objs.size, oC) :: (hs.objs.size, lst ys) :: news) → St (i + 1) g ∧ g.Ns H2.objs.size _ ∧ News h₀ L g ((hs.objs.size, lst ys) :: news) := fun {g} Fg Ng =>
          ⟨hSt _ _ _ _ _ hst₃ heI (Ng (I, oI) List.mem_cons_self).1 Fg.keep (fun p hp => Ng p (List.mem_cons_of_mem _ (List.mem_cons_of_mem _ (List.mem_cons_of_mem _ hp)))) hS, hoC.ns (Ng (H2.objs.size, oC) (List.mem_cons_of_mem _ List.mem_cons_self)).1,
            fun p hp => Ng p (List.mem_cons_of_mem _ (List.mem_cons_of_mem _ hp))⟩
        cases hpv : p v with
        | false =>
          rw [if_neg Bool.false_ne_true]
          obtain ⟨b1, b2, b3⟩ := back F₄ N₄
          exact ⟨n + 1 - (i + 1), by omega, g₄, tk₄, i + 1, ys, _, rfl, Nat.le_trans ht le₅, hlt, rfl, Nat.le_succ_of_le hyl, skip i v ys tk₄ hPv hpv (mono _ _ _ _ le₅ hJ), b1, F₄, b2, b3⟩
        | true =>
          rw [if_pos rfl]
          refine le_toks (wpAny_mono (turn H2.objs.size hs.objs.size oI oC i v ys _ g₄ tk₄ (fun _ _ => False) hlt hPv hpv (Nat.le_trans ht le₅) (mono _ _ _ _ le₅ hJ) hoC (hm₃ m') F₄ N₄ off₀ ne3) (fun y s₅ h₅ le₆ => ?_) fun _ _ q => q.elim)
          obtain ⟨g₅, tk₅, e₅, F₅, N₅, hEl⟩ := h₅
          have le₇ : tk₄ ≤ tk₅ := by rw [e₅] at le₆; exact le₆
          rw [e₅]
          obtain ⟨b1, b2, b3⟩ := back F₅ N₅
          refine append_at (hsz := by show ys.toArray.size ≤ sizeLine; rw [List.size_toArray]; exact Nat.le_trans hyl (Nat.le_trans hi hsz)) (b3 _ List.mem_cons_self).1 fun h₆ hs₆ hD₆ => ?_
          refine ⟨n + 1 - (i + 1), by omega, h₆, tk₅, i + 1, ys ++ [y], _, rfl, by omega, hlt, rfl, by rw [List.length_append, List.length_singleton]; omega, hEl, W.frame _ _ _ b1 fun b hb o e => hs₆.extBut b o (fun q => hDf (q ▸ hb)) e, F₅.change hs₆ hDL hD₀,
            b2.sameBut hs₆ (Ne.symm hDC), fun p hp => ?_⟩
          rcases List.mem_cons.mp hp with rfl | hp
          · exact ⟨hD₆.trans (congrArg some (lst_snoc ys y)), hDL, hD₀⟩
          · have z := b3 p (List.mem_cons_of_mem _ hp)
            exact ⟨hs₆.extBut _ _ (off3 p hp).2.2 z.1, z.2⟩
      · obtain rfl : i = n := Nat.le_antisymm hi (Nat.not_lt.mp hlt)
        refine le_toks (W.done _ _ _ hst' fun h₂ tk₂ hk₂ le₂ => ?_)
        replace le₂ : tk ≤ tk₂ := le₂
        refine hRR _ _ h₂ tk₂ _ ys (Nat.le_trans ht le₂) (mono _ _ _ _ le₂ hJ) (fr_but F' hk₂ hIL hI₀) (news_but N' hk₂ fun p hp => ?_) off₀.one (hn'.at' fun o e => hk₂ _ o (by simpa using Ne.symm hCI) e) hC₀ hD₀ hCL hDL (Ne.symm hDC) (fun p hp => (off3 p hp).2.1)
        rcases List.mem_cons.mp hp with rfl | hp
        · exact Ne.symm hDI
        · exact (off3 p hp).1
    · rcases List.mem_cons.mp hp with rfl | hp
      · exact ⟨hacc, hDL, hD₀⟩
      · exact ⟨old _ _ (N p hp).1, (N p hp).2⟩
  exact codeAny_compStart_list (loop _ rfl) (W.self 0 _ _ _ hst₁ (loop _ rfl))
/-- a comprehension whose iterable is worked out -/
noncomputable def AtComp (prog : Program) (w : World) (A : Around) (env : Env) (elt : Expr) (x : Str) (px : Pos) (iter : Expr) (ifs : List Expr) (scope : Scope) (pos : Pos) (cl : List (Str × Addr)) (use : Option (Value → Sem Unit)) (Q : Value → Shared → Prop) (E : Value → Shared → Prop) (xv : Value) (s₁ : Shared) : Prop :=
  wpAny (model prog w) A (pyIter xv) (fun it s₂ => wpAny (model prog w) A (newList []) (fun acc s₃ => wpAny (model prog w) A (newFunctionEnv scope env.globals cl [] env.qual none .none (some env)) (fun cenv s₄ =>
      codeAny (model prog w) A (.compStart (.ListComp elt [⟨.Name x px, iter, ifs, 0⟩] scope pos) 0 it acc { cenv with scope := relabel scope env }) (compPost (model prog w) A E use Q acc cenv.locals) s₄) E s₃) E s₂) E s₁
theorem comp_enter {s : Shared} {elt iter : Expr} {x : Str} {px : Pos} {ifs : List Expr} {scope : Scope} {cl : List (Str × Addr)} {pos : Pos} {Q : Value → Shared → Prop}
    (hclos : closureFor scope env = Pure.pure cl) (hkind : scope.kind = .function) (hnames : ∀ y ∈ scope.names, y.2 = .local → scope.names.lookup y.1 = some .local)
    (h : wpAny (model prog w) A (eval iter env) (AtComp prog w A env elt x px iter ifs scope pos cl none Q E) E s)
    (hs : ∀ x, foldedSetIterable iter env x = Pure.pure x := by intro _; rfl) :
    wpAny (model prog w) A (eval (.ListComp elt [⟨.Name x px, iter, ifs, 0⟩] scope pos) env) Q E s := by
  rw [eval_ListComp]
  exact wpAny_comprehension_free (use := none) rfl hs hclos hkind hnames h
/-- what stands behind a comprehension that is a value -/
theorem post_none {m : Str → Option Value} {news : List (Addr × Obj)} {gs : Array GenState} {dr : Drawn} {tk : Nat} {os : OsState} {Q : Value → Shared → Prop} {D C : Addr} {h : Heap} {m' : Str → Option Value} {ys : List Value}
    (F : Fr h₀ L h m) (N : News h₀ L h ((D, lst ys) :: news)) (o1 : Off1 D news) (hn : h.Ns C m') (hC₀ : h₀.get? C = none) (hCL : C ≠ L) (hCD : C ≠ D) (offC : ∀ p ∈ news, p.1 ≠ C)
    (fin : ∀ h, Fr h₀ L h m → News h₀ L h ((D, lst ys) :: news) → Off1 D news → Q (.ref D) ⟨h, gs, dr, tk, os⟩) : compPost (model prog w) A E none Q (.ref D) C (.ok .next) ⟨h, gs, dr, tk, os⟩ :=
  ⟨m', hn, fun h'' hs'' => fin h'' (F.change hs'' hCL hC₀) (fun p hp => by
    refine ⟨hs''.extBut _ _ ?_ (N p hp).1, (N p hp).2⟩
    rcases List.mem_cons.mp hp with rfl | hp
    · exact Ne.symm hCD
    · exact offC p hp) o1⟩
theorem comp_list {elt iter : Expr} {x : Str} {px : Pos} {ifs : List Expr} {scope : Scope} {cl : List (Str × Addr)} {pos : Pos} {m : Str → Option Value} {news : List (Addr × Obj)} {hs : Heap} {gs : Array GenState} {dr : Drawn} {tk0 : Nat} {os : OsState} {Q : Value → Shared → Prop} {l : Addr} {its : Array Value} (hh : A.handled = none) (F : Fr h₀ L hs m) (N : News h₀ L hs news) (hS : SrcAt h₀ l its news) (hsz : its.size ≤ sizeLine)
    (p : Value → Bool) (Inv : Nat → List Value → Nat → Prop) (i0 : Inv 0 [] tk0) (mono : ∀ i ys t t', t ≤ t' → Inv i ys t → Inv i ys t')
    (tests : ∀ (I C D : Addr) (oI oC : Obj) (i : Nat) (v : Value) (ys : List Value) (m₂ : Str → Option Value) (h : Heap) (tk : Nat) (E' : Value → Shared → Prop), its[i]? = some v → NsObj oC m₂ → m₂ x = some v → Fr h₀ L h m → News h₀ L h ((I, oI) :: (C, oC) :: (D, lst ys) :: news) → Off3 I C D news → ((@Ne Nat I C) ∧ (@Ne Nat I D) ∧ (@Ne Nat C D)) →
      wpAny (model prog w) A (forIn ifs true fun c r => if r = true then do let ok ← isTrue c (compEnvC scope cl C env) (eval c (compEnvC scope cl C env)); Pure.pure (ForInStep.yield ok) else Pure.pure (ForInStep.yield r))
        (CompTest h₀ L m ((I, oI) :: (C, oC) :: (D, lst ys) :: news) gs dr os (p v)) E' ⟨h, gs, dr, tk, os⟩)
    (skip : ∀ (i : Nat) (v : Value) (ys : List Value) (tk : Nat), its[i]? = some v → p v = false → Inv i ys tk → Inv (i + 1) ys tk)
    (turn : ∀ (I C D : Addr) (oI oC : Obj) (i : Nat) (v : Value) (ys : List Value) (m₂ : Str → Option Value) (h : Heap) (tk : Nat) (E' : Value → Shared → Prop), i < its.size → its[i]? = some v → p v = true → tk0 ≤ tk → Inv i ys tk → NsObj oC m₂ → m₂ x = some v → Fr h₀ L h m → News h₀ L h ((I, oI) :: (C, oC) :: (D, lst ys) :: news) → Off3 I C D news → ((@Ne Nat I C) ∧ (@Ne Nat I D) ∧ (@Ne Nat C D)) →
      wpAny (model prog w) A (eval elt (compEnvC scope cl C env)) (CompElt h₀ L m ((I, oI) :: (C, oC) :: (D, lst ys) :: news) gs dr os (fun y tk' => Inv (i + 1) (ys ++ [y]) tk')) E' ⟨h, gs, dr, tk, os⟩)
    (done : ∀ D h tk ys, tk0 ≤ tk → Inv its.size ys tk → Fr h₀ L h m → News h₀ L h ((D, lst ys) :: news) → Off1 D news → Q (.ref D) ⟨h, gs, dr, tk, os⟩)
    (hcell : ∀ y ∈ scope.names, y.2 ≠ .cell) (hkind : scope.kind = .function) (hx : scope.names.lookup x = some .local) : AtComp prog w A env elt x px iter ifs scope pos cl none Q E (.ref l) ⟨hs, gs, dr, tk0, os⟩ := by
  have hl := hS.list F.keep N
  have hlt : l < hs.objs.size := by obtain ⟨_, e, _⟩ := hl; exact Heap.lt_size e
  refine wpAny_pyIter_list hl ?_
  have up : ∀ o : Obj, ∀ b o', hs.get? b = some o' → (hs.push o).get? b = some o' := fun o b o' e => Heap.get?_push_of_some _ e
  refine comp_block (S := SrcAt h₀ l its) (RR := fun acc C => compPost (model prog w) A E none Q acc C) (Walks.list hh hs.objs.size l (Nat.ne_of_lt hlt) its) hsz (fun i h st => by obtain ⟨o, e, _⟩ := st.1; exact ⟨o, e⟩) (fun i h h' o nw st e e' k N S => list_st i h h' o nw st e e' k N S)
    hcell hkind hx ⟨⟨_, Heap.get?_push_size _ rfl, rfl, rfl⟩, hl.push _⟩ (fun b hb => ?_) (F.keeps (up _)) (N.grown (up _)) (Nat.ne_of_lt F.ns.lt) (next_is_new F) (fun p hp => Nat.ne_of_lt (Heap.lt_size (N p hp).1)) hS p Inv i0 mono (tests _) skip (turn _) ?_
  · show b < (hs.push _).objs.size
    rw [Heap.size_push]
    rcases List.mem_cons.mp hb with rfl | hb
    · exact Nat.lt_succ_self _
    · rw [List.mem_singleton.mp hb]; exact Nat.lt_succ_of_lt hlt
  · intro D C h tk m' ys le hi F' N' o1 hn hC₀ hD₀ hCL hDL hCD offC
    exact post_none F' N' o1 hn hC₀ hCL hCD offC fun h F N o => done D h tk ys le hi F N o
theorem comp_range {elt iter : Expr} {x : Str} {px : Pos} {ifs : List Expr} {scope : Scope} {cl : List (Str × Addr)} {pos : Pos} {m : Str → Option Value} {news : List (Addr × Obj)} {hs : Heap} {gs : Array GenState} {dr : Drawn} {tk0 : Nat} {os : OsState} {Q : Value → Shared → Prop} {r : Addr} {a b : Int} {tt u v : Tok} {n : Nat} (hh : A.handled = none) (F : Fr h₀ L hs m) (N : News h₀ L hs news) (hr : IsRange hs r a b 1 tt u v) (hsm : Builtin.Range.small a b 1 = true) (hn : Builtin.Range.rangeSize a b 1 = ((n : Nat) : Int)) (hsz : n ≤ sizeLine)
    (p : Value → Bool) (Inv : Nat → List Value → Nat → Prop) (i0 : Inv 0 [] tk0) (mono : ∀ i ys t t', t ≤ t' → Inv i ys t → Inv i ys t')
    (tests : ∀ (I C D : Addr) (oI oC : Obj) (i : Nat) (v : Value) (ys : List Value) (m₂ : Str → Option Value) (h : Heap) (tk : Nat) (E' : Value → Shared → Prop), (∃ t, v = Value.int (a + (i : Int)) t) → NsObj oC m₂ → m₂ x = some v → Fr h₀ L h m → News h₀ L h ((I, oI) :: (C, oC) :: (D, lst ys) :: news) → Off3 I C D news → ((@Ne Nat I C) ∧ (@Ne Nat I D) ∧ (@Ne Nat C D)) →
      wpAny (model prog w) A (forIn ifs true fun c r => if r = true then do let ok ← isTrue c (compEnvC scope cl C env) (eval c (compEnvC scope cl C env)); Pure.pure (ForInStep.yield ok) else Pure.pure (ForInStep.yield r))
        (CompTest h₀ L m ((I, oI) :: (C, oC) :: (D, lst ys) :: news) gs dr os (p v)) E' ⟨h, gs, dr, tk, os⟩)
    (skip : ∀ (i : Nat) (v : Value) (ys : List Value) (tk : Nat), (∃ t, v = Value.int (a + (i : Int)) t) → p v = false → Inv i ys tk → Inv (i + 1) ys tk)
    (turn : ∀ (I C D : Addr) (oI oC : Obj) (i : Nat) (v : Value) (ys : List Value) (m₂ : Str → Option Value) (h : Heap) (tk : Nat) (E' : Value → Shared → Prop), i < n → (∃ t, v = Value.int (a + (i : Int)) t) → p v = true → tk0 ≤ tk → Inv i ys tk → NsObj oC m₂ → m₂ x = some v → Fr h₀ L h m → News h₀ L h ((I, oI) :: (C, oC) :: (D, lst ys) :: news) → Off3 I C D news → ((@Ne Nat I C) ∧ (@Ne Nat I D) ∧ (@Ne Nat C D)) →
      wpAny (model prog w) A (eval elt (compEnvC scope cl C env)) (CompElt h₀ L m ((I, oI) :: (C, oC) :: (D, lst ys) :: news) gs dr os (fun y tk' => Inv (i + 1) (ys ++ [y]) tk')) E' ⟨h, gs, dr, tk, os⟩)
    (done : ∀ D h tk ys, tk0 ≤ tk → Inv n ys tk → Fr h₀ L h m → News h₀ L h ((D, lst ys) :: news) → Off1 D news → Q (.ref D) ⟨h, gs, dr, tk, os⟩)
    (hcell : ∀ y ∈ scope.names, y.2 ≠ .cell) (hkind : scope.kind = .function) (hx : scope.names.lookup x = some .local) : AtComp prog w A env elt x px iter ifs scope pos cl none Q E (.ref r) ⟨hs, gs, dr, tk0, os⟩ := by
  refine wpAny_pyIter_range hr hsm ?_
  have up : ∀ o : Obj, ∀ b o', hs.get? b = some o' → (hs.push o).get? b = some o' := fun o b o' e => Heap.get?_push_of_some _ e
  refine comp_block (S := fun _ => True) (RR := fun acc C => compPost (model prog w) A E none Q acc C) (range_walks hh a n) hsz (fun i h st => ⟨_, st⟩) (fun i h h' o nw st e e' k N S => range_st (h₀ := h₀) (L := L) i h h' o nw st e e' k N S)
    hcell hkind hx (by show IsRangeIter _ _ _ _ _; rw [hn]; simpa using Heap.get?_push_size _ rfl) (fun b hb => ?_) (F.keeps (up _)) (N.grown (up _)) (Nat.ne_of_lt F.ns.lt) (next_is_new F) (fun p hp => Nat.ne_of_lt (Heap.lt_size (N p hp).1)) trivial p Inv i0 mono (tests _) skip (turn _) ?_
  · rw [List.mem_singleton.mp hb]
    show hs.objs.size < (hs.push _).objs.size
    rw [Heap.size_push]; exact Nat.lt_succ_self _
  · intro D C h tk m' ys le hi F' N' o1 hn hC₀ hD₀ hCL hDL hCD offC
    exact post_none F' N' o1 hn hC₀ hCL hCD offC fun h F N o => done D h tk ys le hi F N o
theorem comp_str {elt iter : Expr} {x : Str} {px : Pos} {ifs : List Expr} {scope : Scope} {cl : List (Str × Addr)} {pos : Pos} {m : Str → Option Value} {news : List (Addr × Obj)} {hs : Heap} {gs : Array GenState} {dr : Drawn} {tk0 : Nat} {os : OsState} {Q : Value → Shared → Prop} {y : Str} {ty : Tok} (hh : A.handled = none) (F : Fr h₀ L hs m) (N : News h₀ L hs news) (hsz : y.cps.size ≤ sizeLine)
    (p : Value → Bool) (Inv : Nat → List Value → Nat → Prop) (i0 : Inv 0 [] tk0) (mono : ∀ i ys t t', t ≤ t' → Inv i ys t → Inv i ys t')
    (tests : ∀ (I C D : Addr) (oI oC : Obj) (i : Nat) (v : Value) (ys : List Value) (m₂ : Str → Option Value) (h : Heap) (tk : Nat) (E' : Value → Shared → Prop), SignAt y i v → NsObj oC m₂ → m₂ x = some v → Fr h₀ L h m → News h₀ L h ((I, oI) :: (C, oC) :: (D, lst ys) :: news) → Off3 I C D news → ((@Ne Nat I C) ∧ (@Ne Nat I D) ∧ (@Ne Nat C D)) →
      wpAny (model prog w) A (forIn ifs true fun c r => if r = true then do let ok ← isTrue c (compEnvC scope cl C env) (eval c (compEnvC scope cl C env)); Pure.pure (ForInStep.yield ok) else Pure.pure (ForInStep.yield r))
        (CompTest h₀ L m ((I, oI) :: (C, oC) :: (D, lst ys) :: news) gs dr os (p v)) E' ⟨h, gs, dr, tk, os⟩)
    (skip : ∀ (i : Nat) (v : Value) (ys : List Value) (tk : Nat), SignAt y i v → p v = false → Inv i ys tk → Inv (i + 1) ys tk)
    (turn : ∀ (I C D : Addr) (oI oC : Obj) (i : Nat) (v : Value) (ys : List Value) (m₂ : Str → Option Value) (h : Heap) (tk : Nat) (E' : Value → Shared → Prop), i < y.cps.size → SignAt y i v → p v = true → tk0 ≤ tk → Inv i ys tk → NsObj oC m₂ → m₂ x = some v → Fr h₀ L h m → News h₀ L h ((I, oI) :: (C, oC) :: (D, lst ys) :: news) → Off3 I C D news → ((@Ne Nat I C) ∧ (@Ne Nat I D) ∧ (@Ne Nat C D)) →
      wpAny (model prog w) A (eval elt (compEnvC scope cl C env)) (CompElt h₀ L m ((I, oI) :: (C, oC) :: (D, lst ys) :: news) gs dr os (fun y tk' => Inv (i + 1) (ys ++ [y]) tk')) E' ⟨h, gs, dr, tk, os⟩)
    (done : ∀ D h tk ys, tk0 ≤ tk → Inv y.cps.size ys tk → Fr h₀ L h m → News h₀ L h ((D, lst ys) :: news) → Off1 D news → Q (.ref D) ⟨h, gs, dr, tk, os⟩)
    (hcell : ∀ y ∈ scope.names, y.2 ≠ .cell) (hkind : scope.kind = .function) (hx : scope.names.lookup x = some .local) : AtComp prog w A env elt x px iter ifs scope pos cl none Q E (.str y ty) ⟨hs, gs, dr, tk0, os⟩ := by
  have up : ∀ o : Obj, ∀ b o', hs.get? b = some o' → (hs.push o).get? b = some o' := fun o b o' e => Heap.get?_push_of_some _ e
  have same : ∀ (cls : String) (i : Nat) (h h' : Heap) (o : Obj) (I : Addr), h.IsStrIter I cls y ty i → h.get? I = some o → h'.get? I = some o → h'.IsStrIter I cls y ty i := fun cls i h h' o I st e e' => by
    obtain ⟨o', q, r⟩ := st; rw [e] at q; cases q; exact ⟨o, e', r⟩
  have key : ∀ (cls : String) (o : Obj), Walks prog w A hs.objs.size [hs.objs.size] [hs.objs.size] y.cps.size (SignAt y) (fun i h => h.IsStrIter hs.objs.size cls y ty i) → (hs.push o).IsStrIter hs.objs.size cls y ty 0 →
      wpAny (model prog w) A (newList []) (fun acc s₃ => wpAny (model prog w) A (newFunctionEnv scope env.globals cl [] env.qual none .none (some env)) (fun cenv s₄ =>
      codeAny (model prog w) A (.compStart (.ListComp elt [⟨.Name x px, iter, ifs, 0⟩] scope pos) 0 (.ref hs.objs.size) acc { cenv with scope := relabel scope env }) (compPost (model prog w) A E none Q acc cenv.locals) s₄) E s₃) E ⟨hs.push o, gs, dr, tk0, os⟩ := fun cls o W h1 => by
    refine comp_block (S := fun _ => True) (RR := fun acc C => compPost (model prog w) A E none Q acc C) W hsz (fun i h st => by obtain ⟨o, e, _⟩ := st; exact ⟨o, e⟩) (fun i h h' o nw st e e' k N S => same cls i h h' o _ st e e')
      hcell hkind hx h1 (fun b hb => ?_) (F.keeps (up _)) (N.grown (up _)) (Nat.ne_of_lt F.ns.lt) (next_is_new F) (fun p hp => Nat.ne_of_lt (Heap.lt_size (N p hp).1)) trivial p Inv i0 mono (tests _) skip (turn _) ?_
    · rw [List.mem_singleton.mp hb]
      show hs.objs.size < (hs.push _).objs.size
      rw [Heap.size_push]; exact Nat.lt_succ_self _
    · intro D C h tk m' ys le hi F' N' o1 hn hC₀ hD₀ hCL hDL hCD offC
      exact post_none F' N' o1 hn hC₀ hCL hCD offC fun h F N o => done D h tk ys le hi F N o
  cases ha : y.cps.all (· < 128)
  · exact wpAny_pyIter_wide ha (key _ _ (Walks.strWide hh _ y ty) ⟨_, Heap.get?_push_size _ rfl, rfl, rfl⟩)
  · exact wpAny_pyIter_ascii ha (key _ _ (Walks.strAscii hh _ y ty) ⟨_, Heap.get?_push_size _ rfl, rfl, rfl⟩)
end
end
section
set_option maxRecDepth 100000
set_option maxHeartbeats 4000000
open LCg
theorem comp_enterL {prog : Program} {w : World} {A : Around} {env : Env} {E : Value → Shared → Prop} {s : Shared} {elt iter : Expr} {x : Str} {px : Pos} {ifs : List Expr} {scope : Scope} {cl : List (Str × Addr)} {pos : Pos} {Q : Value → Shared → Prop}
    (hclos : closureFor scope env = Pure.pure cl) (hkind : scope.kind = .function) (hnames : ∀ y ∈ scope.names, y.2 = .local → scope.names.lookup y.1 = some .local)
    (h : wpAny (model prog w) A (eval iter env) (fun xv s₁ => s.toks ≤ s₁.toks → AtComp prog w A env elt x px iter ifs scope pos cl none Q E xv s₁) (fun e s₁ => s.toks ≤ s₁.toks → E e s₁) s)
    (hs : ∀ x, foldedSetIterable iter env x = Pure.pure x := by intro _; rfl) :
    wpAny (model prog w) A (eval (.ListComp elt [⟨.Name x px, iter, ifs, 0⟩] scope pos) env) Q E s := comp_enter hclos hkind hnames (le_toks h) hs
theorem for_enterL {prog : Program} {w : World} {A : Around} {env : Env} {E : Value → Shared → Prop} {s : Shared} {target iter : Expr} {body orelse : List Stmt} {pos : Pos} {Q : Flow → Shared → Prop} (h : wpAny (model prog w) A (eval iter env) (fun xv s₁ => s.toks ≤ s₁.toks → AtIter prog w A env target body orelse Q E xv s₁) (fun e s₁ => s.toks ≤ s₁.toks → E e s₁) s)
    (hs : ∀ x, foldedSetIterable iter env x = Pure.pure x := by intro _; rfl) : wpAny (model prog w) A (exec (.For target iter body orelse pos) env) Q E s := for_enter (le_toks h) hs
end
local macro_rules | `(tactic| walk_at "exec For Name Name cons nil") => `(tactic| (k_here; k_dflt (refine for_enterL ?_)))
local macro_rules | `(tactic| walk_at "exec For Name Call cons nil") => `(tactic| (k_here; k_dflt (refine for_enterL ?_)))
local macro_rules | `(tactic| walk_at "exec For Name Call cons cons") => `(tactic| (k_here; k_dflt (refine for_enterL ?_)))
local macro_rules | `(tactic| walk_at "eval ListComp") => `(tactic| (k_here; k_dflt (refine comp_enterL (by with_unfolding_all rfl) (by rfl) (by decide) ?_)))
section
set_option maxRecDepth 100000
set_option maxHeartbeats 4000000
open LCg
local macro_rules | `(tactic| walk_at "eval Name") => `(tactic| walk_at "evN")
/-- a list of texts whose tokens are drawn from lo on and before hi -/
noncomputable def TkStrs (lo hi : Nat) (vs : List Value) (ys : List Str) : Prop := vs.length = ys.length ∧ ∀ (i : Nat) (y : Str), ys[i]? = some y → ∃ t : Nat, vs[i]? = some (.str y t) ∧ lo ≤ t ∧ t < hi
theorem TkStrs.mono {lo a b : Nat} {vs ys} (h : TkStrs lo a vs ys) (le : a ≤ b) : TkStrs lo b vs ys := ⟨h.1, fun i n e => by obtain ⟨t, h1, h2, h3⟩ := h.2 i n e; exact ⟨t, h1, h2, Nat.lt_of_lt_of_le h3 le⟩⟩
theorem TkStrs.nil {lo hi : Nat} : TkStrs lo hi [] [] := ⟨rfl, fun i n e => by simp at e⟩
theorem TkStrs.cons {lo hi : Nat} {vs ys} {y : Str} {t : Nat} (h1 : lo ≤ t) (h2 : t < hi) (h : TkStrs lo hi vs ys) : TkStrs lo hi (.str y t :: vs) (y :: ys) :=
  ⟨by simp [h.1], fun i n e => by
    cases i with
    | zero => simp at e; exact ⟨t, by simp [e], h1, h2⟩
    | succ i => simp at e; simpa using h.2 i n e⟩
theorem TkStrs.append {lo hi : Nat} {vs ys vs' ys'} (h : TkStrs lo hi vs ys) (h' : TkStrs lo hi vs' ys') : TkStrs lo hi (vs ++ vs') (ys ++ ys') :=
  ⟨by simp [h.1, h'.1], fun i n e => by
    by_cases q : i < ys.length
    · rw [List.getElem?_append_left q] at e
      rw [List.getElem?_append_left (by rw [h.1]; exact q)]
      exact h.2 i n e
    · rw [List.getElem?_append_right (by omega)] at e
      rw [List.getElem?_append_right (by rw [h.1]; omega), h.1]
      exact h'.2 _ n e⟩
theorem TkStrs.snoc {lo hi hi' : Nat} {vs ys} {y : Str} {t : Nat} (h : TkStrs lo hi vs ys) (h1 : lo ≤ t) (h2 : t < hi') (h3 : hi ≤ hi') : TkStrs lo hi' (vs ++ [.str y t]) (ys ++ [y]) :=
  (h.mono h3).append (.cons h1 h2 .nil)
noncomputable def names0 : List Str := ["OPTIMIZED", "NEWLOCALS", "VARARGS", "VARKEYWORDS", "NESTED", "GENERATOR", "NOFREE", "COROUTINE", "ITERABLE_COROUTINE", "ASYNC_GENERATOR"].map Str.ofString
noncomputable def hexes (n : Nat) : List Str := (List.range n).map fun k => baseText "0x" 16 ((2 : Int) ^ (10 + k))
theorem hexes_succ (n : Nat) : hexes (n + 1) = hexes n ++ [baseText "0x" 16 ((2 : Int) ^ (10 + n))] := by simp [hexes, List.range_succ]
noncomputable def names1 : List Str := names0 ++ hexes 22
theorem hexBig : ∀ i : Nat, i < 22 → (baseText "0x" 16 ((2 : Int) ^ ((10 : Int) + (i : Int)).toNat)).length ≤ sizeLine := by decide +kernel
theorem c_names : ∀ (w : World) (mean mg mb), Pure 5 w mean mg mb 193 [] (fun s => True) (fun s v h' tk' => ∃ l vs c, v = .ref l ∧ h'.get? l = some (W.listOf vs.toArray c) ∧ TkStrs s.toks tk' vs names1) := by
  intro w mean mg mb
  refine Pure.of ?_
  intro dp un gd outer base s Q E hd hu B X T h0 hpre hret
  refine wpAny_call ?_
  walk_at "mine enter"
  k_steps
  refine' comp_range (n := 22) ?hh ?F ?N ?hr ?hsm ?hn ?hsz (fun _ => true) (fun i ys (tk : Nat) => s.toks ≤ tk ∧ TkStrs s.toks tk ys (hexes i)) ?i0 ?mono ?tests ?skip ?turn ?done ?hcell ?hkind ?hx
  case hh => rfl
  case F => k_asm
  case N => k_asm
  case hr => k_asm
  case hsm => rfl
  case hn => rfl
  case hsz => decide
  case hcell => decide
  case hkind => rfl
  case hx => rfl
  case i0 => exact ⟨by omega, TkStrs.nil⟩
  case mono => rintro i ys t t' le ⟨h1, h2⟩; exact ⟨Nat.le_trans h1 le, h2.mono le⟩
  case tests =>
    intro I C D oI oC i v ys m₂ h tk E' hv ho hm F N off ne
    exact wpAny_tests_nil ⟨rfl, h, tk, rfl, F, N⟩
  case skip => intro i v ys tk hv q; cases q
  case turn =>
    rintro I C D oI oC i v ys m₂ h tk E' hi ⟨t, rfl⟩ _ hle ⟨hJ, hJ2⟩ ho hm F N off ne
    k_steps
    refine P.hex_of_int ?_ (hexBig i hi)
    refine CompElt.intro F N (fun p hp => hp) (show _ ∧ _ from ⟨?_, ?_⟩)
    · dsimp only; omega
    · rw [hexes_succ, show (10 + (i : Int)).toNat = 10 + i by omega]
      exact hJ2.snoc (by dsimp only; omega) (by dsimp only; omega) (by dsimp only; omega)
  case done =>
    rintro D h tk ys hle ⟨hJ, hJ2⟩ F N off
    k_steps
    refine add_arrays (by k_asm) (by k_asm) (by is_list) (by is_list) ?_ ?_
    · intro h' F' N'
      try k_steps
      refine hret _ _ _ (Fr.keep F') ⟨_, _, _, rfl, (N' _ List.mem_cons_self).1, ?_⟩
      refine TkStrs.append (ys := names0) (ys' := hexes 22) ?_ (by simpa using hJ2)
      unfold names0
      simp only [List.map_cons, List.map_nil]
      repeat refine TkStrs.cons (by omega) (by omega) ?_
      exact TkStrs.nil
    · have z := hJ2.1
      rw [show (hexes 22).length = 22 by rfl] at z
      simp [z]; decide
end
section
set_option maxRecDepth 100000
set_option maxHeartbeats 4000000
local macro_rules | `(tactic| walk_at "eval Name") => `(tactic| walk_at "evN")
theorem is_str {M : Model} {A : Around} {E : Value → Shared → Prop} {s : Shared} {a b : Str} {t u : Nat} {Q : Value → Shared → Prop} (ht : t ≠ 0) (hu : u ≠ 0) (hb : NoneBooked s.heap) (hq : ∀ c, (c = true → a = b ∨ t = u) → Q (.bool c) s) :
    wpAny M A (compareOp .Is (.str a t) (.str b u)) Q E s := by
  refine wpAny_bind ?_
  have h0 : (t == 0 || u == 0) = false := by simp [ht, hu]
  show wpAny M A (isSame.created (a == b) t u) _ E s
  unfold isSame.created
  rw [h0]
  refine wpAny_ite ?_
  rw [if_neg Bool.false_ne_true]
  refine wpAny_ite ?_
  split
  · rename_i e; exact wpAny_pure (wpAny_pure (hq _ fun _ => .inr (by simpa using e)))
  refine wpAny_ite ?_
  split
  · exact wpAny_pure (wpAny_pure (hq _ fun e => by cases e))
  rename_i e
  refine wpAny_bind (wpAny_sharingNotTold_none hb ?_)
  rw [if_neg Bool.false_ne_true]
  refine wpAny_bind (wpAny_sharingNotTold_none hb ?_)
  rw [if_neg Bool.false_ne_true]
  exact wpAny_bind (wpAny_rule (wpAny_bind (wpAny_askSetting (wpAny_pure (wpAny_pure (hq _ fun _ => .inl (by simpa using e)))))))
end
local macro_rules | `(tactic| walk_at "compareOp Is int int") => `(tactic| (k_here; with_reducible refine is_int (by omega) (by omega) (by first | assumption | exact noneBooked (Frag.In.keeps (by k_asm) (Fr.keep (by k_asm))) (Top.keeps (by k_asm) (Fr.keep (by k_asm)))) ?_; intro c hc))
local macro_rules | `(tactic| walk_at "compareOp Is str str") => `(tactic| (k_here; with_reducible refine is_str (by omega) (by omega) (by first | assumption | exact noneBooked (Frag.In.keeps (by k_asm) (Fr.keep (by k_asm))) (Top.keeps (by k_asm) (Fr.keep (by k_asm)))) ?_; intro c hc))
section
set_option maxRecDepth 100000
set_option maxHeartbeats 4000000
local macro_rules | `(tactic| walk_at "eval Name") => `(tactic| walk_at "evN")
theorem idxOf_atS {ns : List Str} {b : Str} {i : Nat} (hi : i < ns.length) (h0 : b ∉ ns.take i) (e : ns[i] = b) : ns.idxOf b = i := by
  have q : ns.take i ++ ns[i] :: ns.drop (i + 1) = ns := by simp
  have z : (ns.take i ++ ns[i] :: ns.drop (i + 1)).idxOf b = i := by
    rw [List.idxOf_append, if_neg h0, e, List.idxOf_cons_self]
    simp; omega
  rw [q] at z
  exact z
theorem c_indexS : ∀ (w : World) (mean mg mb) (l : Addr) (vs : List Value) (ns : List Str) (b : Str) (tb lo hi : Nat), TkStrs lo hi vs ns → 0 < lo → tb < lo ∨ hi ≤ tb → 0 < tb → b ∈ ns →
    Pure 5 w mean mg mb 102 [.ref l, .str b tb] (fun s => s.heap.IsList l vs.toArray) (fun s v _ _ => ∃ t, v = .int (ns.idxOf b) t ∧ s.toks ≤ t) := by
  intro w mean mg mb l vs ns b tb lo hi hv hlo hle h0b hmem
  refine Pure.of ?_
  intro dp un gd outer base s Q E hd hu B X T h0 hl hret
  refine wpAny_call ?_
  walk_at "mine enter"
  k_steps
  refine' enum_at (its := vs.toArray) ?hh ?hx ?hy ?hp ?F hl (fun i m => b ∉ ns.take i ∧ m (Str.ofString "b") = some (.str b tb)) ?h0 ?turn ?done
  case hh => exact rfl
  case hx => exact rfl
  case hy => exact rfl
  case hp => exact rfl
  case F => k_asm
  case h0 => exact ⟨by simp, rfl⟩
  case turn =>
    rintro e it oe oi i v t m₁ h tk E' hv' ht htk ⟨hm0, hm1⟩ F N
    have hi' : i < ns.length := by
      have := (Array.getElem?_eq_some_iff.mp hv').1
      simp at this; rw [← hv.1]; exact this
    obtain ⟨t', ee, p1, p2⟩ := hv.2 i ns[i] (by simp [hi'])
    have hv2 : v = .str ns[i] t' := by
      have : vs[i]? = some v := by simpa using hv'
      rw [ee] at this; exact (Option.some.inj this).symm
    subst hv2
    have fin : ns[i] = b → ns.idxOf b = i := idxOf_atS hi' hm0
    have nxt : ns[i] ≠ b → b ∉ ns.take (i + 1) := fun q mem => by
      rw [List.take_add_one, show ns[i]? = some ns[i] by simp [hi']] at mem
      rcases List.mem_append.mp mem with x | x
      · exact hm0 x
      · have x' : b = ns[i] := by simpa using x
        exact q x'.symm
    k_steps
    · rename_i tk1 le1 c hc ha tk2 le2 lef1 lef2
      rcases hc ha with q | q
      · dsimp only; unfold EnumEnd; dsimp only; intro _; exact hret (.int ((i : Nat) : Int) t) _ _ (Fr.keep F) ⟨t, (by rw [fin q]), by omega⟩
      · omega
    · rename_i tk1 le1 c hc ha q tk2 le2 lef1 lef2
      replace q := eq_of_beq q
      dsimp only; unfold EnumEnd; dsimp only; intro _; exact hret (.int ((i : Nat) : Int) t) _ _ (Fr.keep F) ⟨t, (by rw [fin q]), by omega⟩
    · rename_i tk1 le1 c hc ha q lef1
      exact ⟨_, _, _, rfl, F, N, nxt (fun e => by rw [e, beq_self_eq_true] at q; cases q), hm1⟩
  case done =>
    rintro m₁ h tk E' ⟨hm0, hm1⟩ F
    exact absurd (by simpa [hv.1] using hm0 : b ∉ ns) (fun q => q hmem)
end
section
set_option maxRecDepth 100000
set_option maxHeartbeats 4000000
open LCg
local macro_rules | `(tactic| walk_at "eval Name") => `(tactic| walk_at "evN")
theorem item_row {prog : Program} {w : World} {A : Around} {E : Value → Shared → Prop} {s : Shared} {value slice : PySem.Expr} {l : Addr} {vs : List Value} {ys : List Str} {k : Int} {u : Tok} {Q : Value → Shared → Prop}
    (hl : s.heap.IsList l vs.toArray) (hv : StrsAre vs ys) (hb : (ys.all fun y => decide (2 ≤ y.length) && decide (y.length ≤ 4)) = true) (h0 : 0 ≤ k) (hk : k < (ys.length : Int)) (hy : k < 2 ^ 63)
    (h : ∀ x t, x = ys.getD k.toNat PySem.Str.empty → x ∈ ys → 2 ≤ x.length → x.length ≤ 4 → Q (.str x t) s)
    (hs : subscripted slice false (.ref l) (.int k u) = operate [.ref l, .int k u] (getItem (.ref l) (.int k u)) := by with_unfolding_all rfl) :
    wpAny (model prog w) A (subscriptTail value slice (.ref l) (.int k u)) Q E s := by
  have hi : k.toNat < ys.length := by omega
  have q : ys.getD k.toNat PySem.Str.empty = ys[k.toNat] := by rw [List.getD_eq_getElem?_getD, List.getElem?_eq_getElem hi]; rfl
  have m : ys[k.toNat] ∈ ys := List.getElem_mem hi
  have z := List.all_eq_true.mp hb _ m
  simp only [Bool.and_eq_true, decide_eq_true_eq] at z
  rw [← q] at m z
  exact KTb.item_list hl hv h0 hk hy (fun t _ => h _ t rfl m z.1 z.2) hs
local macro_rules | `(tactic| walk_at "subscriptTail Name Name str int") => `(tactic| walk_at "subscriptTail")
local macro_rules | `(tactic| walk_at "subscriptTail Name Constant str int") => `(tactic| (k_here; refine item_str (by decide) (by omega) (by omega) ?_; intro _))
local macro_rules | `(tactic| walk_at "subscriptTail Name Slice str ref") => `(tactic| (k_here; (with_reducible show wpAny _ _ (subscriptTail _ (Expr.Slice (some _) none none _) _ _) _ _ _); (refine' slice_strN_sn (hsz := ?hsz) (s := ⟨_, _, _, _, _⟩) ?kf ?kn ?_; (case kf => k_asm); (case kn => k_asm); (case hsz => (show _ ≤ sizeLine; unfold sizeLine; omega)); k_whole; intro h' t' k' F' N')))
local macro_rules | `(tactic| walk_at "subscriptTail") => `(tactic| (k_here; (with_reducible show wpAny _ _ (subscriptTail _ _ (Value.ref _) (Value.int _ _)) _ _ _); k_dflt (refine' item_row ?ktbl ?ktbw ?ktbz ?ktb0 ?ktb1 ?ktbf ?_; (case ktbl => ktb_isList); (case ktbw => repeat constructor); (case ktbz => decide); (case ktb0 => ktb_idx); (case ktb1 => ktb_idx); (case ktbf => ktb_idx)); intro x t hx hxm hx2 hx4))
local macro_rules | `(tactic| walk_at "subscriptTail Name BinOp ref int") => `(tactic| walk_at "subscriptTail")
noncomputable def marks : Str := Str.ofString "\u00ad\u034f\u1806\u180b\u180c\u180d\u200b\u200c\u200d\u2060\ufeff"
noncomputable def row1 : List Str := [Str.ofString "\u00b5\u03bc", Str.ofString "\u017fs", Str.ofString "\u0345\u03b9", Str.ofString "\u03c2\u03c3", Str.ofString "\u03d0\u03b2", Str.ofString "\u1e9b\u1e61", Str.ofString "\u1fbe\u03b9", Str.ofString "\u2102c", Str.ofString "\u2107\u025b", Str.ofString "\u213f\u03c0", Str.ofString "Qq", Str.ofString "\u2061\u2061"]
noncomputable def row2 : List Str := [Str.ofString "\u00dfss", Str.ofString "\u0130i\u0307", Str.ofString "\u0149\u02bcn", Str.ofString "\u01f0j\u030c", Str.ofString "\u037a \u03b9", Str.ofString "\u0587\u0565\u0582", Str.ofString "\u1e96h\u0331", Str.ofString "\u1e9aa\u02be", Str.ofString "\u1f50\u03c5\u0313", Str.ofString "\u1f80\u1f00\u03b9", Str.ofString "\u1faf\u1f67\u03b9", Str.ofString "\u1fb6\u03b1\u0342", Str.ofString "\u1ffc\u03c9\u03b9", Str.ofString "\u20a8rs", Str.ofString "\u2103\u00b0c", Str.ofString "\u2116no", Str.ofString "\u3382\u03bca", Str.ofString "\u33ddwb", Str.ofString "\ufb17\u0574\u056d"]
noncomputable def row3 : List Str := [Str.ofString "\u0390\u03b9\u0308\u0301", Str.ofString "\u03b0\u03c5\u0308\u0301", Str.ofString "\u1f52\u03c5\u0313\u0300", Str.ofString "\u1fb7\u03b1\u0342\u03b9", Str.ofString "\u1fe7\u03c5\u0308\u0342", Str.ofString "\u1ff7\u03c9\u0342\u03b9", Str.ofString "\u2121tel", Str.ofString "\u3371hpa", Str.ofString "\ufb03ffi"]
noncomputable def signs : List (Str × Str) :=
  (List.range 11).map (fun (i : Nat) => (Txt.item marks (i : Int), Str.ofString "")) ++ (List.range 16).map (fun i => ((⟨#[65024 + i]⟩ : Str), Str.ofString "")) ++ (row1 ++ row2 ++ row3).map fun r => (Txt.item r 0, Txt.slice r (some 1) none)
theorem signs_a {k : Int} (h0 : 0 ≤ k) (h : k < 11) : (Txt.item marks k, Str.ofString "") ∈ signs := by
  obtain ⟨i, rfl⟩ : ∃ i : Nat, k = i := ⟨k.toNat, by omega⟩
  exact List.mem_append_left _ (List.mem_append_left _ (List.mem_map.mpr ⟨i, List.mem_range.mpr (by omega), rfl⟩))
theorem signs_b {k : Int} (h0 : 11 ≤ k) (h : k < 27) : ((⟨#[(65024 + k - 11).toNat]⟩ : Str), Str.ofString "") ∈ signs := by
  refine List.mem_append_left _ (List.mem_append_right _ (List.mem_map.mpr ⟨(k - 11).toNat, List.mem_range.mpr (by omega), ?_⟩))
  rw [show 65024 + (k - 11).toNat = (65024 + k - 11).toNat by omega]
theorem signs_c {r : Str} (h : r ∈ row1 ∨ r ∈ row2 ∨ r ∈ row3) : (Txt.item r 0, Txt.slice r (some 1) none) ∈ signs := by
  refine List.mem_append_right _ (List.mem_map.mpr ⟨r, ?_, rfl⟩)
  rcases h with h | h | h <;> simp [h]
theorem c_sign : ∀ (w : World) (mean mg mb) (n : Int) (tn : Tok), Pure 5 w mean mg mb 200 [.int n tn] (fun s => True)
    (fun s v h' tk' => ∃ l a d ta td, v = .ref l ∧ IsTup h' l #[.str a ta, .str d td] ∧ (a, d) ∈ signs) := by
  intro w mean mg mb n tn
  refine Pure.of ?_
  intro dp un gd outer base s Q E hd hu B X T h0 hpre hret
  refine wpAny_call ?_
  walk_at "mine enter"
  iterate 30 first | (k_unfold; (try dsimp only)) | walk1 | (dsimp only; walk1) | skip
  · dsimp only
    iterate 60 first | (k_unfold; (try dsimp only)) | walk1 | (dsimp only; walk1) | skip
    · rename Fr _ _ _ _ => F'
      rename News _ _ _ _ => N'
      refine hret _ _ _ (Fr.keep F') ⟨_, _, _, _, _, rfl, ⟨_, (N' _ List.mem_cons_self).1, rfl, _, rfl⟩, ?_⟩
      exact signs_a (Int.fmod_nonneg_of_pos _ (by decide)) (by assumption)
    iterate 60 first | (k_unfold; (try dsimp only)) | walk1 | (dsimp only; walk1) | skip
    · rename Fr _ _ _ _ => F'
      rename News _ _ _ _ => N'
      refine hret _ _ _ (Fr.keep F') ⟨_, _, _, _, _, rfl, ⟨_, (N' _ List.mem_cons_self).1, rfl, _, rfl⟩, ?_⟩
      exact signs_b (Int.not_lt.mp (by assumption)) (Int.fmod_lt_of_pos _ (by decide))
  · dsimp only
    iterate 62 first | (k_unfold; (try dsimp only)) | walk1 | (dsimp only; walk1) | skip
    · iterate 40 first | (k_unfold; (try dsimp only)) | walk1 | (dsimp only; walk1) | skip
      · rename Fr _ _ _ _ => F'
        rename News _ _ _ _ => N'
        refine hret _ _ _ (Fr.keep F') ⟨_, _, _, _, _, rfl, ⟨_, (N' _ List.mem_cons_self).1, rfl, _, rfl⟩, ?_⟩
        rename _ = List.getD _ _ _ => e2
        revert e2
        rename _ = List.getD _ _ _ => e1
        intro e2
        rename _ ∈ List.cons _ _ => hm
        rw [e1, ← e2]
        exact signs_c (.inl hm)
    · iterate 130 first | (k_unfold; (try dsimp only)) | walk1 | (dsimp only; walk1) | skip
      · rename Fr _ _ _ _ => F'
        rename News _ _ _ _ => N'
        refine hret _ _ _ (Fr.keep F') ⟨_, _, _, _, _, rfl, ⟨_, (N' _ List.mem_cons_self).1, rfl, _, rfl⟩, ?_⟩
        rename _ = List.getD _ _ _ => e2
        revert e2
        rename _ = List.getD _ _ _ => e1
        intro e2
        rename _ ∈ List.cons _ _ => hm
        rw [e1, ← e2]
        exact signs_c (.inr <| .inl hm)
      iterate 80 first | (k_unfold; (try dsimp only)) | walk1 | (dsimp only; walk1) | skip
      · rename Fr _ _ _ _ => F'
        rename News _ _ _ _ => N'
        refine hret _ _ _ (Fr.keep F') ⟨_, _, _, _, _, rfl, ⟨_, (N' _ List.mem_cons_self).1, rfl, _, rfl⟩, ?_⟩
        rename _ = List.getD _ _ _ => e2
        revert e2
        rename _ = List.getD _ _ _ => e1
        intro e2
        rename _ ∈ List.cons _ _ => hm
        rw [e1, ← e2]
        exact signs_c (.inr <| .inr hm)
end
local macro_rules | `(tactic| walk_at "eval Name") => `(tactic| (k_here; (with_reducible show wpAny _ _ (eval (Expr.Name _ _) (envOf _ _ _ _ _)) _ _ _); k_dflt (refine' ld ?k1 ?k2 ?_; (case k1 => k_asm); (case k2 => assumption); k_whole)))
local macro_rules | `(tactic| walk_at "go10") => `(tactic| (iterate 10 first | (k_unfold; (try dsimp only)) | walk1 | (dsimp only; walk1) | skip))
local macro_rules | `(tactic| walk_at "go20") => `(tactic| (walk_at "go10"; walk_at "go10"))
local macro_rules | `(tactic| walk_at "go40") => `(tactic| (walk_at "go20"; walk_at "go20"))
section
set_option maxRecDepth 100000
set_option maxHeartbeats 4000000
open LCg
theorem ints_at {vs : List Value} {ms : List Int} (h : IntsAre vs ms) : ∀ i, i < ms.length → ∃ a t, vs[i]? = some (.int a t) := by
  induction h with
  | nil => intro i h; cases h
  | cons a t h ih =>
    intro i hi
    cases i with
    | zero => exact ⟨_, _, rfl⟩
    | succ i => simpa using ih i (by simpa using hi)
theorem ints_snoc {vs : List Value} {ms : List Int} (h : IntsAre vs ms) (a : Int) (t : Tok) : IntsAre (vs ++ [.int a t]) (ms ++ [a]) := by
  induction h with
  | nil => exact .cons _ _ .nil
  | cons b u h ih => exact .cons _ _ ih
theorem item_int {prog : Program} {w : World} {A : Around} {E : Value → Shared → Prop} {s : Shared} {value slice : PySem.Expr} {l : Addr} {vs : List Value} {ys : List Int} {k : Int} {u : Tok} {Q : Value → Shared → Prop}
    (hl : s.heap.IsList l vs.toArray) (hv : IntsAre vs ys) (h0 : 0 ≤ k) (hk : k < (ys.length : Int)) (hy : k < 2 ^ 63) (h : ∀ a t, Q (.int a t) s)
    (hs : subscripted slice false (.ref l) (.int k u) = operate [.ref l, .int k u] (getItem (.ref l) (.int k u)) := by with_unfolding_all rfl) :
    wpAny (model prog w) A (subscriptTail value slice (.ref l) (.int k u)) Q E s := by
  obtain ⟨a, t, e⟩ := ints_at hv k.toNat (by omega)
  exact tail_any hl.typeIs slot_list_getitem.lookup (wpAny_getItem_list hl h0 hy (by simpa using e) (h a t)) hs
local macro_rules | `(tactic| walk_at "subscriptTail") => `(tactic| (k_here; (with_reducible show wpAny _ _ (subscriptTail _ _ (Value.ref _) (Value.int _ _)) _ _ _); k_dflt (refine' item_int ?ktbl ?ktbw ?ktb0 ?ktb1 ?ktbf ?_; (case ktbl => ktb_isList); (case ktbw => repeat constructor); (case ktb0 => omega); (case ktb1 => (simp only [List.length_cons, List.length_nil]; omega)); (case ktbf => omega)); intro _ _))
theorem c_cells : ∀ (w : World) (mean mg mb) (l : Addr) (vs : List Value) (ns : List Int), IntsAre vs ns → ns.length ≤ 63 →
    Pure 5 w mean mg mb 188 [.ref l] (fun s => s.heap.IsList l vs.toArray) (fun s v h' tk' => ∃ l' vs' ns' c, v = .ref l' ∧ h'.get? l' = some (W.listOf vs'.toArray c) ∧ s.heap.get? l' = none ∧ IntsAre vs' ns' ∧ ns'.length = 11) := by
  intro w mean mg mb l vs ns hns hlen
  refine Pure.of ?_
  intro dp un gd outer base s Q E hd hu B X T h0 hl hret
  refine wpAny_call ?_
  walk_at "mine enterC"
  walk_at "go40"
  refine' comp_range (n := 11) ?hh ?F ?N ?hr ?hsm ?hn ?hsz (fun _ => true) (fun i ys (tk : Nat) => ∃ ms : List Int, IntsAre ys ms ∧ ms.length = i) ?i0 ?mono ?tests ?skip ?turn ?done ?hcell ?hkind ?hx
  case hh => rfl
  case F => k_asm
  case N => k_asm
  case hr => k_asm
  case hsm => rfl
  case hn => rfl
  case hsz => decide
  case hcell => decide
  case hkind => rfl
  case hx => rfl
  case i0 => exact ⟨[], .nil, rfl⟩
  case mono => intro i ys t t' _ h; exact h
  case tests =>
    intro I C D oI oC i v ys m₂ h tk E' hv ho hm F N off ne
    exact wpAny_tests_nil ⟨rfl, h, tk, rfl, F, N⟩
  case skip => intro i v ys tk hv q; cases q
  case turn =>
    rintro I C D oI oC i v ys m₂ h tk E' hi ⟨t, rfl⟩ _ hle ⟨ms, hJ, hJ2⟩ ho hm F N off ne
    walk_at "go20"
    trace "INNER"
    refine' comp_list (its := slicePick vs.toArray (some (0 + (i : Int))) none (some 11)) ?jhh ?jF ?jN ?jhS ?jhsz (fun _ => true) (fun i ys (tk : Nat) => ∃ ms : List Int, IntsAre ys ms) ?ji0 ?jmono ?jtests ?jskip ?jturn ?jdone ?jhcell ?jhkind ?jhx
    case jhh => rfl
    case jF => k_asm
    case jN => k_asm
    case jhS => exact .inr ⟨_, List.mem_cons_self, rfl, _, rfl⟩
    case jhsz => exact Nat.le_trans (slicePick_size_le _ _ _ _) (by rw [List.size_toArray, hns.length]; exact Nat.le_trans hlen (by decide))
    case jhcell => decide
    case jhkind => rfl
    case jhx => rfl
    case ji0 => exact ⟨[], .nil⟩
    case jmono => intro i ys t t' _ h; exact h
    case jtests =>
      intro I C D oI oC i v ys m₂ h tk E' hv ho hm F N off ne
      exact wpAny_tests_nil ⟨rfl, h, tk, rfl, F, N⟩
    case jskip => intro i v ys tk hv q; cases q
    case jturn =>
      rintro I' C' D' oI' oC' i' v ys' m₂' h' tk' E'' hi' hv' _ hle' ⟨ms', hJ'⟩ ho' hm' F' N' off' ne'
      obtain ⟨a, t', rfl⟩ : ∃ a t', v = .int a t' := by
        have z := hns.pick (some (0 + (i : Int))) none (some 11)
        have q : i' < (slicePick vs.toArray (some (0 + (i : Int))) none (some 11)).toList.length := by simpa using hi'
        obtain ⟨a, t', e⟩ := ints_at z i' (by rw [← z.length]; exact q)
        rw [Array.getElem?_toList, hv'] at e
        exact ⟨a, t', Option.some.inj e⟩
      walk_at "go20"
      exact CompElt.intro F' N' (fun p hp => hp) ⟨_, ints_snoc hJ' _ _⟩
    case jdone =>
      rintro D' h' tk' ys' hle' ⟨ms', hJ'⟩ F' N' off'
      walk_at "go20"
      rename News _ _ _ _ => NN
      refine CompElt.intro (by k_asm) NN ?_ ⟨_, ints_snoc hJ _ _, by simp [hJ2]⟩
      first | exact fun p hp => hp | exact fun p hp => List.mem_cons_of_mem _ hp | exact fun p hp => List.mem_cons_of_mem _ (List.mem_cons_of_mem _ hp) | exact fun p hp => List.mem_cons_of_mem _ (List.mem_cons_of_mem _ (List.mem_cons_of_mem _ hp))
  case done =>
    rintro D h tk ys hle ⟨ms, hJ, hJ2⟩ F N off
    intro _
    exact hret _ _ _ (Fr.keep F) ⟨D, ys, ms, ys.length, rfl, (N (D, lst ys) List.mem_cons_self).1, (N (D, lst ys) List.mem_cons_self).2.2, hJ, hJ2⟩
end
section
set_option maxRecDepth 100000
set_option maxHeartbeats 4000000
open LCg
noncomputable def E32 (P : Params) : Array DictEntry := match (K P).lookup 32 with | some ⟨_, _, .dict es _, _⟩ => es | _ => #[]
noncomputable def fnv (P : Params) (k : Int) : Option Value := findBy Value.isInt (E32 P) k
theorem fn_is (w : World) {h : Heap} (X : (K w.params).In h) : h.MapOf (intKind pw w) 32 fun k => fnv w.params k :=
  ⟨_, _, _, X 32 _ rfl, ⟨rfl, rfl, rfl⟩, rfl, keys_check (by kernel_rfl), fun _ => rfl⟩
theorem get32 {w : World} {A : Around} {E : Value → Shared → Prop} {s : Shared} {pl : Sem Bool} {Q : Value × List Value → Shared → Prop} (X : (K w.params).In s.heap) (h : Q (.builtin "dict.get", [.ref 32]) s) :
    wpAny (model pw w) A (getMethod (.ref 32) (Str.ofString "get") pl) Q E s :=
  getMethod_builtin (fn_is w X).typeIs PySem.F.plainAttrs_dict PySem.F.slot_dict_get PySem.F.type_dict_get (fn_is w X).noDict h
theorem dictget32 {w : World} {A : Around} {E : Value → Shared → Prop} {s : Shared} {k : Int} {t : Tok} {d : Value} {Q : Value → Shared → Prop} (X : (K w.params).In s.heap) (h : Q ((fnv w.params k).getD d) { s with toks := s.toks + 1 }) :
    wpAny (model pw w) A (call (.builtin "dict.get") [.ref 32, .int k t, d]) Q E s :=
  call_meetsIn PySem.F.slot_dict_get (fn_is w X).typeIs PySem.F.entry_dict_get (PySem.F.args_dict_get_3 _ _ _) (meets_dict_get_default (intKind pw w) 32 (intKind_is _ _ k t) (by decide) d) ⟨_, fn_is w X, h⟩
noncomputable def nm (k : Nat) : Str := (names1[k]?).getD ⟨#[]⟩
/-- the names of the flags of f that stand below the place i -/
noncomputable def nms (f i : Nat) : List Str := ((List.range i).filter fun k => f.testBit k).map nm
noncomputable def nmChk (P : Params) (i : Nat) : Bool := match fnv P (1 * 2 ^ ((0 : Int) + (i : Int)).toNat) with
  | some (.str x t) => (x == nm i) && decide (0 < t) && decide (t < 2561)
  | some _ => false
  | none => baseText "0x" 16 (1 * 2 ^ ((0 : Int) + (i : Int)).toNat) == nm i
theorem nmChk_all (P : Params) : ((List.range 32).all fun i => nmChk P i) = true := by kernel_rfl
theorem fnv_get (P : Params) {i : Nat} (hi : i < 32) (th : Nat) : ∃ t : Nat, (fnv P (1 * 2 ^ ((0 : Int) + (i : Int)).toNat)).getD (.str (baseText "0x" 16 (1 * 2 ^ ((0 : Int) + (i : Int)).toNat)) th) = .str (nm i) t ∧ (0 < th → 0 < t) ∧ (t < 2561 ∨ t = th) := by
  have z := List.all_eq_true.mp (nmChk_all P) i (List.mem_range.mpr hi)
  unfold nmChk at z
  split at z
  · rename_i x t e
    simp only [Bool.and_eq_true, decide_eq_true_eq] at z
    rw [e]
    exact ⟨t, by rw [eq_of_beq z.1.1]; rfl, fun _ => z.1.2, .inl z.2⟩
  · cases z
  · rename_i e
    rw [e]
    exact ⟨th, by rw [eq_of_beq z]; rfl, id, .inr rfl⟩
theorem hexLt : ∀ i : Nat, i < 32 → (baseText "0x" 16 (1 * (2 : Int) ^ ((0 : Int) + (i : Int)).toNat)).length ≤ sizeLine := by decide +kernel
theorem nmLt : ∀ i : Nat, i < 32 → (nm i).length ≤ 25 := by decide +kernel
/-- what pretty_flags tells of f -/
noncomputable def told (f : Nat) : Str := Txt.join (Str.ofString ", ") (if f = 0 then [baseText "0x" 16 0] else nms f 32)
/-- the tokens of told texts -/
noncomputable def TkOk (tk : Nat) (l : List (Str × Tok)) : Prop := ∀ p ∈ l, ∃ t : Nat, p.2 = t ∧ 0 < t ∧ (t < 2561 ∨ tk ≤ t)
theorem join_tk {prog : Program} {w : World} {A : Around} {E : Value → Shared → Prop} {s : Shared} {x : Str} {t : Tok} {Q : Value → Shared → Prop} {D : Addr} {l : List (Str × Tok)} {texts : List Str} {tk : Nat} (hl : s.heap.IsList D (strValues l).toArray) (ht : l.map (·.1) = texts) (hok : JoinOk x texts = true)
    (htk : TkOk tk l) (hle : tk ≤ s.toks) (hp : 0 < s.toks)
    (hq : ∀ (t' : Nat) k, 0 < t' → (t' < 2561 ∨ tk ≤ t') → Q (.str (Txt.join x texts) t') { s with toks := k }) : wpAny (model prog w) A (call (.builtin "str.join") [.str x t, .ref D]) Q E s := by
  subst ht
  unfold JoinOk at hok
  rw [Bool.not_eq_true'] at hok
  refine call_meets F.slot_str_join (typeIs_str _ _ _) F.entry_str_join (F.args_str_join_2 _ _) (meets_str_join_list x t D l hok) ⟨hl, ?_⟩
  match l, joinFit_length hok, hq, htk with
  | [], h, hq, _ => exact ⟨h, hq _ _ hp (.inr hle)⟩
  | [p], h, hq, htk =>
    obtain ⟨t', e, h1, h2⟩ := htk p List.mem_cons_self
    have z := hq t' s.toks h1 h2
    rw [← e] at z
    exact z
  | _ :: _ :: _, h, hq, _ => exact ⟨h, hq _ _ hp (.inr hle)⟩
theorem bit_and (q i : Nat) : Builtin.bitAnd ((q * 2 ^ i : Nat) : Int) (1 * 2 ^ ((0 : Int) + (i : Int)).toNat) = if q % 2 = 1 then ((2 ^ i : Nat) : Int) else 0 := by
  have e : (1 * 2 ^ ((0 : Int) + (i : Int)).toNat : Int) = ((2 ^ i : Nat) : Int) := by rw [show ((0 : Int) + (i : Int)).toNat = i by omega]; simp
  rw [e]
  unfold Builtin.bitAnd
  rw [decide_eq_true (Int.natCast_nonneg _), decide_eq_true (Int.natCast_nonneg _)]
  simp only [Int.toNat_natCast]
  have z : q * 2 ^ i &&& 2 ^ i = if q % 2 = 1 then 2 ^ i else 0 := by
    apply Nat.eq_of_testBit_eq
    intro k
    rw [Nat.testBit_and, Nat.testBit_two_pow]
    by_cases h : i = k
    · subst h
      have : (q * 2 ^ i).testBit i = decide (q % 2 = 1) := by rw [Nat.testBit_eq_decide_div_mod_eq, Nat.mul_div_cancel _ (Nat.two_pow_pos i)]
      rw [this]
      by_cases h2 : q % 2 = 1 <;> simp [h2, Nat.testBit_two_pow]
    · by_cases h2 : q % 2 = 1 <;> simp [h, h2, Nat.testBit_two_pow]
  rw [z]
  split <;> simp
theorem bit_xor (q i : Nat) (h : q % 2 = 1) : Builtin.bitXor ((q * 2 ^ i : Nat) : Int) (1 * 2 ^ ((0 : Int) + (i : Int)).toNat) = ((q / 2 * 2 ^ (i + 1) : Nat) : Int) := by
  unfold Builtin.bitXor
  rw [bit_and, if_pos h]
  have e : (1 * 2 ^ ((0 : Int) + (i : Int)).toNat : Int) = ((2 ^ i : Nat) : Int) := by rw [show ((0 : Int) + (i : Int)).toNat = i by omega]; simp
  rw [e]
  have z : q * 2 ^ i ||| 2 ^ i = q * 2 ^ i := by
    apply Nat.eq_of_testBit_eq
    intro k
    rw [Nat.testBit_or, Nat.testBit_two_pow]
    by_cases h2 : i = k
    · subst h2
      have : (q * 2 ^ i).testBit i = true := by rw [Nat.testBit_eq_decide_div_mod_eq, Nat.mul_div_cancel _ (Nat.two_pow_pos i)]; simpa using h
      simp [this]
    · simp [h2]
  have y : Builtin.bitOr ((q * 2 ^ i : Nat) : Int) ((2 ^ i : Nat) : Int) = ((q * 2 ^ i : Nat) : Int) := by
    unfold Builtin.bitOr
    have n1 : ∀ a : Nat, Builtin.bitNot (a : Int) < 0 := fun a => by unfold Builtin.bitNot; omega
    have n2 : ∀ a : Int, Builtin.bitNot (Builtin.bitNot a) = a := fun a => by unfold Builtin.bitNot; omega
    unfold Builtin.bitAnd
    rw [decide_eq_false (Int.not_le.mpr (n1 _)), decide_eq_false (Int.not_le.mpr (n1 _))]
    simp only [n2, Int.toNat_natCast]
    rw [z]
  rw [y]
  have : q * 2 ^ i = q / 2 * 2 ^ (i + 1) + 2 ^ i := by
    have h3 : q = 2 * (q / 2) + 1 := by omega
    rw [Nat.pow_succ]
    conv => lhs; rw [h3]
    rw [Nat.add_mul, Nat.one_mul, Nat.mul_comm 2, Nat.mul_assoc, Nat.mul_comm 2]
  rw [this]
  omega
theorem nms_succ (f i : Nat) : nms f (i + 1) = nms f i ++ if f / 2 ^ i % 2 = 1 then [nm i] else [] := by
  unfold nms
  rw [List.range_succ, List.filter_append, List.map_append, List.filter_cons, List.filter_nil, Nat.testBit_eq_decide_div_mod_eq]
  by_cases h : f / 2 ^ i % 2 = 1 <;> simp [h]
theorem nms_stable (f i : Nat) (h : f / 2 ^ i = 0) : ∀ n, i ≤ n → nms f n = nms f i := by
  intro n hn
  induction n with
  | zero => rw [Nat.le_zero.mp hn]
  | succ n ih =>
    by_cases e : i = n + 1
    · rw [e]
    · have q : f / 2 ^ n = 0 := Nat.div_eq_of_lt (Nat.lt_of_lt_of_le (Nat.lt_of_div_eq_zero (Nat.two_pow_pos i) h) (Nat.pow_le_pow_right (by decide) (by omega)))
      rw [nms_succ, ih (by omega), q]
      simp
theorem nms_mem {f n : Nat} {y : Str} (h : y ∈ nms f n) : ∃ k, k < n ∧ y = nm k := by
  unfold nms at h
  obtain ⟨k, hk, e⟩ := List.mem_map.mp h
  exact ⟨k, List.mem_range.mp (List.mem_filter.mp hk).1, e.symm⟩
theorem nms_len (f n : Nat) : (nms f n).length ≤ n := by
  unfold nms
  rw [List.length_map]
  exact Nat.le_trans (List.length_filter_le _ _) (by simp)
theorem nms_ok (f : Nat) : JoinOk (Str.ofString ", ") (nms f 32) = true := by
  unfold JoinOk
  rw [Bool.not_eq_true']
  refine StrLaws.joinFits (B := 25) (fun y hy => ?_) ?_
  · obtain ⟨k, hk, rfl⟩ := nms_mem hy
    exact nmLt k hk
  · have := nms_len f 32
    have e : (Str.ofString ", ").length = 2 := by decide
    rw [e]; omega
theorem dictget32n {w : World} {A : Around} {E : Value → Shared → Prop} {s : Shared} {i : Nat} {t : Tok} {th tk : Nat} {Q : Value → Shared → Prop} (X : (K w.params).In s.heap) (hi : i < 32) (hp : 0 < th) (hl : tk ≤ th) (h : ∀ t : Nat, 0 < t → (t < 2561 ∨ tk ≤ t) → Q (.str (nm i) t) { s with toks := s.toks + 1 }) :
    wpAny (model pw w) A (call (.builtin "dict.get") [.ref 32, .int (1 * 2 ^ ((0 : Int) + (i : Int)).toNat) t, .str (baseText "0x" 16 (1 * 2 ^ ((0 : Int) + (i : Int)).toNat)) th]) Q E s := by
  refine dictget32 X ?_
  obtain ⟨t, e, c1, c2⟩ := fnv_get w.params hi th
  rw [e]
  exact h t (c1 hp) (by omega)
local macro_rules | `(tactic| walk_at "getMethod ref") => `(tactic| (k_here; (with_reducible show wpAny _ _ (getMethod (Value.ref 32) _ _) _ _ _); refine get32 (Frag.In.keeps (by k_asm) (Fr.keep (by k_asm))) ?_))
theorem c_flags : ∀ (w : World) (mean mg mb) (f : Nat) (tf : Tok), f < 2 ^ 32 → Pure 10 w mean mg mb 39 [.int f tf] (fun s => 2561 ≤ s.toks) (fun s v h' tk' => ∃ t : Nat, v = .str (told f) t ∧ 0 < t ∧ (t < 2561 ∨ s.toks ≤ t)) := by
  intro w mean mg mb f tf hf
  refine Pure.of ?_
  intro dp un gd outer base s Q E hd hu B X T h0 hpre hret
  refine wpAny_call ?_
  walk_at "mine enter"
  walk_at "go20"
  refine' iter_range (n := 32) ?hh ?hx ?hp ?F ?N ?hr ?hsm ?hn (fun i m nw tk => ∃ (tg : Nat) (l : Addr) (ys : List (Str × Tok)) (c : Nat), m (Str.ofString "flags") = some (.int ((f / 2 ^ i * 2 ^ i : Nat) : Int) tg) ∧ m (Str.ofString "names") = some (.ref l) ∧ nw = [(l, W.listOf (strValues ys).toArray c)] ∧ ys.map (·.1) = nms f i ∧ TkOk s.toks ys ∧ (f = 0 ∨ f / 2 ^ i ≠ 0)) ?h0 ?mono ?turn ?done
  case hh => rfl
  case hx => rfl
  case hp => rfl
  case F => k_asm
  case N => k_asm
  case hr => k_asm
  case hsm => rfl
  case hn => rfl
  case h0 => exact ⟨tf, _, [], _, by rw [Nat.pow_zero, Nat.div_one, Nat.mul_one]; rfl, rfl, rfl, by simp [nms], (fun p hp => by cases hp), (by rw [Nat.pow_zero, Nat.div_one]; exact Nat.eq_zero_or_pos f |>.imp id Nat.pos_iff_ne_zero.mp)⟩
  case mono => intro i m nw t t' _ h; exact h
  case turn =>
    rintro I i v m₁ news₁ oI h tk E' hi hle ⟨tg, l, ys, c, hm1, hm2, rfl, hy, hg, hz⟩ off F N
    have hdiv : f / 2 ^ i / 2 = f / 2 ^ (i + 1) := by rw [Nat.div_div_eq_div_mul, ← Nat.pow_succ]
    walk_at "go20"
    · rename Builtin.bitAnd _ _ ≠ 0 => hb
      have hq : f / 2 ^ i % 2 = 1 := by
        rw [bit_and] at hb
        by_cases z : f / 2 ^ i % 2 = 1
        · exact z
        · rw [if_neg z] at hb; exact absurd rfl hb
      walk_at "go20"
      refine P.hex_of_int ?_ (hexLt i hi)
      iterate 1 first | (k_unfold; (try dsimp only)) | walk1 | (dsimp only; walk1) | skip
      refine' dictget32n (tk := s.toks) (Frag.In.keeps X (Fr.keep (by assumption))) hi ?d1 ?d2 ?_
      case d1 => omega
      case d2 => omega
      intro t c1 c2
      dsimp only
      have hlen : (strValues ys).toArray.size ≤ sizeLine := by
        have e1 := congrArg List.length hy
        have e2 := nms_len f i
        have e3 : (strValues ys).toArray.size = ys.length := by simp [strValues]
        rw [List.length_map] at e1
        rw [e3, e1]
        exact Nat.le_trans e2 (Nat.le_trans (Nat.le_of_lt hi) (by decide))
      iterate 1 first | (k_unfold; (try dsimp only)) | walk1 | (dsimp only; walk1) | skip
      have hIl : @Ne Nat I l := fun e => off _ List.mem_cons_self e.symm
      refine' append_K ?k1 ?k2 ?k3 ?_ hlen
      case k1 => k_asm
      case k2 => k_asm
      case k3 => k_upd
      intro h2 F2 N2
      have hx := bit_xor _ i hq
      rw [hdiv] at hx
      have hok : TkOk s.toks (ys ++ [(nm i, t)]) := fun p hp => by
        rcases List.mem_append.mp hp with hp | hp
        · exact hg p hp
        · rw [List.mem_singleton.mp hp]; exact ⟨t, rfl, c1, c2⟩
      have hy2 : (ys ++ [(nm i, t)]).map (·.1) = nms f (i + 1) := by rw [List.map_append, hy, nms_succ, if_pos hq]; rfl
      have hsv : (strValues ys).toArray.push (.str (nm i) t) = (strValues (ys ++ [(nm i, t)])).toArray := by simp [strValues]
      rw [hsv] at N2
      walk_at "go20"
      · rename Builtin.bitXor _ _ ≠ 0 => hb2
        rw [hx] at hb2
        dsimp only
        walk_at "go10"
        rename Fr _ _ _ _ => F3
        rename News _ _ _ _ => N3
        refine LoopEnd.next F3 N3 (fun p hp => hp) (fun p hp => by rw [List.mem_singleton.mp hp]; exact fun e => hIl e.symm) trivial ⟨_, l, _, _, congrArg (fun z => some (Value.int z _)) hx, hm2, rfl, hy2, hok, .inr ?_⟩
        · intro q
          rw [q, Nat.zero_mul] at hb2
          exact hb2 rfl
      · rename Builtin.bitXor _ _ = 0 => hb2
        rw [hx] at hb2
        have hq0 : f / 2 ^ (i + 1) = 0 := by
          have := Nat.two_pow_pos (i + 1)
          have h3 : f / 2 ^ (i + 1) * 2 ^ (i + 1) = 0 := by omega
          rcases Nat.mul_eq_zero.mp h3 with h4 | h4
          · exact h4
          · omega
        walk_at "go10"
        dsimp only
        unfold LoopEnd
        dsimp only
        intro _
        walk_at "go10"
        rename Fr _ _ _ _ => F3
        rename News _ _ _ _ => N3
        have hfn : f ≠ 0 := fun e => by rw [e] at hq; simp at hq
        refine' join_tk (tk := s.toks) (texts := nms f 32) ?j1 ?j2 ?j3 ?j4 ?j5 ?j6 ?_
        case j1 => exact ⟨_, (N3 _ (List.mem_cons_of_mem _ List.mem_cons_self)).1, rfl, _, rfl⟩
        case j2 => rw [hy2, nms_stable f (i + 1) hq0 32 hi]
        case j3 => exact nms_ok f
        case j4 => exact hok
        case j5 => (dsimp only; omega)
        case j6 => (dsimp only; omega)
        intro t' k c3 c4
        dsimp only
        intro _
        refine hret _ _ _ (Fr.keep F3) ⟨t', ?_, c3, c4⟩
        unfold told
        rw [if_neg hfn]
    · rename Builtin.bitAnd _ _ = 0 => hb
      have hq : f / 2 ^ i % 2 ≠ 1 := fun z => by rw [bit_and, if_pos z] at hb; exact absurd hb (by have := Nat.two_pow_pos i; omega)
      walk_at "go10"
      rename Fr _ _ _ _ => F1
      rename News _ _ _ _ => N1
      refine LoopEnd.next F1 N1 (fun p hp => hp) off trivial ⟨tg, l, ys, c, ?_, hm2, rfl, ?_, hg, ?_⟩
      · rw [show f / 2 ^ (i + 1) * 2 ^ (i + 1) = f / 2 ^ i * 2 ^ i by
          rw [← hdiv, Nat.pow_succ, Nat.mul_comm (2 ^ i), ← Nat.mul_assoc]; congr 1; omega]
        exact hm1
      · rw [nms_succ, if_neg hq, List.append_nil]; exact hy
      · rcases hz with hz | hz
        · exact .inl hz
        · exact .inr (by rw [← hdiv]; omega)
  case done =>
    rintro m₁ news₁ h tk E' hle ⟨tg, l, ys, c, hm1, hm2, rfl, hy, hg, hz⟩ F N
    rw [show f / 2 ^ 32 * 2 ^ 32 = 0 by rw [Nat.div_eq_of_lt hf, Nat.zero_mul]] at hm1
    obtain rfl : f = 0 := by
      rcases hz with hz | hz
      · exact hz
      · exact absurd (Nat.div_eq_of_lt hf) hz
    obtain rfl : ys = [] := by
      have z : ys.map (·.1) = [] := by rw [hy]; rfl
      simpa using z
    walk_at "go20"
    dsimp only
    iterate 9 first | (k_unfold; (try dsimp only)) | walk1 | (dsimp only; walk1) | skip
    rename Fr _ _ _ _ => F3
    rename News _ _ _ _ => N3
    have hsv : ∀ tk : Nat, (strValues []).toArray.push (.str (baseText "0x" 16 ((0 : Nat) : Int)) tk) = (strValues [(baseText "0x" 16 0, tk)]).toArray := fun tk => rfl
    rw [hsv] at N3
    refine' join_tk (tk := s.toks) (texts := [baseText "0x" 16 0]) ?j1 ?j2 ?j3 ?j4 ?j5 ?j6 ?_
    case j1 => exact ⟨_, (N3 _ List.mem_cons_self).1, rfl, _, rfl⟩
    case j2 => rfl
    case j3 => decide +kernel
    case j4 =>
      intro p hp
      rw [List.mem_singleton.mp hp]
      exact ⟨_, rfl, by omega, by omega⟩
    case j5 => (dsimp only; omega)
    case j6 => (dsimp only; omega)
    intro t' k c3 c4
    dsimp only
    intro _
    exact hret _ _ _ (Fr.keep F3) ⟨t', rfl, c3, c4⟩
end
section
set_option maxRecDepth 100000
set_option maxHeartbeats 4000000
section
variable {prog : Program} {w : World} {A : Around} {E : Value → Shared → Prop} {s : Shared}
theorem ownMembersOf_stop (args : List Value) : ownMembersOf (.type "StopIteration") args = #[] := by
  unfold ownMembersOf
  split <;> first | rfl | (rename_i h; revert h; decide) | simp_all
theorem next_item {it l : Addr} {i : Nat} {items : Array Value} {x : Value} {Q : Value → Shared → Prop} (hit : s.heap.IsListIter it l i) (hl : s.heap.IsList l items) (hx : items[i]? = some x)
    (hQ : ∀ h', h'.IsListIter it l (i + 1) → Heap.SameBut it s.heap h' → Q x { s with heap := h' }) :
    wpAny (model prog w) A (call (.builtin "next") [.ref it]) Q E s := by
  refine call_function_entry (by decide +kernel) (by decide +kernel) kdk_entry_next (kdk_args_next _) ?_
  unfold Builtin.«next»
  refine wpAny_bind (m := someArgs "next" 1 2 _) (wpAny_of_eq (a := [Value.ref it]) (by first | rfl | kernel_rfl!) ?_)
  dsimp only
  refine wpAny_bind (wpAny_specialOf (name := Str.ofString "__next__") hit.typeIs slot_listiter_next.lookup ?_)
  refine wpAny_ite_split (fun hab => absurd hab (by decide)) (fun _ => ?_)
  obtain ⟨o, ho, hc, hd⟩ := id hit
  obtain ⟨ol, hol, _, nl, hdl⟩ := hl
  refine wpAny_bind (wpAny_callSpecial?_slot (name := Str.ofString "__next__") hit.typeIs slot_listiter_next
    (wpAny_call_entry slot_listiter_next hit.typeIs entry_listiter_next ?_ (args_listiter_next _)))
  show wpAny _ _ (field (.ref it) 0 >>= _) _ _ s
  refine wpAny_bind (wpAny_field ho hd (x := .ref l) rfl ?_)
  show wpAny _ _ (if (Value.ref l == Value.none) = true then _ else _) _ _ s
  rw [if_neg (show ¬ ((Value.ref l == Value.none) = true) from Bool.false_ne_true)]
  show wpAny _ _ (field (.ref it) 1 >>= _) _ _ s
  refine wpAny_bind (wpAny_field ho hd (x := .int i 0) rfl ?_)
  show wpAny _ _ (seqItems? (.ref l) >>= _) _ _ s
  refine wpAny_bind (wpAny_seqItems hol hdl ?_)
  simp only [Int.toNat_natCast, hx]
  refine wpAny_bind (wpAny_setField ho hd (by simp) (wpAny_pure ⟨x, rfl, ?_⟩))
  refine wpAny_pure ⟨x, rfl, hQ _ ?_ (Heap.SameBut.update ..)⟩
  exact ⟨_, Heap.get?_update_self _ ho (Obj.isFreed_of_fields (Obj.data_mapFields hd _)), (Obj.cls_mapFields ..).trans hc, by
    rw [Obj.data_mapFields hd]; simp [rawInt]⟩
theorem next_end {it l : Addr} {i : Nat} {items : Array Value} {Q : Value → Shared → Prop} (hh : A.handled = none) (hit : s.heap.IsListIter it l i) (hl : s.heap.IsList l items) (hx : items[i]? = none)
    (hQ : ∀ hm h' e, (∃ o, hm.get? it = some o) → Heap.SameBut it s.heap hm → Heap.NewExc hm h' e "StopIteration" → E (.ref e) { s with heap := h' }) :
    wpAny (model prog w) A (call (.builtin "next") [.ref it]) Q E s := by
  refine call_function_entry (by decide +kernel) (by decide +kernel) kdk_entry_next (kdk_args_next _) ?_
  unfold Builtin.«next»
  refine wpAny_bind (m := someArgs "next" 1 2 _) (wpAny_of_eq (a := [Value.ref it]) (by first | rfl | kernel_rfl!) ?_)
  dsimp only
  refine wpAny_bind (wpAny_specialOf (name := Str.ofString "__next__") hit.typeIs slot_listiter_next.lookup ?_)
  refine wpAny_ite_split (fun hab => absurd hab (by decide)) (fun _ => ?_)
  obtain ⟨o, ho, hc, hd⟩ := id hit
  obtain ⟨ol, hol, _, nl, hdl⟩ := hl
  refine wpAny_bind (wpAny_callSpecial?_slot (name := Str.ofString "__next__") hit.typeIs slot_listiter_next
    (wpAny_call_entry slot_listiter_next hit.typeIs entry_listiter_next ?_ (args_listiter_next _)))
  show wpAny _ _ (field (.ref it) 0 >>= _) _ _ s
  refine wpAny_bind (wpAny_field ho hd (x := .ref l) rfl ?_)
  show wpAny _ _ (if (Value.ref l == Value.none) = true then _ else _) _ _ s
  rw [if_neg (show ¬ ((Value.ref l == Value.none) = true) from Bool.false_ne_true)]
  show wpAny _ _ (field (.ref it) 1 >>= _) _ _ s
  refine wpAny_bind (wpAny_field ho hd (x := .int i 0) rfl ?_)
  show wpAny _ _ (seqItems? (.ref l) >>= _) _ _ s
  refine wpAny_bind (wpAny_seqItems hol hdl ?_)
  simp only [Int.toNat_natCast, hx]
  refine wpAny_bind (wpAny_rule (wpAny_bind (wpAny_setField ho hd (by simp) ?_)))
  have ho' : (s.heap.update it (Obj.mapFields (·.setIfInBounds 0 .none))).get? it = some _ := Heap.get?_update_self _ ho (Obj.isFreed_of_fields (Obj.data_mapFields hd _))
  have hs' : Heap.SameBut it s.heap (s.heap.update it (Obj.mapFields (·.setIfInBounds 0 .none))) := Heap.SameBut.update ..
  show wpAny _ _ (newExc (.type "StopIteration") [] >>= _) _ _ _
  refine wpAny_bind ?_
  simp only [newExc, newTuple]
  refine wpAny_bind (wpAny_newObj_type ?_ (by size_fits))
  refine wpAny_bind (m := firstArgMember _ _) (wpAny_of_eq (a := Value.none) (by first | rfl | (simp only [firstArgMember]; rfl)) ?_)
  refine wpAny_newObj_type ?_ (by size_fits)
  refine wpAny_raiseNew_none hh ?_
  have hdt : ∀ t : Value, Data.fields (#[t, .none, .none, .none, .bool false, .none] ++ ownMembersOf (.type "StopIteration") []) = Data.fields #[t, .none, .none, .none, .bool false, .none] := fun t => by rw [ownMembersOf_stop]; rfl
  refine hQ _ _ _ ⟨_, ho'⟩ hs' ⟨fun b o hb => Heap.get?_push_of_some _ (Heap.get?_push_of_some _ hb), Heap.get?_none_of_le (by simp), _, _, Heap.get?_push_size _ rfl, rfl, hdt _⟩
end
end
section
set_option maxRecDepth 100000
set_option maxHeartbeats 4000000
open LCg
/-- how one turn of a while ends -/
noncomputable def WEnd (h₀ : Heap) (L : Addr) (J : Nat → (Str → Option Value) → List (Addr × Obj) → Nat → Prop) (n : Nat) (gs : Array GenState) (dr : Drawn) (os : OsState) (Q : Flow → Shared → Prop) (f : Flow) (s' : Shared) : Prop :=
  match f with
  | .brk => Q .next s'
  | .ret v => Q (.ret v) s'
  | _ => ∃ n', n' < n ∧ ∃ h' tk' m' news', s' = ⟨h', gs, dr, tk', os⟩ ∧ Fr h₀ L h' m' ∧ News h₀ L h' news' ∧ J n' m' news' tk'
theorem WEnd.next {h₀ : Heap} {L : Addr} {J : Nat → (Str → Option Value) → List (Addr × Obj) → Nat → Prop} {n n' : Nat} {gs : Array GenState} {dr : Drawn} {os : OsState} {Q : Flow → Shared → Prop} {h' : Heap} {tk' : Nat} {m' : Str → Option Value} {news' all : List (Addr × Obj)}
    (F : Fr h₀ L h' m') (N : News h₀ L h' all) (sub : ∀ p ∈ news', p ∈ all) (lt : n' < n) (hJ : J n' m' news' tk') : WEnd h₀ L J n gs dr os Q .next ⟨h', gs, dr, tk', os⟩ :=
  ⟨n', lt, h', tk', m', news', rfl, F, fun p hp => N p (sub p hp), hJ⟩
theorem while_walk {prog : Program} {w : World} {A : Around} {env : Env} {h₀ : Heap} {L : Addr} {E : Value → Shared → Prop} {test : Expr} {body orelse : List Stmt} {pos : Pos} {Q : Flow → Shared → Prop} {hs : Heap} {gs : Array GenState} {dr : Drawn} {tk0 : Nat} {os : OsState} {m : Str → Option Value} {news : List (Addr × Obj)} (n : Nat)
    (J : Nat → (Str → Option Value) → List (Addr × Obj) → Nat → Prop) (F : Fr h₀ L hs m) (N : News h₀ L hs news) (h0 : J n m news tk0)
    (turn : ∀ n m₁ news₁ h tk E', tk0 ≤ tk → J n m₁ news₁ tk → Fr h₀ L h m₁ → News h₀ L h news₁ →
      wpAny (model prog w) A (isTrue test env (eval test env)) (fun b s₂ => tk ≤ s₂.toks → if b = true then wpAny (model prog w) A (execs body env) (WEnd h₀ L J n gs dr os Q) E' s₂ else wpAny (model prog w) A (execs orelse env) (fun f s₃ => tk ≤ s₃.toks → Q f s₃) E' s₂) E' ⟨h, gs, dr, tk, os⟩) :
    wpAny (model prog w) A (exec (.While test body orelse pos) env) Q E ⟨hs, gs, dr, tk0, os⟩ := by
  refine wpAny_While (codeAny_whileLoop (fun k s' => ∃ h' tk m' news', s' = ⟨h', gs, dr, tk, os⟩ ∧ tk0 ≤ tk ∧ Fr h₀ L h' m' ∧ News h₀ L h' news' ∧ J k m' news' tk) ?_ n ⟨hs, tk0, m, news, rfl, Nat.le_refl _, F, N, h0⟩)
  rintro k s' ⟨h', tk, m', news', rfl, ht, F', N', hJ⟩
  refine le_toks (wpAny_mono (turn k m' news' h' tk (fun _ _ => False) ht hJ F' N') (fun b s₂ hb le₂ => ?_) fun _ _ e => e.elim)
  have le₃ : tk0 ≤ s₂.toks := Nat.le_trans ht le₂
  replace hb := hb le₂
  cases b with
  | false =>
    rw [if_neg Bool.false_ne_true] at hb ⊢
    exact le_toks (wpAny_mono hb (fun _ _ q le => q (Nat.le_trans le₂ le)) fun _ _ e => e.elim)
  | true =>
    rw [if_pos rfl] at hb ⊢
    refine le_toks (wpAny_mono hb (fun f s₃ h₃ le₃' => ?_) fun _ _ e => e.elim)
    have le₄ : tk0 ≤ s₃.toks := Nat.le_trans le₃ le₃'
    have cont : (∃ n', n' < k ∧ ∃ h' tk' m' news', s₃ = ⟨h', gs, dr, tk', os⟩ ∧ Fr h₀ L h' m' ∧ News h₀ L h' news' ∧ J n' m' news' tk') → tk0 ≤ s₃.toks →
        ∃ m, m < k ∧ ∃ h' tk m' news', s₃ = ⟨h', gs, dr, tk, os⟩ ∧ tk0 ≤ tk ∧ Fr h₀ L h' m' ∧ News h₀ L h' news' ∧ J m m' news' tk := by
      rintro ⟨n', lt, h₄, tk₄, m₄, news₄, rfl, F₄, N₄, hJ₄⟩ ht₄
      exact ⟨n', lt, h₄, tk₄, m₄, news₄, rfl, ht₄, F₄, N₄, hJ₄⟩
    cases f with
    | ret v => exact h₃
    | brk => exact h₃
    | cont => exact cont h₃ le₄
    | next => exact cont h₃ le₄
theorem and63 : ∀ b : Nat, b < 256 → Builtin.bitAnd (b : Int) 63 = ((b % 64 : Nat) : Int) := by decide +kernel
theorem and64 : ∀ b : Nat, b < 256 → Builtin.bitAnd (b : Int) 64 = if b / 64 % 2 = 1 then 64 else 0 := by decide +kernel
theorem or6 (v d : Nat) (h : d < 64) : Builtin.bitOr ((v * 64 : Nat) : Int) (d : Int) = ((v * 64 + d : Nat) : Int) := by
  unfold Builtin.bitOr
  have n1 : ∀ a : Nat, Builtin.bitNot (a : Int) < 0 := fun a => by unfold Builtin.bitNot; omega
  have n2 : ∀ a : Int, Builtin.bitNot (Builtin.bitNot a) = a := fun a => by unfold Builtin.bitNot; omega
  unfold Builtin.bitAnd
  rw [decide_eq_false (Int.not_le.mpr (n1 _)), decide_eq_false (Int.not_le.mpr (n1 _))]
  simp only [n2, Int.toNat_natCast]
  have z := Nat.two_pow_add_eq_or_of_lt (i := 6) (b := d) h v
  rw [show 2 ^ 6 * v = v * 64 by omega] at z
  rw [z]
/-- an iterator over the list l at its item k -/
noncomputable def ItObj (o : Obj) (l : Addr) (k : Nat) : Prop := o.cls = .type "list_iterator" ∧ o.data = .fields #[.ref l, .int k 0]
theorem ItObj.at {o : Obj} {l : Addr} {k : Nat} {h : Heap} {T : Addr} (x : ItObj o l k) (e : h.get? T = some o) : h.IsListIter T l k := ⟨o, e, x.1, x.2⟩
theorem ItObj.of {h : Heap} {T l : Addr} {k : Nat} (x : h.IsListIter T l k) : ∃ o, h.get? T = some o ∧ ItObj o l k := let ⟨o, e, a, b⟩ := x; ⟨o, e, a, b⟩
/-- next on the head of the ledger -/
theorem next_led {w : World} {A : Around} {E : Value → Shared → Prop} {s : Shared} {hb : Heap} {L T l : Addr} {m : Str → Option Value} {oT ol : Obj} {rest : List (Addr × Obj)} {its : Array Value} {k : Nat} {x : Value} {Q : Value → Shared → Prop}
    (F : Fr hb L s.heap m) (N : News hb L s.heap ((T, oT) :: rest)) (off : ∀ p ∈ rest, p.1 ≠ T) (hi : ItObj oT l k) (hl : (l, ol) ∈ rest) (hol : ol.cls = .type "list" ∧ ∃ n, ol.data = .seq its n) (hx : its[k]? = some x)
    (h : ∀ h' oT', Fr hb L h' m → News hb L h' ((T, oT') :: rest) → ItObj oT' l (k + 1) → Q x { s with heap := h' }) :
    wpAny (model pw w) A (call (.builtin "next") [.ref T]) Q E s := by
  have hT := N (T, oT) List.mem_cons_self
  refine next_item (hi.at hT.1) ⟨ol, (N _ (List.mem_cons_of_mem _ hl)).1, hol.1, hol.2⟩ hx fun h' hit hs => ?_
  obtain ⟨oT', e, ho⟩ := ItObj.of hit
  refine h h' oT' (F.change hs hT.2.1 hT.2.2) (fun p hp => ?_) ho
  rcases List.mem_cons.mp hp with rfl | hp
  · exact ⟨e, hT.2⟩
  · exact ⟨(hs.2 _ (off p hp)).trans (N p (List.mem_cons_of_mem _ hp)).1, (N p (List.mem_cons_of_mem _ hp)).2⟩
theorem next_ledEnd {w : World} {A : Around} {E : Value → Shared → Prop} {s : Shared} {hb : Heap} {L T l : Addr} {m : Str → Option Value} {oT ol : Obj} {rest : List (Addr × Obj)} {its : Array Value} {k : Nat} {Q : Value → Shared → Prop}
    (F : Fr hb L s.heap m) (N : News hb L s.heap ((T, oT) :: rest)) (off : ∀ p ∈ rest, p.1 ≠ T) (hi : ItObj oT l k) (hl : (l, ol) ∈ rest) (hol : ol.cls = .type "list" ∧ ∃ n, ol.data = .seq its n) (hx : its[k]? = none) (hh : A.handled = none)
    (h : ∀ hm h' e oT', Fr hb L hm m → News hb L hm ((T, oT') :: rest) → Heap.NewExc hm h' e "StopIteration" → E (.ref e) { s with heap := h' }) :
    wpAny (model pw w) A (call (.builtin "next") [.ref T]) Q E s := by
  have hT := N (T, oT) List.mem_cons_self
  refine next_end hh (hi.at hT.1) ⟨ol, (N _ (List.mem_cons_of_mem _ hl)).1, hol.1, hol.2⟩ hx fun hm h' e he hs hx => ?_
  obtain ⟨oT', e'⟩ := he
  refine h hm h' e oT' (F.change hs hT.2.1 hT.2.2) (fun p hp => ?_) hx
  rcases List.mem_cons.mp hp with rfl | hp
  · exact ⟨e', hT.2⟩
  · exact ⟨(hs.2 _ (off p hp)).trans (N p (List.mem_cons_of_mem _ hp)).1, (N p (List.mem_cons_of_mem _ hp)).2⟩
noncomputable def Bs (b : Nat) : Prop := True
theorem cons_b {M : Model} {A : Around} {st : Stmt} {rest : List Stmt} {env : Env} {Q : Flow → Shared → Prop} {E : Value → Shared → Prop} {h : Heap} {g : Array GenState} {d : Drawn} {os : OsState} {X b : Nat} (m : Bs b) (hX : b ≤ X)
    (k : ∀ tk, b ≤ tk → wpAny M A (exec st env) (fun fl s' => b ≤ s'.toks → match fl with | .next => wpAny M A (execs rest env) Q E s' | fl => Q fl s') E ⟨h, g, d, tk, os⟩) : wpAny M A (execs (st :: rest) env) Q E ⟨h, g, d, X, os⟩ :=
  wpAny_execs_cons (le_toks (wpAny_mono (k X hX) (fun _ _ q l => q (Nat.le_trans hX l)) fun _ _ q _ => q))
structure QN (b : Nat) (Q1 : Flow → Shared → Prop) (P : Shared → Prop) : Prop where
  go : ∀ s', (b ≤ s'.toks → P s') → Q1 .next s'
structure QR (b : Nat) (Q1 Q : Flow → Shared → Prop) : Prop where
  go : ∀ v s', (b ≤ s'.toks → Q (.ret v) s') → Q1 (.ret v) s'
theorem cons_q {M : Model} {A : Around} {st : Stmt} {rest : List Stmt} {env : Env} {Q : Flow → Shared → Prop} {E : Value → Shared → Prop} {h : Heap} {g : Array GenState} {d : Drawn} {os : OsState} {X b : Nat} (m : Bs b) (hX : b ≤ X)
    (k : ∀ tk, b ≤ tk → ∀ Q1, QN b Q1 (fun s' => wpAny M A (execs rest env) Q E s') → QR b Q1 Q → wpAny M A (exec st env) Q1 E ⟨h, g, d, tk, os⟩) : wpAny M A (execs (st :: rest) env) Q E ⟨h, g, d, X, os⟩ :=
  cons_b m hX fun tk l => k tk l _ ⟨fun _ q => q⟩ ⟨fun _ _ q => q⟩
end
section
set_option maxRecDepth 100000
set_option maxHeartbeats 4000000
open LCg
noncomputable def vv (c : Nat → Nat) : Nat → Nat
  | 0 => c 0 % 64
  | i + 1 => vv c i * 64 + c (i + 1) % 64
theorem vv_lt (c : Nat → Nat) : ∀ i, vv c i < 64 ^ (i + 1)
  | 0 => by show c 0 % 64 < 64; omega
  | i + 1 => by
    have := vv_lt c i
    show vv c i * 64 + c (i + 1) % 64 < 64 ^ (i + 1 + 1)
    rw [Nat.pow_succ]
    omega
section
variable {w : World} {mean : ExcName → Option Value} {mg mb : Str → Option Value} {T l : Addr} {oT ol : Obj} {rest : List (Addr × Obj)} {its : Array Value} {k : Nat} {dp un : Nat} {gd : Option (List Code)} {outer : List Env} {base hb : Heap} {s : Shared} {Q E : Value → Shared → Prop}
theorem c_varint (c : Nat → Nat) (n0 : Nat) (h3 : n0 ≤ 3) (hc : ∀ i, i ≤ n0 → c i < 256 ∧ ∃ t : Tok, its[k + i]? = some (.int (c i : Nat) t)) (h1 : ∀ i, i < n0 → c i / 64 % 2 = 1) (h2 : c n0 / 64 % 2 = 0)
    (hi : ItObj oT l k) (hl : (l, ol) ∈ rest) (hol : ol.cls = .type "list" ∧ ∃ n, ol.data = .seq its n) (off : ∀ p ∈ rest, p.1 ≠ T)
    (hd : dp + 10 < recursionLimit) (hu : un + 200 < cLine) (B : Below (aro dp un gd outer) base outer hb) (X : (K w.params).In hb) (Tp : Top q looseM mean mg mb hb)
    (sub : ∀ b o, hb.get? b = some o → s.heap.get? b = some o) (sz : hb.objs.size ≤ s.heap.objs.size) (led : ∀ p ∈ (T, oT) :: rest, s.heap.get? p.1 = some p.2 ∧ hb.get? p.1 = none)
    (hret : ∀ (h' : Heap) (tk' : Nat) (oT' : Obj) (t : Nat), (∀ b o, hb.get? b = some o → h'.get? b = some o) → h'.get? T = some oT' → ItObj oT' l (k + n0 + 1) → (∀ p ∈ rest, h'.get? p.1 = some p.2) → s.toks ≤ t → t < tk' → Q (.int (vv c n0 : Nat) t) { s with heap := h', toks := tk' }) :
    wpAny (model pw w) (aro dp un gd outer) (call (.ref 46) [.ref T]) Q E s := by
  have Bs : Below (aro dp un gd outer) base outer s.heap := ⟨B.stack, fun b o e => sub b o (B.stays b o e), B.frames.of_keeps fun b o e _ => ⟨o, sub b o e, rfl⟩⟩
  have Xs := X.keeps sub
  have Ts := Tp.keeps sub
  refine wpAny_call ?_
  walk_at "mine enter"
  rename Fr _ _ _ _ => F0
  rename News _ _ _ _ => N0
  have F1 : Fr hb _ _ _ := ⟨F0.ns, fun b o e => F0.keep b o (sub b o e), Nat.le_trans sz F0.above⟩
  have N1 : News hb _ _ ((T, oT) :: rest) := fun p hp => ⟨F0.keep _ _ (led p hp).1, Nat.ne_of_lt (Nat.lt_of_lt_of_le (Heap.lt_size (led p hp).1) F0.above), (led p hp).2⟩
  clear Bs Xs Ts F0 N0 sub sz led
  walk_at "go10"
  obtain ⟨hc0, t0, hx0⟩ := hc 0 (Nat.zero_le _)
  refine next_led F1 N1 off hi hl hol hx0 ?_
  intro g1 oT1 F2 N2 hi2
  iterate 11 first | (k_unfold; (try dsimp only)) | walk1 | (dsimp only; walk1) | skip
  refine' while_walk (n := n0) (fun n m nw (tk : Nat) => ∃ (i tb tv : Nat) (o : Obj), i ≤ n0 ∧ n = n0 - i ∧ nw = (T, o) :: rest ∧ ItObj o l (k + i + 1) ∧ m (Str.ofString "iterator") = some (.ref T) ∧ m (Str.ofString "b") = some (.int (c i : Nat) tb) ∧ m (Str.ofString "val") = some (.int (vv c i : Nat) tv) ∧ s.toks ≤ tv ∧ tv < tk) ?F ?N ?h0 ?turn
  case F => k_asm
  case N => k_asm
  case h0 =>
    refine ⟨0, _, _, oT1, Nat.zero_le _, rfl, rfl, hi2, rfl, rfl, congrArg (fun z => some (Value.int z _)) (and63 (c 0) hc0), ?_, ?_⟩
    · dsimp only; omega
    · dsimp only; omega
  case turn =>
    rintro n m₁ news₁ h tk E' hle ⟨i, tb, tv, o, hin, rfl, rfl, ho, hm1, hm2, hm3, htv, htv2⟩ F N
    iterate 7 first | (k_unfold; (try dsimp only)) | walk1 | (dsimp only; walk1) | skip
    obtain ⟨hci, -⟩ := hc i hin
    have hv : vv c i < 64 ^ 4 := Nat.lt_of_lt_of_le (vv_lt c i) (Nat.pow_le_pow_right (by decide) (by omega))
    by_cases hlast : i = n0
    · subst hlast
      rw [and64 _ hci, if_neg (by rw [h2]; decide)]
      walk_at "go10"
      dsimp only
      exact hret _ _ o tv F.keep (N _ List.mem_cons_self).1 ho (fun p hp => (N p (List.mem_cons_of_mem _ hp)).1) htv (by omega)
    · have hbit := h1 i (by omega)
      rw [and64 _ hci, if_pos hbit, if_pos (by decide)]
      walk_at "go20"
      obtain ⟨hci1, t1, hx1⟩ := hc (i + 1) (by omega)
      rw [show k + (i + 1) = k + i + 1 by omega] at hx1
      refine next_led (by k_asm) (by k_asm) off ho hl hol hx1 ?_
      intro g3 oT3 F3 N3 hi3
      walk_at "go20"
      rename Fr _ _ _ _ => F4
      rename News _ _ _ _ => N4
      have hx : Builtin.bitOr (((vv c i : Nat) : Int) * 2 ^ (6 : Int).toNat) (Builtin.bitAnd ((c (i + 1) : Nat) : Int) 63) = ((vv c (i + 1) : Nat) : Int) := by
        rw [and63 _ hci1, show ((vv c i : Nat) : Int) * 2 ^ (6 : Int).toNat = ((vv c i * 64 : Nat) : Int) by rw [show (2 : Int) ^ (6 : Int).toNat = 64 by decide]; omega]
        exact or6 _ _ (Nat.mod_lt _ (by decide))
      exact WEnd.next (n' := n0 - (i + 1)) F4 N4 (fun p hp => hp) (by omega) ⟨i + 1, _, _, oT3, by omega, rfl, rfl, hi3, hm1, rfl, congrArg (fun z => some (Value.int z _)) hx, by dsimp only; omega, by dsimp only; omega⟩
theorem c_varEnd (hi : ItObj oT l k) (hl : (l, ol) ∈ rest) (hol : ol.cls = .type "list" ∧ ∃ n, ol.data = .seq its n) (hx : its[k]? = none) (off : ∀ p ∈ rest, p.1 ≠ T)
    (hd : dp + 10 < recursionLimit) (hu : un + 200 < cLine) (B : Below (aro dp un gd outer) base outer hb) (X : (K w.params).In hb) (Tp : Top q looseM mean mg mb hb)
    (sub : ∀ b o, hb.get? b = some o → s.heap.get? b = some o) (sz : hb.objs.size ≤ s.heap.objs.size) (led : ∀ p ∈ (T, oT) :: rest, s.heap.get? p.1 = some p.2 ∧ hb.get? p.1 = none)
    (hraise : ∀ (h' : Heap) (tk' : Nat) (e : Addr) (oT' : Obj), RaisedSN base hb outer e (.type "StopIteration") ((T, oT') :: rest) h' → hb.UpToSlots h' → s.toks ≤ tk' → E (.ref e) { s with heap := h', toks := tk' }) :
    wpAny (model pw w) (aro dp un gd outer) (call (.ref 46) [.ref T]) Q E s := by
  have Bs : Below (aro dp un gd outer) base outer s.heap := ⟨B.stack, fun b o e => sub b o (B.stays b o e), B.frames.of_keeps fun b o e _ => ⟨o, sub b o e, rfl⟩⟩
  have Xs := X.keeps sub
  have Ts := Tp.keeps sub
  refine wpAny_call ?_
  walk_at "mine enter"
  rename Fr _ _ _ _ => F0
  rename News _ _ _ _ => N0
  have F1 : Fr hb _ _ _ := ⟨F0.ns, fun b o e => F0.keep b o (sub b o e), Nat.le_trans sz F0.above⟩
  have N1 : News hb _ _ ((T, oT) :: rest) := fun p hp => ⟨F0.keep _ _ (led p hp).1, Nat.ne_of_lt (Nat.lt_of_lt_of_le (Heap.lt_size (led p hp).1) F0.above), (led p hp).2⟩
  clear Bs Xs Ts F0 N0 sub sz led
  walk_at "go10"
  refine next_ledEnd F1 N1 off hi hl hol hx rfl ?_
  intro hm h2 e oT2 F2 N2 hxe
  k_unfold
  try dsimp only
  refine leave_newS B hxe F2 N2 ?_
  intro h4 R R2 up
  exact hraise _ _ _ _ R up (by dsimp only; omega)
end
end
section
set_option maxRecDepth 100000
set_option maxHeartbeats 4000000
open LCg
/-- one number's octets -/
noncomputable def GroupOk (g : List Nat) : Prop := 1 ≤ g.length ∧ g.length ≤ 4 ∧ (∀ d ∈ g, d < 256) ∧ (∀ i, i + 1 < g.length → (g.getD i 0) / 64 % 2 = 1) ∧ (g.getD (g.length - 1) 0) / 64 % 2 = 0
noncomputable def groupVal (g : List Nat) : Nat := vv (fun i => g.getD i 0) (g.length - 1)
theorem TkInts.nil {hi : Nat} : TkInts hi [] [] := ⟨rfl, fun i n e => by simp at e⟩
theorem TkInts.snoc {hi hi' : Nat} {vs : List Value} {ns : List Int} {n : Int} {t : Nat} (h : TkInts hi vs ns) (h1 : 0 < t) (h2 : t < hi') (h3 : hi ≤ hi') : TkInts hi' (vs ++ [.int n t]) (ns ++ [n]) :=
  ⟨by simp [h.1], fun i m e => by
    by_cases q : i < ns.length
    · rw [List.getElem?_append_left q] at e
      rw [List.getElem?_append_left (by rw [h.1]; exact q)]
      obtain ⟨u, a, b, c⟩ := h.2 i m e
      exact ⟨u, a, b, Nat.lt_of_lt_of_le c h3⟩
    · rw [List.getElem?_append_right (by omega)] at e
      rw [List.getElem?_append_right (by rw [h.1]; omega), h.1]
      rcases Nat.eq_zero_or_pos (i - ns.length) with z | z
      · rw [z] at e ⊢
        simp at e
        exact ⟨t, by simp [e], h1, h2⟩
      · rw [List.getElem?_eq_none (by simp; omega)] at e
        cases e⟩
theorem call_iter_list {prog : Program} {w : World} {A : Around} {E : Value → Shared → Prop} {s : Shared} {l : Addr} {items : Array Value} {Q : Value → Shared → Prop} (hl : s.heap.IsList l items)
    (h : Q (.ref s.heap.objs.size) { s with heap := s.heap.push { cls := .type "list_iterator", data := .fields #[.ref l, .int 0 0] } }) : wpAny (model prog w) A (call (.builtin "iter") [.ref l]) Q E s := by
  refine call_function_entry (by decide +kernel) (by decide +kernel) kdk_entry_iter (kdk_args_iter _) ?_
  unfold Builtin.«iter»
  refine wpAny_bind (m := someArgs "iter" 1 2 _) (wpAny_of_eq (a := [Value.ref l]) (by first | rfl | kernel_rfl!) ?_)
  show wpAny _ _ (pyIter (.ref l) >>= _) _ _ _
  refine wpAny_bind (wpAny_pyIter_list hl ?_)
  exact wpAny_pure ⟨_, rfl, h⟩
theorem small_len {n : Nat} (h : n ≤ 2 ^ 20) : Builtin.Range.small 0 ((n : Int) + 1) 1 = true := small_one (by decide) (by decide) (by omega) (by omega)
theorem size_len {n : Nat} : Builtin.Range.rangeSize 0 ((n : Int) + 1) 1 = ((n + 1 : Nat) : Int) := by rw [rangeSize_nat]; omega
theorem exc1 : isSubtype (.type "StopIteration") (.type "BaseException") = pure true := by rw [isSubtype_type]; kernel_rfl
theorem exc2 : isSubtype (.type ((Manifest.find? "StopIteration").elim "type" fun y => y.metatype)) (.type "tuple") = pure false := by
  rw [show ((Manifest.find? "StopIteration").elim "type" fun x => x.metatype) = "type" from by kernel_rfl, isSubtype_type]; kernel_rfl
theorem flat_at (G : List (List Nat)) : ∀ (i j : Nat) (hi : i < G.length) (hj : j < G[i].length), G.flatten[(G.take i).flatten.length + j]? = some G[i][j] := by
  intro i j hi hj
  have e : G = G.take i ++ G[i] :: G.drop (i + 1) := by simp
  have e2 : G.flatten = (G.take i).flatten ++ (G[i] ++ (G.drop (i + 1)).flatten) := by
    conv => lhs; rw [e]
    rw [List.flatten_append, List.flatten_cons]
  rw [e2, List.getElem?_append_right (Nat.le_add_right _ _), Nat.add_sub_cancel_left, List.getElem?_append_left hj, List.getElem?_eq_getElem hj]
theorem flat_take (G : List (List Nat)) (i : Nat) (hi : i < G.length) : (G.take (i + 1)).flatten.length = (G.take i).flatten.length + G[i].length := by
  rw [List.take_add_one, List.getElem?_eq_getElem hi, Option.toList_some, List.flatten_append, List.length_append]
  simp
theorem groups_le (G : List (List Nat)) (h : ∀ g ∈ G, 1 ≤ g.length) : G.length ≤ G.flatten.length := by
  induction G with
  | nil => exact Nat.le_refl _
  | cons g G ih =>
    have := ih fun g' hg => h g' (List.mem_cons_of_mem _ hg)
    have := h g List.mem_cons_self
    simp only [List.length_cons, List.flatten_cons, List.length_append]
    omega
section
variable {w : World} {mean : ExcName → Option Value} {mg mb : Str → Option Value} {T l : Addr} {oT ol : Obj} {rest : List (Addr × Obj)} {its : Array Value} {k : Nat} {A A₀ : Around} {env : Env} {outer : List Env} {base h₀ : Heap} {L : Addr} {m : Str → Option Value} {s : Shared} {Q E : Value → Shared → Prop}
theorem hide_in (F : Fr h₀ L s.heap m) (N : News h₀ L s.heap ((T, oT) :: rest)) : Fr h₀ L (hideAll s.heap (((T, oT) :: rest).map (·.1))) m := by
  refine ⟨F.ns.at' fun o e => hideAll_get _ e fun hm => ?_, fun b o e => hideAll_get _ (F.keep b o e) fun hm => ?_, F.above⟩
  · obtain ⟨p, hp, e'⟩ := List.mem_map.mp hm
    exact (N p hp).2.1 e'
  · obtain ⟨p, hp, e'⟩ := List.mem_map.mp hm
    have := (N p hp).2.2
    rw [e', e] at this
    cases this
theorem varint_use (c : Nat → Nat) (n0 : Nat) (h3 : n0 ≤ 3) (hc : ∀ i, i ≤ n0 → c i < 256 ∧ ∃ t : Tok, its[k + i]? = some (.int (c i : Nat) t)) (h1 : ∀ i, i < n0 → c i / 64 % 2 = 1) (h2 : c n0 / 64 % 2 = 0)
    (hi : ItObj oT l k) (hl : (l, ol) ∈ rest) (hol : ol.cls = .type "list" ∧ ∃ n, ol.data = .seq its n) (off : ∀ p ∈ rest, p.1 ≠ T)
    (hA : A.frames = some (env :: outer)) (hh : A.handled = none) (hf : env.frame = some L) (hke : env.scope.kind = .function)
    (B : Below A₀ base outer h₀) (F : Fr h₀ L s.heap m) (X : (K w.params).In h₀) (N : News h₀ L s.heap ((T, oT) :: rest)) (Tp : Top q looseM mean mg mb h₀) (hd : A.depth + 10 < recursionLimit) (hu : A.units + 200 < cLine)
    (hret : ∀ (h' : Heap) (tk' : Nat) (oT' : Obj) (t : Nat), Fr h₀ L h' m → News h₀ L h' ((T, oT') :: rest) → ItObj oT' l (k + n0 + 1) → s.toks ≤ t → t < tk' → Q (.int (vv c n0 : Nat) t) { s with heap := h', toks := tk' }) :
    wpAny (model pw w) A (call (.ref 46) [.ref T]) Q E s := by
  have Fh := hide_in F N
  have B' := pushX B Fh hf hke
  rw [aro_eq hh hA]
  refine c_varint (hb := hideAll s.heap (((T, oT) :: rest).map (·.1))) c n0 h3 hc h1 h2 hi hl hol off hd hu ⟨rfl, B'.stays, B'.frames⟩ (X.keeps Fh.keep) (Tp.keeps Fh.keep) (fun b o e => of_hideAll _ e) (Nat.le_of_eq (hideAll_size _ _)) (fun p hp => ⟨(N p hp).1, hideAll_none _ (List.mem_map.mpr ⟨p, hp, rfl⟩)⟩) ?_
  intro h' tk' oT' t hk hT hi' hrest h4 h5
  refine hret h' tk' oT' t ⟨Fh.ns.keeps hk, fun b o e => hk _ _ (Fh.keep b o e), F.above⟩ (fun p hp => ?_) hi' h4 h5
  rcases List.mem_cons.mp hp with rfl | hp
  · exact ⟨hT, (N (T, oT) List.mem_cons_self).2⟩
  · exact ⟨hrest p hp, (N p (List.mem_cons_of_mem _ hp)).2⟩
theorem varEnd_use (hi : ItObj oT l k) (hl : (l, ol) ∈ rest) (hol : ol.cls = .type "list" ∧ ∃ n, ol.data = .seq its n) (hx : its[k]? = none) (off : ∀ p ∈ rest, p.1 ≠ T)
    (hA : A.frames = some (env :: outer)) (hh : A.handled = none) (hf : env.frame = some L) (hke : env.scope.kind = .function)
    (B : Below A₀ base outer h₀) (F : Fr h₀ L s.heap m) (X : (K w.params).In h₀) (N : News h₀ L s.heap ((T, oT) :: rest)) (Tp : Top q looseM mean mg mb h₀) (hd : A.depth + 10 < recursionLimit) (hu : A.units + 200 < cLine)
    (hraise : ∀ (h' : Heap) (tk' : Nat) (e : Addr) (oT' : Obj) (hb : Heap), Fr h₀ L hb m → RaisedSN base hb (env :: outer) e (.type "StopIteration") ((T, oT') :: rest) h' → hb.UpToSlots h' → s.toks ≤ tk' → E (.ref e) { s with heap := h', toks := tk' }) :
    wpAny (model pw w) A (call (.ref 46) [.ref T]) Q E s := by
  have Fh := hide_in F N
  have B' := pushX B Fh hf hke
  rw [aro_eq hh hA]
  exact c_varEnd (hb := hideAll s.heap (((T, oT) :: rest).map (·.1))) hi hl hol hx off hd hu ⟨rfl, B'.stays, B'.frames⟩ (X.keeps Fh.keep) (Tp.keeps Fh.keep) (fun b o e => of_hideAll _ e) (Nat.le_of_eq (hideAll_size _ _)) (fun p hp => ⟨(N p hp).1, hideAll_none _ (List.mem_map.mpr ⟨p, hp, rfl⟩)⟩)
    fun h' tk' e oT' R up le => hraise h' tk' e oT' _ Fh R up le
end
theorem c_numbers {w : World} {mean : ExcName → Option Value} {mg mb : Str → Option Value} {x : Str} {tx : Tok} {groups : List (List Nat)} {dp un : Nat} {gd : Option (List Code)} {outer : List Env} {base : Heap} {s : Shared} {Q E : Value → Shared → Prop}
    (hx : x.cps.toList = groups.flatten) (hg : ∀ g ∈ groups, GroupOk g) (hlen : x.length ≤ 2 ^ 20)
    (hd : dp + 20 < recursionLimit) (hu : un + 400 < cLine) (B : Below (aro dp un gd outer) base outer s.heap) (X : (K w.params).In s.heap) (T : Top q looseM mean mg mb s.heap) (XB : (K w.params).In base) (TB : Top q looseM mean mg mb base)
    (D : KtsDicts (outer.filterMap (·.frame)) s.heap) (h0 : 0 < s.toks)
    (hret : ∀ (h' : Heap) (tk' : Nat) (g' : Heap) (l : Addr) (vs : List Value), KtsTurn (outer.filterMap (·.frame)) s.heap g' → (∀ b o, g'.get? b = some o → h'.get? b = some o) → h'.IsList l vs.toArray → TkInts tk' vs (groups.map fun g => ((groupVal g : Nat) : Int)) → s.toks ≤ tk' → Q (.ref l) { s with heap := h', toks := tk' }) :
    wpAny (model pw w) (aro dp un gd outer) (call (.ref 210) [.str x tx]) Q E s := by
  refine wpAny_call ?_
  walk_at "mine enter"
  walk_at "go20"
  refine' comp_str ?hh ?F ?N ?hsz (fun _ => true) (fun i ys (tk : Nat) => TkInts tk ys ((x.cps.toList.take i).map Int.ofNat)) ?i0 ?mono ?tests ?skip ?turn ?done ?hcell ?hkind ?hx
  case hh => rfl
  case F => k_asm
  case N => k_asm
  case hsz => exact Nat.le_trans hlen (by decide)
  case hcell => decide
  case hkind => rfl
  case hx => rfl
  case i0 => exact TkInts.nil
  case mono => intro i ys t t' le h; exact h.mono le
  case tests =>
    intro I C D oI oC i v ys m₂ h tk E' hv ho hm F N off ne
    exact wpAny_tests_nil ⟨rfl, h, tk, rfl, F, N⟩
  case skip => intro i v ys tk hv q; cases q
  case turn =>
    rintro I C D oI oC i v ys m₂ h tk E' hi hv _ hle hJ ho hm F N off ne
    obtain ⟨c, t, hc, rfl⟩ := hv
    walk_at "go10"
    refine CompElt.intro F N (fun p hp => hp) ?_
    have e : x.cps.toList.take (i + 1) = x.cps.toList.take i ++ [c] := by rw [List.take_add_one, Array.getElem?_toList, hc]; rfl
    rw [e, List.map_append]
    exact hJ.snoc (n := Int.ofNat c) (t := tk) (by omega) (by omega) (by omega)
  case done =>
    rintro C1 h tk ys hle hJ F N off
    walk_at "go10"
    refine call_iter_list ⟨_, (N _ List.mem_cons_self).1, rfl, _, rfl⟩ ?_
    dsimp only
    have F2 := F.push { cls := .type "list_iterator", data := .fields #[.ref C1, .int 0 0] }
    have N2 := News.push F N { cls := .type "list_iterator", data := .fields #[.ref C1, .int 0 0] } rfl
    have hTC : @Ne Nat h.objs.size C1 := fun q => by have := Heap.lt_size (N _ List.mem_cons_self).1; rw [q] at this; exact Nat.lt_irrefl _ this
    have hT0 : s.heap.get? h.objs.size = none := next_is_new F
    clear N
    generalize h.push _ = h2 at F2 N2 ⊢
    generalize h.objs.size = T1 at N2 hTC hT0 ⊢
    iterate 6 first | (k_unfold; (try dsimp only)) | walk1 | (dsimp only; walk1) | skip
    refine' newList_K ?nf ?nn ?_ (by decide)
    case nf => k_asm
    case nn => k_asm
    intro l5 h5 F5 N5 l1
    have hlT : @LT.lt Nat _ T1 l5 := l1 (T1, _) List.mem_cons_self
    have hlC : @LT.lt Nat _ C1 l5 := l1 (C1, _) (List.mem_cons_of_mem _ List.mem_cons_self)
    clear l1
    walk_at "go20"
    walk_at "go10"
    rename Fr _ _ _ _ => F3
    rename News _ _ _ _ => N3
    refine' iter_range (n := x.length + 1) ?hh ?hx ?hp ?F ?N ?hr ?hsm ?hn (fun i m nw tk => ∃ (o : Obj) (nv : List Value) (c Nn : Nat), m (Str.ofString "tape") = some (.ref T1) ∧ m (Str.ofString "numbers") = some (.ref Nn) ∧ nw = [(Nn, W.listOf nv.toArray c), (T1, o), (C1, lst ys)] ∧ @Ne Nat Nn T1 ∧ @Ne Nat Nn C1 ∧ i ≤ groups.length ∧ ItObj o C1 ((groups.take i).flatten.length) ∧ TkInts tk nv ((groups.take i).map fun g => ((groupVal g : Nat) : Int))) ?h0 ?mono ?turn ?done
    case hh => rfl
    case hx => rfl
    case hp => rfl
    case F => k_asm
    case N => k_asm
    case hr => k_asm
    case hsm => exact small_len hlen
    case hn => exact size_len
    case h0 => exact ⟨_, [], 0, l5, rfl, rfl, rfl, fun e => by omega, fun e => by omega, Nat.zero_le _, ⟨rfl, rfl⟩, TkInts.nil⟩
    case mono =>
      rintro i m nw t t' le ⟨o, nv, c, Nn, a1, a2, a3, a4, a5, a6, a7, a8⟩
      exact ⟨o, nv, c, Nn, a1, a2, a3, a4, a5, a6, a7, a8.mono le⟩
    case turn =>
      rintro I i v m₁ news₁ oI h3 tk3 E' hi hle ⟨o, nv, c, Nn, hm1, hm2, rfl, ne1, ne2, hig, ho, hnv⟩ off3 F5 N5
      refine wpAny_mono (?_ : wpAny _ _ _ _ (fun _ _ => False) _) (fun _ _ q => q) (fun _ _ e => e.elim)
      have hIN : @Ne Nat Nn I := off3 (Nn, _) List.mem_cons_self
      have hIT : @Ne Nat T1 I := off3 (T1, _) (List.mem_cons_of_mem _ List.mem_cons_self)
      have hIC : @Ne Nat C1 I := off3 (C1, _) (List.mem_cons_of_mem _ (List.mem_cons_of_mem _ List.mem_cons_self))
      have hoff : ∀ p ∈ [(I, oI), (Nn, W.listOf nv.toArray c), (C1, lst ys)], p.1 ≠ T1 := fun p hp => by
        simp only [List.mem_cons, List.not_mem_nil, or_false] at hp
        rcases hp with rfl | rfl | rfl
        · exact Ne.symm hIT
        · exact ne1
        · exact fun e => hTC e.symm
      have hN : News s.heap _ h3 [(T1, o), (I, oI), (Nn, W.listOf nv.toArray c), (C1, lst ys)] := fun p hp => N5 p (by
        simp only [List.mem_cons, List.not_mem_nil, or_false] at hp ⊢
        rcases hp with h | h | h | h <;> simp [h])
      have hlenx : x.length = groups.flatten.length := by rw [← hx, Array.length_toList]; rfl
      have hgl : groups.length ≤ groups.flatten.length := groups_le _ fun g hg' => (hg g hg').1
      have hcodes : (x.cps.toList.take x.cps.size).map Int.ofNat = groups.flatten.map Int.ofNat := by rw [← hx, List.take_of_length_le (by simp)]
      rw [hcodes] at hJ
      walk_at "go10"
      iterate 5 first | (k_unfold; (try dsimp only)) | walk1 | (dsimp only; walk1) | skip
      refine ⟨X.keeps F5.keep, ?_⟩
      by_cases hlast : i = groups.length
      · refine' varEnd_use (T := T1) (oT := o) (l := C1) (ol := lst ys) (its := ys.toArray) (rest := [(I, oI), (Nn, W.listOf nv.toArray c), (C1, lst ys)]) ho ?hl ?hol ?hx ?off ?hA ?hh ?hf ?hke B ?F X ?N T ?hd ?hu ?_
        case F => exact F5
        case hl => simp
        case hol => exact ⟨rfl, _, rfl⟩
        case hx =>
          rw [hlast, List.take_length]
          have e1 := hJ.1
          rw [List.length_map] at e1
          simp [e1]
        case off => exact hoff
        case hA => rfl
        case hh => rfl
        case hf => rfl
        case hke => rfl
        case N => exact hN
        case hd => (show dp + 1 + 10 < _; omega)
        case hu => (show un + 3 + 200 < cLine; omega)
        intro h6 tk6 e oT6 hb6 F6 R6 up6 le6
        try dsimp only at le6
        try dsimp only
        refine' caught_SN0 (T' := "StopIteration") R6 F6 B up6 XB TB D KtsTurn.refl ?ex PyProof.Rows.Boot.«StopIteration» ?hn exc1 exc2 isSubtype_stop ?_ (hE := ?hE)
        case hE => exact fun _ _ h => h.elim
        case ex => k_is
        case hn => decide
        intro h7 g7 T7 F7 N7 K7 X7 P7 D7
        walk_at "go10"
        dsimp only
        unfold LoopEnd
        dsimp only
        intro _
        refine hret _ _ g7 Nn nv T7 F7.keep ⟨_, (N7 (Nn, W.listOf nv.toArray c) (by simp)).1, rfl, _, rfl⟩ ?_ (by omega)
        rw [hlast, List.take_length] at hnv
        exact hnv.mono (by omega)
      · have hil : i < groups.length := by omega
        obtain ⟨q1, q2, q3, q4, q5⟩ := hg groups[i] (List.getElem_mem hil)
        refine' varint_use (T := T1) (oT := o) (l := C1) (ol := lst ys) (its := ys.toArray) (rest := [(I, oI), (Nn, W.listOf nv.toArray c), (C1, lst ys)]) (fun j => groups[i].getD j 0) (groups[i].length - 1) (by omega) ?hc (fun j hj => q4 j (by omega)) q5 ho ?hl ?hol ?off ?hA ?hh ?hf ?hke B ?F X ?N T ?hd ?hu ?_
        case hc =>
          intro j hj
          have hj' : j < groups[i].length := by omega
          have e1 : groups[i].getD j 0 = groups[i][j] := by rw [List.getD_eq_getElem?_getD, List.getElem?_eq_getElem hj']; rfl
          rw [e1]
          refine ⟨q3 _ (List.getElem_mem hj'), ?_⟩
          obtain ⟨t, e2, -⟩ := hJ.2 ((groups.take i).flatten.length + j) (Int.ofNat groups[i][j]) (by rw [List.getElem?_map, flat_at groups i j hil hj']; rfl)
          exact ⟨t, by simpa using e2⟩
        case F => exact F5
        case hl => simp
        case hol => exact ⟨rfl, _, rfl⟩
        case off => exact hoff
        case hA => rfl
        case hh => rfl
        case hf => rfl
        case hke => rfl
        case N => exact hN
        case hd => (show dp + 1 + 10 < _; omega)
        case hu => (show un + 3 + 200 < cLine; omega)
        intro h6 tk6 oT6 t6 F6 N6 hi6 le6 le7
        try dsimp only at le6
        try dsimp only
        iterate 1 first | (k_unfold; (try dsimp only)) | walk1 | (dsimp only; walk1) | skip
        refine' append_K ?k1 ?k2 ?k3 ?_ ?k4
        case k1 => k_asm
        case k2 => exact N6
        case k3 => k_upd
        case k4 =>
          have e1 := hnv.1
          rw [List.length_map, List.length_take] at e1
          show nv.toArray.size ≤ sizeLine
          rw [List.size_toArray, e1]
          have : (2 : Nat) ^ 20 ≤ sizeLine := by decide
          omega
        intro h8 F8 N8
        iterate 1 first | (k_unfold; (try dsimp only)) | walk1 | (dsimp only; walk1) | skip
        try dsimp only
        first | refine le_toks ?_ | (trace "NOLE"; trace_state)
        walk_at "go10"
        rename Fr _ _ _ _ => F9
        rename News _ _ _ _ => N9
        have hnx : TkInts tk6 (nv ++ [Value.int ((groupVal groups[i] : Nat) : Int) t6]) ((groups.take (i + 1)).map fun g => ((groupVal g : Nat) : Int)) := by
          rw [List.take_add_one, List.getElem?_eq_getElem hil, Option.toList_some, List.map_append]
          exact hnv.snoc (by omega) le7 (by omega)
        have hit : ItObj oT6 C1 ((groups.take (i + 1)).flatten.length) := by
          rw [flat_take groups i hil]
          have e : (groups.take i).flatten.length + (groups[i].length - 1) + 1 = (groups.take i).flatten.length + groups[i].length := by omega
          rw [e] at hi6
          exact hi6
        refine LoopEnd.next (news' := [(Nn, W.listOf (nv ++ [Value.int ((groupVal groups[i] : Nat) : Int) t6]).toArray (c + 1)), (T1, oT6), (C1, lst ys)]) F9 N9 ?_ ?_ trivial ⟨oT6, _, _, Nn, hm1, hm2, rfl, ne1, ne2, hil, hit, hnx.mono (by omega)⟩
        · have e2 : nv.toArray.push (Value.int ((groupVal groups[i] : Nat) : Int) t6) = (nv ++ [Value.int ((groupVal groups[i] : Nat) : Int) t6]).toArray := by simp
          intro p hp
          rw [← e2] at hp
          simp only [List.mem_cons, List.not_mem_nil, or_false] at hp ⊢
          rcases hp with h | h | h | h <;> simp [h, groupVal]
        · intro p hp
          simp only [List.mem_cons, List.not_mem_nil, or_false] at hp
          rcases hp with rfl | rfl | rfl
          · exact hIN
          · exact hIT
          · exact hIC
    case done =>
      rintro m₁ news₁ h3 tk3 E' hle ⟨o, nv, c, Nn, hm1, hm2, rfl, ne1, ne2, hig, ho, hnv⟩ F5 N5
      have hlenx : x.length = groups.flatten.length := by rw [← hx, Array.length_toList]; rfl
      have hgl : groups.length ≤ groups.flatten.length := groups_le _ fun g hg' => (hg g hg').1
      omega
end
section
set_option maxRecDepth 100000
set_option maxHeartbeats 4000000
open LCg
noncomputable def due (n : Int) : Int := n * ([65, 4161, 266305] : List Int).getD (n.fmod 3).toNat 0
noncomputable def rowOf (i d : Nat) : List Int := List.replicate d 46 ++ [due (1 + (i : Int)), 13, 10]
noncomputable def rowsFrom (d : Nat → Nat) : Nat → Nat → List Int
  | i, 0 => [13, 10, 46, 46]
  | i, n + 1 => rowOf i (d i) ++ rowsFrom d (i + 1) n
theorem due_ok : ∀ i : Nat, i < 10 → due (1 + (i : Int)) ≠ 13 ∧ due (1 + (i : Int)) ≠ 46 := by decide
theorem row_idx {i d : Nat} (hi : i < 10) (r : List Int) : (rowOf i d ++ r).idxOf 13 = d + 1 := by
  obtain ⟨h1, h2⟩ := due_ok i hi
  unfold rowOf
  rw [List.append_assoc, List.idxOf_append, if_neg (by simp [List.mem_replicate])]
  simp only [List.cons_append, List.length_replicate]
  have e : ((due (1 + (i : Int)) == 13) : Bool) = false := by simpa using h1
  rw [List.idxOf_cons, e, cond_false, List.idxOf_cons_self]
  omega
theorem row_count {i d : Nat} (hi : i < 10) (r : List Int) : ((rowOf i d ++ r).take (d + 3)).count 46 = d := by
  obtain ⟨h1, h2⟩ := due_ok i hi
  have e : (rowOf i d ++ r).take (d + 3) = rowOf i d := by rw [List.take_append_of_le_length (by simp [rowOf]), List.take_of_length_le (by simp [rowOf])]
  rw [e]
  unfold rowOf
  rw [List.count_append, List.count_replicate_self]
  simp [h2]
theorem row_mid {i d : Nat} (r : List Int) : ((rowOf i d ++ r).drop d).take 3 = [due (1 + (i : Int)), 13, 10] := by
  unfold rowOf
  rw [List.append_assoc, List.drop_append_of_le_length (by simp)]
  simp
theorem row_rest {i d : Nat} (r : List Int) : (rowOf i d ++ r).drop (d + 3) = r := by
  rw [List.drop_append]
  simp [rowOf]
theorem row_mem {i d : Nat} (r : List Int) : (13 : Int) ∈ rowOf i d ++ r := by simp [rowOf]
theorem ints_atD {vs : List Value} {ms : List Int} (h : IntsAre vs ms) : ∀ i, i < ms.length → ∃ t, vs[i]? = some (.int (ms.getD i 0) t) := by
  induction h with
  | nil => intro i h; cases h
  | cons a t h ih =>
    intro i hi
    cases i with
    | zero => exact ⟨_, rfl⟩
    | succ i => simpa using ih i (by simpa using hi)
theorem item_intD {prog : Program} {w : World} {A : Around} {E : Value → Shared → Prop} {s : Shared} {value slice : PySem.Expr} {l : Addr} {vs : List Value} {ys : List Int} {k : Int} {u : Tok} {Q : Value → Shared → Prop}
    (hl : s.heap.IsList l vs.toArray) (hv : IntsAre vs ys) (hb : (ys.all fun y => decide (0 ≤ y) && decide (y ≤ 1000000)) = true) (h0 : 0 ≤ k) (hk : k < (ys.length : Int)) (hy : k < 2 ^ 63) (h : ∀ t, 0 ≤ ys.getD k.toNat 0 → ys.getD k.toNat 0 ≤ 1000000 → Q (.int (ys.getD k.toNat 0) t) s)
    (hs : subscripted slice false (.ref l) (.int k u) = operate [.ref l, .int k u] (getItem (.ref l) (.int k u)) := by with_unfolding_all rfl) :
    wpAny (model prog w) A (subscriptTail value slice (.ref l) (.int k u)) Q E s := by
  have hi : k.toNat < ys.length := by omega
  obtain ⟨t, e⟩ := ints_atD hv k.toNat hi
  have q : ys.getD k.toNat 0 = ys[k.toNat] := by rw [List.getD_eq_getElem?_getD, List.getElem?_eq_getElem hi]; rfl
  have z := List.all_eq_true.mp hb _ (List.getElem_mem hi)
  simp only [Bool.and_eq_true, decide_eq_true_eq] at z
  rw [← q] at z
  exact tail_any hl.typeIs slot_list_getitem.lookup (wpAny_getItem_list hl h0 hy (by simpa using e) (h t z.1 z.2)) hs
local macro_rules | `(tactic| walk_at "subscriptTail") => `(tactic| walk_at "sub5")
theorem isList_keeps {h h' : Heap} {l : Addr} {its : Array Value} (x : h.IsList l its) (k : ∀ b o, h.get? b = some o → h'.get? b = some o) : h'.IsList l its := let ⟨o, e, r⟩ := x; ⟨o, k _ _ e, r⟩
theorem TkInts.take {hi : Nat} {vs : List Value} {ns : List Int} (h : TkInts hi vs ns) (k : Nat) : TkInts hi (vs.take k) (ns.take k) :=
  ⟨by simp [h.1], fun i n e => by
    rw [List.getElem?_take] at e ⊢
    by_cases q : i < k
    · rw [if_pos q] at e ⊢; exact h.2 i n e
    · rw [if_neg q] at e; cases e⟩
theorem TkInts.drop {hi : Nat} {vs : List Value} {ns : List Int} (h : TkInts hi vs ns) (k : Nat) : TkInts hi (vs.drop k) (ns.drop k) :=
  ⟨by simp [h.1], fun i n e => by
    rw [List.getElem?_drop] at e ⊢
    exact h.2 _ n e⟩
theorem TkInts.ints {hi : Nat} : ∀ {vs : List Value} {ns : List Int}, TkInts hi vs ns → IntsAre vs ns
  | [], [], _ => .nil
  | [], _ :: _, h => by have := h.1; simp at this
  | _ :: _, [], h => by have := h.1; simp at this
  | v :: vs, n :: ns, h => by
    obtain ⟨t, e, _, _⟩ := h.2 0 n rfl
    have e' : v = .int n t := by simpa using e
    rw [e']
    exact .cons _ _ (TkInts.ints (vs := vs) (ns := ns) ⟨by simpa using h.1, fun i m em => by simpa using h.2 (i + 1) m (by simpa using em)⟩)
theorem pick_up (vi : List Value) (d : Nat) : slicePick vi.toArray none (some (((d + 1 : Nat) : Int) - 1 + 3)) none = (vi.take (d + 3)).toArray := by
  rw [show ((d + 1 : Nat) : Int) - 1 + 3 = ((d + 3 : Nat) : Int) by omega, slicePick_upto']
theorem pick_mid (vi : List Value) (d : Nat) (h : d + 3 ≤ vi.length) : slicePick vi.toArray (some (((d + 1 : Nat) : Int) - 1)) (some (((d + 1 : Nat) : Int) - 1 + 3)) none = ((vi.drop d).take 3).toArray := by
  rw [show ((d + 1 : Nat) : Int) - 1 + 3 = ((d + 3 : Nat) : Int) by omega, show ((d + 1 : Nat) : Int) - 1 = (d : Int) by omega, slicePick_run _ d (d + 3) (by simpa using h) (by omega)]
  simp
theorem pick_rest (vi : List Value) (d : Nat) : slicePick vi.toArray (some (((d + 1 : Nat) : Int) - 1 + 3)) none none = (vi.drop (d + 3)).toArray := by
  rw [show ((d + 1 : Nat) : Int) - 1 + 3 = ((d + 3 : Nat) : Int) by omega, slicePick_from']
theorem rows_len (d : Nat → Nat) (h : ∀ i, d i ≤ 64) : ∀ n i, (rowsFrom d i n).length ≤ 4 + 67 * n
  | 0, i => by simp [rowsFrom]
  | n + 1, i => by
    have := rows_len d h n (i + 1)
    have := h i
    simp only [rowsFrom, rowOf, List.length_append, List.length_replicate, List.length_cons, List.length_nil]
    omega
end
local macro_rules | `(tactic| walk_at "sub5") => `(tactic| (k_here; (with_reducible show wpAny _ _ (subscriptTail _ _ (Value.ref _) (Value.int _ _)) _ _ _); k_dflt (refine' item_intD ?ktbl ?ktbw ?ktbz ?ktb0 ?ktb1 ?ktbf ?_; (case ktbl => first | exact isList_keeps (by assumption) (Fr.keep (by k_asm)) | ktb_isList); (case ktbw => first | assumption | repeat constructor); (case ktbz => first | assumption | decide); (case ktb0 => first | omega | ktb_idx); (case ktb1 => first | omega | (simp only [List.length_cons, List.length_nil]; omega) | ktb_idx); (case ktbf => first | omega | ktb_idx)); intro t hg0 hg1))
section
set_option maxRecDepth 100000
set_option maxHeartbeats 4000000
open LCg
local macro_rules | `(tactic| walk_at "subscriptTail") => `(tactic| walk_at "sub5")
local macro_rules | `(tactic| walk_at "subscriptTail Name Slice ref ref") => `(tactic| (k_here; (with_reducible show wpAny _ _ (subscriptTail _ (PySem.Expr.Slice _ _ none _) (Value.ref _) (Value.ref _)) _ _ _); k_dflt (refine' kmk_slice ?F ?N ?l ?p ?q ?_ ?s ?t ?z; (case F => k_asm); (case N => k_asm); (case l => first | exact isList_keeps (by assumption) (Fr.keep (by k_asm)) | is_list); (case p => kmk_part); (case q => kmk_part); (case s => with_unfolding_all rfl); (case t => kmk_pure); (case z => assumption)); intro D' h' F' N' l1; (try k_lt l1)))
noncomputable def countsJ (d : Nat → Nat) (h₀ : Heap) (i : Nat) (m : Str → Option Value) (nw : List (Addr × Obj)) (tk : Nat) : Prop := ∃ (li Lc : Nat) (vi cv : List Value) (c : Nat), m (Str.ofString "numbers") = some (.ref li) ∧ m (Str.ofString "counts") = some (.ref Lc) ∧ TkInts tk vi (rowsFrom d i (10 - i)) ∧ IntsAre cv ((List.range i).map fun j => ((d j : Nat) : Int) - 2) ∧
    ((nw = [(Lc, W.listOf cv.toArray c)] ∧ h₀.IsList li vi.toArray) ∨ ∃ c2, nw = [(Lc, W.listOf cv.toArray c), (li, W.listOf vi.toArray c2)] ∧ @Ne Nat Lc li)
theorem countsJ_next {d : Nat → Nat} {h₀ hh : Heap} {i j Lc D2 tk3 tkk tkx c : Nat} {vi cv : List Value} {mm : Str → Option Value} {all : List (Addr × Obj)} {Lx I : Addr} {oI : Obj} {gs : Array GenState} {dr : Drawn} {os : OsState} {Q : Flow → Shared → Prop}
    (hj : 10 - i = j + 1) (hi10 : i < 10) (hvi : TkInts tk3 vi (rowsFrom d i (j + 1))) (hcv : IntsAre cv ((List.range i).map fun j => ((d j : Nat) : Int) - 2))
    (F : Fr h₀ Lx hh mm) (N : News h₀ Lx hh all) (h1 : (D2, W.listOf (vi.drop (d i + 3)).toArray 0) ∈ all) (h2 : (Lc, W.listOf (cv.toArray.push (.int (((d i + 1 : Nat) : Int) - 1 - 2) tkx)) (c + 1)) ∈ all) (h3 : (I, oI) ∈ all)
    (m1 : mm (Str.ofString "numbers") = some (.ref D2)) (m2 : mm (Str.ofString "counts") = some (.ref Lc)) (n1 : @Ne Nat D2 I) (n2 : @Ne Nat Lc I) (n3 : @Ne Nat Lc D2) (le : tk3 ≤ tkk) :
    LoopEnd h₀ Lx I oI (fun _ => True) (countsJ d h₀ (i + 1)) gs dr os Q .next ⟨hh, gs, dr, tkk, os⟩ := by
  have e2 : cv.toArray.push (Value.int (((d i + 1 : Nat) : Int) - 1 - 2) tkx) = (cv ++ [Value.int (((d i + 1 : Nat) : Int) - 1 - 2) tkx]).toArray := by simp
  rw [e2] at h2
  refine LoopEnd.next (news' := [(Lc, W.listOf (cv ++ [Value.int (((d i + 1 : Nat) : Int) - 1 - 2) tkx]).toArray (c + 1)), (D2, W.listOf (vi.drop (d i + 3)).toArray 0)]) F N (fun p hp => ?_) (fun p hp => ?_) trivial ⟨D2, Lc, vi.drop (d i + 3), cv ++ [Value.int (((d i + 1 : Nat) : Int) - 1 - 2) tkx], c + 1, m1, m2, ?_, ?_, .inr ⟨0, rfl, n3⟩⟩
  · simp only [List.mem_cons, List.not_mem_nil, or_false] at hp
    rcases hp with rfl | rfl | rfl <;> assumption
  · simp only [List.mem_cons, List.not_mem_nil, or_false] at hp
    rcases hp with rfl | rfl
    · exact n2
    · exact n1
  · have z := (hvi.mono le).drop (d i + 3)
    rw [show rowsFrom d i (j + 1) = rowOf i (d i) ++ rowsFrom d (i + 1) j from rfl, row_rest] at z
    rw [show 10 - (i + 1) = j by omega]
    exact z
  · rw [List.range_succ, List.map_append]
    have z := ints_snoc hcv (((d i + 1 : Nat) : Int) - 1 - 2) tkx
    rw [show ((d i + 1 : Nat) : Int) - 1 - 2 = ((d i : Nat) : Int) - 2 by omega] at z ⊢
    exact z
theorem c_counts : ∀ (w : World) (mean mg mb) (l : Addr) (vs : List Value) (d : Nat → Nat) (hi : Nat), TkInts hi vs (rowsFrom d 0 10) → (∀ i, d i ≤ 64) →
    Pure 12 w mean mg mb 217 [.ref l] (fun s => s.heap.IsList l vs.toArray ∧ hi ≤ s.toks) (fun s v h' tk' => ∃ l' vs' c, v = .ref l' ∧ h'.get? l' = some (W.listOf vs'.toArray c) ∧ s.heap.get? l' = none ∧ IntsAre vs' ((List.range 10).map fun j => ((d j : Nat) : Int) - 2)) := by
  intro w mean mg mb l vs d hi hv hd64
  refine Pure.of ?_
  intro dp un gd outer base s Q E hd hu B X T h0 ⟨hl, hhi⟩ hret
  refine wpAny_call ?_
  walk_at "mine enter"
  walk_at "go20"
  refine' iter_range (n := 10) ?hh ?hx ?hp ?F ?N ?hr ?hsm ?hn (countsJ d s.heap) ?h0 ?mono ?turn ?done
  case hh => rfl
  case hx => rfl
  case hp => rfl
  case F => k_asm
  case N => k_asm
  case hr => k_asm
  case hsm => rfl
  case hn => rfl
  case h0 => exact ⟨l, _, vs, [], 0, rfl, rfl, hv.mono (by omega), .nil, .inl ⟨rfl, hl⟩⟩
  case mono =>
    rintro i m nw t t' le ⟨li, Lc, vi, cv, c, a1, a2, a3, a4, a5⟩
    exact ⟨li, Lc, vi, cv, c, a1, a2, a3.mono le, a4, a5⟩
  case turn =>
    rintro I i v m₁ news₁ oI h3 tk3 E' hi10 hle ⟨li, Lc, vi, cv, c, hm1, hm2, hvi, hcv, hnw⟩ off3 F5 N5
    refine le_toks ?_
    obtain ⟨j, hj⟩ : ∃ j, 10 - i = j + 1 := ⟨10 - i - 1, by omega⟩
    rw [hj] at hvi
    have hz : vi.toArray.size ≤ sizeLine := by
      rw [List.size_toArray, hvi.1]
      exact Nat.le_trans (rows_len d hd64 _ _) (Nat.le_trans (show 4 + 67 * (j + 1) ≤ 1000 by omega) (by decide))
    have hcl : cv.toArray.size ≤ sizeLine := by
      rw [List.size_toArray, hcv.length, List.length_map, List.length_range]
      exact Nat.le_trans (Nat.le_of_lt hi10) (by decide)
    have hIL : @Ne Nat Lc I := by
      rcases hnw with ⟨rfl, _⟩ | ⟨c2, rfl, _⟩
      · exact off3 _ List.mem_cons_self
      · exact off3 _ List.mem_cons_self
    have hlen3 : d i + 3 ≤ vi.length := by rw [hvi.1]; simp [rowsFrom, rowOf]
    have hmid : IntsAre ((vi.drop (d i)).take 3) [due (1 + (i : Int)), 13, 10] := by
      have z := ((hvi.drop (d i)).take 3).ints
      rw [show rowsFrom d i (j + 1) = rowOf i (d i) ++ rowsFrom d (i + 1) j from rfl, row_mid] at z
      exact z
    rcases hnw with ⟨rfl, hli⟩ | ⟨c2, rfl, hne⟩
    · walk_at "go20"
      walk_at "go20"
      rename News _ _ _ _ => N0
      refine' Pure.use (c_index w mean mg mb li vi (rowsFrom d i (j + 1)) 13 _ tk3 hvi (by omega) (by omega) (row_mem _)) ?u1A ?u1h ?u1f ?u1k B ?u1F X ?u1N T ?u1d ?u1u ?u10 ?u1p ?_
      case u1A => rfl
      case u1h => rfl
      case u1f => rfl
      case u1k => rfl
      case u1F => k_asm
      case u1N => k_asm
      case u1d => (show dp + 1 + 5 < recursionLimit; omega)
      case u1u => (show un + 3 + 20 * 5 < cLine; omega)
      case u10 => ((try dsimp only); omega)
      case u1p => exact isList_keeps hli (Fr.keep (by assumption))
      intro v hh1 tkk1 FF1 NN1 kp1 lek1 ⟨t1, e1, ht1⟩
      have eidx : ((rowsFrom d i (j + 1)).idxOf 13 : Int) = ((d i + 1 : Nat) : Int) := congrArg Int.ofNat (row_idx hi10 _)
      rw [e1, eidx]
      clear e1 eidx
      try dsimp only
      walk_at "go20"
      iterate 7 first | (k_unfold; (try dsimp only)) | walk1 | (dsimp only; walk1) | skip
      rename News _ _ _ _ => N6
      rw [pick_up] at N6
      refine' Pure.use (c_count w mean mg mb _ (vi.take (d i + 3)) ((rowsFrom d i (j + 1)).take (d i + 3)) 46 _ tk3 (hvi.take _) (by omega) (by omega)) ?u2A ?u2h ?u2f ?u2k B ?u2F X ?u2N T ?u2d ?u2u ?u20 ?u2p ?_
      case u2A => rfl
      case u2h => rfl
      case u2f => rfl
      case u2k => rfl
      case u2F => k_asm
      case u2N => k_asm
      case u2d => (show dp + 1 + 5 < recursionLimit; omega)
      case u2u => (show un + 3 + 20 * 5 < cLine; omega)
      case u20 => ((try dsimp only); omega)
      case u2p => exact ⟨_, (N6 _ List.mem_cons_self).1, rfl, _, rfl⟩
      intro v2 hh2 tkk2 FF2 NN2 kp2 lek2 ⟨t2, e2, ht2⟩
      have ecnt : ((((rowsFrom d i (j + 1)).take (d i + 3)).count 46 : Nat) : Int) = ((d i : Nat) : Int) := congrArg Int.ofNat (row_count hi10 _)
      rw [e2, ecnt]
      clear e2 ecnt
      try dsimp only
      iterate 4 first | (k_unfold; (try dsimp only)) | walk1 | (dsimp only; walk1) | skip
      iterate 14 first | (k_unfold; (try dsimp only)) | walk1 | (dsimp only; walk1) | skip
      rename News _ _ _ _ => N8
      rw [pick_mid _ _ hlen3] at N8
      iterate 9 first | (k_unfold; (try dsimp only)) | walk1 | (dsimp only; walk1) | skip
      refine' ne_intsK ?m1 hmid ?m3 ?m4 ?m5 ?_
      case m1 => is_list
      case m3 => is_list
      case m4 => exact .cons _ _ (.cons _ _ (.cons _ _ .nil))
      case m5 => (show un + 3 + 64 < cLine; omega)
      rw [show (!decide (([due (1 + (i : Int)), 13, 10] : List Int) = [(1 + (i : Int)) * ([65, 4161, 266305] : List Int).getD ((1 + (i : Int)).fmod 3).toNat 0, 13, 10])) = false from by simp [due]]
      walk_at "go20"
      iterate 14 first | (k_unfold; (try dsimp only)) | walk1 | (dsimp only; walk1) | skip
      rename News _ _ _ _ => N9
      rw [pick_rest] at N9
      walk_at "go10"
      rename Fr _ _ _ _ => F9
      rename News _ _ _ _ => N10
      exact countsJ_next hj hi10 hvi hcv F9 N10 (by k_mem) (by k_mem) (by k_mem) rfl hm2 (fun e => by omega) hIL (fun e => by omega) (by omega)
    · walk_at "go20"
      walk_at "go20"
      rename News _ _ _ _ => N0
      refine' Pure.use (c_index w mean mg mb li vi (rowsFrom d i (j + 1)) 13 _ tk3 hvi (by omega) (by omega) (row_mem _)) ?u41A ?u41h ?u41f ?u41k B ?u41F X ?u41N T ?u41d ?u41u ?u410 ?u41p ?_
      case u41A => rfl
      case u41h => rfl
      case u41f => rfl
      case u41k => rfl
      case u41F => k_asm
      case u41N => k_asm
      case u41d => (show dp + 1 + 5 < recursionLimit; omega)
      case u41u => (show un + 3 + 20 * 5 < cLine; omega)
      case u410 => ((try dsimp only); omega)
      case u41p => exact (by is_list)
      intro v hh1 tkk1 FF1 NN1 kp1 lek1 ⟨t1, e1, ht1⟩
      have eidx : ((rowsFrom d i (j + 1)).idxOf 13 : Int) = ((d i + 1 : Nat) : Int) := congrArg Int.ofNat (row_idx hi10 _)
      rw [e1, eidx]
      clear e1 eidx
      try dsimp only
      walk_at "go20"
      iterate 7 first | (k_unfold; (try dsimp only)) | walk1 | (dsimp only; walk1) | skip
      rename News _ _ _ _ => N6
      rw [pick_up] at N6
      refine' Pure.use (c_count w mean mg mb _ (vi.take (d i + 3)) ((rowsFrom d i (j + 1)).take (d i + 3)) 46 _ tk3 (hvi.take _) (by omega) (by omega)) ?u42A ?u42h ?u42f ?u42k B ?u42F X ?u42N T ?u42d ?u42u ?u420 ?u42p ?_
      case u42A => rfl
      case u42h => rfl
      case u42f => rfl
      case u42k => rfl
      case u42F => k_asm
      case u42N => k_asm
      case u42d => (show dp + 1 + 5 < recursionLimit; omega)
      case u42u => (show un + 3 + 20 * 5 < cLine; omega)
      case u420 => ((try dsimp only); omega)
      case u42p => exact ⟨_, (N6 _ List.mem_cons_self).1, rfl, _, rfl⟩
      intro v2 hh2 tkk2 FF2 NN2 kp2 lek2 ⟨t2, e2, ht2⟩
      have ecnt : ((((rowsFrom d i (j + 1)).take (d i + 3)).count 46 : Nat) : Int) = ((d i : Nat) : Int) := congrArg Int.ofNat (row_count hi10 _)
      rw [e2, ecnt]
      clear e2 ecnt
      try dsimp only
      iterate 4 first | (k_unfold; (try dsimp only)) | walk1 | (dsimp only; walk1) | skip
      iterate 14 first | (k_unfold; (try dsimp only)) | walk1 | (dsimp only; walk1) | skip
      rename News _ _ _ _ => N8
      rw [pick_mid _ _ hlen3] at N8
      iterate 9 first | (k_unfold; (try dsimp only)) | walk1 | (dsimp only; walk1) | skip
      refine' ne_intsK ?m1 hmid ?m3 ?m4 ?m5 ?_
      case m1 => is_list
      case m3 => is_list
      case m4 => exact .cons _ _ (.cons _ _ (.cons _ _ .nil))
      case m5 => (show un + 3 + 64 < cLine; omega)
      rw [show (!decide (([due (1 + (i : Int)), 13, 10] : List Int) = [(1 + (i : Int)) * ([65, 4161, 266305] : List Int).getD ((1 + (i : Int)).fmod 3).toNat 0, 13, 10])) = false from by simp [due]]
      walk_at "go20"
      iterate 14 first | (k_unfold; (try dsimp only)) | walk1 | (dsimp only; walk1) | skip
      rename News _ _ _ _ => N9
      rw [pick_rest] at N9
      walk_at "go10"
      rename Fr _ _ _ _ => F9
      rename News _ _ _ _ => N10
      exact countsJ_next hj hi10 hvi hcv F9 N10 (by k_mem) (by k_mem) (by k_mem) rfl hm2 (fun e => by omega) hIL (fun e => by omega) (by omega)
  case done =>
    rintro m₁ news₁ h3 tk3 E' hle ⟨li, Lc, vi, cv, c, hm1, hm2, hvi, hcv, hnw⟩ F5 N5
    have hvi2 : IntsAre vi [13, 10, 46, 46] := hvi.ints
    rcases hnw with ⟨rfl, hli⟩ | ⟨c2, rfl, hne⟩
    · walk_at "go20"
      walk_at "go10"
      try dsimp only
      rename Fr _ _ _ _ => F9
      rename News _ _ _ _ => N9
      exact hret _ _ _ (Fr.keep F9) ⟨Lc, cv, c, rfl, (N9 (Lc, W.listOf cv.toArray c) (by k_mem)).1, (N9 (Lc, W.listOf cv.toArray c) (by k_mem)).2.2, hcv⟩
    · walk_at "go20"
      walk_at "go10"
      try dsimp only
      rename Fr _ _ _ _ => F9
      rename News _ _ _ _ => N9
      exact hret _ _ _ (Fr.keep F9) ⟨Lc, cv, c, rfl, (N9 (Lc, W.listOf cv.toArray c) (by k_mem)).1, (N9 (Lc, W.listOf cv.toArray c) (by k_mem)).2.2, hcv⟩
end
section
set_option maxRecDepth 100000
set_option maxHeartbeats 4000000
/-- line ends told as 13, 10; b: a 13 stood just before -/
noncomputable def crlfG : Bool → List Nat → List Nat
  | _, [] => []
  | b, c :: r => if c = 10 then (if b then crlfG false r else 13 :: 10 :: crlfG false r) else if c = 13 then 13 :: 10 :: crlfG true r else c :: crlfG false r
/-- a dot at a line's start doubled; b: at a line's start -/
noncomputable def dotsG : Bool → List Nat → List Nat
  | _, [] => []
  | b, c :: r => if b = true ∧ c = 46 then 46 :: 46 :: dotsG false r else c :: dotsG (decide (c = 10)) r
theorem crlfG_plain : ∀ (a r : List Nat), (∀ x ∈ a, x ≠ 10 ∧ x ≠ 13) → crlfG false (a ++ r) = a ++ crlfG false r
  | [], r, _ => rfl
  | c :: a, r, h => by
    have hc := h c List.mem_cons_self
    show crlfG false (c :: (a ++ r)) = _
    rw [crlfG, if_neg hc.1, if_neg hc.2, crlfG_plain a r fun x hx => h x (List.mem_cons_of_mem _ hx)]
    rfl
theorem crlfG_tf {r : List Nat} (h : r.head? ≠ some 10) : crlfG true r = crlfG false r := by
  cases r with
  | nil => rfl
  | cons c r =>
    have hc : c ≠ 10 := fun e => h (by rw [e]; rfl)
    rw [crlfG, crlfG, if_neg hc, if_neg hc]
theorem drop_split (t : Array Nat) (d p : Nat) (h : d ≤ p) (hp : p ≤ t.size) : t.toList.drop d = (t.extract d p).toList ++ t.toList.drop p := by
  rw [Array.toList_extract, List.extract_eq_drop_take]
  have e : t.toList.drop p = (t.toList.drop d).drop (p - d) := by rw [List.drop_drop]; congr 1; omega
  rw [e, List.take_append_drop]
theorem mem_ext {t : Array Nat} {d p x : Nat} (h : x ∈ (t.extract d p).toList) : ∃ i, d ≤ i ∧ i < p ∧ i < t.size ∧ t.getD i 0 = x := by
  rw [Array.toList_extract, List.extract_eq_drop_take] at h
  obtain ⟨j, hj⟩ := List.mem_iff_getElem?.mp h
  rw [List.getElem?_take] at hj
  by_cases q : j < p - d
  · rw [if_pos q, List.getElem?_drop, Array.getElem?_toList] at hj
    have hs : d + j < t.size := (Array.getElem?_eq_some_iff.mp hj).1
    exact ⟨d + j, by omega, by omega, hs, by rw [Array.getD_eq_getD_getElem?, hj]; rfl⟩
  · rw [if_neg q] at hj; cases hj
theorem drop_cons {t : Array Nat} {p : Nat} (hp : p < t.size) : t.toList.drop p = t.getD p 0 :: t.toList.drop (p + 1) := by
  rw [List.drop_eq_getElem_cons (by simpa using hp)]
  congr 1
  simp [hp]
theorem findB_none (t : Array Nat) : ∀ (n d : Nat), t.size < n + d → findB t n d = none → ∀ i, d ≤ i → i < t.size → ¬ (t.getD i 0 = 10 ∨ t.getD i 0 = 13)
  | 0, d, hn, h, i, h1, h2 => by omega
  | n + 1, d, hn, h, i, h1, h2 => by
    unfold findB at h
    by_cases hs : d ≥ t.size
    · omega
    · rw [if_neg hs] at h
      by_cases hc : t.getD d 0 = 10 ∨ t.getD d 0 = 13
      · rw [if_pos hc] at h; cases h
      · rw [if_neg hc] at h
        by_cases q : i = d
        · subst q; exact hc
        · exact findB_none t n (d + 1) (by omega) h i (by omega) h2
theorem crlf_is (t : Array Nat) : ∀ (n d : Nat), t.size ≤ n + d → subF find2 t [13, 10] n d = crlfG false (t.toList.drop d) := by
  intro n
  induction n with
  | zero =>
    intro d hd
    rw [List.drop_eq_nil_of_le (by simpa using hd)]
    show (t.extract d t.size).toList = []
    rw [Array.toList_extract, List.extract_eq_drop_take, List.drop_eq_nil_of_le (by simpa using hd), List.take_nil]
  | succ n ih =>
    intro d hd
    unfold subF
    cases h : find2 t d with
    | none =>
      have hno : ∀ i, d ≤ i → i < t.size → ¬ (t.getD i 0 = 10 ∨ t.getD i 0 = 13) := by
        intro i h1 h2
        unfold find2 at h
        by_cases q : d < t.size
        · rw [if_pos q, Option.map_eq_none_iff] at h
          exact findB_none t _ d (by omega) h i h1 h2
        · omega
      show (t.extract d t.size).toList = _
      by_cases q : d ≤ t.size
      · have e := drop_split t d t.size q (Nat.le_refl _)
        have e0 : t.toList.drop t.size = [] := List.drop_eq_nil_of_le (by simp)
        rw [e0, List.append_nil] at e
        rw [e]
        have z := crlfG_plain (t.extract d t.size).toList [] fun x hx => by
          obtain ⟨i, a, b, c, e⟩ := mem_ext hx
          have := hno i a b
          rw [e] at this
          exact ⟨fun q => this (.inl q), fun q => this (.inr q)⟩
        rw [List.append_nil] at z
        rw [z]
        simp [crlfG]
      · rw [List.drop_eq_nil_of_le (by simp; omega), Array.toList_extract, List.extract_eq_drop_take, List.drop_eq_nil_of_le (by simp; omega), List.take_nil]
        rfl
    | some pe =>
      obtain ⟨p, e⟩ := pe
      unfold find2 at h
      by_cases q : d < t.size
      · rw [if_pos q, Option.map_eq_some_iff] at h
        obtain ⟨p', h1, h2⟩ := h
        injection h2 with h2 h3
        subst h2 h3
        obtain ⟨a, b, c, f⟩ := findB_spec t _ d p' h1
        show (t.extract d p').toList ++ [13, 10] ++ subF find2 t [13, 10] n (endB t p') = _
        have he : p' < endB t p' ∧ endB t p' ≤ p' + 2 := by
          unfold endB
          by_cases g : t.getD p' 0 = 13 ∧ p' + 1 < t.size ∧ t.getD (p' + 1) 0 = 10
          · rw [if_pos g]; exact ⟨by omega, Nat.le_refl _⟩
          · rw [if_neg g]; exact ⟨by omega, by omega⟩
        rw [ih _ (by omega), drop_split t d p' a (Nat.le_of_lt b), crlfG_plain _ _ fun x hx => by
          obtain ⟨i, a1, b1, c1, e1⟩ := mem_ext hx
          have := f i a1 b1
          rw [e1] at this
          exact ⟨fun q => this (.inl q), fun q => this (.inr q)⟩]
        rw [List.append_assoc, drop_cons b]
        congr 1
        rcases c with c | c
        · rw [c, crlfG, if_pos rfl, show endB t p' = p' + 1 by unfold endB; rw [if_neg (by omega)]]
          rfl
        · rw [c, crlfG, if_neg (by decide), if_pos rfl]
          by_cases g : p' + 1 < t.size ∧ t.getD (p' + 1) 0 = 10
          · rw [show endB t p' = p' + 2 by unfold endB; rw [if_pos ⟨c, g⟩], drop_cons g.1, g.2, crlfG, if_pos rfl]
            rfl
          · rw [show endB t p' = p' + 1 by unfold endB; rw [if_neg (fun z => g z.2)], crlfG_tf]
            · rfl
            · intro z
              by_cases g1 : p' + 1 < t.size
              · rw [drop_cons g1] at z
                exact g ⟨g1, Option.some.inj z⟩
              · rw [List.drop_eq_nil_of_le (by simp; omega)] at z
                cases z
      · rw [if_neg q] at h; cases h
theorem crlf_eq (x : Str) : (crlf x).cps.toList = crlfG false x.cps.toList := by
  show (subF find2 x.cps [13, 10] x.cps.size 0).toArray.toList = _
  rw [crlf_is x.cps x.cps.size 0 (by omega)]
  simp
theorem findA_none (t : Array Nat) : ∀ (n d : Nat), t.size < n + d → findA t n d = none → ∀ i, d ≤ i → i < t.size → condA t i = false
  | 0, d, hn, h, i, h1, h2 => by omega
  | n + 1, d, hn, h, i, h1, h2 => by
    unfold findA at h
    by_cases hc : condA t d = true
    · rw [if_pos hc] at h; cases h
    · rw [if_neg hc] at h
      by_cases q : i = d
      · subst q; simpa using hc
      · exact findA_none t n (d + 1) (by omega) h i (by omega) h2
/-- is d a line's start -/
noncomputable def startA (t : Array Nat) (d : Nat) : Bool := d == 0 || t.getD (d - 1) 0 == 10
theorem dots_step (t : Array Nat) : ∀ (k d : Nat), d + k ≤ t.size → (∀ i, d ≤ i → i < d + k → condA t i = false) → dotsG (startA t d) (t.toList.drop d) = (t.extract d (d + k)).toList ++ dotsG (startA t (d + k)) (t.toList.drop (d + k))
  | 0, d, h, hc => by
    rw [show d + 0 = d by omega, Array.toList_extract, List.extract_eq_drop_take, show d - d = 0 by omega, List.take_zero]
    rfl
  | k + 1, d, h, hc => by
    have hd : d < t.size := by omega
    have h0 := hc d (Nat.le_refl _) (by omega)
    have z := dots_step t k (d + 1) (by omega) fun i a b => hc i (by omega) (by omega)
    have e : (t.extract d (d + (k + 1))).toList = t.getD d 0 :: (t.extract (d + 1) (d + 1 + k)).toList := by
      rw [Array.toList_extract, Array.toList_extract, List.extract_eq_drop_take, List.extract_eq_drop_take, drop_cons hd, show d + (k + 1) - d = k + 1 by omega, show d + 1 + k - (d + 1) = k by omega, List.take_succ_cons]
    rw [e, drop_cons hd, dotsG, if_neg, show d + (k + 1) = d + 1 + k by omega, List.cons_append, ← z]
    · congr 2
    · rintro ⟨a, b⟩
      unfold condA at h0
      unfold startA at a
      rw [a, b] at h0
      simp [hd] at h0
theorem dots_is (t : Array Nat) : ∀ (n d : Nat), t.size ≤ n + d → d ≤ t.size → subF find1 t [46, 46] n d = dotsG (startA t d) (t.toList.drop d) := by
  intro n
  induction n with
  | zero =>
    intro d hd hd2
    rw [List.drop_eq_nil_of_le (by simpa using hd)]
    show (t.extract d t.size).toList = []
    rw [Array.toList_extract, List.extract_eq_drop_take, List.drop_eq_nil_of_le (by simpa using hd), List.take_nil]
  | succ n ih =>
    intro d hd hd2
    unfold subF
    cases h : find1 t d with
    | none =>
      show (t.extract d t.size).toList = _
      have hno : ∀ i, d ≤ i → i < t.size → condA t i = false := by
        intro i h1 h2
        unfold find1 at h
        rw [if_pos (by omega), Option.map_eq_none_iff] at h
        exact findA_none t _ d (by omega) h i h1 h2
      have z := dots_step t (t.size - d) d (by omega) fun i a b => hno i a (by omega)
      have e0 : t.toList.drop t.size = [] := List.drop_eq_nil_of_le (by simp)
      rw [z, show d + (t.size - d) = t.size by omega, e0]
      simp [dotsG]
    | some pe =>
      obtain ⟨p, e⟩ := pe
      unfold find1 at h
      by_cases q : d < t.size
      · rw [if_pos q, Option.map_eq_some_iff] at h
        obtain ⟨p', h1, h2⟩ := h
        injection h2 with h2 h3
        subst h2 h3
        obtain ⟨a, b, c⟩ := findA_spec t _ d p' h1
        have b' := b
        unfold condA at b'
        simp only [Bool.and_eq_true, decide_eq_true_eq] at b'
        obtain ⟨b1, b2, b3⟩ := b'
        show (t.extract d p').toList ++ [46, 46] ++ subF find1 t [46, 46] n (p' + 1) = _
        have z := dots_step t (p' - d) d (by omega) fun i x y => c i x (by omega)
        rw [show d + (p' - d) = p' by omega] at z
        rw [z, ih _ (by omega) (by omega), List.append_assoc]
        congr 1
        have b4 : t.getD p' 0 = 46 := by simpa using b3
        have e1 : startA t (p' + 1) = false := by
          unfold startA
          rw [show p' + 1 - 1 = p' by omega, b4]
          rfl
        rw [e1, drop_cons b2, dotsG, if_pos ⟨b1, b4⟩]
        rfl
      · rw [if_neg q] at h; cases h
theorem dots_eq (x : Str) : (dots x).cps.toList = dotsG true x.cps.toList := by
  show (subF find1 x.cps [46, 46] x.cps.size 0).toArray.toList = _
  rw [dots_is x.cps x.cps.size 0 (by omega) (Nat.zero_le _)]
  simp [startA]
end
section
set_option maxRecDepth 100000
set_option maxHeartbeats 4000000
open Builtin Builtin.Str StrLaws
noncomputable def crlfS : Str := Str.ofString "\r\n"
theorem crlfS_cps : crlfS.cps = #[13, 10] := by decide
theorem crlfS_len : crlfS.length = 2 := by decide
noncomputable def joinL : List (List Nat) → List Nat
  | [] => []
  | [p] => p
  | p :: q :: r => p ++ 13 :: 10 :: joinL (q :: r)
noncomputable def cutsL : Nat → List (List Nat) → List Nat
  | _, [] => []
  | _, [p] => []
  | i, p :: q :: r => (i + p.length) :: cutsL (i + p.length + 2) (q :: r)
/-- a separator of two signs -/
structure Sep2 (sp : Str) (a b : Nat) : Prop where
  cps : sp.cps = #[a, b]
  kind : PySem.Builtin.Str.strKind sp = 1
theorem Sep2.len {sp : Str} {a b : Nat} (h : Sep2 sp a b) : sp.length = 2 := by
  show sp.cps.size = 2
  rw [h.cps]; rfl
noncomputable def joinG (a b : Nat) : List (List Nat) → List Nat
  | [] => []
  | [p] => p
  | p :: q :: r => p ++ a :: b :: joinG a b (q :: r)
theorem joinG_is : ∀ r, joinG 13 10 r = joinL r
  | [] => rfl
  | [p] => rfl
  | p :: q :: r => by rw [joinG, joinL, joinG_is (q :: r)]
section
variable {sp : Str} {a b : Nat}
noncomputable def occF (sp x : Str) (lim : Nat) (st : Array Nat × Nat) (i : Nat) : Array Nat × Nat :=
  if ((st.fst.size < lim ∧ st.snd ≤ i) ∧ i + sp.length ≤ x.length) ∧ subAt x sp i = true then (st.fst.push i, i + sp.length) else st
theorem occ_fold (x : Str) (lim : Nat) : occurrences x sp 0 x.length lim = ((List.range' 0 (x.length + 1)).foldl (occF sp x lim) (#[], 0)).1.toList := by
  rw [occ_eq]
  have e : (occBody x sp x.length lim : Nat → Array Nat × Nat → Id (ForInStep (Array Nat × Nat))) = fun i st => pure (ForInStep.yield (occF sp x lim st i)) := by
    funext i st
    unfold occBody occF
    split <;> rfl
  rw [e]
  simp only [List.forIn_pure_yield_eq_foldl]
  rfl
theorem fold_none (x : Str) (lim : Nat) : ∀ (l : List Nat) (st : Array Nat × Nat), (∀ i ∈ l, ¬ (st.2 ≤ i ∧ subAt x sp i = true)) → l.foldl (occF sp x lim) st = st
  | [], st, _ => rfl
  | i :: l, st, h => by
    have h0 := h i List.mem_cons_self
    have e : occF sp x lim st i = st := by unfold occF; rw [if_neg (fun z => h0 ⟨z.1.1.2, z.2⟩)]
    rw [List.foldl_cons, e]
    exact fold_none x lim l st fun j hj => h j (List.mem_cons_of_mem _ hj)
theorem joinG_len : ∀ (q : List Nat) (r : List (List Nat)), (q :: r).length ≤ (joinG a b (q :: r)).length + 1
  | q, [] => by simp
  | q, p :: r => by
    have := joinG_len p r
    simp only [joinG, List.length_append, List.length_cons] at this ⊢
    omega
theorem len3 (pre p : List Nat) : (pre ++ p ++ [a, b]).length = pre.length + p.length + 2 := by simp only [List.length_append, List.length_cons, List.length_nil]
theorem between_is (x : Str) : ∀ (r : List (List Nat)) (p pre : List Nat), x.cps.toList = pre ++ joinG a b (p :: r) →
    ((pre.length :: (cutsL pre.length (p :: r)).map (· + 2)).zip (cutsL pre.length (p :: r) ++ [x.length])).map (fun ij => strSub x ij.1 ij.2) = (p :: r).map fun y => (⟨y.toArray⟩ : Str)
  | [], p, pre, hx => by
    have hlen : x.length = pre.length + p.length := by
      have := congrArg List.length hx
      rw [Array.length_toList] at this
      show x.cps.size = _
      rw [this]; simp [joinG]
    simp only [cutsL, List.map_nil, List.nil_append, List.zip_cons_cons, List.zip_nil_right, List.map_cons]
    congr 1
    unfold strSub
    congr 1
    apply Array.ext'
    rw [Array.toList_extract, List.extract_eq_drop_take, hx, joinG, hlen]
    simp
  | q :: r, p, pre, hx => by
    have z := between_is x r q (pre ++ p ++ [a, b]) (by rw [hx]; simp [joinG])
    rw [len3 pre p] at z
    simp only [cutsL, List.map_cons, List.cons_append, List.zip_cons_cons]
    rw [List.map_cons] at z
    rw [z]
    congr 1
    unfold strSub
    congr 1
    apply Array.ext'
    rw [Array.toList_extract, List.extract_eq_drop_take, hx, joinG]
    simp
variable (hs : Sep2 sp a b)
include hs
theorem subAt_iff (x : Str) (i : Nat) : subAt x sp i = true ↔ (x.cps.toList.drop i).take 2 = [a, b] := by
  unfold subAt
  rw [hs.len, hs.cps, beq_iff_eq]
  constructor
  · intro h
    have := congrArg Array.toList h
    rw [Array.toList_extract, List.extract_eq_drop_take, show i + 2 - i = 2 by omega] at this
    exact this
  · intro h
    apply Array.ext'
    rw [Array.toList_extract, List.extract_eq_drop_take, show i + 2 - i = 2 by omega]
    exact h
theorem cuts_is (x : Str) (lim : Nat) : ∀ (r : List (List Nat)) (p pre : List Nat) (st : Array Nat × Nat), x.cps.toList = pre ++ joinG a b (p :: r) → (∀ y ∈ p :: r, a ∉ y) → st.2 ≤ pre.length → st.1.size + r.length < lim →
    ((List.range' pre.length (x.length + 1 - pre.length)).foldl (occF sp x lim) st).1.toList = st.1.toList ++ cutsL pre.length (p :: r)
  | [], p, pre, st, hx, hna, hfree, hlim => by
    rw [fold_none (sp := sp)]
    · simp [cutsL]
    · rintro i hi ⟨_, h⟩
      rw [subAt_iff hs, hx, joinG] at h
      have hi1 : pre.length ≤ i := by
        have := List.mem_range'.mp hi
        obtain ⟨k, _, rfl⟩ := this
        omega
      rw [List.drop_append, List.drop_eq_nil_of_le hi1, List.nil_append] at h
      have m : a ∈ p := List.mem_of_mem_drop (List.mem_of_mem_take (h ▸ List.mem_cons_self : a ∈ (p.drop (i - pre.length)).take 2))
      exact hna p List.mem_cons_self m
  | q :: r, p, pre, st, hx, hna, hfree, hlim => by
    have hlen : x.length = pre.length + p.length + 2 + (joinG a b (q :: r)).length := by
      have := congrArg List.length hx
      rw [Array.length_toList] at this
      show x.cps.size = _
      rw [this]
      simp only [joinG, List.length_append, List.length_cons]
      omega
    have er : List.range' pre.length (x.length + 1 - pre.length) = List.range' pre.length p.length ++ ((pre.length + p.length) :: (pre.length + p.length + 1) :: List.range' (pre.length + p.length + 2) (x.length + 1 - (pre.length + p.length + 2))) := by
      rw [show x.length + 1 - pre.length = p.length + (1 + (1 + (x.length + 1 - (pre.length + p.length + 2)))) by omega, ← List.range'_append_1, ← List.range'_append_1, ← List.range'_append_1]
      rfl
    rw [er, List.foldl_append, fold_none x lim (List.range' pre.length p.length)]
    · have hd : x.cps.toList.drop (pre.length + p.length) = a :: b :: joinG a b (q :: r) := by
        rw [hx, joinG, List.drop_append, List.drop_eq_nil_of_le (by omega), List.nil_append, show pre.length + p.length - pre.length = p.length by omega, List.drop_append, List.drop_eq_nil_of_le (Nat.le_refl _), Nat.sub_self]
        rfl
      have s1 : occF sp x lim st (pre.length + p.length) = (st.1.push (pre.length + p.length), pre.length + p.length + 2) := by
        unfold occF
        rw [if_pos, hs.len]
        refine ⟨⟨⟨by simp only [List.length_cons] at hlim; omega, by omega⟩, by rw [hs.len]; omega⟩, ?_⟩
        rw [subAt_iff hs, hd]
        rfl
      have s2 : occF sp x lim (st.1.push (pre.length + p.length), pre.length + p.length + 2) (pre.length + p.length + 1) = (st.1.push (pre.length + p.length), pre.length + p.length + 2) := by
        unfold occF
        rw [if_neg]
        rintro ⟨⟨⟨_, h⟩, _⟩, _⟩
        dsimp only at h
        omega
      rw [List.foldl_cons, s1, List.foldl_cons, s2]
      have z := cuts_is x lim r q (pre ++ p ++ [a, b]) (st.1.push (pre.length + p.length), pre.length + p.length + 2) (by rw [hx]; simp [joinG]) (fun y hy => hna y (List.mem_cons_of_mem _ hy)) (by rw [len3]; exact Nat.le_refl _) (by simp only [List.length_cons, Array.size_push] at hlim ⊢; omega)
      rw [len3 pre p] at z
      rw [z]
      simp [cutsL]
    · rintro i hi ⟨_, h⟩
      obtain ⟨k, hk, rfl⟩ := List.mem_range'.mp hi
      rw [subAt_iff hs, hx, joinG, Nat.one_mul, List.drop_append, List.drop_eq_nil_of_le (by omega), List.nil_append, show pre.length + k - pre.length = k by omega, List.drop_append_of_le_length (by omega)] at h
      have e : p.drop k = p[k] :: p.drop (k + 1) := List.drop_eq_getElem_cons hk
      rw [e] at h
      rw [List.cons_append, List.take_succ_cons] at h
      have e2 : p[k] = a := by injection h
      exact hna p List.mem_cons_self (e2 ▸ List.getElem_mem hk)
theorem split_gen (x : Str) (p q : List Nat) (r : List (List Nat)) (hx : x.cps.toList = joinG a b (p :: q :: r)) (hna : ∀ y ∈ p :: q :: r, a ∉ y) :
    Txt.split x sp = (p :: q :: r).map fun y => (⟨y.toArray⟩ : Str) := by
  have hlen : x.length = (joinG a b (p :: q :: r)).length := by rw [← hx, Array.length_toList]; rfl
  have hl2 := joinG_len (a := a) (b := b) p (q :: r)
  have occ : occurrences x sp 0 x.length (x.length + 1) = cutsL 0 (p :: q :: r) := by
    rw [occ_fold]
    have z := cuts_is hs x (x.length + 1) (q :: r) p [] (#[], 0) (by simpa using hx) hna (Nat.le_refl _) (by simp only [List.length_cons] at hl2 ⊢; show 0 + _ < _; omega)
    simpa using z
  unfold Txt.split
  rw [if_neg, occ, if_neg, hs.len]
  · have z := between_is (a := a) (b := b) x (q :: r) p [] (by simpa using hx)
    unfold partsBetween
    simpa using z
  · simp [cutsL]
  · have h1 : ¬ x.length < sp.length := by
      rw [hs.len, hlen]
      simp only [joinG, List.length_append, List.length_cons]
      omega
    have h2 := hs.kind
    have h3 : 1 ≤ PySem.Builtin.Str.strKind x := by unfold PySem.Builtin.Str.strKind; split; exact Nat.le_refl _; split <;> decide
    simp only [h1, decide_false, Bool.false_or, decide_eq_true_eq]
    omega
theorem split_one (x : Str) (hna : a ∉ x.cps.toList) : Txt.split x sp = [x] := by
  have occ : occurrences x sp 0 x.length (x.length + 1) = [] := by
    rw [occ_fold, fold_none]
    rintro i hi ⟨_, h⟩
    rw [subAt_iff hs] at h
    exact hna (List.mem_of_mem_drop (List.mem_of_mem_take (h ▸ List.mem_cons_self : a ∈ (x.cps.toList.drop i).take 2)))
  unfold Txt.split
  split
  · rfl
  · rw [occ]; rfl
end
theorem crlfS_sep : Sep2 crlfS 13 10 := ⟨crlfS_cps, by decide +kernel⟩
theorem split_is (x : Str) (p q : List Nat) (r : List (List Nat)) (hx : x.cps.toList = joinL (p :: q :: r)) (h13 : ∀ y ∈ p :: q :: r, 13 ∉ y) :
    Txt.split x crlfS = (p :: q :: r).map fun y => (⟨y.toArray⟩ : Str) := split_gen crlfS_sep x p q r (by rw [joinG_is]; exact hx) h13
end
section
set_option maxRecDepth 100000
set_option maxHeartbeats 4000000
noncomputable def dotL : List Nat → List Nat
  | [] => []
  | c :: r => if c = 46 then 46 :: 46 :: r else c :: r
theorem dotsG_plain : ∀ (a r : List Nat), (∀ x ∈ a, x ≠ 10) → dotsG false (a ++ r) = a ++ dotsG false r
  | [], r, _ => rfl
  | c :: a, r, h => by
    have hc := h c List.mem_cons_self
    show dotsG false (c :: (a ++ r)) = _
    rw [dotsG, if_neg (by simp), decide_eq_false hc, dotsG_plain a r fun x hx => h x (List.mem_cons_of_mem _ hx)]
    rfl
theorem dots_line (L r : List Nat) (h : ∀ x ∈ L, x ≠ 10) : dotsG true (L ++ 13 :: 10 :: r) = dotL L ++ 13 :: 10 :: dotsG true r := by
  have e : ∀ r, dotsG false (13 :: 10 :: r) = 13 :: 10 :: dotsG true r := fun r => by
    rw [dotsG, if_neg (by simp), dotsG, if_neg (by simp)]
    rfl
  cases L with
  | nil =>
    show dotsG true (13 :: 10 :: r) = _
    rw [dotsG, if_neg (by simp), dotsG, if_neg (by simp)]
    rfl
  | cons c L =>
    have hc := h c List.mem_cons_self
    have z := dotsG_plain L (13 :: 10 :: r) fun x hx => h x (List.mem_cons_of_mem _ hx)
    rw [e] at z
    show dotsG true (c :: (L ++ 13 :: 10 :: r)) = _
    rw [dotsG]
    by_cases q : c = 46
    · rw [if_pos ⟨rfl, q⟩, z]
      simp [dotL, q]
    · rw [if_neg (fun w => q w.2), decide_eq_false hc, z]
      simp [dotL, q]
theorem crlf_line (L e r : List Nat) (hL : ∀ x ∈ L, x ≠ 10 ∧ x ≠ 13) (he : e = [10] ∨ e = [13] ∨ e = [13, 10]) (hr : r.head? ≠ some 10) : crlfG false (L ++ e ++ r) = L ++ 13 :: 10 :: crlfG false r := by
  rw [List.append_assoc, crlfG_plain L _ hL]
  congr 1
  rcases he with rfl | rfl | rfl
  · show crlfG false (10 :: r) = _
    rw [crlfG, if_pos rfl]
    rfl
  · show crlfG false (13 :: r) = _
    rw [crlfG, if_neg (by decide), if_pos rfl, crlfG_tf hr]
  · show crlfG false (13 :: 10 :: r) = _
    rw [crlfG, if_neg (by decide), if_pos rfl, crlfG, if_pos rfl]
    rfl
theorem joinL_cons (a : List Nat) : ∀ (r : List (List Nat)), r ≠ [] → joinL (a :: r) = a ++ 13 :: 10 :: joinL r
  | [], h => absurd rfl h
  | q :: r, _ => rfl
noncomputable def mailL (ls : List (List Nat × List Nat)) : List Nat := ls.flatMap fun p => p.1 ++ p.2
noncomputable def LineOk (p : List Nat × List Nat) : Prop := p.1 ≠ [] ∧ (∀ x ∈ p.1, x ≠ 10 ∧ x ≠ 13) ∧ (p.2 = [10] ∨ p.2 = [13] ∨ p.2 = [13, 10])
theorem mail_head : ∀ (ls : List (List Nat × List Nat)), (∀ p ∈ ls, LineOk p) → (mailL ls ++ [13, 46]).head? ≠ some 10
  | [], _ => by simp [mailL]
  | p :: ls, h => by
    obtain ⟨h1, h2, _⟩ := h p List.mem_cons_self
    obtain ⟨L, e⟩ := p
    cases L with
    | nil => exact absurd rfl h1
    | cons c L =>
      intro z
      have q : c = 10 := by simpa [mailL] using z
      exact (h2 c List.mem_cons_self).1 q
theorem send_is : ∀ (ls : List (List Nat × List Nat)), (∀ p ∈ ls, LineOk p) → dotsG true (crlfG false (mailL ls ++ [13, 46])) = joinL (ls.map (fun p => dotL p.1) ++ [[], [46, 46]])
  | [], _ => by decide
  | p :: ls, h => by
    obtain ⟨h1, h2, h3⟩ := h p List.mem_cons_self
    have hr := fun q hq => h q (List.mem_cons_of_mem _ hq)
    have e : mailL (p :: ls) ++ [13, 46] = p.1 ++ p.2 ++ (mailL ls ++ [13, 46]) := by simp [mailL]
    rw [e, crlf_line _ _ _ h2 h3 (mail_head ls hr), dots_line _ _ fun x hx => (h2 x hx).1, send_is ls hr, List.map_cons, List.cons_append, joinL_cons _ _ (by simp)]
theorem sent_is (x : Str) (ls : List (List Nat × List Nat)) (h : ∀ p ∈ ls, LineOk p) (hx : x.cps.toList = mailL ls ++ [13, 46]) : (dots (crlf x)).cps.toList = joinL (ls.map (fun p => dotL p.1) ++ [[], [46, 46]]) := by
  rw [dots_eq, crlf_eq, hx, send_is ls h]
end
section
set_option maxRecDepth 100000
set_option maxHeartbeats 4000000
/-- a row's signs behind its dots -/
noncomputable def tl (n : Nat) : List Nat := (64 + n) :: (List.replicate (n % 3) (192 + n) ++ [128 + n])
/-- the row of the place i with k dots -/
noncomputable def rowL (i k : Nat) : List Nat := List.replicate k 46 ++ tl (i + 1)
noncomputable def rowsL (d : Nat → Nat) : Nat → Nat → List (List Nat)
  | i, 0 => [[], [46, 46]]
  | i, n + 1 => rowL i (d i) :: rowsL d (i + 1) n
noncomputable def gsFrom (d : Nat → Nat) : Nat → Nat → List (List Nat)
  | i, 0 => [[13], [10], [46], [46]]
  | i, n + 1 => List.replicate (d i) [46] ++ (tl (i + 1) :: [13] :: [10] :: gsFrom d (i + 1) n)
theorem rowsL_ne (d : Nat → Nat) : ∀ (n i : Nat), rowsL d i n ≠ []
  | 0, i => by simp [rowsL]
  | n + 1, i => by simp [rowsL]
theorem flat_rep (k : Nat) : (List.replicate k [46]).flatten = List.replicate k 46 := by
  induction k with
  | zero => rfl
  | succ k ih => rw [List.replicate_succ, List.replicate_succ, List.flatten_cons, ih]; rfl
theorem gs_flat (d : Nat → Nat) : ∀ (n i : Nat), (gsFrom d i n).flatten = joinL (rowsL d i n)
  | 0, i => by simp [gsFrom, rowsL, joinL]
  | n + 1, i => by
    rw [gsFrom, rowsL, joinL_cons _ _ (rowsL_ne d n (i + 1)), List.flatten_append, flat_rep, List.flatten_cons, List.flatten_cons, List.flatten_cons, gs_flat d n (i + 1), rowL]
    simp
theorem gs_ok1 : ∀ c ∈ [46, 13, 10], GroupOk [c] := by
  intro c hc
  have h : c < 256 ∧ c / 64 % 2 = 0 := by
    simp only [List.mem_cons, List.not_mem_nil, or_false] at hc
    rcases hc with rfl | rfl | rfl <;> decide
  refine ⟨by simp, by simp, fun x hx => ?_, fun i hi => ?_, ?_⟩
  · rw [List.mem_singleton.mp hx]; exact h.1
  · simp at hi
  · exact h.2
theorem tl_len (n : Nat) : (tl n).length = n % 3 + 2 := by simp [tl]
theorem tl_chk : ∀ i, i < 10 → (∀ x ∈ tl (i + 1), x < 256) ∧ (∀ j, j < (tl (i + 1)).length - 1 → ((tl (i + 1)).getD j 0) / 64 % 2 = 1) ∧ ((tl (i + 1)).getD ((tl (i + 1)).length - 1) 0) / 64 % 2 = 0 := by decide
theorem gs_ok2 (i : Nat) (hi : i < 10) : GroupOk (tl (i + 1)) := by
  obtain ⟨a, b, c⟩ := tl_chk i hi
  have := tl_len (i + 1)
  exact ⟨by omega, by omega, a, fun j hj => b j (by omega), c⟩
theorem gs_ok (d : Nat → Nat) : ∀ (n i : Nat), i + n ≤ 10 → ∀ g ∈ gsFrom d i n, GroupOk g
  | 0, i, h, g, hg => by
    simp only [gsFrom, List.mem_cons, List.not_mem_nil, or_false] at hg
    rcases hg with rfl | rfl | rfl | rfl <;> exact gs_ok1 _ (by simp)
  | n + 1, i, h, g, hg => by
    rw [gsFrom] at hg
    rcases List.mem_append.mp hg with hg | hg
    · rw [(List.mem_replicate.mp hg).2]; exact gs_ok1 _ (by simp)
    · simp only [List.mem_cons] at hg
      rcases hg with rfl | rfl | rfl | hg
      · exact gs_ok2 i (by omega)
      · exact gs_ok1 _ (by simp)
      · exact gs_ok1 _ (by simp)
      · exact gs_ok d n (i + 1) (by omega) g hg
theorem due_val : ∀ i, i < 10 → ((groupVal (tl (i + 1)) : Nat) : Int) = due (1 + (i : Int)) := by decide
theorem gs_val (d : Nat → Nat) : ∀ (n i : Nat), i + n ≤ 10 → (gsFrom d i n).map (fun g => ((groupVal g : Nat) : Int)) = rowsFrom d i n
  | 0, i, h => by
    show List.map (fun g => ((groupVal g : Nat) : Int)) [[13], [10], [46], [46]] = [13, 10, 46, 46]
    decide
  | n + 1, i, h => by
    rw [gsFrom, rowsFrom, List.map_append, List.map_cons, List.map_cons, List.map_cons, gs_val d n (i + 1) (by omega), due_val i (by omega), List.map_replicate]
    show _ = rowOf i (d i) ++ _
    rw [rowOf, List.append_assoc]
    rfl
theorem tl_plain : ∀ i, i < 10 → ∀ x ∈ tl (i + 1), x ≠ 10 ∧ x ≠ 13 ∧ x ≠ 46 := by decide
theorem rowL_plain {i : Nat} (hi : i < 10) (k : Nat) : ∀ x ∈ rowL i k, x ≠ 10 ∧ x ≠ 13 := by
  intro x hx
  rcases List.mem_append.mp hx with h | h
  · rw [(List.mem_replicate.mp h).2]; decide
  · exact ⟨(tl_plain i hi x h).1, (tl_plain i hi x h).2.1⟩
theorem rowL_dot (i k : Nat) : dotL (rowL i (k + 1)) = rowL i (k + 2) := by
  simp [rowL, List.replicate_succ, dotL]
theorem dotL_other {c : Nat} (L : List Nat) (h : c ≠ 46) : dotL (c :: L) = c :: L := by simp [dotL, h]
end
section
set_option maxRecDepth 100000
set_option maxHeartbeats 4000000
noncomputable def b3find (k : Int) : List DictEntry → Value
  | [] => .none
  | e :: r => match Value.isInt k e.key with | true => e.val | false => b3find k r
theorem b3v_list (P : Params) (k : Int) : b3v P k = b3find k (E138 P).toList := by
  unfold b3v findBy
  rw [← Array.find?_toList]
  generalize (E138 P).toList = l
  induction l with
  | nil => rfl
  | cons e r ih =>
    unfold b3find
    rw [List.find?_cons]
    cases h : Value.isInt k e.key
    · exact ih
    · rfl
noncomputable def sgChk (P : Params) (p : Str × Str) : Bool := match p.1.cps.toList with
  | [c] => decide (c < 1114112) && decide (p.2.length ≤ 3) && (p.2.cps.toList.all fun x => x != 46 && x != 10 && x != 13) && (if p.2.length = 0 then b1s c else !b1s c && (match b3find c (E138 P).toList with | .str r _ => r == p.2 | .none => Txt.lower ⟨#[c]⟩ == p.2 | _ => false))
  | _ => false
theorem sg_all (P : Params) : (signs.all (sgChk P)) = true := by kernel_rfl
theorem sign_facts (P : Params) {a d : Str} (h : (a, d) ∈ signs) : ∃ c : Nat, a = ⟨#[c]⟩ ∧ c < 1114112 ∧ d.length ≤ 3 ∧ (∀ x ∈ d.cps.toList, x ≠ 46 ∧ x ≠ 10 ∧ x ≠ 13) ∧
    ((d.length = 0 ∧ b1s c = true) ∨ (d.length ≠ 0 ∧ b1s c = false ∧ ((∃ t, b3v P c = .str d t) ∨ (b3v P c = .none ∧ Txt.lower ⟨#[c]⟩ = d)))) := by
  have z := List.all_eq_true.mp (sg_all P) _ h
  unfold sgChk at z
  dsimp only at z
  split at z
  · rename_i c hc
    simp only [Bool.and_eq_true, decide_eq_true_eq, List.all_eq_true, bne_iff_ne] at z
    obtain ⟨⟨⟨z1, z2⟩, z3⟩, z4⟩ := z
    refine ⟨c, ?_, z1, z2, fun x hx => ⟨(z3 x hx).1.1, (z3 x hx).1.2, (z3 x hx).2⟩, ?_⟩
    · obtain ⟨cs⟩ := a
      congr 1
      exact Array.ext' hc
    · by_cases q : d.length = 0
      · rw [if_pos q] at z4
        exact .inl ⟨q, z4⟩
      · rw [if_neg q] at z4
        simp only [Bool.and_eq_true, Bool.not_eq_true'] at z4
        refine .inr ⟨q, z4.1, ?_⟩
        have z5 := z4.2
        split at z5
        · rename_i r t e
          exact .inl ⟨t, by rw [b3v_list, e, eq_of_beq z5]⟩
        · rename_i e
          exact .inr ⟨by rw [b3v_list, e], eq_of_beq z5⟩
        · cases z5
  · cases z
end
section
set_option maxRecDepth 100000
theorem crlfG_len : ∀ (b : Bool) (a : List Nat), (crlfG b a).length ≤ 2 * a.length
  | _, [] => Nat.le_refl _
  | b, c :: r => by
    have h1 := crlfG_len false r
    have h2 := crlfG_len true r
    rw [crlfG]
    split
    · cases b <;> simp only [Bool.false_eq_true, if_false, if_true, List.length_cons] <;> omega
    · split <;> simp only [List.length_cons] <;> omega
theorem crlf_len (x : Str) : (crlf x).length ≤ 2 * x.length := by
  have h := crlfG_len false x.cps.toList
  rw [← crlf_eq] at h
  show (crlf x).cps.size ≤ 2 * x.cps.size
  simpa using h
theorem dotsG_len : ∀ (b : Bool) (a : List Nat), (dotsG b a).length ≤ 2 * a.length
  | _, [] => Nat.le_refl _
  | b, c :: r => by
    have h1 := dotsG_len false r
    have h2 := dotsG_len (decide (c = 10)) r
    rw [dotsG]
    split <;> simp only [List.length_cons] <;> omega
theorem dots_len (x : Str) : (dots x).length ≤ 2 * x.length := by
  have h := dotsG_len true x.cps.toList
  rw [← dots_eq] at h
  show (dots x).cps.size ≤ 2 * x.cps.size
  simpa using h
theorem sent_len (x : Str) : (dots (crlf x)).length ≤ 4 * x.length := by
  have h1 := dots_len (crlf x)
  have h2 := crlf_len x
  omega
theorem crlf_small {x : Str} (h : x.length ≤ 2 ^ 19) : x.length ≤ 2 ^ 20 ∧ (crlf x).length ≤ 2 ^ 20 := by
  have := crlf_len x
  exact ⟨by omega, by omega⟩
end
section
set_option maxRecDepth 100000
set_option maxHeartbeats 4000000
noncomputable def prm (i : Nat) : Nat := ([2, 3, 5, 7] : List Nat).getD i 1
/-- the primes of n below the place i, as flags -/
noncomputable def mskI (n : Nat) : Nat → Nat
  | 0 => 0
  | i + 1 => if n % prm i = 0 then mskI n i + 2 ^ i else mskI n i
noncomputable def msk (n : Nat) : Nat := mskI n 4
/-- the places of the flags of c below i -/
noncomputable def plc (c i : Nat) : List Nat := (List.range i).filter fun k => decide (c / 2 ^ k % 2 = 1)
noncomputable def rst (n : Nat) (ps : List Nat) : Nat := ps.foldl (fun r p => r / prm p) n
noncomputable def stp (ct : Nat → Int) (n c : Nat) (a : Int) : Int := if (plc c 4).length % 2 = 0 then a + ct (rst n (plc c 4) - 1) else a - ct (rst n (plc c 4) - 1)
noncomputable def lenR (ct : Nat → Int) (n : Nat) : Nat → Nat → Int → Int
  | 0, _, a => a
  | k + 1, c, a => if c = 0 then stp ct n 0 a else lenR ct n k ((c - 1) &&& msk n) (stp ct n c a)
/-- what _law_length tells -/
noncomputable def lenOf (ct : Nat → Int) (n : Nat) : Int := lenR ct n 16 (msk n) 0
theorem len1 (ct : Nat → Int) : lenOf ct 1 = 0 + ct 0 := rfl
theorem len2 (ct : Nat → Int) : lenOf ct 2 = 0 - ct 0 + ct 1 := rfl
theorem len3' (ct : Nat → Int) : lenOf ct 3 = 0 - ct 0 + ct 2 := rfl
theorem len4 (ct : Nat → Int) : lenOf ct 4 = 0 - ct 1 + ct 3 := rfl
theorem len5 (ct : Nat → Int) : lenOf ct 5 = 0 - ct 0 + ct 4 := rfl
theorem len6 (ct : Nat → Int) : lenOf ct 6 = 0 + ct 0 - ct 1 - ct 2 + ct 5 := rfl
theorem len7 (ct : Nat → Int) : lenOf ct 7 = 0 - ct 0 + ct 6 := rfl
theorem len8 (ct : Nat → Int) : lenOf ct 8 = 0 - ct 3 + ct 7 := rfl
theorem len9 (ct : Nat → Int) : lenOf ct 9 = 0 - ct 2 + ct 8 := rfl
theorem len10 (ct : Nat → Int) : lenOf ct 10 = 0 + ct 0 - ct 1 - ct 4 + ct 9 := rfl
/-- the dots that the hours 1 to D lay on the row of the place i; e d: the letters of the hour d + 1 -/
noncomputable def dotsOf (e : Nat → Nat) (i : Nat) : Nat → Nat
  | 0 => 0
  | D + 1 => dotsOf e i D + if (i + 1) % (D + 1) = 0 then e D else 0
theorem moebius (e : Nat → Nat) (n : Nat) (h : n < 10) : lenOf (fun i => ((dotsOf e i 10 : Nat) : Int)) (n + 1) = ((e n : Nat) : Int) := by
  match n, h with
  | 0, _ => rw [len1]; simp [dotsOf]
  | 1, _ => rw [len2]; simp [dotsOf]; omega
  | 2, _ => rw [len3']; simp [dotsOf]; omega
  | 3, _ => rw [len4]; simp [dotsOf]; omega
  | 4, _ => rw [len5]; simp [dotsOf]; omega
  | 5, _ => rw [len6]; simp [dotsOf]; omega
  | 6, _ => rw [len7]; simp [dotsOf]; omega
  | 7, _ => rw [len8]; simp [dotsOf]; omega
  | 8, _ => rw [len9]; simp [dotsOf]; omega
  | 9, _ => rw [len10]; simp [dotsOf]; omega
end
section
set_option maxRecDepth 100000
set_option maxHeartbeats 4000000
/-- the sign ahead of the row of the place i in the hour d -/
noncomputable def hdS (d : Nat) (sh : Str) (i : Nat) : Str := if (i + 1) % d = 0 then Str.ofString "" else sh
/-- the line ends -/
noncomputable def endsS : List Str := [Str.ofString "\n", Str.ofString "\r", Str.ofString "\r\n"]
noncomputable def mailS (d : Nat) (sh : Str) (turn : Int) (rs : List Str) (i : Nat) : Str := hdS d sh i ++ rs.getD i PySem.Str.empty ++ endsS.getD ((turn + d + i).fmod 3).toNat PySem.Str.empty
theorem str_app_cps (x y : Str) : (x ++ y).cps.toList = x.cps.toList ++ y.cps.toList := Array.toList_append ..
noncomputable def rowS (k : Nat → Nat) : List Str := (List.range 10).map fun i => ⟨(rowL i (k i)).toArray⟩
theorem rowS_len (k : Nat → Nat) : (rowS k).length = 10 := by simp [rowS]
theorem rowS_at (k : Nat → Nat) {i : Nat} (hi : i < 10) : (rowS k).getD i PySem.Str.empty = ⟨(rowL i (k i)).toArray⟩ := by
  rw [rowS, List.getD_eq_getElem?_getD, List.getElem?_map, List.getElem?_range hi]; rfl
theorem rowL_len (i k : Nat) : (rowL i k).length = k + ((i + 1) % 3 + 2) := by
  rw [rowL, List.length_append, List.length_replicate, tl_len]
theorem rowS_small {k : Nat → Nat} (hk : ∀ i, i < 10 → k i ≤ 100) : ∀ y ∈ rowS k, y.length ≤ 200 := by
  intro y hy
  obtain ⟨i, hi, rfl⟩ := List.mem_map.mp hy
  have h1 := hk i (List.mem_range.mp hi)
  show (rowL i (k i)).toArray.size ≤ 200
  rw [List.size_toArray, rowL_len]
  omega
noncomputable def hdL (d c i : Nat) : List Nat := if (i + 1) % d = 0 then [] else [c]
theorem hdS_cps (d c i : Nat) : (hdS d ⟨#[c]⟩ i).cps.toList = hdL d c i := by
  unfold hdS hdL
  split
  · rfl
  · rfl
theorem ends_at (x : Int) : ((endsS.getD (x.fmod 3).toNat PySem.Str.empty).cps.toList = [10] ∨ (endsS.getD (x.fmod 3).toNat PySem.Str.empty).cps.toList = [13] ∨ (endsS.getD (x.fmod 3).toNat PySem.Str.empty).cps.toList = [13, 10]) := by
  have h0 := Int.fmod_nonneg_of_pos x (show (0 : Int) < 3 by decide)
  have h1 := Int.fmod_lt_of_pos x (show (0 : Int) < 3 by decide)
  generalize hz : (x.fmod 3).toNat = z
  have hz3 : z < 3 := by omega
  match z, hz3 with
  | 0, _ => exact .inl (by decide)
  | 1, _ => exact .inr (.inl (by decide))
  | 2, _ => exact .inr (.inr (by decide))
/-- the lines of an hour's mail -/
noncomputable def lnL (d c : Nat) (turn : Int) (k : Nat → Nat) (i : Nat) : List Nat × List Nat := (hdL d c i ++ rowL i (k i), (endsS.getD ((turn + d + i).fmod 3).toNat PySem.Str.empty).cps.toList)
theorem lnL_ok {d c : Nat} {turn : Int} {k : Nat → Nat} {i : Nat} (hi : i < 10) (hc : c ≠ 46 ∧ c ≠ 10 ∧ c ≠ 13) : LineOk (lnL d c turn k i) := by
  refine ⟨?_, ?_, ends_at _⟩
  · intro e
    have := congrArg List.length e
    simp only [lnL, List.length_append, rowL_len, List.length_nil] at this
    omega
  · intro x hx
    rcases List.mem_append.mp hx with h | h
    · unfold hdL at h
      split at h
      · cases h
      · rw [List.mem_singleton.mp h]; exact hc.2
    · exact rowL_plain hi _ x h
theorem mail_cps {d c : Nat} {turn : Int} {k : Nat → Nat} : ∀ n, n ≤ 10 → (((List.range n).map (mailS d ⟨#[c]⟩ turn (rowS k))).flatMap fun y => y.cps.toList) = mailL ((List.range n).map (lnL d c turn k))
  | 0, _ => rfl
  | n + 1, h => by
    rw [List.range_succ, List.map_append, List.map_append, List.flatMap_append, mail_cps n (by omega)]
    unfold mailL
    rw [List.flatMap_append]
    congr 1
    simp only [List.map_cons, List.map_nil, List.flatMap_cons, List.flatMap_nil, List.append_nil]
    unfold mailS lnL
    rw [str_app_cps, str_app_cps, hdS_cps, rowS_at k (by omega)]
/-- the told line of the place i -/
noncomputable def tdL (d c : Nat) (k : Nat → Nat) (i : Nat) : List Nat := dotL (hdL d c i ++ rowL i (k i))
noncomputable def toldL (d c : Nat) (k : Nat → Nat) : List Str := ((List.range 10).map fun i => (⟨(tdL d c k i).toArray⟩ : Str)) ++ [Str.ofString "", Str.ofString ".."]
theorem toldL_len (d c : Nat) (k : Nat → Nat) : (toldL d c k).length = 12 := by
  unfold toldL
  rw [List.length_append, List.length_map, List.length_range]
  rfl
theorem tdL_eq {d c : Nat} {k : Nat → Nat} {i : Nat} (hk : 1 ≤ k i) (hc : c ≠ 46) : tdL d c k i = hdL d c i ++ rowL i (k i + if (i + 1) % d = 0 then 1 else 0) := by
  unfold tdL hdL
  split
  · obtain ⟨m, hm⟩ : ∃ m, k i = m + 1 := ⟨k i - 1, by omega⟩
    rw [hm, List.nil_append, rowL_dot]
    rfl
  · exact dotL_other _ hc
theorem hour_told {d c : Nat} {turn : Int} {k : Nat → Nat} (hc : c ≠ 46 ∧ c ≠ 10 ∧ c ≠ 13) (hk : ∀ i, i < 10 → 1 ≤ k i) (x : Str) (hx : x.cps.toList = mailL ((List.range 10).map (lnL d c turn k)) ++ [13, 46]) :
    Txt.split (dots (crlf x)) crlfS = toldL d c k := by
  have h1 := sent_is x _ (fun p hp => by obtain ⟨i, hi, rfl⟩ := List.mem_map.mp hp; exact lnL_ok (List.mem_range.mp hi) hc) hx
  rw [List.map_map] at h1
  have e : (List.range 10).map ((fun p : List Nat × List Nat => dotL p.1) ∘ lnL d c turn k) ++ [[], [46, 46]] = tdL d c k 0 :: tdL d c k 1 :: ([2, 3, 4, 5, 6, 7, 8, 9].map (tdL d c k) ++ [[], [46, 46]]) := rfl
  rw [e] at h1
  rw [split_is _ _ _ _ h1]
  · rfl
  · rw [← e]
    intro y hy h13
    rcases List.mem_append.mp hy with h | h
    · obtain ⟨i, hi, rfl⟩ := List.mem_map.mp h
      have hi' := List.mem_range.mp hi
      have h13' : 13 ∈ tdL d c k i := h13
      rw [tdL_eq (hk i hi') hc.1] at h13'
      rcases List.mem_append.mp h13' with q | q
      · unfold hdL at q
        split at q
        · cases q
        · exact hc.2.2 (List.mem_singleton.mp q).symm
      · exact (rowL_plain hi' _ 13 q).2 rfl
    · simp only [List.mem_cons, List.not_mem_nil, or_false] at h
      rcases h with rfl | rfl
      · cases h13
      · revert h13; decide
end
section
set_option maxRecDepth 100000
set_option maxHeartbeats 4000000
open PySem.SeqAt
theorem reads_strsA {h : Heap} : ∀ {vs : List Value} {ns : List Str}, StrsAre vs ns → ReadsAll h vs (ns.map PyData.str) []
  | _, _, .nil => .nil
  | _, _, .cons k t r => by
    have := ReadsAll.cons (Reads.str (h := h) k t) (reads_strsA (h := h) r)
    simpa using this
theorem reads_strsL {h : Heap} {a : Addr} {vs : List Value} {ns : List Str} (hl : h.IsList a vs.toArray) (hi : StrsAre vs ns) : Reads h (.ref a) (.list (ns.map PyData.str)) [a] := by
  obtain ⟨o, ho, hc, n, hd⟩ := hl
  exact Reads.list ho hc hd (by simpa using reads_strsA hi)
theorem depth_strs : ∀ ns : List Str, PyData.depthAll (ns.map PyData.str) ≤ 1
  | [] => by simp [PyData.depthAll]
  | n :: r => by
    have := depth_strs r
    simp only [List.map_cons, PyData.depthAll, PyData.depth]
    omega
theorem shaped_strs (ns : List Str) (o : ns.all PyData.strOk = true) : shaped (.list (ns.map PyData.str)) = true := by
  have h1 := depth_strs ns
  have h2 : PyData.depth (.list (ns.map PyData.str)) ≤ 64 := by simp only [PyData.depth]; omega
  show (PyData.canLay0 (.list (ns.map PyData.str)) && decide (PyData.depth (.list (ns.map PyData.str)) ≤ 64)) = true
  rw [Bool.and_eq_true]
  exact ⟨by simp only [PyData.canLay0]; rw [canLayAll_strs']; exact o, decide_eq_true h2⟩
theorem noMix_strs : ∀ ns ms : List Str, noMixAll (ns.map PyData.str) (ms.map PyData.str) = true
  | [], [] => by simp [noMixAll]
  | [], _ :: _ => by simp [noMixAll]
  | _ :: _, [] => by simp [noMixAll]
  | _ :: r, _ :: q => by simp [noMixAll, noMix, noMix_strs r q]
theorem same_strs : ∀ ns ms : List Str, PySem.Spec.sameAll (ns.map PyData.str) (ms.map PyData.str) = decide (ns = ms)
  | [], [] => by simp [PySem.Spec.sameAll]
  | [], _ :: _ => by simp [PySem.Spec.sameAll]
  | _ :: _, [] => by simp [PySem.Spec.sameAll]
  | n :: r, k :: q => by
    simp only [List.map_cons, PySem.Spec.sameAll, PySem.Spec.same, same_strs r q]
    by_cases h : n = k <;> simp [h]
section
variable {prog : Program} {w : World} {A : Around} {E : Value → Shared → Prop} {s : Shared}
theorem eq_strsK {a b : Addr} {vs us : List Value} {ns ms : List Str} {Q : Value → Shared → Prop} (hl : s.heap.IsList a vs.toArray) (hi : StrsAre vs ns) (hl' : s.heap.IsList b us.toArray) (hi' : StrsAre us ms) (hu : A.units + 64 < cLine) (o : ns.all PyData.strOk = true) (o' : ms.all PyData.strOk = true)
    (h : Q (.bool (decide (ns = ms))) s) : wpAny (model prog w) A (compareOp .Eq (.ref a) (.ref b)) Q E s :=
  eq_dataH_same (reads_strsL hl hi) (reads_strsL hl' hi') (shaped_strs ns o) (shaped_strs ms o') hu (by simp only [noMix]; exact noMix_strs ns ms) (by simp only [PySem.Spec.same]; rw [same_strs]; exact h)
theorem ne_strsK {a b : Addr} {vs us : List Value} {ns ms : List Str} {Q : Value → Shared → Prop} (hl : s.heap.IsList a vs.toArray) (hi : StrsAre vs ns) (hl' : s.heap.IsList b us.toArray) (hi' : StrsAre us ms) (hu : A.units + 64 < cLine) (o : ns.all PyData.strOk = true) (o' : ms.all PyData.strOk = true)
    (h : Q (.bool (!decide (ns = ms))) s) : wpAny (model prog w) A (compareOp .NotEq (.ref a) (.ref b)) Q E s :=
  ne_dataH_same (reads_strsL hl hi) (reads_strsL hl' hi') (shaped_strs ns o) (shaped_strs ms o') hu (by simp only [noMix]; exact noMix_strs ns ms) (by simp only [PySem.Spec.same]; rw [same_strs]; exact h)
theorem numbered_tok : ∀ (n : Nat) (ys : List Str) (p : Str × Tok), p ∈ numbered n ys → ∃ t : Nat, p.2 = t ∧ n ≤ t
  | _, [], _, h => by cases h
  | n, y :: ys, p, h => by
    rcases List.mem_cons.mp h with rfl | h
    · exact ⟨n, rfl, Nat.le_refl _⟩
    · obtain ⟨t, e, l⟩ := numbered_tok (n + 1) ys p h
      exact ⟨t, e, by omega⟩
/-- split at a separator, the tokens of the parts told -/
theorem splitTk {h₀ : Heap} {L : Addr} {m : Str → Option Value} {news : List (Addr × Obj)} {x y : Str} {t u : Tok} {Q : Value → Shared → Prop} (hF : Fr h₀ L s.heap m) (hN : News h₀ L s.heap news) (hy : (y.length == 0) = false)
    (h : ∀ D l h' k, l.map (·.1) = Txt.split x y → (∀ p ∈ l, p.2 = t ∨ ∃ t' : Nat, p.2 = t' ∧ s.toks ≤ t') → Fr h₀ L h' m → News h₀ L h' ((D, W.listOf (strValues l).toArray 0) :: news) → (∀ p ∈ news, p.1 < D) → Q (.ref D) { s with heap := h', toks := k })
    (hsz : x.length + 2 ≤ sizeLine) :
    wpAny (model prog w) A (call (.builtin "str.split") [.str x t, .str y u]) Q E s := by
  have hn : (Builtin.Str.partsBetween x (Builtin.Str.occurrences x y 0 x.length (x.length + 1)) y.length).length ≤ sizeLine := by
    have e1 := StrLaws.occ_length_le x y 0 x.length (x.length + 1)
    rw [length_partsBetween]; omega
  have hlt : ∀ p ∈ news, p.1 < s.heap.objs.size := fun p hp => Heap.lt_size (hN p hp).1
  have one : ∀ p ∈ [(x, t)], p.2 = t ∨ ∃ t' : Nat, p.2 = t' ∧ s.toks ≤ t' := fun p hp => by rw [List.mem_singleton.mp hp]; exact .inl rfl
  cases h1 : (decide (x.length < y.length) || decide (Builtin.Str.strKind x < Builtin.Str.strKind y))
  · cases hf : (Builtin.Str.occurrences x y 0 x.length (x.length + 1)).isEmpty
    · refine call_meets F.slot_str_split (typeIs_str _ _ _) F.entry_str_split (F.args_str_split_2 _ _) (meets_str_split_sep x y t u h1 hy hf (by omega) hn) ?_
      show wants Q E _ { s with toks := _, heap := s.heap.push { cls := .type "list", data := .seq (strsFrom s.toks (Builtin.Str.partsBetween x (Builtin.Str.occurrences x y 0 x.length (x.length + 1)) y.length)).toArray } }
      rw [strsFrom_eq]
      exact h _ (numbered s.toks _) _ _ ((numbered_texts _ _).trans ((if_neg (ne_true_of_eq_false h1)).trans (if_neg (ne_true_of_eq_false hf))).symm) (fun p hp => .inr (numbered_tok _ _ p hp)) (Fr.pushS hF _) (News.push hF hN _) hlt
    · exact call_meets F.slot_str_split (typeIs_str _ _ _) F.entry_str_split (F.args_str_split_2 _ _) (meets_str_split_not_found x y t u h1 hy hf)
        (h _ [(x, t)] _ s.toks ((if_neg (ne_true_of_eq_false h1)).trans (if_pos hf)).symm one (Fr.pushS hF _) (News.push hF hN _) hlt)
  · exact call_meets F.slot_str_split (typeIs_str _ _ _) F.entry_str_split (F.args_str_split_2 _ _) (meets_str_split_cannot_occur x y t u h1)
      (h _ [(x, t)] _ s.toks (if_pos h1).symm one (Fr.pushS hF _) (News.push hF hN _) hlt)
end
theorem strsValues : ∀ (l : List (Str × Tok)), StrsAre (strValues l) (l.map (·.1))
  | [] => .nil
  | p :: r => .cons _ _ (strsValues r)
theorem strv_at : ∀ (l : List (Str × Tok)) (i : Nat) (v : Value), (strValues l)[i]? = some v → ∃ p, p ∈ l ∧ l[i]? = some p ∧ v = .str p.1 p.2
  | [], i, v, h => by cases h
  | p :: r, 0, v, h => ⟨p, List.mem_cons_self, rfl, (Option.some.inj h).symm⟩
  | p :: r, i + 1, v, h => by
    obtain ⟨q, hq, e, hv⟩ := strv_at r i v h
    exact ⟨q, List.mem_cons_of_mem _ hq, e, hv⟩
end
section
set_option maxRecDepth 100000
set_option maxHeartbeats 4000000
theorem glued_sep (sp : Str) (ys : List Str) : ∀ y, (Txt.join sp (y :: ys)).cps.toList = y.cps.toList ++ ys.flatMap fun y => sp.cps.toList ++ y.cps.toList := by
  intro y
  unfold Txt.join Builtin.Str.glued
  dsimp only
  have key : ∀ (l : List Str) (acc : Array Nat), (l.foldl (fun acc p => acc ++ sp.cps ++ p.cps) acc).toList = acc.toList ++ l.flatMap fun y => sp.cps.toList ++ y.cps.toList := by
    intro l
    induction l with
    | nil => intro acc; simp
    | cons y l ih => intro acc; rw [List.foldl_cons, ih]; simp
  show (((y :: ys).drop 1).foldl _ y.cps).toList = _
  rw [List.drop_one, List.tail_cons, key]
theorem joinG_flat (a b : Nat) : ∀ (ys : List (List Nat)) (y : List Nat), joinG a b (y :: ys) = y ++ ys.flatMap fun z => a :: b :: z
  | [], y => by simp [joinG]
  | z :: ys, y => by rw [joinG, joinG_flat a b ys z]; simp
noncomputable def comS : Str := Str.ofString ", "
theorem comS_sep : Sep2 comS 44 32 := ⟨by decide, by decide +kernel⟩
theorem join_com (y : Str) (ys : List Str) : (Txt.join comS (y :: ys)).cps.toList = joinG 44 32 ((y :: ys).map fun y => y.cps.toList) := by
  rw [glued_sep, List.map_cons, joinG_flat, comS_sep.cps, List.flatMap_map]
  rfl
/-- parts without the first sign of the separator come back -/
theorem split_join (y : Str) (ys : List Str) (h : ∀ z ∈ y :: ys, 44 ∉ z.cps.toList) : Txt.split (Txt.join comS (y :: ys)) comS = y :: ys := by
  cases ys with
  | nil =>
    have e : Txt.join comS [y] = y := by
      have := join_com y []
      simp only [List.map_cons, List.map_nil, joinG] at this
      generalize Txt.join comS [y] = x at this
      obtain ⟨a⟩ := x
      obtain ⟨b⟩ := y
      exact congrArg Str.mk (Array.ext' this)
    rw [e]
    exact split_one comS_sep y (h y List.mem_cons_self)
  | cons z ys =>
    rw [split_gen comS_sep _ _ _ _ (join_com y (z :: ys))]
    · have e : ∀ l : List Str, (l.map fun y => y.cps.toList).map (fun y => (⟨y.toArray⟩ : Str)) = l := by
        intro l
        rw [List.map_map]
        conv => rhs; rw [← List.map_id l]
        rfl
      exact e (y :: z :: ys)
    · intro l hl
      have hl' : l ∈ (y :: z :: ys).map fun y => y.cps.toList := hl
      obtain ⟨x, hx, rfl⟩ := List.mem_map.mp hl'
      exact h x hx
theorem bits_all : ((List.range 29).all fun sh => (List.range 16).all fun C => (List.range 32).filter (fun k => (C * 2 ^ sh).testBit k) == (plc C 4).map (sh + ·)) = true := by decide +kernel
theorem bits_at {C sh : Nat} (hC : C < 16) (h : sh < 29) : nms (C * 2 ^ sh) 32 = (plc C 4).map fun i => nm (sh + i) := by
  have z := List.all_eq_true.mp (List.all_eq_true.mp bits_all sh (List.mem_range.mpr h)) C (List.mem_range.mpr hC)
  unfold nms
  rw [eq_of_beq z, List.map_map]
  rfl
theorem nm_plain : ((List.range 32).all fun k => (nm k).cps.toList.all (· != 44) && decide (4 ≤ (nm k).length) && decide ((names1 ++ names1).idxOf (nm k) = k) && decide (nm k ∈ names1 ++ names1)) = true := by decide +kernel
theorem nm_at {k : Nat} (h : k < 32) : 44 ∉ (nm k).cps.toList ∧ 4 ≤ (nm k).length ∧ (names1 ++ names1).idxOf (nm k) = k ∧ nm k ∈ names1 ++ names1 := by
  have z := List.all_eq_true.mp nm_plain k (List.mem_range.mpr h)
  simp only [Bool.and_eq_true, decide_eq_true_eq] at z
  refine ⟨fun m => ?_, z.1.1.2, z.1.2, z.2⟩
  have := List.all_eq_true.mp z.1.1.1 _ m
  simp at this
theorem plc_lt {C i : Nat} (h : i ∈ plc C 4) : i < 4 := List.mem_range.mp (List.mem_filter.mp h).1
theorem plc_ne : ∀ C, C < 16 → C ≠ 0 → plc C 4 ≠ [] := by decide
theorem told_at {C sh : Nat} (hC : C < 16) (h : sh < 29) (h0 : C ≠ 0) : told (C * 2 ^ sh) = Txt.join comS ((plc C 4).map fun i => nm (sh + i)) := by
  have hf : C * 2 ^ sh ≠ 0 := Nat.ne_of_gt (Nat.mul_pos (Nat.pos_of_ne_zero h0) (Nat.two_pow_pos sh))
  unfold told
  rw [if_neg hf, bits_at hC h]
  rfl
theorem told_split {C sh : Nat} (hC : C < 16) (h : sh < 29) (h0 : C ≠ 0) : Txt.split (told (C * 2 ^ sh)) comS = (plc C 4).map fun i => nm (sh + i) := by
  rw [told_at hC h h0]
  have hn := plc_ne C hC h0
  have hall : ∀ z ∈ (plc C 4).map (fun i => nm (sh + i)), 44 ∉ z.cps.toList := by
    intro z hz
    obtain ⟨i, hi, rfl⟩ := List.mem_map.mp hz
    exact (nm_at (show sh + i < 32 by have := plc_lt hi; omega)).1
  revert hall
  cases e : (plc C 4).map (fun i => nm (sh + i)) with
  | nil => exact absurd (List.map_eq_nil_iff.mp e) hn
  | cons y ys => exact fun hall => split_join y ys hall
theorem told_ne {C sh : Nat} (hC : C < 16) (h : sh < 29) (h0 : C ≠ 0) : told (C * 2 ^ sh) ≠ Str.ofString "0x0" := by
  rw [told_at hC h h0]
  cases e : plc C 4 with
  | nil => exact absurd e (plc_ne C hC h0)
  | cons i r =>
    intro q
    have hi : i < 4 := plc_lt (by rw [e]; exact List.mem_cons_self)
    have z := congrArg (fun x : Str => x.cps.toList.length) q
    have h4 := (nm_at (show sh + i < 32 by omega)).2.1
    rw [List.map_cons] at z
    rw [glued_sep, List.length_append, Array.length_toList] at z
    have e3 : (Str.ofString "0x0").cps.toList.length = 3 := by decide
    rw [e3] at z
    have h4' : 4 ≤ (nm (sh + i)).cps.size := h4
    omega
theorem told_len {C sh : Nat} (hC : C < 16) (h : sh < 29) (h0 : C ≠ 0) : (told (C * 2 ^ sh)).length ≤ 2 ^ 20 := by
  have e : (told (C * 2 ^ sh)).length = (told (C * 2 ^ sh)).cps.toList.length := by rw [Array.length_toList]; rfl
  rw [e, told_at hC h h0]
  cases e : plc C 4 with
  | nil => exact absurd e (plc_ne C hC h0)
  | cons i r =>
    have hm : ∀ j ∈ i :: r, (nm (sh + j)).length ≤ 25 := fun j hj => nmLt _ (by have := plc_lt (e ▸ hj : j ∈ plc C 4); omega)
    have hl : (i :: r).length ≤ 4 := by rw [← e]; unfold plc; exact Nat.le_trans (List.length_filter_le _ _) (by simp)
    rw [List.map_cons, glued_sep, List.length_append, Array.length_toList]
    have h0 : (nm (sh + i)).cps.size ≤ 25 := hm i List.mem_cons_self
    have key : ∀ r : List Nat, (∀ j ∈ r, (nm (sh + j)).length ≤ 25) → ((r.map fun i => nm (sh + i)).flatMap fun y => comS.cps.toList ++ y.cps.toList).length ≤ 27 * r.length := by
      intro r
      induction r with
      | nil => intro _; exact Nat.le_refl _
      | cons j r ih =>
        intro hr
        have h1 := ih fun k hk => hr k (List.mem_cons_of_mem _ hk)
        have h2 : (nm (sh + j)).cps.size ≤ 25 := hr j List.mem_cons_self
        rw [List.map_cons, List.flatMap_cons, List.length_append, List.length_append, comS_sep.cps, (Array.length_toList : (nm (sh + j)).cps.toList.length = (nm (sh + j)).cps.size)]
        rw [comS_sep.cps] at h1
        have e2 : ([44, 32] : List Nat).length = 2 := rfl
        have e5 : (j :: r).length = r.length + 1 := rfl
        show 2 + _ + _ ≤ _
        omega
    have h3 := key r fun j hj => hm j (List.mem_cons_of_mem _ hj)
    simp only [List.length_cons] at hl
    omega
/-- the rest stays in bounds -/
theorem rst_all : ((List.range 11).all fun n => n == 0 || (List.range 16).all fun C => C &&& msk n != C || (decide (1 ≤ rst n (plc C 4)) && decide (rst n (plc C 4) ≤ 10))) = true := by decide +kernel
theorem rst_at {n C : Nat} (h1 : 1 ≤ n) (h2 : n ≤ 10) (hC : C < 16) (hs : C &&& msk n = C) : 1 ≤ rst n (plc C 4) ∧ rst n (plc C 4) ≤ 10 := by
  have z := List.all_eq_true.mp rst_all n (List.mem_range.mpr (by omega))
  rw [Bool.or_eq_true] at z
  rcases z with z | z
  · exact absurd (eq_of_beq z) (by omega)
  · have y := List.all_eq_true.mp z C (List.mem_range.mpr hC)
    rw [Bool.or_eq_true] at y
    rcases y with y | y
    · simp [hs] at y
    · simpa using y
end
section
set_option maxRecDepth 100000
set_option maxHeartbeats 4000000
theorem hdS_eq (d c i : Nat) : hdS d ⟨#[c]⟩ i = ⟨(hdL d c i).toArray⟩ := by
  have h := hdS_cps d c i
  generalize hdS d ⟨#[c]⟩ i = x at h
  obtain ⟨a⟩ := x
  exact congrArg Str.mk (Array.ext' h)
theorem hdS_len (d c i : Nat) : (hdS d ⟨#[c]⟩ i).length = (hdL d c i).length := by
  rw [hdS_eq]; show (hdL d c i).toArray.size = _; rw [List.size_toArray]
theorem told_get (d c : Nat) (k : Nat → Nat) {i : Nat} (hi : i < 10) : (toldL d c k).getD i PySem.Str.empty = ⟨(tdL d c k i).toArray⟩ := by
  have h : ((List.range 10).map fun i => (⟨(tdL d c k i).toArray⟩ : Str)).length = 10 := by simp
  unfold toldL
  rw [List.getD_eq_getElem?_getD, List.getElem?_append_left (by rw [h]; exact hi), List.getElem?_map, List.getElem?_range hi]
  rfl
theorem sliceA (a b : List Nat) : Txt.slice ⟨(a ++ b).toArray⟩ none (some (a.length : Int)) = ⟨a.toArray⟩ := by
  have h := slice_closes_to (x := ⟨(a ++ b).toArray⟩) (j := (a.length : Int)) ⟨by omega, by simp; omega⟩
  rw [eq_of_beq h]
  simp
theorem sliceB (a b : List Nat) : Txt.slice ⟨(a ++ b).toArray⟩ (some (a.length : Int)) none = ⟨b.toArray⟩ := by
  have h := slice_closes_from (x := ⟨(a ++ b).toArray⟩) (i := (a.length : Int)) ⟨by omega, by simp; omega⟩
  rw [eq_of_beq h]
  simp
  exact List.take_of_length_le (by omega)
theorem cutA {d c : Nat} {k : Nat → Nat} {i : Nat} (hi : i < 10) (hk : 1 ≤ k i) (hc : c ≠ 46) : Txt.slice ((toldL d c k).getD i PySem.Str.empty) none (some ((hdS d ⟨#[c]⟩ i).length : Int)) = hdS d ⟨#[c]⟩ i := by
  rw [told_get d c k hi, tdL_eq hk hc, hdS_len, sliceA, hdS_eq]
theorem cutB {d c : Nat} {k : Nat → Nat} {i : Nat} (hi : i < 10) (hk : 1 ≤ k i) (hc : c ≠ 46) : Txt.slice ((toldL d c k).getD i PySem.Str.empty) (some ((hdS d ⟨#[c]⟩ i).length : Int)) none = ⟨(rowL i (k i + if (i + 1) % d = 0 then 1 else 0)).toArray⟩ := by
  rw [told_get d c k hi, tdL_eq hk hc, hdS_len, sliceB]
theorem heads_ok {d c : Nat} (hc : c < 1114112) : (((List.range 10).map (hdS d ⟨#[c]⟩)).all PyData.strOk) = true := by
  rw [List.all_eq_true]
  intro x hx
  obtain ⟨i, _, rfl⟩ := List.mem_map.mp hx
  unfold hdS
  split
  · decide +kernel
  · show (#[c] : Array Nat).all (· < 0x110000) = true
    simpa using hc
theorem told_small {d c : Nat} {k : Nat → Nat} (hk : ∀ i, i < 10 → 1 ≤ k i ∧ k i ≤ 100) (hc : c ≠ 46) {i : Nat} (hi : i < 10) : ((toldL d c k).getD i PySem.Str.empty).length ≤ 200 := by
  rw [told_get d c k hi, tdL_eq (hk i hi).1 hc]
  show (hdL d c i ++ rowL i _).toArray.size ≤ 200
  rw [List.size_toArray, List.length_append, rowL_len]
  have h1 : (hdL d c i).length ≤ 1 := by unfold hdL; split <;> simp
  have h2 := (hk i hi).2
  split <;> omega
end
local macro_rules | `(tactic| walk_at "sub6") => `(tactic| (k_here; (with_reducible show wpAny _ _ (subscriptTail _ _ (Value.ref _) (Value.int _ _)) _ _ _); k_dflt (refine' KTb.item_list ?ktbl ?ktbw ?ktb0 ?ktb1 ?ktbf ?_; (case ktbl => first | exact isList_keeps (by assumption) (Fr.keep (by k_asm)) | is_list); (case ktbw => first | assumption | repeat constructor); (case ktb0 => first | omega | ktb_idx); (case ktb1 => first | (simp only [List.length_map, List.length_range, List.length_cons, List.length_nil]; omega) | ktb_idx); (case ktbf => first | omega | ktb_idx)); intro t hkt))
local macro_rules | `(tactic| walk_at "clrLE") => `(tactic| (repeat (rename (_ ≤ _) => hX1; clear hX1)))
local macro_rules | `(tactic| walk_at "clrC") => `(tactic| ((repeat (rename (_ ∧ _) => hX1; clear hX1)); (repeat (rename (_ ≠ _) => hX1; clear hX1))))
local macro_rules | `(tactic| k_ne) => `(tactic| (refine neN ?_; (try dsimp only); walk_at "clrLE"; first | (walk_at "clrC"; omega) | omega))
local macro_rules | `(tactic| walk_at "eval Name") => `(tactic| (k_here; (with_reducible show wpAny _ _ (eval (Expr.Name _ _) (envOfC _ _ _ _ _)) _ _ _); k_dflt (refine' ldLoc ?k1 ?k2 ?_; (case k1 => k_asm); (case k2 => assumption); k_whole)))
local macro_rules | `(tactic| walk_at "s1") => `(tactic| (first | (k_unfold; (try dsimp only)) | walk1 | (dsimp only; walk1)))
local macro_rules | `(tactic| walk_at "t20") => `(tactic| (try (walk_at "s1"; try (walk_at "s1"; try (walk_at "s1"; try (walk_at "s1"; try (walk_at "s1"; try (walk_at "s1"; try (walk_at "s1"; try (walk_at "s1"; try (walk_at "s1"; try (walk_at "s1"; try (walk_at "s1"; try (walk_at "s1"; try (walk_at "s1"; try (walk_at "s1"; try (walk_at "s1"; try (walk_at "s1"; try (walk_at "s1"; try (walk_at "s1"; try (walk_at "s1"; try walk_at "s1")))))))))))))))))))))
section
set_option maxRecDepth 100000
set_option maxHeartbeats 4000000
open LCg
theorem strs_snoc {vs : List Value} {ys : List Str} (h : StrsAre vs ys) (y : Str) (t : Tok) : StrsAre (vs ++ [.str y t]) (ys ++ [y]) := by
  induction h with
  | nil => exact .cons _ _ .nil
  | cons b u h ih => exact .cons _ _ ih
theorem mod_fact : ∀ d : Nat, d < 11 → 1 ≤ d → ∀ i : Nat, i < 10 → ((((-1 : Int) - (1 + (i : Int))).fmod (d : Int) = (d : Int) - 1) ↔ (i + 1) % d = 0) := by decide
theorem hd_snoc {d : Nat} {sh : Str} {i : Nat} {ys : List Value} {y : Str} (h : StrsAre ys ((List.range i).map (hdS d sh))) (e : hdS d sh i = y) (t : Tok) : StrsAre (ys ++ [.str y t]) ((List.range (i + 1)).map (hdS d sh)) := by
  rw [List.range_succ, List.map_append, List.map_cons, List.map_nil, e]
  exact strs_snoc h y t
theorem ends_len (k : Nat) : (endsS.getD k PySem.Str.empty).length ≤ 2 := by
  match k with
  | 0 => decide
  | 1 => decide
  | 2 => decide
  | n + 3 => exact Nat.zero_le _
theorem str_app_len (x y : Str) : (x ++ y).length = x.length + y.length := Array.size_append ..
theorem toldL_drop (d c : Nat) (k : Nat → Nat) : (toldL d c k).drop 10 = [Str.ofString "", Str.ofString ".."] := by
  have h : ((List.range 10).map fun i => (⟨(tdL d c k i).toArray⟩ : Str)).length = 10 := by simp
  unfold toldL
  rw [List.drop_append, List.drop_eq_nil_of_le (by rw [h]; exact Nat.le_refl _), h]
  rfl
theorem strs_drop {vs : List Value} {ys : List Str} (h : StrsAre vs ys) : ∀ n, StrsAre (vs.drop n) (ys.drop n) := by
  induction h with
  | nil => intro n; rw [List.drop_nil, List.drop_nil]; exact .nil
  | cons y t h ih =>
    intro n
    cases n with
    | zero => exact .cons y t h
    | succ n => exact ih n
/-- the row of the place i behind the hour d -/
noncomputable def rowN (d : Nat) (k : Nat → Nat) (i : Nat) : Str := ⟨(rowL i (k i + if (i + 1) % d = 0 then 1 else 0)).toArray⟩
theorem mail_len {d : Nat} {sh : Str} {turn : Int} {rs : List Str} (hsh : sh.length ≤ 1) (hry : ∀ y ∈ rs, y.length ≤ 200) (i : Nat) : (mailS d sh turn rs i).length ≤ 203 := by
  have h1 : (hdS d sh i).length ≤ 1 := by
    unfold hdS
    split
    · decide
    · exact hsh
  have h2 : (rs.getD i PySem.Str.empty).length ≤ 200 := by
    rw [List.getD_eq_getElem?_getD]
    cases e : rs[i]? with
    | none => exact Nat.zero_le _
    | some y => exact hry y (List.mem_of_getElem? e)
  have h3 := ends_len ((turn + d + i).fmod 3).toNat
  unfold mailS
  rw [str_app_len, str_app_len]
  omega
theorem mail_sum {d : Nat} {sh : Str} {turn : Int} {rs : List Str} (hsh : sh.length ≤ 1) (hry : ∀ y ∈ rs, y.length ≤ 200) : ∀ n, (((List.range n).map (mailS d sh turn rs)).map (·.length)).sum ≤ 203 * n
  | 0 => Nat.le_refl _
  | n + 1 => by
    have h1 := mail_sum (d := d) (turn := turn) hsh hry n
    have h2 := mail_len (d := d) (turn := turn) hsh hry n
    rw [List.range_succ, List.map_append, List.map_append, List.sum_append]
    simp only [List.map_cons, List.map_nil, List.sum_cons, List.sum_nil]
    omega
theorem glued_cps (ys : List Str) : (Txt.join (Str.ofString "") ys).cps.toList = ys.flatMap fun y => y.cps.toList := by
  rw [show Str.ofString "" = (⟨#[]⟩ : Str) from rfl]
  exact glued_nil ys
theorem glued_len (ys : List Str) : (Txt.join (Str.ofString "") ys).length = (ys.map (·.length)).sum := by
  have h := congrArg List.length (glued_nil ys)
  rw [Array.length_toList, List.length_flatMap] at h
  show (Txt.join ⟨#[]⟩ ys).cps.size = _
  rw [h]
  rfl
local macro_rules | `(tactic| walk_at "subscriptTail") => `(tactic| walk_at "sub6")
theorem c_hour : ∀ (w : World) (mean mg mb) (l : Addr) (vs : List Value) (d : Nat) (td : Tok) (c : Nat) (tsh : Tok) (turn : Int) (tt : Tok) (k : Nat → Nat), 1 ≤ d → d ≤ 10 → StrsAre vs (rowS k) → (∀ i, i < 10 → 1 ≤ k i ∧ k i ≤ 100) → c ≠ 46 ∧ c ≠ 10 ∧ c ≠ 13 → c < 1114112 →
    Pure 14 w mean mg mb 205 [.ref l, .int d td, .str ⟨#[c]⟩ tsh, .int turn tt] (fun s => s.heap.IsList l vs.toArray) (fun s v h' tk' => ∃ l' vs' c, v = .ref l' ∧ h'.get? l' = some (W.listOf vs'.toArray c) ∧ s.heap.get? l' = none ∧ StrsAre vs' (rowS fun i => k i + if (i + 1) % d = 0 then 1 else 0)) := by
  intro w mean mg mb l vs d td c tsh turn tt k hd1 hd10 hrs hk hc hcs
  have hry := rowS_small (k := k) fun i hi => (hk i hi).2
  have hrl := rowS_len k
  obtain ⟨sh, hshE⟩ : ∃ sh : Str, sh = ⟨#[c]⟩ := ⟨_, rfl⟩
  have hsh : sh.length ≤ 1 := by rw [hshE]; exact Nat.le_refl _
  obtain ⟨rs, hrsE⟩ : ∃ rs, rs = rowS k := ⟨_, rfl⟩
  rw [← hshE]
  rw [← hrsE] at hrs hry hrl
  refine Pure.of ?_
  intro dp un gd outer base s Q E hd hu B X T h0 hl hret
  refine wpAny_call ?_
  walk_at "mine enterC"
  rename_i Lx hx0 tkx lex Fx oT oH oE oU oS oD oR dT dH dE dU dS dD dR Nx
  replace Fx : Fr s.heap Lx hx0 (fun _ => none) := Fx
  replace dT : oT.data = .cell none := dT
  replace dH : oH.data = .cell none := dH
  replace dE : oE.data = .cell none := dE
  replace dU : oU.data = .cell (some (.int turn tt)) := dU
  replace dS : oS.data = .cell (some (.str sh tsh)) := dS
  replace dD : oD.data = .cell (some (.int (d : Nat) td)) := dD
  replace dR : oR.data = .cell (some (.ref l)) := dR
  iterate 26 walk_at "s1"
  skip
  refine' comp_range (n := 10) ?hh ?F ?N ?hr ?hsm ?hn ?hsz (fun _ => true) (fun i ys (tk : Nat) => StrsAre ys ((List.range i).map (hdS d sh))) ?i0 ?mono ?tests ?skip ?turn ?done ?hcell ?hkind ?hx
  case hh => rfl
  case F => k_asm
  case N => k_asm
  case hr => k_asm
  case hsm => rfl
  case hn => rfl
  case hsz => decide
  case hcell => decide
  case hkind => rfl
  case hx => rfl
  case i0 => exact .nil
  case mono => intro i ys t t' le h; exact h
  case tests =>
    intro I C D oI oC i v ys m₂ h tk E' hv ho hm F N off ne
    exact wpAny_tests_nil ⟨rfl, h, tk, rfl, F, N⟩
  case skip => intro i v ys tk hv q; cases q
  case turn =>
    rintro I C D oI oC i v ys m₂ h tk E' hi ⟨t, rfl⟩ _ hle hJ ho hm F N off ne
    iterate 17 walk_at "s1"
    refine' Pure.use (c_mod w mean mg mb (-1 - (1 + (i : Int))) d _ _ (by omega)) ?u61A ?u61h ?u61f ?u61k B ?u61F X ?u61N T ?u61d ?u61u ?u610 ?u61p ?_
    case u61A => rfl
    case u61h => rfl
    case u61f => rfl
    case u61k => rfl
    case u61F => k_asm
    case u61N => k_asm
    case u61d => exact room hd (by decide)
    case u61u => exact room3 hu (by decide)
    case u610 => ((try dsimp only); walk_at "clrC"; omega)
    case u61p => exact trivial
    intro v1 hh1 tkk1 FF1 NN1 kp1 lek1 ⟨t1, e1, ht1⟩
    rw [e1]
    clear e1
    try dsimp only
    iterate 7 walk_at "s1"
    · rename _ = (d : Int) - 1 => hq
      iterate 1 walk_at "s1"
      exact CompElt.intro FF1 NN1 (fun p hp => hp) (hd_snoc hJ (if_pos ((mod_fact d (by omega) hd1 i hi).mp hq)) _)
    · rename ¬ _ = (d : Int) - 1 => hq
      iterate 1 walk_at "s1"
      exact CompElt.intro FF1 NN1 (fun p hp => hp) (hd_snoc hJ (if_neg fun z => hq ((mod_fact d (by omega) hd1 i hi).mpr z)) _)
  case done =>
    rintro D1 h tk heads hle hH F N off
    try dsimp only
    have off2 := off
    simp only [Off1] at off2
    iterate 18 walk_at "s1"
    refine' comp_range (n := 10) ?jhh ?jF ?jN ?jhr ?jhsm ?jhn ?jhsz (fun _ => true) (fun i ys (tk : Nat) => StrsAre ys ((List.range i).map (mailS d sh turn rs))) ?ji0 ?jmono ?jtests ?jskip ?jturn ?jdone ?jhcell ?jhkind ?jhx
    case jhh => rfl
    case jF => k_asm
    case jN => k_asm
    case jhr => k_asm
    case jhsm => rfl
    case jhn => rfl
    case jhsz => decide
    case jhcell => decide
    case jhkind => rfl
    case jhx => rfl
    case ji0 => exact .nil
    case jmono => intro i ys t t' le h; exact h
    case jtests =>
      intro I C D oI oC i v ys m₂ h tk E' hv ho hm F N off ne
      exact wpAny_tests_nil ⟨rfl, h, tk, rfl, F, N⟩
    case jskip => intro i v ys tk hv q; cases q
    case jturn =>
      rintro I C D oI oC i v ys m₂ h tk E' hi ⟨t, rfl⟩ _ hle hJ ho hm F N off ne
      iterate 10 walk_at "s1"
      have g1 : ((List.range 10).map (hdS d sh)).getD ((0 : Int) + (i : Int)).toNat PySem.Str.empty = hdS d sh i := by
        rw [show ((0 : Int) + (i : Int)).toNat = i by omega, List.getD_eq_getElem?_getD, List.getElem?_map, List.getElem?_range hi]
        rfl
      have g2 : rs.getD ((0 : Int) + (i : Int)).toNat PySem.Str.empty = rs.getD i PySem.Str.empty := by rw [show ((0 : Int) + (i : Int)).toNat = i by omega]
      have g3 : (hdS d sh i).length ≤ 1 := by
        unfold hdS
        split
        · decide
        · exact hsh
      have g4 : (rs.getD i PySem.Str.empty).length ≤ 200 := by
        have hi' : i < rs.length := by omega
        rw [List.getD_eq_getElem?_getD, List.getElem?_eq_getElem hi']
        exact hry _ (List.getElem_mem hi')
      rw [g1, g2]
      refine add_str (hsz := by unfold sizeLine; omega) ?_
      iterate 15 walk_at "s1"
      skip
      have g5 : (([Str.ofString "\n", Str.ofString "\r", Str.ofString "\r\n"] : List Str).getD ((turn + (d : Int) + ((0 : Int) + (i : Int))).fmod 3).toNat PySem.Str.empty) = endsS.getD ((turn + d + i).fmod 3).toNat PySem.Str.empty := by
        rw [show (0 : Int) + (i : Int) = (i : Int) by omega]; rfl
      have g6 : (endsS.getD ((turn + d + i).fmod 3).toNat PySem.Str.empty).length ≤ 2 := ends_len _
      rw [g5]
      refine add_str (hsz := by show (hdS d sh i ++ _).length + _ ≤ _; rw [str_app_len]; unfold sizeLine; omega) ?_
      intro t9 tk9
      rename Fr _ _ _ _ => F9
      rename News _ _ _ _ => N9
      refine CompElt.intro F9 N9 (fun p hp => hp) ?_
      rw [List.range_succ, List.map_append, List.map_cons, List.map_nil]
      exact strs_snoc (by assumption) _ _
    case jdone =>
      rintro D2 h tk mails hle hM F N off
      try dsimp only
      iterate 1 walk_at "s1"
      have hsm := mail_sum (d := d) (turn := turn) hsh hry 10
      refine le_toks ?_
      refine' join_list (ys := (List.range 10).map (mailS d sh turn rs)) ?q1 ?q2 ?q3 ?_
      case q1 => exact ⟨_, (N (D2, lst mails) List.mem_cons_self).1, rfl, _, rfl⟩
      case q2 => exact hM
      case q3 =>
        rw [show (Str.ofString "").length = 0 by decide, Nat.mul_zero, Nat.add_zero]
        exact Nat.le_trans hsm (by decide)
      intro t5 k5 lek5
      replace lek5 : tk ≤ k5 := lek5
      obtain ⟨J, hJ⟩ : ∃ J, J = Txt.join (Str.ofString "") ((List.range 10).map (mailS d sh turn rs)) := ⟨_, rfl⟩
      have hJl : J.length ≤ 2030 := by
        rw [hJ]
        exact Nat.le_trans (Nat.le_of_eq (glued_len _)) hsm
      have hJc : J.cps.toList = mailL ((List.range 10).map (lnL d c turn k)) := by
        rw [hJ, hrsE, hshE, ← mail_cps 10 (Nat.le_refl _)]
        exact glued_cps _
      rw [← hJ]
      try dsimp only
      iterate 10 walk_at "s1"
      iterate 2 walk_at "s1"
      refine le_toks ?_
      iterate 4 walk_at "s1"
      have hJ2 : (J ++ Str.ofString "\r.").length ≤ 2032 := by rw [str_app_len, show (Str.ofString "\r.").length = 2 by decide]; omega
      have hJd : (J ++ Str.ofString "\r.").cps.toList = mailL ((List.range 10).map (lnL d c turn k)) ++ [13, 46] := by
        rw [str_app_cps, hJc]
        congr 1
      have htold := hour_told (turn := turn) hc (fun i hi => (hk i hi).1) _ hJd
      have hsl := sent_len (J ++ Str.ofString "\r.")
      have hcs := crlf_small (x := J ++ Str.ofString "\r.") (Nat.le_trans hJ2 (by decide))
      refine' Pure.use (c_quote w mean mg mb (J ++ Str.ofString "\r.") _ hcs.1 hcs.2) ?u7A ?u7h ?u7f ?u7k B ?u7F X ?u7N T ?u7d ?u7u ?u70 ?u7p ?_
      case u7A => rfl
      case u7h => rfl
      case u7f => rfl
      case u7k => rfl
      case u7F => k_asm
      case u7N => k_asm
      case u7d => exact room hd (by decide)
      case u7u => exact room3 hu (by decide)
      case u70 => ((try dsimp only); walk_at "clrC"; omega)
      case u7p => exact trivial
      intro v7 hh7 tkk7 FF7 NN7 kp7 lek7 ⟨t7, e7⟩
      rw [e7]
      clear e7
      generalize dots (crlf (J ++ Str.ofString "\r.")) = Dd at htold hsl ⊢
      clear hcs hJd hJc hJ hJl hsm
      try dsimp only
      iterate 5 walk_at "s1"
      refine le_toks ?_
      refine KSpl.split1 FF7 NN7 (by decide) ?_ (by unfold sizeLine; omega)
      intro T5 l5 h5 kk5 e5 a5 F5 N5 l5'
      k_lt l5'
      intro lek6
      try dsimp only at lek6
      rw [e5.trans htold] at a5
      generalize strValues l5 = tvs at a5 N5
      clear e5 htold hsl
      have off3 := off
      simp only [Off1] at off3
      try dsimp only
      iterate 13 walk_at "s1"
      have htl : tvs.length = 12 := (strsAre_len a5).trans (toldL_len d c k)
      refine' kmk_slice_lit (zs := tvs.drop 10) ?sF ?sN ?sl ?sp ?sq ?se ?_ ?ss ?st ?sz
      case sF => k_asm
      case sN => k_asm
      case sl => kmk_list
      case sp => exact IsPart.int _ _
      case sq => exact IsPart.none
      case se => rw [show (10 : Int) = ((10 : Nat) : Int) by rfl, slicePick_from']
      case ss => with_unfolding_all rfl
      case st => kmk_pure
      case sz => rw [List.size_toArray, htl]; decide
      intro T6 h6 F6 N6 l6'
      k_lt l6'
      try dsimp only
      iterate 6 walk_at "s1"
      iterate 1 walk_at "s1"
      rename News _ _ _ _ => N7
      rename Fr _ _ _ _ => F7
      refine' ne_strsK (ns := [Str.ofString "", Str.ofString ".."]) (ms := [Str.ofString "", Str.ofString ".."]) ?n1 ?n2 ?n3 ?n4 ?n5 ?n6 ?n7 ?_
      case n1 => exact ⟨_, (N7 (T6, W.listOf (List.drop 10 tvs).toArray 0) (by k_mem)).1, rfl, _, rfl⟩
      case n2 => rw [← toldL_drop d c k]; exact strs_drop a5 10
      case n3 => is_list
      case n4 => exact .cons _ _ (.cons _ _ .nil)
      case n5 => exact room3 hu (by decide)
      case n6 => decide +kernel
      case n7 => decide +kernel
      rw [decide_eq_true rfl]
      try dsimp only
      iterate 13 walk_at "s1"
      refine' comp_range (n := 10) ?mhh ?mF ?mN ?mhr ?mhsm ?mhn ?mhsz (fun _ => true) (fun i ys (tk : Nat) => StrsAre ys ((List.range i).map (hdS d sh))) ?mi0 ?mmono ?mtests ?mskip ?mturn ?mdone ?mhcell ?mhkind ?mhx
      case mhh => rfl
      case mF => k_asm
      case mN => k_asm
      case mhr => k_asm
      case mhsm => rfl
      case mhn => rfl
      case mhsz => decide
      case mhcell => decide
      case mhkind => rfl
      case mhx => rfl
      case mi0 => exact .nil
      case mmono => intro i ys t t' le h; exact h
      case mtests =>
        intro I C D oI oC i v ys m₂ h tk E' hv ho hm F N off ne
        exact wpAny_tests_nil ⟨rfl, h, tk, rfl, F, N⟩
      case mskip => intro i v ys tk hv q; cases q
      case mturn =>
        rintro I C D oI oC i v ys m₂ h tk E' hi ⟨t, rfl⟩ _ hle hJ ho hm F N off ne
        have g0 : ((0 : Int) + (i : Int)).toNat = i := by omega
        iterate 4 walk_at "s1"
        k_dflt (refine' KTb.item_list ?ka a5 ?kb ?kc ?kd ?_)
        case ka => is_list
        case kb => omega
        case kc => rw [toldL_len]; omega
        case kd => omega
        intro t9 hk9
        rw [g0]
        try dsimp only
        iterate 12 walk_at "s1"
        have g1 : ((List.range 10).map (hdS d sh)).getD ((0 : Int) + (i : Int)).toNat PySem.Str.empty = hdS d sh i := by
          rw [g0, List.getD_eq_getElem?_getD, List.getElem?_map, List.getElem?_range hi]
          rfl
        have g3 : (hdS d sh i).length ≤ 1 := by
          unfold hdS
          split
          · decide
          · exact hsh
        have g4 : ((toldL d c k).getD i PySem.Str.empty).length ≤ 200 := told_small hk hc.1 hi
        rw [g1]
        try dsimp only
        iterate 4 walk_at "s1"
        rename Fr _ _ _ _ => F8
        rename News _ _ _ _ => N8
        have cA := cutA (d := d) (c := c) (k := k) hi (hk i hi).1 hc.1
        rw [← hshE] at cA
        exact CompElt.intro F8 N8 (fun p hp => hp) (hd_snoc hJ cA.symm _)
      case mdone =>
        rintro D3 h tk cuts hle hC F N off
        try dsimp only
        iterate 1 walk_at "s1"
        have hok := heads_ok (d := d) (c := c) hcs
        rw [← hshE] at hok
        refine' ne_strsK (ns := (List.range 10).map (hdS d sh)) (ms := (List.range 10).map (hdS d sh)) ?o1 hC ?o3 hH ?o5 hok hok ?_
        case o1 => exact ⟨_, (N (D3, lst cuts) (by k_mem)).1, rfl, _, rfl⟩
        case o3 => exact ⟨_, (N (D1, lst heads) (by k_mem)).1, rfl, _, rfl⟩
        case o5 => exact room3 hu (by decide)
        rw [decide_eq_true rfl]
        try dsimp only
        iterate 17 walk_at "s1"
        refine' comp_range (n := 10) ?rhh ?rF ?rN ?rhr ?rhsm ?rhn ?rhsz (fun _ => true) (fun i ys (tk : Nat) => StrsAre ys ((List.range i).map (rowN d k))) ?ri0 ?rmono ?rtests ?rskip ?rturn ?rdone ?rhcell ?rhkind ?rhx
        case rhh => rfl
        case rF => k_asm
        case rN => k_asm
        case rhr => k_asm
        case rhsm => rfl
        case rhn => rfl
        case rhsz => decide
        case rhcell => decide
        case rhkind => rfl
        case rhx => rfl
        case ri0 => exact .nil
        case rmono => intro i ys t t' le h; exact h
        case rtests =>
          intro I C D oI oC i v ys m₂ h tk E' hv ho hm F N off ne
          exact wpAny_tests_nil ⟨rfl, h, tk, rfl, F, N⟩
        case rskip => intro i v ys tk hv q; cases q
        case rturn =>
          rintro I C D oI oC i v ys m₂ h tk E' hi ⟨t, rfl⟩ _ hle hJ ho hm F N off ne
          have g0 : ((0 : Int) + (i : Int)).toNat = i := by omega
          iterate 4 walk_at "s1"
          k_dflt (refine' KTb.item_list ?ka a5 ?kb ?kc ?kd ?_)
          case ka => is_list
          case kb => omega
          case kc => rw [toldL_len]; omega
          case kd => omega
          intro t9 hk9
          rw [g0]
          try dsimp only
          iterate 11 walk_at "s1"
          have g1 : ((List.range 10).map (hdS d sh)).getD ((0 : Int) + (i : Int)).toNat PySem.Str.empty = hdS d sh i := by
            rw [g0, List.getD_eq_getElem?_getD, List.getElem?_map, List.getElem?_range hi]
            rfl
          have g3 : (hdS d sh i).length ≤ 1 := by
            unfold hdS
            split
            · decide
            · exact hsh
          have g4 : ((toldL d c k).getD i PySem.Str.empty).length ≤ 200 := told_small hk hc.1 hi
          rw [g1]
          try dsimp only
          iterate 5 walk_at "s1"
          rename Fr _ _ _ _ => F8
          rename News _ _ _ _ => N8
          have cB := cutB (d := d) (c := c) (k := k) hi (hk i hi).1 hc.1
          rw [← hshE] at cB
          refine CompElt.intro F8 N8 (fun p hp => hp) ?_
          rw [cB, List.range_succ, List.map_append, List.map_cons, List.map_nil]
          exact strs_snoc hJ (rowN d k i) _
        case rdone =>
          rintro D4 h tk res hle hR F N off
          try dsimp only
          iterate 1 walk_at "s1"
          exact hret _ _ _ (Fr.keep F) ⟨D4, res, res.length, rfl, (N (D4, lst res) List.mem_cons_self).1, (N (D4, lst res) List.mem_cons_self).2.2, hR⟩
end
local macro_rules | `(tactic| walk_at "execs cons") => `(tactic| (k_here; (with_reducible refine cons_q (by with_reducible assumption) ?hX1 ?_); (case hX1 => ((try dsimp only); first | with_reducible assumption | (walk_at "clrC"; omega))); walk_at "clrLE"; intro tk le Q1 qn qr; (try dsimp only at le)))
local macro_rules | `(tactic| walk_at "s1") => `(tactic| (first | (with_reducible refine QN.go (by with_reducible assumption) _ ?_; intro lef; (try dsimp only at lef); show wpAny _ _ _ _ _ _) | (k_unfold; (try dsimp only)) | walk1 | (dsimp only; walk1)))
section
set_option maxRecDepth 100000
set_option maxHeartbeats 4000000
open LCg
theorem News.name {h₀ h : Heap} {L : Addr} {nw : List (Addr × Obj)} (N : News h₀ L h nw) : ∃ nw0, nw0 = nw ∧ News h₀ L h nw0 := ⟨nw, rfl, N⟩
theorem News.name4 {h₀ h : Heap} {L lp c1 c2 c3 : Addr} {tp : Nat} {o1 o2 o3 : Obj} (N : News h₀ L h [(lp, W.listOf #[.int 2 tp, .int 3 (tp + 1), .int 5 (tp + 1 + 1), .int 7 (tp + 1 + 1 + 1)] 0), (c1, o1), (c2, o2), (c3, o3)]) : ∃ lp' tp' nw0, lp' = lp ∧ tp' = tp ∧ nw0 = [(lp, W.listOf #[.int 2 tp, .int 3 (tp + 1), .int 5 (tp + 1 + 1), .int 7 (tp + 1 + 1 + 1)] 0), (c1, o1), (c2, o2), (c3, o3)] ∧ News h₀ L h nw0 := ⟨lp, tp, _, rfl, rfl, rfl, N⟩
theorem fmod_nat (n p : Nat) : (n : Int).fmod (p : Int) = ((n % p : Nat) : Int) := by
  rw [Int.fmod_eq_emod_of_nonneg _ (Int.natCast_nonneg _)]; rfl
theorem msk_lt (n : Nat) : msk n < 16 := by
  have h : ∀ i, mskI n i < 2 ^ i := by
    intro i
    induction i with
    | zero => exact Nat.one_pos
    | succ i ih =>
      rw [mskI, Nat.pow_succ]
      split <;> omega
  exact h 4
theorem flag_lt {C sh : Nat} (hC : C < 16) (h : sh < 29) : C * 2 ^ sh < 2 ^ 32 := by
  have h1 : 2 ^ sh ≤ 2 ^ 28 := Nat.pow_le_pow_right (by decide) (by omega)
  have h2 : C * 2 ^ sh ≤ 15 * 2 ^ 28 := Nat.mul_le_mul (by omega) h1
  exact Nat.lt_of_le_of_lt h2 (by decide)
theorem told_zero : told 0 = Str.ofString "0x0" := by decide +kernel
theorem shr_eq (C sh i : Nat) : ((((C * 2 ^ sh : Nat) : Int).fdiv (2 ^ ((0 : Int) + (i : Int) + (sh : Int)).toNat)).fmod 2 == 1) = decide (C / 2 ^ ((0 : Int) + (i : Int)).toNat % 2 = 1) := by
  rw [show ((0 : Int) + (i : Int) + (sh : Int)).toNat = i + sh by omega, show ((0 : Int) + (i : Int)).toNat = i by omega]
  have e1 : (2 : Int) ^ (i + sh) = ((2 ^ (i + sh) : Nat) : Int) := by push_cast; rfl
  have e2 : ((C * 2 ^ sh : Nat) : Int).fdiv ((2 ^ (i + sh) : Nat) : Int) = ((C / 2 ^ i : Nat) : Int) := by
    rw [← Int.ofNat_fdiv, Nat.pow_add, Nat.mul_div_mul_right _ _ (Nat.two_pow_pos sh)]
  rw [e1, e2, show (2 : Int) = ((2 : Nat) : Int) by rfl, fmod_nat]
  by_cases h : C / 2 ^ i % 2 = 1
  · rw [h]; simp
  · have h0 : C / 2 ^ i % 2 = 0 := by omega
    rw [h0]; simp
theorem ints_val {vs : List Value} {ms : List Int} (h : IntsAre vs ms) : ∀ (i : Nat) (v : Value), vs[i]? = some v → ∃ a t, ms[i]? = some a ∧ v = .int a t := by
  induction h with
  | nil => intro i v h; cases h
  | cons a t h ih =>
    intro i v e
    cases i with
    | zero => exact ⟨a, t, rfl, (Option.some.inj e).symm⟩
    | succ i => exact ih i v e
theorem prm_at2 : ∀ j : Nat, j < 4 → ([2, 3, 5, 7] : List Int).getD ((j : Nat) : Int).toNat 0 = ((prm j : Nat) : Int) := by decide
theorem prm_lt : ∀ j : Nat, j < 4 → prm j < 10 := by decide
theorem and_all : ((List.range 29).all fun sh => (List.range 16).all fun C => (List.range 16).all fun M => C == 0 || (C * 2 ^ sh - 1) &&& (M * 2 ^ sh) == ((C - 1) &&& M) * 2 ^ sh) = true := by decide +kernel
theorem and_sh {C M sh : Nat} (hC : C < 16) (hM : M < 16) (h : sh < 29) (h0 : C ≠ 0) : Builtin.bitAnd (((C * 2 ^ sh : Nat) : Int) - 1) ((M * 2 ^ sh : Nat) : Int) = ((((C - 1) &&& M) * 2 ^ sh : Nat) : Int) ∧ ((((C - 1) &&& M) * 2 ^ sh : Nat) : Int) ≤ ((C * 2 ^ sh : Nat) : Int) - 1 := by
  have hp := Nat.two_pow_pos sh
  have h1 : 1 ≤ C * 2 ^ sh := Nat.mul_pos (Nat.pos_of_ne_zero h0) hp
  constructor
  · have z := List.all_eq_true.mp (List.all_eq_true.mp (List.all_eq_true.mp and_all sh (List.mem_range.mpr h)) C (List.mem_range.mpr hC)) M (List.mem_range.mpr hM)
    rw [Bool.or_eq_true] at z
    rcases z with z | z
    · exact absurd (eq_of_beq z) h0
    · rw [← eq_of_beq z, show ((C * 2 ^ sh : Nat) : Int) - 1 = ((C * 2 ^ sh - 1 : Nat) : Int) by omega]
      unfold Builtin.bitAnd
      rw [decide_eq_true (Int.natCast_nonneg _), decide_eq_true (Int.natCast_nonneg _)]
      simp only [Int.toNat_natCast]
  · have h2 : ((C - 1) &&& M) * 2 ^ sh ≤ (C - 1) * 2 ^ sh := Nat.mul_le_mul_right _ Nat.and_le_left
    have h3 : (C - 1) * 2 ^ sh + 2 ^ sh = C * 2 ^ sh := by rw [← Nat.succ_mul]; congr 1; omega
    omega
theorem rst_le : ∀ (n : Nat) (ps : List Nat), rst n ps ≤ n
  | n, [] => Nat.le_refl _
  | n, p :: ps => Nat.le_trans (rst_le (n / prm p) ps) (Nat.div_le_self _ _)
theorem rst_step : ∀ r : Nat, r < 11 → ∀ j : Nat, j < 4 → (-1 : Int) - ((-1 - (r : Int)).fdiv ((prm j : Nat) : Int)) = ((r / prm j : Nat) : Int) := by decide
theorem rst_snoc (n : Nat) (ps : List Nat) (j : Nat) : rst n (ps ++ [j]) = rst n ps / prm j := by simp [rst]
theorem plc_succ (C i : Nat) : plc C (i + 1) = plc C i ++ if C / 2 ^ i % 2 = 1 then [i] else [] := by
  unfold plc
  rw [List.range_succ, List.filter_append, List.filter_cons, List.filter_nil]
  by_cases h : C / 2 ^ i % 2 = 1 <;> simp [h]
theorem prm_at : ∀ i : Nat, i < 4 → ([2, 3, 5, 7] : List Int).getD ((0 : Int) + (i : Int)).toNat 0 = ((prm i : Nat) : Int) ∧ 0 < prm i := by decide
theorem pow_at : ∀ i : Nat, i < 4 → (2 : Int) ^ ((0 : Int) + (i : Int)).toNat = ((2 ^ i : Nat) : Int) := by decide
local macro_rules | `(tactic| walk_at "subscriptTail") => `(tactic| walk_at "sub5")
noncomputable def lenJ (cs : List Int) (n sh : Nat) (lp lc : Addr) (tn : Tok) (Lx : Addr) (pO oS oN : Obj) (k : Nat) (m : Str → Option Value) (nw : List (Addr × Obj)) (tk : Nat) : Prop :=
  ∃ (C : Nat) (a : Int) (tc tw ta : Tok) (oC : Obj), C < k ∧ C < 16 ∧ C &&& msk n = C ∧ lenR (fun i => cs.getD i 0) n k C a = lenOf (fun i => cs.getD i 0) n ∧ m (Str.ofString "counts") = some (.ref lc) ∧ m (Str.ofString "n") = some (.int n tn) ∧ m (Str.ofString "primes") = some (.ref lp) ∧
    m (Str.ofString "whole") = some (.int ((msk n * 2 ^ sh : Nat) : Int) tw) ∧ m (Str.ofString "length") = some (.int a ta) ∧ nw = [(lp, pO), (Lx + 1 + 1 + 1, oC), (Lx + 1 + 1, oS), (Lx + 1, oN)] ∧ oC.data = .cell (some (.int ((C * 2 ^ sh : Nat) : Int) tc))
theorem c_length : ∀ (w : World) (mean mg mb) (lc : Addr) (cv : List Value) (cs : List Int) (n : Nat) (tn : Tok) (ln : Addr) (nv : List Value) (lo hi0 : Nat) (sh : Nat) (ts : Tok), IntsAre cv cs → cs.length = 10 → (cs.all fun y => decide (0 ≤ y) && decide (y ≤ 1000000)) = true →
    1 ≤ n → n ≤ 10 → TkStrs lo hi0 nv (names1 ++ names1) → 2561 ≤ lo → sh < 29 →
    Pure 16 w mean mg mb 222 [.ref lc, .int n tn, .ref ln, .int sh ts] (fun s => s.heap.IsList lc cv.toArray ∧ s.heap.IsList ln nv.toArray ∧ hi0 ≤ s.toks ∧ 2561 ≤ s.toks) (fun s v h' tk' => ∃ t, v = .int (lenOf (fun i => cs.getD i 0) n) t) := by
  intro w mean mg mb lc cv cs n tn ln nv lo hi0 sh ts hcv hcl hcb hn1 hn10 hnv hlo hsh
  refine Pure.of ?_
  intro dp un gd outer base s Q E hd hu B X T h0 ⟨hlc, hln, hhi, ht0⟩ hret
  have mB : Bs s.toks := trivial
  replace hn1 : 0 < n := hn1
  replace hn10 : n < 11 := Nat.lt_succ_of_le hn10
  replace hlo : 2560 < lo := hlo
  replace hhi : hi0 < s.toks + 1 := Nat.lt_succ_of_le hhi
  replace ht0 : 2560 < s.toks := ht0
  refine wpAny_call ?_
  walk_at "mine enterC"
  rename_i Lx hx0 tkx lex Fx oC oS oN dC dS dN Nx
  replace dC : oC.data = .cell none := dC
  replace dS : oS.data = .cell (some (.int (sh : Nat) ts)) := dS
  replace dN : oN.data = .cell (some (.ref ln)) := dN
  walk_at "t20"
  walk_at "t20"
  rename News _ _ _ _ => N0
  obtain ⟨lp, tp, nw0, hlp, htp, hnw0, N1⟩ := News.name4 N0
  subst hlp htp
  refine' iter_range (n := 4) ?hh ?hx ?hp ?F ?N ?hr ?hsm ?hn (fun i m nw (tk : Nat) => nw = nw0 ∧ m (Str.ofString "counts") = some (.ref lc) ∧ m (Str.ofString "n") = some (.int n tn) ∧ m (Str.ofString "primes") = some (.ref lp) ∧ ∃ t, m (Str.ofString "whole") = some (.int ((mskI n i : Nat) : Int) t)) ?h0 ?mono ?turn ?done
  case hh => rfl
  case hx => rfl
  case hp => rfl
  case F => k_asm
  case N => exact N1
  case hr => k_asm
  case hsm => rfl
  case hn => rfl
  case h0 => exact ⟨rfl, rfl, rfl, rfl, _, rfl⟩
  case mono => intro i m nw t t' le h; exact h
  case turn =>
    rintro I i v m₁ news₁ oI h3 tk3 E' hi4 hle ⟨hnw, hm1, hm2, hm3, t9, hm4⟩ off3 F5 N5
    rw [hnw, hnw0] at N5 off3
    dsimp only [envOfC] at F5 N5
    iterate 15 walk_at "s1"
    rw [(prm_at i hi4).1]
    refine' Pure.use (c_mod w mean mg mb n (prm i) _ _ (by have := (prm_at i hi4).2; omega)) ?u1A ?u1h ?u1f ?u1k B ?u1F X ?u1N T ?u1d ?u1u ?u10 ?u1p ?_
    case u1A => rfl
    case u1h => rfl
    case u1f => rfl
    case u1k => rfl
    case u1F => k_asm
    case u1N => k_asm
    case u1d => exact room hd (by decide)
    case u1u => exact room3 hu (by decide)
    case u10 => ((try dsimp only); walk_at "clrC"; omega)
    case u1p => exact trivial
    intro v1 hh1 tkk1 FF1 NN1 kp1 lek1 ⟨t1, e1, ht1⟩
    try dsimp only at lek1
    rw [e1, fmod_nat]
    clear e1
    try dsimp only
    iterate 4 walk_at "s1"
    · rename (((n % prm i : Nat)) : Int) = 0 => hz
      iterate 14 walk_at "s1"
      rw [pow_at i hi4]
      refine' Pure.use (c_add w mean mg mb (mskI n i : Nat) (2 ^ i : Nat) _ _) ?u1A ?u1h ?u1f ?u1k B ?u1F X ?u1N T ?u1d ?u1u ?u10 ?u1p ?_
      case u1A => rfl
      case u1h => rfl
      case u1f => rfl
      case u1k => rfl
      case u1F => k_asm
      case u1N => k_asm
      case u1d => exact room hd (by decide)
      case u1u => exact room3 hu (by decide)
      case u10 => ((try dsimp only); walk_at "clrC"; omega)
      case u1p => exact trivial
      intro v2 hh2 tkk2 FF2 NN2 kp2 lek2 ⟨t2, e2, ht2⟩
      try dsimp only at lek2
      rw [e2]
      clear e2
      try dsimp only
      iterate 2 walk_at "s1"
      walk_at "t20"
      rename Fr _ _ _ _ => F6
      rename News _ _ _ _ => N6
      refine LoopEnd.next F6 N6 (fun p hp => hp) off3 trivial ⟨hnw0.symm, hm1, hm2, hm3, t2, ?_⟩
      show some _ = some _
      rw [mskI, if_pos (by omega)]
      push_cast
      rfl
    · rename ¬ (((n % prm i : Nat)) : Int) = 0 => hz
      walk_at "t20"
      refine LoopEnd.next FF1 NN1 (fun p hp => hp) off3 trivial ⟨hnw0.symm, hm1, hm2, hm3, t9, ?_⟩
      show m₁ _ = _
      rw [hm4, mskI, if_neg (by omega)]
  case done =>
    rintro m₁ news₁ h3 tk3 E' hle ⟨hnw, hm1, hm2, hm3, t9, hm4⟩ F5 N5
    rw [hnw, hnw0] at N5
    dsimp only [envOfC] at F5 N5
    iterate 13 walk_at "s1"
    refine' Pure.use (c_lshift w mean mg mb (mskI n 4 : Nat) (sh : Nat) _ _ (by omega) (by omega) (by omega) (by have := msk_lt n; unfold msk at this; omega)) ?u1A ?u1h ?u1f ?u1k B ?u1F X ?u1N T ?u1d ?u1u ?u10 ?u1p ?_
    case u1A => rfl
    case u1h => rfl
    case u1f => rfl
    case u1k => rfl
    case u1F => k_asm
    case u1N => k_asm
    case u1d => exact room hd (by decide)
    case u1u => exact room3 hu (by decide)
    case u10 => ((try dsimp only); walk_at "clrC"; omega)
    case u1p => exact trivial
    intro v3 hh3 tkk3 FF3 NN3 kp3 lek3 ⟨t3, e3, ht3⟩
    try dsimp only at lek3
    have eW : ((mskI n 4 : Nat) : Int) * 2 ^ ((sh : Nat) : Int).toNat = ((msk n * 2 ^ sh : Nat) : Int) := by
      rw [Int.toNat_natCast]; push_cast; rfl
    rw [e3, eW]
    clear e3 eW
    try dsimp only
    iterate 13 walk_at "s1"
    rename Fr _ _ _ _ => F6
    rename News _ _ _ _ => N6
    rename (_ = Data.cell (some _)) => dC6
    refine' while_walk (n := 16) (lenJ cs n sh lp lc tn Lx (W.listOf #[.int 2 tp, .int 3 (tp + 1), .int 5 (tp + 1 + 1), .int 7 (tp + 1 + 1 + 1)] 0) oS oN) ?wF ?wN ?w0 ?wturn
    case wF => exact F6
    case wN => exact N6
    case w0 => exact ⟨msk n, 0, _, _, _, _, msk_lt n, msk_lt n, Nat.and_self _, rfl, hm1, hm2, hm3, rfl, rfl, rfl, dC6⟩
    case wturn =>
      clear hm1 hm2 hm3 hm4 hnw
      rintro k m₁ news₁ h7 tk7 E' hle7 ⟨C, a, tc, tw, ta, oC, hCk, hC16, hCs, hla, hm1, hm2, hm3, hm4, hm5, rfl, dC⟩ F7 N7
      have hb7 : s.toks ≤ tk7 := by (try dsimp only at hle7); walk_at "clrC"; omega
      iterate 6 walk_at "s1"
      refine wpAny_mono (?tA : wpAny _ _ _ (fun fl s' => fl = Flow.next ∧ ∃ (h' : Heap) (tk' : Nat) (tt : Tok), s' = ⟨h', s.gens, s.drawn, tk', s.os⟩ ∧ Fr s.heap Lx h' (fun y => if y = Str.ofString "told" then some (.str (told (C * 2 ^ sh)) tt) else m₁ y) ∧ News s.heap Lx h' [(lp, W.listOf #[.int 2 tp, .int 3 (tp + 1), .int 5 (tp + 1 + 1), .int 7 (tp + 1 + 1 + 1)] 0), (Lx + 1 + 1 + 1, oC), (Lx + 1 + 1, oS), (Lx + 1, oN)] ∧ s.toks ≤ tk' ∧ (∃ t : Nat, tt = t ∧ 0 < t ∧ (t < 2561 ∨ s.toks ≤ t))) _ _) ?tB (fun _ _ e => e)
      case tA =>
        iterate 9 walk_at "s1"
        · iterate 8 walk_at "s1"
          refine' Pure.use (c_flags w mean mg mb (C * 2 ^ sh) _ (flag_lt hC16 hsh)) ?u1A ?u1h ?u1f ?u1k B ?u1F X ?u1N T ?u1d ?u1u ?u10 ?u1p ?_
          case u1A => rfl
          case u1h => rfl
          case u1f => rfl
          case u1k => rfl
          case u1F => k_asm
          case u1N => k_asm
          case u1d => exact room hd (by decide)
          case u1u => exact room3 hu (by decide)
          case u10 => ((try dsimp only); walk_at "clrC"; omega)
          case u1p => exact (by dsimp only; omega)
          intro v4 hh4 tkk4 FF4 NN4 kp4 lek4 ⟨t4, e4, ht4, ht5⟩
          try dsimp only at lek4
          rw [e4]
          clear e4
          try dsimp only at lek4 ht5
          try dsimp only
          iterate 1 walk_at "s1"
          rename Fr _ _ _ _ => F8
          rename News _ _ _ _ => N8
          exact ⟨trivial, _, _, _, rfl, F8, N8, by (try dsimp only); omega, _, rfl, ht4, by (try dsimp only); omega⟩
        · rename ((C * 2 ^ sh : Nat) : Int) = 0 => hz
          replace hz : C * 2 ^ sh = 0 := by omega
          iterate 7 walk_at "s1"
          · iterate 8 walk_at "s1"
            refine' Pure.use (c_flags w mean mg mb (C * 2 ^ sh) _ (flag_lt hC16 hsh)) ?u2A ?u2h ?u2f ?u2k B ?u2F X ?u2N T ?u2d ?u2u ?u20 ?u2p ?_
            case u2A => rfl
            case u2h => rfl
            case u2f => rfl
            case u2k => rfl
            case u2F => k_asm
            case u2N => k_asm
            case u2d => exact room hd (by decide)
            case u2u => exact room3 hu (by decide)
            case u20 => ((try dsimp only); walk_at "clrC"; omega)
            case u2p => exact (by dsimp only; omega)
            intro v4 hh4 tkk4 FF4 NN4 kp4 lek4 ⟨t4, e4, ht4, ht5⟩
            try dsimp only at lek4
            rw [e4]
            clear e4
            try dsimp only at lek4 ht5
            try dsimp only
            iterate 1 walk_at "s1"
            rename Fr _ _ _ _ => F8
            rename News _ _ _ _ => N8
            exact ⟨trivial, _, _, _, rfl, F8, N8, by (try dsimp only); omega, _, rfl, ht4, by (try dsimp only); omega⟩
          · iterate 4 walk_at "s1"
            rename Fr _ _ _ _ => F8
            rename News _ _ _ _ => N8
            rw [← told_zero, ← hz] at F8
            exact ⟨rfl, _, _, _, rfl, F8, N8, by (try dsimp only); omega, _, rfl, by (try dsimp only); omega, by (try dsimp only); omega⟩
      case tB =>
        rintro fl s2 ⟨rfl, h8, tk8, tt, rfl, F8, N8, le9, tt', hteq, htt, htt2⟩
        replace hteq := hteq.symm
        subst hteq
        iterate 2 walk_at "s1"
        refine wpAny_mono (?pA : wpAny _ _ _ (fun fl s' => fl = Flow.next ∧ ∃ (h' : Heap) (tk' : Nat) (lpl : Addr) (pvs : List Value) (cp : Nat), s' = ⟨h', s.gens, s.drawn, tk', s.os⟩ ∧ Fr s.heap Lx h' (fun y => if y = Str.ofString "places" then some (.ref lpl) else if y = Str.ofString "told" then some (.str (told (C * 2 ^ sh)) tt') else m₁ y) ∧ News s.heap Lx h' [(lpl, W.listOf pvs.toArray cp), (lp, W.listOf #[.int 2 tp, .int 3 (tp + 1), .int 5 (tp + 1 + 1), .int 7 (tp + 1 + 1 + 1)] 0), (Lx + 1 + 1 + 1, oC), (Lx + 1 + 1, oS), (Lx + 1, oN)] ∧ s.toks ≤ tk' ∧ (@Ne Nat lpl (Lx + 1 + 1 + 1)) ∧ IntsAre pvs ((plc C 4).map Int.ofNat)) _ _) ?pB (fun _ _ e => e)
        case pA =>
          iterate 8 walk_at "s1"
          · rename (told (C * 2 ^ sh) == Str.ofString "0x0") = true => hz
            have hC0 : C = 0 := Decidable.byContradiction fun q => told_ne hC16 hsh q (eq_of_beq hz)
            iterate 4 walk_at "s1"
            rename Fr _ _ _ _ => F9
            rename News _ _ _ _ => N9
            refine ⟨by first | exact rfl | exact trivial, _, _, _, [], _, rfl, F9, N9, by (try dsimp only); omega, by omega, ?_⟩
            rw [hC0]
            exact .nil
          · rename (told (C * 2 ^ sh) == Str.ofString "0x0") = false => hz
            have hC0 : C ≠ 0 := fun q => by rw [q, Nat.zero_mul, told_zero, beq_self_eq_true] at hz; cases hz
            iterate 8 walk_at "s1"
            refine splitTk F8 N8 (by decide) ?_ (by have := told_len hC16 hsh hC0; unfold sizeLine; omega)
            intro DT lT hT kT eT tkT FT NT ltT
            k_lt ltT
            replace eT := eT.trans (told_split hC16 hsh hC0)
            intro lefT
            try dsimp only at lefT tkT
            have hlen : (strValues lT).length = (plc C 4).length := by
              have := congrArg List.length eT
              rw [List.length_map, List.length_map] at this
              rw [← this]
              exact strsAre_len (strsValues lT) |>.trans (List.length_map _)
            have hpl4 : (plc C 4).length ≤ 4 := Nat.le_trans (List.length_filter_le _ _) (by simp)
            refine' comp_list (its := (strValues lT).toArray) ?jhh ?jF ?jN ?jhS ?jhsz (fun _ => true) (fun i ys (tk : Nat) => IntsAre ys (((plc C 4).take i).map Int.ofNat)) ?ji0 ?jmono ?jtests ?jskip ?jturn ?jdone ?jhcell ?jhkind ?jhx
            case jhh => rfl
            case jF => exact FT
            case jN => exact NT
            case jhS => exact .inr ⟨_, List.mem_cons_self, rfl, _, rfl⟩
            case jhsz => rw [List.size_toArray, hlen]; exact Nat.le_trans hpl4 (by decide)
            case jhcell => decide
            case jhkind => rfl
            case jhx => rfl
            case ji0 => exact .nil
            case jmono => intro i ys t t' _ h; exact h
            case jtests =>
              intro I C' D oI oC' i v ys m₂ h tk E' hv ho hm F N off ne
              exact wpAny_tests_nil ⟨rfl, h, tk, rfl, F, N⟩
            case jskip => intro i v ys tk hv q; cases q
            case jturn =>
              rintro I C' D oI oC' i v ys m₂ h tk E' hi hv _ hle hJ ho hm F N off ne
              obtain ⟨p, hpm, hpi, hpv'⟩ := strv_at lT i v (by simpa using hv)
              have hi' : i < (plc C 4).length := by rw [← hlen]; simpa using hi
              obtain ⟨j, hj⟩ : ∃ j, (plc C 4)[i] = j := ⟨_, rfl⟩
              have hj4 : j < 4 := plc_lt (hj ▸ List.getElem_mem hi')
              have e1 : p.1 = nm (sh + j) := by
                have q := congrArg (fun l => l[i]?) eT
                rw [List.getElem?_map, hpi, List.getElem?_map, List.getElem?_eq_getElem hi', hj] at q
                exact Option.some.inj q
              have hnj := nm_at (show sh + j < 32 by omega)
              obtain ⟨tq, htq, htq0, htq1⟩ : ∃ t : Nat, p.2 = t ∧ 0 < t ∧ (t < lo ∨ hi0 ≤ t) := by
                rcases tkT p hpm with q | ⟨t', q, l⟩
                · exact ⟨_, q, htt, by omega⟩
                · exact ⟨_, q, by omega, by omega⟩
              rw [e1, htq] at hpv'
              subst hpv'
              iterate 11 walk_at "s1"
              refine' Pure.use (c_indexS w mean mg mb ln nv (names1 ++ names1) (nm (sh + j)) tq lo hi0 hnv (by omega) htq1 htq0 hnj.2.2.2) ?u1A ?u1h ?u1f ?u1k B ?u1F X ?u1N T ?u1d ?u1u ?u10 ?u1p ?_
              case u1A => rfl
              case u1h => rfl
              case u1f => rfl
              case u1k => rfl
              case u1F => k_asm
              case u1N => k_asm
              case u1d => exact room hd (by decide)
              case u1u => exact room3 hu (by decide)
              case u10 => ((try dsimp only); walk_at "clrC"; omega)
              case u1p => exact isList_keeps hln (Fr.keep (by assumption))
              intro v5 hh5 tkk5 FF5 NN5 kp5 lek5 ⟨t5, e5, ht5⟩
              try dsimp only at lek5
              rw [e5, hnj.2.2.1]
              clear e5
              try dsimp only
              iterate 2 walk_at "s1"
              refine CompElt.intro FF5 NN5 (fun p hp => hp) ?_
              have e6 : (plc C 4).take (i + 1) = (plc C 4).take i ++ [j] := by rw [List.take_add_one, List.getElem?_eq_getElem hi', hj]; rfl
              rw [e6, List.map_append, show (((sh + j : Nat) : Int) - ((sh : Nat) : Int)) = Int.ofNat j by show _ = ((j : Nat) : Int); omega]
              exact ints_snoc hJ _ _
            case jdone =>
              rintro D h tk ys hle hJ F N off
              have off2 := off
              simp only [Off1] at off2
              iterate 1 walk_at "s1"
              rename Fr _ _ _ _ => F9
              rename News _ _ _ _ => N9
              refine ⟨by first | exact rfl | exact trivial, _, _, _, ys, ys.length, rfl, F9, ?_, by (try dsimp only); omega, fun e => off2.2.2.1 e.symm, ?_⟩
              · intro p hp
                rcases List.mem_cons.mp hp with rfl | hp
                · exact N9 (D, lst ys) List.mem_cons_self
                · exact N9 p (List.mem_cons_of_mem _ (List.mem_cons_of_mem _ hp))
              · rw [List.size_toArray, hlen, List.take_length] at hJ
                exact hJ
        case pB =>
          rintro fl s2 ⟨rfl, h9, tk9, lpl, pvs, cp, rfl, F9, N9, le10, hpl, hpv⟩
          iterate 2 walk_at "s1"
          walk_at "t20"
          refine' comp_range (n := 4) ?qhh ?qF ?qN ?qhr ?qhsm ?qhn ?qhsz (fun v => match v with | .int a _ => decide (C / 2 ^ a.toNat % 2 = 1) | _ => false) (fun i ys (tk : Nat) => IntsAre ys ((plc C i).map Int.ofNat)) ?qi0 ?qmono ?qtests ?qskip ?qturn ?qdone ?qhcell ?qhkind ?qhx
          case qhh => rfl
          case qF => k_asm
          case qN => k_asm
          case qhr => k_asm
          case qhsm => rfl
          case qhn => rfl
          case qhsz => decide
          case qhcell => decide
          case qhkind => rfl
          case qhx => rfl
          case qi0 => exact .nil
          case qmono => intro i ys t t' _ h; exact h
          case qtests =>
            rintro I C' D oI oC' i v ys m₂ h tk E' ⟨t, rfl⟩ ho hm F N off ne
            refine wpAny_tests_one ?_
            iterate 14 walk_at "s1"
            exact ⟨shr_eq C sh i, _, _, rfl, F, N⟩
          case qskip =>
            rintro i v ys tk ⟨t, rfl⟩ q h
            rw [plc_succ, if_neg, List.append_nil]
            · exact h
            · simpa using q
          case qturn =>
            rintro I C' D oI oC' i v ys m₂ h tk E' hi ⟨t, rfl⟩ q hle hJ ho hm F N off ne
            iterate 1 walk_at "s1"
            refine CompElt.intro F N (fun p hp => hp) ?_
            rw [plc_succ, if_pos (show C / 2 ^ i % 2 = 1 by simpa using q), List.map_append, show (0 : Int) + (i : Int) = Int.ofNat i by show _ = ((i : Nat) : Int); omega]
            exact ints_snoc hJ _ _
          case qdone =>
            rintro D h tk ys hle hJ F N off
            iterate 14 walk_at "s1"
            rename Fr _ _ _ _ => F10
            rename News _ _ _ _ => N10
            obtain ⟨nw2, hnw2, N11⟩ := News.name N10
            refine' iter_list (its := pvs.toArray) ?rhh ?rhx ?rhp ?rF ?rN ?rS (fun i m nw (tk : Nat) => nw = nw2 ∧ m (Str.ofString "counts") = some (.ref lc) ∧ m (Str.ofString "n") = some (.int n tn) ∧ m (Str.ofString "primes") = some (.ref lp) ∧ m (Str.ofString "whole") = some (.int ((msk n * 2 ^ sh : Nat) : Int) tw) ∧ m (Str.ofString "length") = some (.int a ta) ∧ m (Str.ofString "places") = some (.ref lpl) ∧ ∃ t, m (Str.ofString "rest") = some (.int ((rst n ((plc C 4).take i) : Nat) : Int) t)) ?r0 ?rmono ?rturn ?rdone
            case rhh => rfl
            case rhx => rfl
            case rhp => rfl
            case rF => k_asm
            case rN => exact N11
            case rS => rw [hnw2]; exact .inr ⟨W.listOf pvs.toArray cp, List.mem_cons_of_mem _ List.mem_cons_self, rfl, _, rfl⟩
            case r0 => exact ⟨rfl, hm1, hm2, hm3, hm4, hm5, rfl, tn, rfl⟩
            case rmono => intro i m nw t t' le h; exact h
            case rturn =>
              rintro I i v m₂ news₂ oI h11 tk11 E2 hv hle11 ⟨hnw, g1, g2, g3, g4, g5, g6, t9, g7⟩ off11 hS F11 N11
              have hb11 : s.toks ≤ tk11 := by (try dsimp only at hle11); walk_at "clrC"; omega
              rw [hnw, hnw2] at N11 off11
              dsimp only [envOfC] at F11 N11
              obtain ⟨av, tv, hav, rfl⟩ := ints_val hpv i v (by simpa using hv)
              rw [List.getElem?_map, Option.map_eq_some_iff] at hav
              obtain ⟨j, hj, hje⟩ := hav
              replace hje : av = ((j : Nat) : Int) := hje.symm
              subst hje
              have hj4 : j < 4 := plc_lt (List.mem_of_getElem? hj)
              have hr10 : rst n ((plc C 4).take i) < n + 1 := Nat.lt_succ_of_le (rst_le n ((plc C 4).take i))
              iterate 25 walk_at "s1"
              refine' Pure.use (c_sub w mean mg mb (-1) (rst n ((plc C 4).take i) : Nat) _ _) ?u1A ?u1h ?u1f ?u1k B ?u1F X ?u1N T ?u1d ?u1u ?u10 ?u1p ?_
              case u1A => rfl
              case u1h => rfl
              case u1f => rfl
              case u1k => rfl
              case u1F => k_asm
              case u1N => k_asm
              case u1d => exact room hd (by decide)
              case u1u => exact room3 hu (by decide)
              case u10 => ((try dsimp only); walk_at "clrC"; omega)
              case u1p => exact trivial
              intro v6 hh6 tkk6 FF6 NN6 kp6 lek6 ⟨t6, e6, ht6⟩
              try dsimp only at lek6
              rw [e6]
              clear e6
              try dsimp only
              iterate 7 walk_at "s1"
              rw [prm_at2 j hj4]
              refine' Pure.use (c_fdiv w mean mg mb (-1 - (rst n ((plc C 4).take i) : Nat)) (prm j : Nat) _ _ (by have := (prm_at j hj4).2; omega) (by omega) (by omega) (by have := prm_lt j hj4; omega)) ?u2A ?u2h ?u2f ?u2k B ?u2F X ?u2N T ?u2d ?u2u ?u20 ?u2p ?_
              case u2A => rfl
              case u2h => rfl
              case u2f => rfl
              case u2k => rfl
              case u2F => k_asm
              case u2N => k_asm
              case u2d => exact room hd (by decide)
              case u2u => exact room3 hu (by decide)
              case u20 => ((try dsimp only); walk_at "clrC"; omega)
              case u2p => exact trivial
              intro v7 hh7 tkk7 FF7 NN7 kp7 lek7 ⟨t7, e7, ht7⟩
              try dsimp only at lek7
              rw [e7]
              clear e7
              try dsimp only
              iterate 2 walk_at "s1"
              refine' Pure.use (c_sub w mean mg mb (-1) ((-1 - ((rst n ((plc C 4).take i) : Nat) : Int)).fdiv (prm j : Nat)) _ _) ?u3A ?u3h ?u3f ?u3k B ?u3F X ?u3N T ?u3d ?u3u ?u30 ?u3p ?_
              case u3A => rfl
              case u3h => rfl
              case u3f => rfl
              case u3k => rfl
              case u3F => k_asm
              case u3N => k_asm
              case u3d => exact room hd (by decide)
              case u3u => exact room3 hu (by decide)
              case u30 => ((try dsimp only); walk_at "clrC"; omega)
              case u3p => exact trivial
              intro v8 hh8 tkk8 FF8 NN8 kp8 lek8 ⟨t8, e8, ht8⟩
              try dsimp only at lek8
              rw [e8, rst_step _ (by omega) j hj4]
              clear e8
              try dsimp only
              iterate 4 walk_at "s1"
              rename Fr _ _ _ _ => F12
              rename News _ _ _ _ => N12
              have e9 : (plc C 4).take (i + 1) = (plc C 4).take i ++ [j] := by rw [List.take_add_one, hj]; rfl
              refine LoopEnd.next F12 N12 (fun p hp => hp) off11 ?_ ⟨hnw2.symm, g1, g2, g3, g4, g5, g6, t8, ?_⟩
              · exact .inr ⟨W.listOf pvs.toArray cp, List.mem_cons_of_mem _ List.mem_cons_self, rfl, _, rfl⟩
              · show some _ = some _
                rw [e9, rst_snoc]
            case rdone =>
              rintro m₂ news₂ h11 tk11 E2 hle11 ⟨hnw, g1, g2, g3, g4, g5, g6, t9, g7⟩ hS F11 N11
              rw [hnw, hnw2] at N11
              dsimp only [envOfC] at F11 N11
              rw [show pvs.toArray.size = (plc C 4).length by rw [List.size_toArray, hpv.length, List.length_map], List.take_length] at g7
              have hrb := rst_at hn1 (Nat.le_of_lt_succ hn10) hC16 hCs
              iterate 3 walk_at "s1"
              refine wpAny_mono (?lA : wpAny _ _ _ (fun fl s' => fl = Flow.next ∧ ∃ (h' : Heap) (tk' : Nat) (tl : Tok), s' = ⟨h', s.gens, s.drawn, tk', s.os⟩ ∧ Fr s.heap Lx h' (fun y => if y = Str.ofString "length" then some (.int (stp (fun i => cs.getD i 0) n C a) tl) else m₂ y) ∧ News s.heap Lx h' [(D, lst ys), (lpl, W.listOf pvs.toArray cp), (lp, W.listOf #[.int 2 tp, .int 3 (tp + 1), .int 5 (tp + 1 + 1), .int 7 (tp + 1 + 1 + 1)] 0), (Lx + 1 + 1 + 1, oC), (Lx + 1 + 1, oS), (Lx + 1, oN)] ∧ s.toks ≤ tk') _ _) ?lB (fun _ _ e => e)
              case lA =>
                have hps : pvs.toArray.size = (plc C 4).length := by rw [List.size_toArray, hpv.length, List.length_map]
                have hp4 : (plc C 4).length ≤ 4 := Nat.le_trans (List.length_filter_le _ _) (by simp)
                iterate 10 walk_at "s1"
                refine call_len_list (items := pvs.toArray) ⟨_, (N11 (lpl, W.listOf pvs.toArray cp) (List.mem_cons_of_mem _ List.mem_cons_self)).1, rfl, _, rfl⟩ (by rw [hps]; omega) ?_
                rw [hps]
                try dsimp only
                iterate 6 walk_at "s1"
                · rename (((plc C 4).length : Nat) : Int).fmod 2 = 0 => hz
                  have hpar : (plc C 4).length % 2 = 0 := by
                    rw [show (2 : Int) = ((2 : Nat) : Int) by rfl, fmod_nat] at hz
                    omega
                  iterate 15 walk_at "s1"
                  refine' Pure.use (c_add w mean mg mb a (cs.getD (((rst n (plc C 4) : Nat) : Int) - 1).toNat 0) _ _) ?u1A ?u1h ?u1f ?u1k B ?u1F X ?u1N T ?u1d ?u1u ?u10 ?u1p ?_
                  case u1A => rfl
                  case u1h => rfl
                  case u1f => rfl
                  case u1k => rfl
                  case u1F => k_asm
                  case u1N => k_asm
                  case u1d => exact room hd (by decide)
                  case u1u => exact room3 hu (by decide)
                  case u10 => ((try dsimp only); walk_at "clrC"; omega)
                  case u1p => exact trivial
                  intro v6 hh6 tkk6 FF6 NN6 kp6 lek6 ⟨t6, e6, ht6⟩
                  try dsimp only at lek6
                  rw [e6]
                  clear e6
                  try dsimp only
                  iterate 1 walk_at "s1"
                  rename Fr _ _ _ _ => F12
                  rename News _ _ _ _ => N12
                  have est : stp (fun i => cs.getD i 0) n C a = a + cs.getD (((rst n (plc C 4) : Nat) : Int) - 1).toNat 0 := by
                    rw [show (((rst n (plc C 4) : Nat) : Int) - 1).toNat = rst n (plc C 4) - 1 by omega]
                    unfold stp
                    rw [if_pos hpar]
                  rw [← est] at F12
                  exact ⟨by first | exact rfl | exact trivial, _, _, _, rfl, F12, N12, by (try dsimp only); omega⟩
                · rename ¬ (((plc C 4).length : Nat) : Int).fmod 2 = 0 => hz
                  have hpar : ¬ (plc C 4).length % 2 = 0 := by
                    rw [show (2 : Int) = ((2 : Nat) : Int) by rfl, fmod_nat] at hz
                    omega
                  iterate 15 walk_at "s1"
                  refine' Pure.use (c_sub w mean mg mb a (cs.getD (((rst n (plc C 4) : Nat) : Int) - 1).toNat 0) _ _) ?u2A ?u2h ?u2f ?u2k B ?u2F X ?u2N T ?u2d ?u2u ?u20 ?u2p ?_
                  case u2A => rfl
                  case u2h => rfl
                  case u2f => rfl
                  case u2k => rfl
                  case u2F => k_asm
                  case u2N => k_asm
                  case u2d => exact room hd (by decide)
                  case u2u => exact room3 hu (by decide)
                  case u20 => ((try dsimp only); walk_at "clrC"; omega)
                  case u2p => exact trivial
                  intro v6 hh6 tkk6 FF6 NN6 kp6 lek6 ⟨t6, e6, ht6⟩
                  try dsimp only at lek6
                  rw [e6]
                  clear e6
                  try dsimp only
                  iterate 1 walk_at "s1"
                  rename Fr _ _ _ _ => F12
                  rename News _ _ _ _ => N12
                  have est : stp (fun i => cs.getD i 0) n C a = a - cs.getD (((rst n (plc C 4) : Nat) : Int) - 1).toNat 0 := by
                    rw [show (((rst n (plc C 4) : Nat) : Int) - 1).toNat = rst n (plc C 4) - 1 by omega]
                    unfold stp
                    rw [if_neg hpar]
                  rw [← est] at F12
                  exact ⟨by first | exact rfl | exact trivial, _, _, _, rfl, F12, N12, by (try dsimp only); omega⟩
              case lB =>
                rintro fl s2 ⟨rfl, h12, tk12, tl, rfl, F12, N12, le12⟩
                iterate 9 walk_at "s1"
                · rename ((C * 2 ^ sh : Nat) : Int) ≤ 0 => hz
                  have hC0 : C = 0 := by
                    have z : C * 2 ^ sh = 0 := by omega
                    rcases Nat.mul_eq_zero.mp z with z | z
                    · exact z
                    · exact absurd z (Nat.ne_of_gt (Nat.two_pow_pos sh))
                  iterate 3 walk_at "s1"
                  repeat (with_reducible refine QR.go (by with_reducible assumption) _ _ ?_; intro _)
                  dsimp only
                  unfold WEnd
                  dsimp only
                  refine QR.go (by with_reducible assumption) _ _ ?_
                  intro _
                  dsimp only
                  refine hret _ _ _ (Fr.keep F12) ⟨tl, ?_⟩
                  obtain ⟨k', rfl⟩ : ∃ k', k = k' + 1 := ⟨k - 1, by omega⟩
                  rw [hC0] at hla ⊢
                  rw [← hla]
                  rfl
                · rename ¬ ((C * 2 ^ sh : Nat) : Int) ≤ 0 => hz
                  have hC0 : C ≠ 0 := fun q => hz (by rw [q]; simp)
                  iterate 21 walk_at "s1"
                  refine' Pure.use (c_sub w mean mg mb (C * 2 ^ sh : Nat) 1 _ _) ?u3A ?u3h ?u3f ?u3k B ?u3F X ?u3N T ?u3d ?u3u ?u30 ?u3p ?_
                  case u3A => rfl
                  case u3h => rfl
                  case u3f => rfl
                  case u3k => rfl
                  case u3F => k_asm
                  case u3N => k_asm
                  case u3d => exact room hd (by decide)
                  case u3u => exact room3 hu (by decide)
                  case u30 => ((try dsimp only); walk_at "clrC"; omega)
                  case u3p => exact trivial
                  intro v6 hh6 tkk6 FF6 NN6 kp6 lek6 ⟨t6, e6, ht6⟩
                  try dsimp only at lek6
                  rw [e6]
                  clear e6
                  try dsimp only
                  iterate 4 walk_at "s1"
                  refine' Pure.use (c_and w mean mg mb (((C * 2 ^ sh : Nat) : Int) - 1) (msk n * 2 ^ sh : Nat) _ _) ?u4A ?u4h ?u4f ?u4k B ?u4F X ?u4N T ?u4d ?u4u ?u40 ?u4p ?_
                  case u4A => rfl
                  case u4h => rfl
                  case u4f => rfl
                  case u4k => rfl
                  case u4F => k_asm
                  case u4N => k_asm
                  case u4d => exact room hd (by decide)
                  case u4u => exact room3 hu (by decide)
                  case u40 => ((try dsimp only); walk_at "clrC"; omega)
                  case u4p => exact trivial
                  intro v7 hh7 tkk7 FF7 NN7 kp7 lek7 ⟨t7, e7, ht7⟩
                  try dsimp only at lek7
                  have hX := and_sh hC16 (msk_lt n) hsh hC0
                  rw [e7, hX.1]
                  clear e7
                  try dsimp only
                  iterate 5 walk_at "s1"
                  iterate 6 walk_at "s1"
                  rename Fr _ _ _ _ => F13
                  rename News _ _ _ _ => N13
                  rename (_ = Data.cell (some _)) => dC13
                  rw [if_neg (Int.not_lt.mpr hX.2)] at dC13
                  simp only [List.cons_append, List.nil_append] at N13
                  have hC' : (C - 1) &&& msk n ≤ C - 1 := Nat.and_le_left
                  obtain ⟨k', rfl⟩ : ∃ k', k = k' + 1 := ⟨k - 1, by omega⟩
                  refine WEnd.next (n' := k') F13 N13 (fun p hp => List.mem_cons_of_mem _ (List.mem_cons_of_mem _ hp)) (Nat.lt_succ_self _) ⟨(C - 1) &&& msk n, stp (fun i => cs.getD i 0) n C a, _, tw, tl, _, by omega, by omega, ?_, ?_, g1, g2, g3, g4, rfl, rfl, dC13⟩
                  · rw [Nat.and_assoc, Nat.and_self]
                  · rw [← hla, lenR, if_neg hC0]
end
section
set_option maxRecDepth 100000
set_option maxHeartbeats 4000000
open LCg
theorem names1_len : names1.length = 32 := by decide +kernel
theorem sh_ex (x : Int) : ∃ sh : Nat, sh < 29 ∧ (x.fmod 100).fmod 29 = ((sh : Nat) : Int) :=
  ⟨((x.fmod 100).fmod 29).toNat, by have := Int.fmod_lt_of_pos (x.fmod 100) (show (0 : Int) < 29 by decide); have := Int.fmod_nonneg_of_pos (x.fmod 100) (show (0 : Int) < 29 by decide); omega, by have := Int.fmod_nonneg_of_pos (x.fmod 100) (show (0 : Int) < 29 by decide); omega⟩
theorem mul_len1 (c : Nat) (n : Int) (h : n < 3) : (Txt.mul ⟨#[c]⟩ n).length ≤ 3 := by
  have e := congrArg List.length (mul_one_list c n)
  rw [Array.length_toList, List.length_replicate] at e
  show (Txt.mul ⟨#[c]⟩ n).cps.size ≤ 3
  omega
theorem row_one_l : ∀ i : Nat, i < 10 → [46] ++ [((64 : Int) + (1 + (i : Int))).toNat] ++ List.replicate (((1 : Int) + (i : Int)).fmod 3).toNat ((192 : Int) + (1 + (i : Int))).toNat ++ [((128 : Int) + (1 + (i : Int))).toNat] = rowL i 1 := by decide
theorem row_one {i : Nat} (hi : i < 10) : Str.ofString "." ++ (⟨#[((64 : Int) + (1 + (i : Int))).toNat]⟩ : Str) ++ Txt.mul ⟨#[((192 : Int) + (1 + (i : Int))).toNat]⟩ (((1 : Int) + (i : Int)).fmod 3) ++ (⟨#[((128 : Int) + (1 + (i : Int))).toNat]⟩ : Str) = ⟨(rowL i 1).toArray⟩ := by
  have h : (Str.ofString "." ++ (⟨#[((64 : Int) + (1 + (i : Int))).toNat]⟩ : Str) ++ Txt.mul ⟨#[((192 : Int) + (1 + (i : Int))).toNat]⟩ (((1 : Int) + (i : Int)).fmod 3) ++ (⟨#[((128 : Int) + (1 + (i : Int))).toNat]⟩ : Str)).cps.toList = rowL i 1 := by
    rw [str_app_cps, str_app_cps, str_app_cps, mul_one_list, ← row_one_l i hi]
    rfl
  revert h
  generalize Str.ofString "." ++ (⟨#[((64 : Int) + (1 + (i : Int))).toNat]⟩ : Str) ++ Txt.mul ⟨#[((192 : Int) + (1 + (i : Int))).toNat]⟩ (((1 : Int) + (i : Int)).fmod 3) ++ (⟨#[((128 : Int) + (1 + (i : Int))).toNat]⟩ : Str) = x
  intro h
  obtain ⟨a⟩ := x
  exact congrArg Str.mk (Array.ext' h)
theorem led10 {h₀ h : Heap} {L a1 a2 a3 a4 a5 a6 a7 a8 a9 a10 : Addr} {x1 x2 x3 x4 x5 x6 x7 x8 x9 x10 : Obj} (N : News h₀ L h [(a1, x1), (a2, x2), (a3, x3), (a4, x4), (a5, x5), (a6, x6), (a7, x7), (a8, x8), (a9, x9), (a10, x10)]) :
    ∃ ll o7 o8 o9 o10, ll = a1 ∧ o7 = x7 ∧ o8 = x8 ∧ o9 = x9 ∧ o10 = x10 := ⟨_, _, _, _, _, rfl, rfl, rfl, rfl, rfl⟩
noncomputable def lawJ (ll ln lc Lx : Addr) (nL cL oK oE oU oS oN : Obj) (i : Nat) (m : Str → Option Value) (nw : List (Addr × Obj)) (tk : Nat) : Prop :=
  ∃ (e : Nat → Nat) (lr : Addr) (rvs lv : List Value) (cr cl : Nat) (oR : Obj), (∀ j, e j ≤ 3) ∧ StrsAre rvs (rowS fun j => 1 + dotsOf e j i) ∧ IntsAre lv ((List.range i).map fun j => ((e j : Nat) : Int)) ∧ m (Str.ofString "lengths") = some (.ref ll) ∧ m (Str.ofString "cells") = some (.ref lc) ∧
    nw = [(ll, W.listOf lv.toArray cl), (lr, W.listOf rvs.toArray cr), (ln, nL), (lc, cL), (Lx + 1 + 1 + 1 + 1 + 1 + 1, oK), (Lx + 1 + 1 + 1 + 1 + 1, oE), (Lx + 1 + 1 + 1 + 1, oR), (Lx + 1 + 1 + 1, oU), (Lx + 1 + 1, oS), (Lx + 1, oN)] ∧ oR.data = .cell (some (.ref lr)) ∧
    Off1 lr [(ll, W.listOf lv.toArray cl), (ln, nL), (lc, cL), (Lx + 1 + 1 + 1 + 1 + 1 + 1, oK), (Lx + 1 + 1 + 1 + 1 + 1, oE), (Lx + 1 + 1 + 1 + 1, oR), (Lx + 1 + 1 + 1, oU), (Lx + 1 + 1, oS), (Lx + 1, oN)]
theorem led_new {h₀ h h' : Heap} {L l : Addr} {m : Str → Option Value} {news : List (Addr × Obj)} {o : Obj} (F : Fr h₀ L h m) (N : News h₀ L h' news) (e : h'.get? l = some o) (e0 : h.get? l = none) : News h₀ L h' ((l, o) :: news) := fun p hp => by
  rcases List.mem_cons.mp hp with rfl | hp
  · refine ⟨e, fun q => ?_, ?_⟩
    · obtain ⟨o', _, _, ho, _⟩ := F.ns
      have q' : l = L := q
      rw [q', ho] at e0
      cases e0
    · cases x : h₀.get? l with
      | none => rfl
      | some o' => rw [F.keep _ _ x] at e0; cases e0
  · exact N p hp
theorem led_off {h₀ h : Heap} {L l : Addr} : ∀ {news : List (Addr × Obj)}, News h₀ L h news → h.get? l = none → Off1 l news
  | [], _, _ => trivial
  | (a, o) :: r, N, e => ⟨fun q => (by
      have z := (N (a, o) List.mem_cons_self).1
      dsimp only at z
      rw [show a = l from q, e] at z
      cases z), led_off (fun p hp => N p (List.mem_cons_of_mem _ hp)) e⟩
theorem numbers_use {w : World} {mean : ExcName → Option Value} {mg mb : Str → Option Value} {x : Str} {tx : Tok} {groups : List (List Nat)} {A A₀ : Around} {env : Env} {base h₀ : Heap} {L : Addr} {m : Str → Option Value} {news : List (Addr × Obj)} {s : Shared} {Q E : Value → Shared → Prop}
    (hx : x.cps.toList = groups.flatten) (hg : ∀ g ∈ groups, GroupOk g) (hlen : x.length ≤ 2 ^ 20)
    (hA : A.frames = some [env]) (hh : A.handled = none) (hf : env.frame = some L) (hke : env.scope.kind = .function)
    (B : Below A₀ base [] h₀) (F : Fr h₀ L s.heap m) (X : (K w.params).In h₀) (N : News h₀ L s.heap news) (T : Top q looseM mean mg mb h₀) (XB : (K w.params).In base) (TB : Top q looseM mean mg mb base)
    (hd : A.depth + 20 < recursionLimit) (hu : A.units + 400 < cLine) (h0 : 0 < s.toks)
    (hret : ∀ (h' : Heap) (tk' : Nat) (l : Addr) (vs : List Value), Fr h₀ L h' m → News h₀ L h' news → h'.IsList l vs.toArray → TkInts tk' vs (groups.map fun g => ((groupVal g : Nat) : Int)) → s.toks ≤ tk' → Q (.ref l) { s with heap := h', toks := tk' }) :
    wpAny (model pw w) A (call (.ref 210) [.str x tx]) Q E s := by
  have B' := pushX B F hf hke
  rw [aro_eq hh hA]
  have efs : ([env].filterMap (·.frame)) = [L] := by simp [hf]
  refine c_numbers hx hg hlen hd hu ⟨rfl, B'.stays, B'.frames⟩ (X.keeps F.keep) (T.keeps F.keep) XB TB ?_ h0 ?_
  · rw [efs]
    intro b hb
    rw [List.mem_singleton.mp hb]
    obtain ⟨o, es, ep, ho, hdt, _⟩ := F.ns
    exact ⟨o, es, ep, ho, hdt⟩
  · intro h' tk' g' l vs KT hk hl ht le
    rw [efs] at KT
    have keep : ∀ b o, b ≠ L → s.heap.get? b = some o → h'.get? b = some o := fun b o hb e => hk _ _ (KT.other b o e (by simpa using hb))
    have ns' : h'.Ns L m := by
      obtain ⟨o, es, ep, ho, hdt, hr⟩ := F.ns
      obtain ⟨sl, e⟩ := KT.up ho
      exact ⟨_, es, ep, hk _ _ e, hdt, hr⟩
    have nL : ∀ b o, h₀.get? b = some o → b ≠ L := fun b o e q => by
      have q1 := Heap.lt_size e
      rw [q] at q1
      exact absurd q1 (Nat.not_lt.mpr F.above)
    exact hret h' tk' l vs ⟨ns', fun b o e => keep b o (nL b o e) (F.keep b o e), F.above⟩ (fun p hp => ⟨keep _ _ (N p hp).2.1 (N p hp).1, (N p hp).2⟩) hl ht le
theorem dots_le {e : Nat → Nat} (he : ∀ j, e j ≤ 3) (p : Nat) : ∀ D, dotsOf e p D ≤ 3 * D
  | 0 => Nat.le_refl _
  | D + 1 => by
    have h1 := dots_le he p D
    have h2 := he D
    show dotsOf e p D + (if (p + 1) % (D + 1) = 0 then e D else 0) ≤ _
    split <;> omega
theorem dots_congr {e e' : Nat → Nat} (p : Nat) : ∀ D, (∀ q, q < D → e q = e' q) → dotsOf e p D = dotsOf e' p D
  | 0, _ => rfl
  | D + 1, h => by
    show dotsOf e p D + (if (p + 1) % (D + 1) = 0 then e D else 0) = dotsOf e' p D + (if (p + 1) % (D + 1) = 0 then e' D else 0)
    rw [dots_congr p D fun q hq => h q (by omega), h D (by omega)]
/-- the dots of the row p in the hour i + 1 behind j letters -/
noncomputable def hrK (e : Nat → Nat) (i j p : Nat) : Nat := 1 + dotsOf e p i + if (p + 1) % (i + 1) = 0 then j else 0
theorem hrK_0 (e : Nat → Nat) (i : Nat) : hrK e i 0 = fun p => 1 + dotsOf e p i := by
  funext p
  unfold hrK
  split <;> rfl
theorem hrK_succ (e : Nat → Nat) (i j : Nat) : (fun p => hrK e i j p + if (p + 1) % (i + 1) = 0 then 1 else 0) = hrK e i (j + 1) := by
  funext p
  unfold hrK
  split <;> omega
theorem hrK_bd {e : Nat → Nat} (he : ∀ j, e j ≤ 3) {i j : Nat} (hi : i < 10) (hj : j ≤ 3) (p : Nat) : 1 ≤ hrK e i j p ∧ hrK e i j p ≤ 100 := by
  have h1 := dots_le he p i
  unfold hrK
  split <;> omega
noncomputable def eUp (e : Nat → Nat) (i n : Nat) : Nat → Nat := fun q => if q = i then n else e q
theorem eUp_le {e : Nat → Nat} (he : ∀ j, e j ≤ 3) {i n : Nat} (hn : n ≤ 3) (j : Nat) : eUp e i n j ≤ 3 := by
  unfold eUp
  split
  · exact hn
  · exact he j
theorem hrK_end (e : Nat → Nat) (i n : Nat) : hrK e i n = fun p => 1 + dotsOf (eUp e i n) p (i + 1) := by
  funext p
  show 1 + dotsOf e p i + (if (p + 1) % (i + 1) = 0 then n else 0) = 1 + (dotsOf (eUp e i n) p i + (if (p + 1) % (i + 1) = 0 then eUp e i n i else 0))
  rw [dots_congr (e := eUp e i n) (e' := e) p i fun q hq => if_neg (by omega), show eUp e i n i = n from if_pos rfl, Nat.add_assoc]
theorem eUp_map (e : Nat → Nat) (i n : Nat) : (List.range (i + 1)).map (fun j => ((eUp e i n j : Nat) : Int)) = (List.range i).map (fun j => ((e j : Nat) : Int)) ++ [((n : Nat) : Int)] := by
  rw [List.range_succ, List.map_append, List.map_cons, List.map_nil]
  congr 1
  · refine List.map_congr_left fun q hq => ?_
    have hq' := List.mem_range.mp hq
    show ((eUp e i n q : Nat) : Int) = _
    rw [show eUp e i n q = e q from if_neg (by omega)]
  · rw [show eUp e i n i = n from if_pos rfl]
noncomputable def innJ (e : Nat → Nat) (due : Str) (tt v : Tok) (i : Nat) (I : Addr) (oI : Obj) (ll ln lc Lx : Addr) (lL nL cL oK oE oU oS oN : Obj) (j : Nat) (m : Str → Option Value) (nw : List (Addr × Obj)) (tk : Nat) : Prop :=
  ∃ (lr : Addr) (rvs : List Value) (cr : Nat) (oR : Obj), StrsAre rvs (rowS (hrK e i j)) ∧ m (Str.ofString "letters") = some (.str due tt) ∧ m (Str.ofString "lengths") = some (.ref ll) ∧ m (Str.ofString "cells") = some (.ref lc) ∧ m (Str.ofString "d") = some (.int (1 + (i : Int)) v) ∧
    nw = [(I, oI), (ll, lL), (lr, W.listOf rvs.toArray cr), (ln, nL), (lc, cL), (Lx + 1 + 1 + 1 + 1 + 1 + 1, oK), (Lx + 1 + 1 + 1 + 1 + 1, oE), (Lx + 1 + 1 + 1 + 1, oR), (Lx + 1 + 1 + 1, oU), (Lx + 1 + 1, oS), (Lx + 1, oN)] ∧ oR.data = .cell (some (.ref lr)) ∧
    Off1 lr [(I, oI), (ll, lL), (ln, nL), (lc, cL), (Lx + 1 + 1 + 1 + 1 + 1 + 1, oK), (Lx + 1 + 1 + 1 + 1 + 1, oE), (Lx + 1 + 1 + 1 + 1, oR), (Lx + 1 + 1 + 1, oU), (Lx + 1 + 1, oS), (Lx + 1, oN)]
theorem innJ_0 {e : Nat → Nat} {due sg : Str} {tt v td ta : Tok} {i : Nat} {un : Value} {I : Addr} {oI : Obj} {ll ln lc Lx lr : Addr} {lL nL cL oK oE oU oS oN oR : Obj} {m : Str → Option Value} {rvs : List Value} {cr tk : Nat}
    (hrv : StrsAre rvs (rowS fun p => 1 + dotsOf e p i)) (hm1 : m (Str.ofString "lengths") = some (.ref ll)) (hm2 : m (Str.ofString "cells") = some (.ref lc)) (dR : oR.data = .cell (some (.ref lr)))
    (off : Off1 lr [(ll, lL), (ln, nL), (lc, cL), (Lx + 1 + 1 + 1 + 1 + 1 + 1, oK), (Lx + 1 + 1 + 1 + 1 + 1, oE), (Lx + 1 + 1 + 1 + 1, oR), (Lx + 1 + 1 + 1, oU), (Lx + 1 + 1, oS), (Lx + 1, oN)]) (hI : I ≠ lr) :
    innJ e due tt v i I oI ll ln lc Lx lL nL cL oK oE oU oS oN 0 (fun y => if y = Str.ofString "letters" then some (.str due tt) else if y = Str.ofString "unseen" then some un else if y = Str.ofString "due" then some (.str due td) else if y = Str.ofString "sign" then some (.str sg ta) else if y = Str.ofString "d" then some (.int (1 + (i : Int)) v) else m y)
      [(I, oI), (ll, lL), (lr, W.listOf rvs.toArray cr), (ln, nL), (lc, cL), (Lx + 1 + 1 + 1 + 1 + 1 + 1, oK), (Lx + 1 + 1 + 1 + 1 + 1, oE), (Lx + 1 + 1 + 1 + 1, oR), (Lx + 1 + 1 + 1, oU), (Lx + 1 + 1, oS), (Lx + 1, oN)] tk :=
  ⟨lr, rvs, cr, oR, by rw [hrK_0]; exact hrv, rfl, hm1, hm2, rfl, rfl, dR, ⟨hI, off⟩⟩
theorem sg_small : (signs.all fun p => p.2.cps.toList.all fun x => decide (x < 1114112)) = true := by decide +kernel
theorem sign_small {a d : Str} (h : (a, d) ∈ signs) {x : Nat} (hx : x ∈ d.cps.toList) : x < 1114112 := by
  have z := List.all_eq_true.mp (List.all_eq_true.mp sg_small _ h) x hx
  exact of_decide_eq_true z
theorem hour_led {h₀ hh : Heap} {Lx I I2 ll ln lc lr2 lr3 : Addr} {oI oI2 lL nL cL oK oE oR oU oS oN o2 o3 : Obj}
    (N : News h₀ Lx hh [(lr3, o3), (I2, oI2), (I, oI), (ll, lL), (lr2, o2), (ln, nL), (lc, cL), (Lx + 1 + 1 + 1 + 1 + 1 + 1, oK), (Lx + 1 + 1 + 1 + 1 + 1, oE), (Lx + 1 + 1 + 1 + 1, oR), (Lx + 1 + 1 + 1, oU), (Lx + 1 + 1, oS), (Lx + 1, oN)])
    (off6 : Off1 lr3 [(I2, oI2), (I, oI), (ll, lL), (lr2, o2), (ln, nL), (lc, cL), (Lx + 1 + 1 + 1 + 1 + 1 + 1, oK), (Lx + 1 + 1 + 1 + 1 + 1, oE), (Lx + 1 + 1 + 1 + 1, oR), (Lx + 1 + 1 + 1, oU), (Lx + 1 + 1, oS), (Lx + 1, oN)])
    (offI2 : ∀ p ∈ [(I, oI), (ll, lL), (lr2, o2), (ln, nL), (lc, cL), (Lx + 1 + 1 + 1 + 1 + 1 + 1, oK), (Lx + 1 + 1 + 1 + 1 + 1, oE), (Lx + 1 + 1 + 1 + 1, oR), (Lx + 1 + 1 + 1, oU), (Lx + 1 + 1, oS), (Lx + 1, oN)], p.1 ≠ I2) (hI : Lx + 1 + 1 + 1 + 1 ≠ I) :
    News h₀ Lx hh [(lr3, o3), (I2, oI2), (I, oI), (ll, lL), (ln, nL), (lc, cL), (Lx + 1 + 1 + 1 + 1 + 1 + 1, oK), (Lx + 1 + 1 + 1 + 1 + 1, oE), (Lx + 1 + 1 + 1 + 1, oR), (Lx + 1 + 1 + 1, oU), (Lx + 1 + 1, oS), (Lx + 1, oN)] ∧
    (∀ o, Off1 lr3 [(I, oI), (ll, lL), (ln, nL), (lc, cL), (Lx + 1 + 1 + 1 + 1 + 1 + 1, oK), (Lx + 1 + 1 + 1 + 1 + 1, oE), (Lx + 1 + 1 + 1 + 1, o), (Lx + 1 + 1 + 1, oU), (Lx + 1 + 1, oS), (Lx + 1, oN)]) ∧
    (∀ o o', ∀ p ∈ [(I, oI), (ll, lL), (lr3, o'), (ln, nL), (lc, cL), (Lx + 1 + 1 + 1 + 1 + 1 + 1, oK), (Lx + 1 + 1 + 1 + 1 + 1, oE), (Lx + 1 + 1 + 1 + 1, o), (Lx + 1 + 1 + 1, oU), (Lx + 1 + 1, oS), (Lx + 1, oN)], p.1 ≠ I2) ∧
    @Ne Nat (Lx + 1 + 1 + 1 + 1) I2 ∧ @Ne Nat (Lx + 1 + 1 + 1 + 1) I ∧ @Ne Nat (Lx + 1 + 1 + 1 + 1) lr3 := by
  simp only [Off1] at off6
  obtain ⟨c1, c2, c3, c4, c5, c6, c7, c8, c9, c10, c11, c12, _⟩ := off6
  have hi := List.forall_mem_cons.mp offI2
  have hl := List.forall_mem_cons.mp hi.2
  have hr := List.forall_mem_cons.mp hl.2
  have hn := List.forall_mem_cons.mp hr.2
  have hc := List.forall_mem_cons.mp hn.2
  have hk := List.forall_mem_cons.mp hc.2
  have he := List.forall_mem_cons.mp hk.2
  have hR := List.forall_mem_cons.mp he.2
  refine ⟨fun p hp => N p ?_, fun o => ⟨c2, c3, c5, c6, c7, c8, c9, c10, c11, c12, trivial⟩, fun o o' => ?_, hR.1, hI, c9⟩
  · rcases List.mem_cons.mp hp with rfl | hp
    · exact .head _
    rcases List.mem_cons.mp hp with rfl | hp
    · exact .tail _ (.head _)
    rcases List.mem_cons.mp hp with rfl | hp
    · exact .tail _ (.tail _ (.head _))
    rcases List.mem_cons.mp hp with rfl | hp
    · exact .tail _ (.tail _ (.tail _ (.head _)))
    exact .tail _ (.tail _ (.tail _ (.tail _ (.tail _ hp))))
  · exact List.forall_mem_cons.mpr ⟨hi.1, List.forall_mem_cons.mpr ⟨hl.1, List.forall_mem_cons.mpr ⟨fun q => c1 q.symm, List.forall_mem_cons.mpr ⟨hn.1, List.forall_mem_cons.mpr ⟨hc.1, List.forall_mem_cons.mpr ⟨hk.1, List.forall_mem_cons.mpr ⟨he.1, List.forall_mem_cons.mpr ⟨hR.1, hR.2⟩⟩⟩⟩⟩⟩⟩⟩
theorem rowS_ok (k : Nat → Nat) : (rowS k).all PyData.strOk = true := by
  rw [List.all_eq_true]
  intro y hy
  obtain ⟨i, hi, rfl⟩ := List.mem_map.mp hy
  show ((rowL i (k i)).toArray.all fun x => decide (x < 0x110000)) = true
  rw [Array.all_eq_true']
  intro x hx
  have hx' : x ∈ rowL i (k i) := by simpa using hx
  refine decide_eq_true ?_
  rcases List.mem_append.mp hx' with h | h
  · rw [(List.mem_replicate.mp h).2]; decide
  · exact Nat.lt_trans ((tl_chk i (List.mem_range.mp hi)).1 x h) (by decide)
theorem rowS_nil (k : Nat → Nat) : decide (rowS k = []) = false := decide_eq_false (by
  intro q
  have z := rowS_len k
  rw [q] at z
  cases z)
theorem end_led {Lx I ll ln lc lr lr0 : Addr} {oI lL lL' nL cL oK oE oR oR' oU oS oN o2 o2' : Obj}
    (offr : Off1 lr [(I, oI), (ll, lL), (ln, nL), (lc, cL), (Lx + 1 + 1 + 1 + 1 + 1 + 1, oK), (Lx + 1 + 1 + 1 + 1 + 1, oE), (Lx + 1 + 1 + 1 + 1, oR), (Lx + 1 + 1 + 1, oU), (Lx + 1 + 1, oS), (Lx + 1, oN)])
    (offI : ∀ p ∈ [(ll, lL'), (lr0, o2), (ln, nL), (lc, cL), (Lx + 1 + 1 + 1 + 1 + 1 + 1, oK), (Lx + 1 + 1 + 1 + 1 + 1, oE), (Lx + 1 + 1 + 1 + 1, oR'), (Lx + 1 + 1 + 1, oU), (Lx + 1 + 1, oS), (Lx + 1, oN)], p.1 ≠ I) :
    (∀ o, Off1 lr [(ll, o), (ln, nL), (lc, cL), (Lx + 1 + 1 + 1 + 1 + 1 + 1, oK), (Lx + 1 + 1 + 1 + 1 + 1, oE), (Lx + 1 + 1 + 1 + 1, oR), (Lx + 1 + 1 + 1, oU), (Lx + 1 + 1, oS), (Lx + 1, oN)]) ∧
    (∀ o, ∀ p ∈ [(ll, o), (lr, o2'), (ln, nL), (lc, cL), (Lx + 1 + 1 + 1 + 1 + 1 + 1, oK), (Lx + 1 + 1 + 1 + 1 + 1, oE), (Lx + 1 + 1 + 1 + 1, oR), (Lx + 1 + 1 + 1, oU), (Lx + 1 + 1, oS), (Lx + 1, oN)], p.1 ≠ I) ∧ @Ne Nat ll I ∧ @Ne Nat ll lr := by
  have hl := List.forall_mem_cons.mp offI
  have hr := List.forall_mem_cons.mp hl.2
  have hn := List.forall_mem_cons.mp hr.2
  have hc := List.forall_mem_cons.mp hn.2
  have hk := List.forall_mem_cons.mp hc.2
  have he := List.forall_mem_cons.mp hk.2
  have hR := List.forall_mem_cons.mp he.2
  refine ⟨fun o => ⟨offr.2.1, offr.2.2⟩, fun o => ?_, hl.1, offr.2.1⟩
  exact List.forall_mem_cons.mpr ⟨hl.1, List.forall_mem_cons.mpr ⟨fun q => offr.1 q.symm, List.forall_mem_cons.mpr ⟨hn.1, List.forall_mem_cons.mpr ⟨hc.1, List.forall_mem_cons.mpr ⟨hk.1, List.forall_mem_cons.mpr ⟨he.1, List.forall_mem_cons.mpr ⟨hR.1, hR.2⟩⟩⟩⟩⟩⟩⟩
/-- the last mail's line of the place i -/
noncomputable def mailF (turn : Int) (rs : List Str) (i : Nat) : Str := rs.getD i PySem.Str.empty ++ endsS.getD ((turn + i).fmod 3).toNat PySem.Str.empty
theorem str_nil_app (x : Str) : Str.ofString "" ++ x = x := by
  obtain ⟨a⟩ := x
  show (⟨(Str.ofString "").cps ++ a⟩ : Str) = ⟨a⟩
  rw [show (Str.ofString "").cps = #[] from rfl, Array.empty_append]
theorem mailF_is (turn : Int) (rs : List Str) (i : Nat) : mailF turn rs i = mailS 1 ⟨#[65]⟩ (turn - 1) rs i := by
  unfold mailF mailS
  rw [show hdS 1 ⟨#[65]⟩ i = Str.ofString "" from if_pos (Nat.mod_one _), str_nil_app, show turn - 1 + ((1 : Nat) : Int) + (i : Int) = turn + (i : Int) by omega]
theorem mailF_fun (turn : Int) (rs : List Str) : mailF turn rs = mailS 1 ⟨#[65]⟩ (turn - 1) rs := funext fun i => mailF_is turn rs i
theorem law_sent {turn : Int} {k : Nat → Nat} (hk : ∀ i, i < 10 → 1 ≤ k i) (x : Str) (hx : x.cps.toList = mailL ((List.range 10).map (lnL 1 65 (turn - 1) k)) ++ [13, 46]) :
    (dots (crlf x)).cps.toList = (gsFrom (fun i => k i + 1) 0 10).flatten := by
  rw [gs_flat, sent_is x _ (fun p hp => by obtain ⟨i, hi, rfl⟩ := List.mem_map.mp hp; exact lnL_ok (List.mem_range.mp hi) (by decide)) hx, List.map_map]
  have e : (List.range 10).map ((fun p : List Nat × List Nat => dotL p.1) ∘ lnL 1 65 (turn - 1) k) = (List.range 10).map fun i => rowL i (k i + 1) := by
    refine List.map_congr_left fun i hi => ?_
    show tdL 1 65 k i = _
    rw [tdL_eq (hk i (List.mem_range.mp hi)) (by decide), if_pos (Nat.mod_one _)]
    unfold hdL
    rw [if_pos (Nat.mod_one _), List.nil_append]
  rw [e]
  rfl
theorem lens_ct {ct ct' : Nat → Int} (h : ∀ i, i < 10 → ct i = ct' i) (n : Nat) (hn : n < 10) : lenOf ct (n + 1) = lenOf ct' (n + 1) := by
  match n, hn with
  | 0, _ => rw [len1, len1, h 0 (by decide)]
  | 1, _ => rw [len2, len2, h 0 (by decide), h 1 (by decide)]
  | 2, _ => rw [len3', len3', h 0 (by decide), h 2 (by decide)]
  | 3, _ => rw [len4, len4, h 1 (by decide), h 3 (by decide)]
  | 4, _ => rw [len5, len5, h 0 (by decide), h 4 (by decide)]
  | 5, _ => rw [len6, len6, h 0 (by decide), h 1 (by decide), h 2 (by decide), h 5 (by decide)]
  | 6, _ => rw [len7, len7, h 0 (by decide), h 6 (by decide)]
  | 7, _ => rw [len8, len8, h 3 (by decide), h 7 (by decide)]
  | 8, _ => rw [len9, len9, h 2 (by decide), h 8 (by decide)]
  | 9, _ => rw [len10, len10, h 0 (by decide), h 1 (by decide), h 4 (by decide), h 9 (by decide)]
noncomputable def csL (e : Nat → Nat) : List Int := (List.range 10).map fun j => (((1 + dotsOf e j 10) + 1 : Nat) : Int) - 2
theorem csL_at (e : Nat → Nat) (i : Nat) (hi : i < 10) : (csL e).getD i 0 = ((dotsOf e i 10 : Nat) : Int) := by
  unfold csL
  rw [List.getD_eq_getElem?_getD, List.getElem?_map, List.getElem?_range hi]
  show (((1 + dotsOf e i 10) + 1 : Nat) : Int) - 2 = _
  omega
theorem csL_len (e : Nat → Nat) : (csL e).length = 10 := by simp [csL]
theorem csL_ok {e : Nat → Nat} (he : ∀ j, e j ≤ 3) : ((csL e).all fun y => decide (0 ≤ y) && decide (y ≤ 1000000)) = true := by
  rw [List.all_eq_true]
  intro y hy
  obtain ⟨i, hi, rfl⟩ := List.mem_map.mp hy
  have h := dots_le he i 10
  rw [Bool.and_eq_true]
  exact ⟨decide_eq_true (by omega), decide_eq_true (by omega)⟩
theorem lens_is (e : Nat → Nat) (n : Nat) (hn : n < 10) : lenOf (fun i => (csL e).getD i 0) (n + 1) = ((e n : Nat) : Int) :=
  (lens_ct (fun i hi => csL_at e i hi) n hn).trans (moebius e n hn)
theorem csL_nil (e : Nat → Nat) : decide (csL e = []) = false := decide_eq_false (by
  intro q
  have z := csL_len e
  rw [q] at z
  cases z)
theorem lens_snoc {e : Nat → Nat} {i : Nat} {ys : List Value} {x : Int} (h : IntsAre ys ((List.range i).map fun j => ((e j : Nat) : Int))) (hx : x = ((e i : Nat) : Int)) (t : Tok) : IntsAre (ys ++ [.int x t]) ((List.range (i + 1)).map fun j => ((e j : Nat) : Int)) := by
  rw [List.range_succ, List.map_append, List.map_cons, List.map_nil, hx]
  exact ints_snoc h _ t
end
section
set_option maxRecDepth 100000
set_option maxHeartbeats 4000000
open LCg
local macro_rules | `(tactic| walk_at "subscriptTail") => `(tactic| walk_at "sub6")
theorem c_law {w : World} {mean : ExcName → Option Value} {mg mb : Str → Option Value} {l : Addr} {vs : List Value} {ns : List Int} (hns : IntsAre vs ns) (hnl : ns.length ≤ 63) {dp un : Nat} {gd : Option (List Code)} {s : Shared} {Q E : Value → Shared → Prop}
    (hd : dp + 60 < recursionLimit) (hu : un + 1200 < cLine) (B : Below (aro dp un gd []) s.heap [] s.heap) (X : (K w.params).In s.heap) (T : Top q looseM mean mg mb s.heap) (ht0 : 2561 ≤ s.toks) (hl : s.heap.IsList l vs.toArray)
    (hret : ∀ h' tk', Kp s.heap h' → s.toks ≤ tk' → Q (.bool true) { s with heap := h', toks := tk' }) :
    wpAny (model pw w) (aro dp un gd []) (call (.ref 227) [.ref l]) Q E s := by
  refine wpAny_call ?_
  walk_at "mine enterC"
  rename_i Lx hx0 tkx lex Fx oK oE oR oU oS oN dK dE dR dU dS dN Nx
  replace dK : oK.data = .cell none := dK
  replace dE : oE.data = .cell none := dE
  replace dR : oR.data = .cell none := dR
  replace dU : oU.data = .cell none := dU
  replace dS : oS.data = .cell none := dS
  replace dN : oN.data = .cell none := dN
  replace Fx : Fr s.heap Lx hx0 (fun y => if y = Str.ofString "script" then some (.ref l) else none) := Fx
  have mB : Bs s.toks := trivial
  have ht1 : 2560 < s.toks := ht0
  clear ht0
  have hnl1 : ns.length < 64 := Nat.lt_succ_of_le hnl
  iterate 9 walk_at "s1"
  refine' Pure.use (c_cells w mean mg mb l vs ns hns (Nat.le_of_lt_succ hnl1)) ?u1A ?u1h ?u1f ?u1k B ?u1F X ?u1N T ?u1d ?u1u ?u10 ?u1p ?_
  case u1A => rfl
  case u1h => rfl
  case u1f => rfl
  case u1k => rfl
  case u1F => k_asm
  case u1N => k_asm
  case u1d => exact room hd (by decide)
  case u1u => exact room3 hu (by decide)
  case u10 => ((try dsimp only); walk_at "clrC"; omega)
  case u1p => exact isList_keeps hl (Fr.keep (by assumption))
  intro v1 hh1 tkk1 FF1 NN1 kp1 lek1 ⟨lc, cvs, cns, cc, e1, hg1, hg10, hci, hcl⟩
  try dsimp only at lek1
  have N1 := led_new Fx NN1 hg1 hg10
  have off1 := led_off Nx hg10
  simp only [Off1] at off1
  clear NN1 hg1 hg10 Nx Fx
  have hb5 : 2560 < tkk1 + 1 := by (try dsimp only at lek1); walk_at "clrC"; omega
  rw [e1]
  clear e1
  try dsimp only
  iterate 8 walk_at "s1"
  refine' Pure.use (c_names w mean mg mb) ?u2A ?u2h ?u2f ?u2k B ?u2F X ?u2N T ?u2d ?u2u ?u20 ?u2p ?_
  case u2A => rfl
  case u2h => rfl
  case u2f => rfl
  case u2k => rfl
  case u2F => k_asm
  case u2N => k_asm
  case u2d => exact room hd (by decide)
  case u2u => exact room3 hu (by decide)
  case u20 => ((try dsimp only); walk_at "clrC"; omega)
  case u2p => exact trivial
  intro v2 hh2 tkk2 FF2 NN2 kp2 lek2 ⟨l2, nvs, c2, e2, hg2, htn⟩
  try dsimp only at lek2
  rw [e2]
  clear e2
  try dsimp only
  try dsimp only at htn
  obtain ⟨lo3, hlo3, htn⟩ : ∃ lo3, 2560 < lo3 ∧ TkStrs lo3 tkk2 nvs names1 := ⟨_, by walk_at "clrC"; omega, htn⟩
  have hnl2 : nvs.length = 32 := htn.1.trans names1_len
  have hs2 : s.toks < tkk2 + 1 := by walk_at "clrC"; omega
  clear mB
  have mB : Bs tkk2 := trivial
  iterate 1 walk_at "s1"
  refine' KMa.mul (vs := nvs) (ws := nvs ++ nvs) FF2 NN2 ?m1 ?m2 ?m3 ?m4 ?m5 ?_
  case m1 => exact ⟨_, hg2, rfl, _, rfl⟩
  case m2 => decide
  case m3 => decide
  case m4 => rw [hnl2]; decide
  case m5 => show (List.replicate 2 nvs).flatten = _; simp [List.replicate]
  intro ln hh3 FF3 NN3 off2
  k_lt off2
  have htn2 := htn.append htn
  clear NN2 hg2
  try dsimp only
  iterate 14 walk_at "s1"
  obtain ⟨sh, hsh29, hshE⟩ := sh_ex (cns.getD (Int.toNat 10) 0)
  rw [hshE]
  try dsimp only
  iterate 11 walk_at "s1"
  generalize (cns.getD (Int.toNat 10) 0).fdiv 100 = turn
  try dsimp only
  iterate 15 walk_at "s1"
  refine' comp_range (n := 10) ?ahh ?aF ?aN ?ahr ?ahsm ?ahn ?ahsz (fun _ => true) (fun i ys (tk : Nat) => StrsAre ys ((List.range i).map fun j => ⟨(rowL j 1).toArray⟩)) ?ai0 ?amono ?atests ?askip ?aturn ?adone ?ahcell ?ahkind ?ahx
  case ahh => rfl
  case aF => k_asm
  case aN => k_asm
  case ahr => k_asm
  case ahsm => rfl
  case ahn => rfl
  case ahsz => decide
  case ahcell => decide
  case ahkind => rfl
  case ahx => rfl
  case ai0 => exact .nil
  case amono => intro i ys t t' le h; exact h
  case atests =>
    intro I C D oI oC i v ys m₂ h tk E' hv ho hm F N off ne
    exact wpAny_tests_nil ⟨rfl, h, tk, rfl, F, N⟩
  case askip => intro i v ys tk hv q; cases q
  case aturn =>
    rintro I C D oI oC i v ys m₂ h tk E' hi ⟨t, rfl⟩ _ hle hJ ho hm F N off ne
    iterate 31 walk_at "s1"
    have hf0 := Int.fmod_nonneg_of_pos ((1 : Int) + (i : Int)) (show (0 : Int) < 3 by decide)
    have hf1 := Int.fmod_lt_of_pos ((1 : Int) + (i : Int)) (show (0 : Int) < 3 by decide)
    refine SB.mul (mulOk_of 16 1048576 (show (1 : Nat) ≤ 16 by decide) (by omega) (by omega) (by decide) (by decide)) ?_
    intro t5 k5
    try dsimp only
    refine add_str (hsz := by rw [str_app_len]; exact Nat.le_trans (Nat.add_le_add (show (2 : Nat) ≤ 2 from Nat.le_refl _) (mul_len1 _ _ hf1)) (by decide)) ?_
    intro t6 k6
    try dsimp only
    iterate 10 walk_at "s1"
    refine add_str (hsz := by rw [str_app_len, str_app_len]; exact Nat.le_trans (Nat.add_le_add (Nat.add_le_add (show (2 : Nat) ≤ 2 from Nat.le_refl _) (mul_len1 _ _ hf1)) (show (1 : Nat) ≤ 1 from Nat.le_refl _)) (by decide)) ?_
    intro t7 k7
    try dsimp only
    refine CompElt.intro F N (fun p hp => hp) ?_
    rw [row_one hi, List.range_succ, List.map_append, List.map_cons, List.map_nil]
    exact strs_snoc hJ _ _
  case adone =>
    rintro D1 h tk rvs hle hR F N off
    try dsimp only
    have off3 := off
    simp only [Off1] at off3
    iterate 21 walk_at "s1"
    rename Fr _ _ _ _ => F1
    rename News _ _ _ _ => N1
    obtain ⟨ll, oR1, oU1, oS1, oN1, q1, q2, q3, q4, q5⟩ := led10 N1
    subst q1 q2 q3 q4 q5
    rename oR1.data = _ => dR1
    rename oU1.data = _ => dU1
    rename oS1.data = _ => dS1
    rename oN1.data = _ => dN1
    rename D1 < ll ∧ _ => offl
    have cl1 : @LT.lt Nat _ (Lx + 1 + 1 + 1 + 1) ll := offl.2.2.2.2.2.1
    have cl2 : @LT.lt Nat _ (Lx + 1 + 1 + 1 + 1) ln := off2.2.2.2.1
    have cl3 : @Ne Nat (Lx + 1 + 1 + 1 + 1) lc := off1.2.2.1
    refine' iter_range (n := 10) ?bhh ?bhx ?bhp ?bF ?bN ?bhr ?bhsm ?bhn (lawJ ll ln lc Lx (W.listOf (nvs ++ nvs).toArray 0) (W.listOf cvs.toArray cc) oK oE oU1 oS1 oN1) ?b0 ?bmono ?bturn ?bdone
    case bhh => rfl
    case bhx => rfl
    case bhp => rfl
    case bF => k_asm
    case bN => exact N1
    case bhr => k_asm
    case bhsm => rfl
    case bhn => rfl
    case b0 => exact ⟨fun _ => 0, D1, rvs, [], rvs.length, 0, oR1, fun _ => Nat.zero_le _, hR, .nil, rfl, rfl, rfl, dR1, fun q => Nat.ne_of_lt offl.1 q.symm, off⟩
    case bmono => intro i m nw t t' le h; exact h
    case bturn =>
      rintro I i v m₁ news₁ oI h3 tk3 E' hi10 hle3 ⟨e, lr, rvs, lv, cr, cl, oR2, he, hrv, hlv, hm1, hm2, rfl, dR2, offr⟩ offI F5 N5
      dsimp only [envOfC] at F5 N5
      have offr2 := offr
      simp only [Off1] at offr2
      iterate 15 walk_at "s1"
      refine' Pure.use (c_sign w mean mg mb (cns.getD ((1 : Int) + (i : Int) - 1).toNat 0) _) ?u3A ?u3h ?u3f ?u3k B ?u3F X ?u3N T ?u3d ?u3u ?u30 ?u3p ?_
      case u3A => rfl
      case u3h => rfl
      case u3f => rfl
      case u3k => rfl
      case u3F => k_asm
      case u3N => k_asm
      case u3d => exact room hd (by decide)
      case u3u => exact room3 hu (by decide)
      case u30 => ((try dsimp only); walk_at "clrC"; omega)
      case u3p => exact trivial
      intro v3 hh4 tkk3 FF4 NN4 kp3 lek3 ⟨lt, sa, due, ta, td, e3, htup, hsg⟩
      try dsimp only at lek3
      rw [e3]
      clear e3
      obtain ⟨c, hsa, hc0, hdl0, hdp, hcase⟩ := sign_facts w.params hsg
      have hdl : due.length < 4 := Nat.lt_succ_of_le hdl0
      clear hdl0
      subst hsa
      try dsimp only
      iterate 18 walk_at "s1"
      refine' Pure.use (c_b1 w mean mg mb c _ hc0) ?u4A ?u4h ?u4f ?u4k B ?u4F X ?u4N T ?u4d ?u4u ?u40 ?u4p ?_
      case u4A => rfl
      case u4h => rfl
      case u4f => rfl
      case u4k => rfl
      case u4F => k_asm
      case u4N => k_asm
      case u4d => exact room hd (by decide)
      case u4u => exact room3 hu (by decide)
      case u40 => ((try dsimp only); walk_at "clrC"; omega)
      case u4p => exact trivial
      intro v4 hh5 tkk4 FF5 NN5 kp4 lek4 e4
      try dsimp only at lek4
      have hb : b1s c = (due == Str.ofString "") := by
        rcases hcase with ⟨q1, q2⟩ | ⟨q1, q2, _⟩
        · rw [q2]
          have q3 : due = Str.ofString "" := by
            obtain ⟨a⟩ := due
            exact congrArg Str.mk (Array.eq_empty_of_size_eq_zero q1)
          rw [q3]
          rfl
        · rw [q2]
          exact (beq_eq_false_iff_ne.mpr fun q => q1 (by rw [q]; rfl)).symm
      rw [e4, hb]
      clear e4
      try dsimp only
      iterate 11 walk_at "s1"
      rw [bne_self_eq_false]
      iterate 6 walk_at "s1"
      rename Fr _ _ _ _ => F6
      rename News _ _ _ _ => N6
      refine wpAny_mono (?lA : wpAny _ _ _ (fun fl s' => fl = Flow.next ∧ ∃ (h' : Heap) (tk' : Nat) (tt : Tok), s' = ⟨h', s.gens, s.drawn, tk', s.os⟩ ∧ Fr s.heap Lx h' (fun y => if y = Str.ofString "letters" then some (.str due tt) else if y = Str.ofString "unseen" then some (.bool (due == Str.ofString "")) else if y = Str.ofString "due" then some (.str due td) else if y = Str.ofString "sign" then some (.str ⟨#[c]⟩ ta) else if y = Str.ofString "d" then some (.int (1 + (i : Int)) v) else m₁ y) ∧ News s.heap Lx h' [(I, oI), (ll, W.listOf lv.toArray cl), (lr, W.listOf rvs.toArray cr), (ln, W.listOf (nvs ++ nvs).toArray 0), (lc, W.listOf cvs.toArray cc), (Lx + 1 + 1 + 1 + 1 + 1 + 1, oK), (Lx + 1 + 1 + 1 + 1 + 1, oE), (Lx + 1 + 1 + 1 + 1, oR2), (Lx + 1 + 1 + 1, oU1), (Lx + 1 + 1, oS1), (Lx + 1, oN1)] ∧ tkk2 ≤ tk') _ _) ?lB (fun _ _ e => e)
      case lA =>
        iterate 6 walk_at "s1"
        · rename (due == Str.ofString "") = true => hz
          iterate 2 walk_at "s1"
          rename Fr _ _ _ _ => F8
          rename News _ _ _ _ => N8
          obtain rfl : due = Str.ofString "" := eq_of_beq hz
          exact ⟨by first | exact rfl | exact trivial, _, _, _, rfl, F8, N8, by (try dsimp only); omega⟩
        · rename (due == Str.ofString "") = false => hz
          have hcase2 : (∃ t, b3v w.params c = .str due t) ∨ (b3v w.params c = .none ∧ Txt.lower ⟨#[c]⟩ = due) := by
            rcases hcase with ⟨q1, q2⟩ | ⟨q1, q2, q3⟩
            · rw [q2, hz] at hb
              cases hb
            · exact q3
          iterate 7 walk_at "s1"
          rcases hcase2 with ⟨tr, hr⟩ | ⟨hr, hlow⟩
          · skip
            refine' Pure.use (c_b3a w mean mg mb c _ due tr hc0 hr) ?u5A ?u5h ?u5f ?u5k B ?u5F X ?u5N T ?u5d ?u5u ?u50 ?u5p ?_
            case u5A => rfl
            case u5h => rfl
            case u5f => rfl
            case u5k => rfl
            case u5F => k_asm
            case u5N => k_asm
            case u5d => exact room hd (by decide)
            case u5u => exact room3 hu (by decide)
            case u50 => ((try dsimp only); walk_at "clrC"; omega)
            case u5p => exact trivial
            intro v5 hh6 tkk5 FF6 NN6 kp5 lek5 e5
            try dsimp only at lek5
            rw [e5]
            clear e5
            try dsimp only
            iterate 1 walk_at "s1"
            rename Fr _ _ _ _ => F8
            rename News _ _ _ _ => N8
            exact ⟨by first | exact rfl | exact trivial, _, _, _, rfl, F8, N8, by (try dsimp only); omega⟩
          · skip
            refine' Pure.use (c_b3b w mean mg mb c _ hc0 hr) ?u6A ?u6h ?u6f ?u6k B ?u6F X ?u6N T ?u6d ?u6u ?u60 ?u6p ?_
            case u6A => rfl
            case u6h => rfl
            case u6f => rfl
            case u6k => rfl
            case u6F => k_asm
            case u6N => k_asm
            case u6d => exact room hd (by decide)
            case u6u => exact room3 hu (by decide)
            case u60 => ((try dsimp only); walk_at "clrC"; omega)
            case u6p => exact trivial
            intro v5 hh6 tkk5 FF6 NN6 kp5 lek5 ⟨tr, e5⟩
            try dsimp only at lek5
            rw [e5, hlow]
            clear e5
            try dsimp only
            iterate 1 walk_at "s1"
            rename Fr _ _ _ _ => F8
            rename News _ _ _ _ => N8
            exact ⟨by first | exact rfl | exact trivial, _, _, _, rfl, F8, N8, by (try dsimp only); omega⟩
      case lB =>
        rintro fl s2 ⟨rfl, h8, tk8, tt, rfl, F8, N8, le9⟩
        iterate 7 walk_at "s1"
        rw [bne_self_eq_false]
        iterate 8 walk_at "s1"
        refine' iter_str ?shh ?shx ?shp ?sF ?sN (innJ e due tt v i I oI ll ln lc Lx (W.listOf lv.toArray cl) (W.listOf (nvs ++ nvs).toArray 0) (W.listOf cvs.toArray cc) oK oE oU1 oS1 oN1) ?s0 ?smono ?sturn ?sdone
        case shh => rfl
        case shx => rfl
        case shp => rfl
        case sF => exact F8
        case sN => exact N8
        case s0 => exact innJ_0 hrv hm1 hm2 dR2 offr (fun q => offI _ (List.mem_cons_of_mem _ List.mem_cons_self) q.symm)
        case smono => intro i m nw t t' le h; exact h
        case sturn =>
          rintro I2 j c2 t2 m₂ news₂ oI2 h9 tk9 E2 hj hle9 ⟨lr2, rvs2, cr2, oR3, hrv2, g1, g2, g3, g4, rfl, dR3, offr3⟩ offI2 F9 N9
          dsimp only [envOfC] at F9 N9
          have offr4 := offr3
          simp only [Off1] at offr4
          iterate 15 walk_at "s1"
          rw [show (1 + (i : Int)) = ((i + 1 : Nat) : Int) by omega]
          have hc2 : c2 ∈ due.cps.toList := List.mem_of_getElem? (by rw [Array.getElem?_toList]; exact hj)
          have hj3 : j < 3 := Nat.lt_of_lt_of_le (Array.getElem?_eq_some_iff.mp hj).1 (Nat.le_of_lt_succ hdl)
          refine' Pure.use (c_hour w mean mg mb lr2 rvs2 (i + 1) v c2 t2 turn _ (hrK e i j) (by omega) (by omega) hrv2 (fun p _ => hrK_bd he hi10 (by omega) p) (hdp c2 hc2) (sign_small hsg hc2)) ?u7A ?u7h ?u7f ?u7k B ?u7F X ?u7N T ?u7d ?u7u ?u70 ?u7p ?_
          case u7A => rfl
          case u7h => rfl
          case u7f => rfl
          case u7k => rfl
          case u7F => k_asm
          case u7N => k_asm
          case u7d => exact room hd (by decide)
          case u7u => exact room3 hu (by decide)
          case u70 => ((try dsimp only); walk_at "clrC"; omega)
          case u7p => exact ⟨_, (N9 (lr2, W.listOf rvs2.toArray cr2) (by k_mem)).1, rfl, _, rfl⟩
          intro v6 hh7 tkk6 FF6 NN6 kp6 lek6 ⟨lr3, rvs3, cr3, e6, hg6, hn6, hrv3⟩
          try dsimp only at lek6
          rw [hrK_succ] at hrv3
          have N10 := led_new F9 NN6 hg6 hn6
          have off6 := led_off N9 hn6
          obtain ⟨N11, finA, finB, oi1, oi2, oi3⟩ := hour_led N10 off6 offI2 (offI (Lx + 1 + 1 + 1 + 1, oR2) (by k_mem))
          clear N10 NN6 hg6 hn6 F9 N9
          clear off1 off2 off3 off offl offr offr2 offr3 offr4 off6 offI offI2
          rw [e6]
          clear e6
          try dsimp only
          iterate 9 walk_at "s1"
          refine' eq_strsK (ns := rowS (hrK e i (j + 1))) (ms := []) ?n1 ?n2 ?n3 ?n4 ?n5 ?n6 ?n7 ?_
          case n1 => is_list
          case n2 => exact hrv3
          case n3 => is_list
          case n4 => exact .nil
          case n5 => exact room3 hu (by decide)
          case n6 => exact rowS_ok _
          case n7 => rfl
          rw [rowS_nil]
          try dsimp only
          iterate 5 walk_at "s1"
          rename Fr _ _ _ _ => F12
          rename News _ _ _ _ => N12
          rename _ = Data.cell (some (Value.ref lr3)) => dR4
          exact LoopEnd.next F12 N12 (by lcg_sub) (finB _ _) trivial ⟨lr3, rvs3, cr3, _, hrv3, g1, g2, g3, g4, rfl, dR4, finA _⟩
        case sdone =>
          rintro m₂ news₂ h9 tk9 E2 hle9 ⟨lr2, rvs2, cr2, oR3, hrv2, g1, g2, g3, g4, rfl, dR3, offr3⟩ F9 N9
          dsimp only [envOfC] at F9 N9
          obtain ⟨finC, finD, oj1, oj2⟩ := end_led (o2' := W.listOf rvs2.toArray cr2) offr3 offI
          have oj3 : @LT.lt Nat _ ln ll := offl.2.1
          have oj4 : @LT.lt Nat _ lc ll := offl.2.2.1
          have oj5 : @LT.lt Nat _ (Lx + 1 + 1 + 1 + 1 + 1 + 1) ll := offl.2.2.2.1
          clear off1 off2 off3 off offl offr offr2 offr3 offI
          iterate 17 walk_at "s1"
          have hcl : lv.toArray.size ≤ sizeLine := by
            rw [List.size_toArray, hlv.length, List.length_map, List.length_range]
            exact Nat.le_trans (Nat.le_of_lt hi10) (by decide)
          iterate 4 walk_at "s1"
          rename Fr _ _ _ _ => F12
          rename News _ _ _ _ => N12
          have e2 : ∀ x : Value, lv.toArray.push x = (lv ++ [x]).toArray := fun x => by simp
          rw [e2] at N12
          rw [hrK_end] at hrv2
          refine LoopEnd.next F12 N12 (by lcg_sub) (finD _) trivial ⟨eUp e i due.cps.size, lr2, rvs2, _, cr2, cl + 1, oR3, eUp_le he (Nat.le_of_lt_succ hdl), hrv2, ?_, g2, g3, rfl, dR3, finC _⟩
          rw [eUp_map]
          exact ints_snoc hlv _ _
    case bdone =>
      rintro m₁ news₁ h3 tk3 E' hle3 ⟨e, lr, rvs, lv, cr, cl, oR2, he, hrv, hlv, hm1, hm2, rfl, dR2, offr⟩ F5 N5
      dsimp only [envOfC] at F5 N5
      have offr2 := offr
      simp only [Off1] at offr2
      have ce1 : @LT.lt Nat _ (Lx + 1 + 1 + 1 + 1 + 1) ll := offl.2.2.2.2.1
      have ce2 : @LT.lt Nat _ (Lx + 1 + 1 + 1 + 1 + 1) ln := off2.2.2.1
      have ce3 : @Ne Nat (Lx + 1 + 1 + 1 + 1 + 1) lc := off1.2.1
      have ce4 : @Ne Nat (Lx + 1 + 1 + 1 + 1 + 1) lr := offr2.2.2.2.2.1
      have ck1 : @LT.lt Nat _ (Lx + 1 + 1 + 1 + 1 + 1 + 1) ll := offl.2.2.2.1
      have ck2 : @LT.lt Nat _ (Lx + 1 + 1 + 1 + 1 + 1 + 1) ln := off2.2.1
      have ck3 : @Ne Nat (Lx + 1 + 1 + 1 + 1 + 1 + 1) lc := off1.1
      have ck4 : @Ne Nat (Lx + 1 + 1 + 1 + 1 + 1 + 1) lr := offr2.2.2.2.1
      clear off1 off2 off3 off offl offr offr2
      iterate 36 walk_at "s1"
      obtain ⟨rs, hrsE⟩ : ∃ rs, rs = rowS (fun p => 1 + dotsOf e p 10) := ⟨_, rfl⟩
      have hry : ∀ y ∈ rs, y.length ≤ 200 := by
        rw [hrsE]
        exact rowS_small fun p _ => by have := dots_le he p 10; omega
      have hrl : rs.length = 10 := by rw [hrsE]; exact rowS_len _
      rw [← hrsE] at hrv
      rename Fr _ _ _ _ => F6
      rename News _ _ _ _ => N6
      refine' comp_range (n := 10) ?jhh ?jF ?jN ?jhr ?jhsm ?jhn ?jhsz (fun _ => true) (fun i ys (tk : Nat) => StrsAre ys ((List.range i).map (mailF turn rs))) ?ji0 ?jmono ?jtests ?jskip ?jturn ?jdone ?jhcell ?jhkind ?jhx
      case jhh => rfl
      case jF => k_asm
      case jN => k_asm
      case jhr => k_asm
      case jhsm => rfl
      case jhn => rfl
      case jhsz => decide
      case jhcell => decide
      case jhkind => rfl
      case jhx => rfl
      case ji0 => exact .nil
      case jmono => intro i ys t t' le h; exact h
      case jtests =>
        intro I C D oI oC i v ys m₂ h tk E' hv ho hm F N off ne
        exact wpAny_tests_nil ⟨rfl, h, tk, rfl, F, N⟩
      case jskip => intro i v ys tk hv q; cases q
      case jturn =>
        rintro I C D oI oC i v ys m₂ h tk E' hi ⟨t, rfl⟩ _ hle hJ ho hm F N off ne
        iterate 15 walk_at "s1"
        have g2 : rs.getD ((0 : Int) + (i : Int)).toNat PySem.Str.empty = rs.getD i PySem.Str.empty := by rw [show ((0 : Int) + (i : Int)).toNat = i by omega]
        have g4 : (rs.getD i PySem.Str.empty).length ≤ 200 := by
          have hi' : i < rs.length := by omega
          rw [List.getD_eq_getElem?_getD, List.getElem?_eq_getElem hi']
          exact hry _ (List.getElem_mem hi')
        have g5 : (([Str.ofString "\n", Str.ofString "\r", Str.ofString "\r\n"] : List Str).getD ((turn + ((0 : Int) + (i : Int))).fmod 3).toNat PySem.Str.empty) = endsS.getD ((turn + i).fmod 3).toNat PySem.Str.empty := by
          rw [show (0 : Int) + (i : Int) = (i : Int) by omega]; rfl
        have g6 : (endsS.getD ((turn + i).fmod 3).toNat PySem.Str.empty).length ≤ 2 := ends_len _
        rw [g2, g5]
        refine add_str (hsz := by unfold sizeLine; omega) ?_
        intro t9 tk9
        refine CompElt.intro F N (fun p hp => hp) ?_
        rw [List.range_succ, List.map_append, List.map_cons, List.map_nil]
        exact strs_snoc hJ _ _
      case jdone =>
        rintro D2 h tk mails hle hM F N off
        try dsimp only
        iterate 1 walk_at "s1"
        rw [mailF_fun] at hM
        have hsm := mail_sum (d := 1) (sh := ⟨#[65]⟩) (turn := turn - 1) (Nat.le_refl 1) hry 10
        refine le_toks ?_
        refine' join_list (ys := (List.range 10).map (mailS 1 ⟨#[65]⟩ (turn - 1) rs)) ?q1 ?q2 ?q3 ?_
        case q1 => exact ⟨_, (N (D2, lst mails) List.mem_cons_self).1, rfl, _, rfl⟩
        case q2 => exact hM
        case q3 =>
          rw [show (Str.ofString "").length = 0 by decide, Nat.mul_zero, Nat.add_zero]
          exact Nat.le_trans hsm (by decide)
        intro t5 k5 lek5
        replace lek5 : tk ≤ k5 := lek5
        obtain ⟨J, hJ⟩ : ∃ J, J = Txt.join (Str.ofString "") ((List.range 10).map (mailS 1 ⟨#[65]⟩ (turn - 1) rs)) := ⟨_, rfl⟩
        have hJl : J.length ≤ 2030 := by
          rw [hJ]
          exact Nat.le_trans (Nat.le_of_eq (glued_len _)) hsm
        have hJc : J.cps.toList = mailL ((List.range 10).map (lnL 1 65 (turn - 1) fun p => 1 + dotsOf e p 10)) := by
          rw [hJ, hrsE, ← mail_cps 10 (Nat.le_refl _)]
          exact glued_cps _
        rw [← hJ]
        try dsimp only
        iterate 1 walk_at "s1"
        refine le_toks ?_
        iterate 4 walk_at "s1"
        have hJ2 : (J ++ Str.ofString "\r.").length ≤ 2032 := by rw [str_app_len, show (Str.ofString "\r.").length = 2 by decide]; omega
        have hJd : (J ++ Str.ofString "\r.").cps.toList = mailL ((List.range 10).map (lnL 1 65 (turn - 1) fun p => 1 + dotsOf e p 10)) ++ [13, 46] := by
          rw [str_app_cps, hJc]
          congr 1
        have hsent := law_sent (fun i _ => Nat.le_add_right 1 _) _ hJd
        have hsl := sent_len (J ++ Str.ofString "\r.")
        have hcs := crlf_small (x := J ++ Str.ofString "\r.") (Nat.le_trans hJ2 (by decide))
        refine' Pure.use (c_quote w mean mg mb (J ++ Str.ofString "\r.") _ hcs.1 hcs.2) ?u8A ?u8h ?u8f ?u8k B ?u8F X ?u8N T ?u8d ?u8u ?u80 ?u8p ?_
        case u8A => rfl
        case u8h => rfl
        case u8f => rfl
        case u8k => rfl
        case u8F => k_asm
        case u8N => k_asm
        case u8d => exact room hd (by decide)
        case u8u => exact room3 hu (by decide)
        case u80 => ((try dsimp only); walk_at "clrC"; omega)
        case u8p => exact trivial
        intro v7 hh7 tkk7 FF7 NN7 kp7 lek7 ⟨t7, e7⟩
        try dsimp only at lek7
        rw [e7]
        clear e7
        have hDl : (dots (crlf (J ++ Str.ofString "\r."))).length < 2 ^ 20 + 1 := Nat.lt_succ_of_le (Nat.le_trans hsl (Nat.le_trans (Nat.mul_le_mul_left 4 hJ2) (by decide)))
        generalize dots (crlf (J ++ Str.ofString "\r.")) = Dd at hsent hDl ⊢
        clear hcs hJd hJc hJ hJl hsm hsl hJ2
        try dsimp only
        iterate 15 walk_at "s1"
        refine' numbers_use hsent (gs_ok _ 10 0 (by omega)) (Nat.le_of_lt_succ hDl) ?nA ?nh ?nf ?nk B ?nF X ?nN T X T ?nd ?nu ?n0 ?_
        case nA => rfl
        case nh => rfl
        case nf => rfl
        case nk => rfl
        case nF => k_asm
        case nN => k_asm
        case nd => exact room hd (by decide)
        case nu => exact room3 hu (by decide)
        case n0 => ((try dsimp only); omega)
        intro h8 tk8 lnm nvs2 FF8 NN8 hl8 htk8 lek8
        rw [gs_val _ 10 0 (by omega)] at htk8
        try dsimp only at lek8
        clear hsent hDl
        try dsimp only
        iterate 2 walk_at "s1"
        refine' Pure.use (c_counts w mean mg mb lnm nvs2 (fun i => 1 + dotsOf e i 10 + 1) tk8 htk8 (fun i => by have := dots_le he i 10; omega)) ?u9A ?u9h ?u9f ?u9k B ?u9F X ?u9N T ?u9d ?u9u ?u90 ?u9p ?_
        case u9A => rfl
        case u9h => rfl
        case u9f => rfl
        case u9k => rfl
        case u9F => k_asm
        case u9N => k_asm
        case u9d => exact room hd (by decide)
        case u9u => exact room3 hu (by decide)
        case u90 => ((try dsimp only); walk_at "clrC"; omega)
        case u9p => exact ⟨hl8, Nat.le_refl _⟩
        intro v9 hh9 tkk9 FF9 NN9 kp9 lek9 ⟨lcn, cvs2, cc2, e9, hg9, hn9, hcv9⟩
        try dsimp only at lek9
        have N10 := led_new FF8 NN9 hg9 hn9
        have off9 := led_off NN8 hn9
        have cn1 : @Ne Nat (Lx + 1 + 1 + 1 + 1 + 1 + 1) lcn := off9.2.2.2.2.2.2.1
        have N11 : News s.heap Lx hh9 [(lcn, W.listOf cvs2.toArray cc2), (ll, W.listOf lv.toArray cl), (ln, W.listOf (nvs ++ nvs).toArray 0), (Lx + 1 + 1 + 1 + 1 + 1 + 1, oK), (Lx + 1 + 1, oS1), (Lx + 1, oN1)] := fun p hp => N10 p ((by lcg_sub : ∀ p ∈ [(lcn, W.listOf cvs2.toArray cc2), (ll, W.listOf lv.toArray cl), (ln, W.listOf (nvs ++ nvs).toArray 0), (Lx + 1 + 1 + 1 + 1 + 1 + 1, oK), (Lx + 1 + 1, oS1), (Lx + 1, oN1)], p ∈ _) p hp)
        have hcv10 : IntsAre cvs2 (csL e) := hcv9
        clear N10 NN9 NN8 FF8 off off9 hcv9 htk8 hl8 hn9 hg9
        rw [e9]
        clear e9
        try dsimp only
        iterate 10 walk_at "s1"
        rw [csL_nil]
        iterate 18 walk_at "s1"
        refine' comp_range (n := 10) ?khh ?kF ?kN ?khr ?khsm ?khn ?khsz (fun _ => true) (fun i ys (tk : Nat) => IntsAre ys ((List.range i).map fun j => ((e j : Nat) : Int))) ?ki0 ?kmono ?ktests ?kskip ?kturn ?kdone ?khcell ?khkind ?khx
        case khh => rfl
        case kF => k_asm
        case kN => k_asm
        case khr => k_asm
        case khsm => rfl
        case khn => rfl
        case khsz => decide
        case khcell => decide
        case khkind => rfl
        case khx => rfl
        case ki0 => exact .nil
        case kmono => intro i ys t t' le h; exact h
        case ktests =>
          intro I C D oI oC i v ys m₂ h tk E' hv ho hm F N off ne
          exact wpAny_tests_nil ⟨rfl, h, tk, rfl, F, N⟩
        case kskip => intro i v ys tk hv q; cases q
        case kturn =>
          rintro I C D oI oC i v ys m₂ h tk E' hi ⟨t, rfl⟩ _ hle hJ ho hm F N off ne
          iterate 14 walk_at "s1"
          rw [show (1 + (i : Int)) = ((i + 1 : Nat) : Int) by omega]
          refine' Pure.use (c_length w mean mg mb lcn cvs2 (csL e) (i + 1) t ln (nvs ++ nvs) _ _ sh _ hcv10 (csL_len e) (csL_ok he) (by omega) (by omega) htn2 (by (try dsimp only); omega) hsh29) ?u10A ?u10h ?u10f ?u10k B ?u10F X ?u10N T ?u10d ?u10u ?u100 ?u10p ?_
          case u10A => rfl
          case u10h => rfl
          case u10f => rfl
          case u10k => rfl
          case u10F => k_asm
          case u10N => k_asm
          case u10d => exact room hd (by decide)
          case u10u => exact room3 hu (by decide)
          case u100 => ((try dsimp only); walk_at "clrC"; omega)
          case u10p => exact ⟨⟨_, (N (lcn, W.listOf cvs2.toArray cc2) (by k_mem)).1, rfl, _, rfl⟩, ⟨_, (N (ln, W.listOf (nvs ++ nvs).toArray 0) (by k_mem)).1, rfl, _, rfl⟩, by (try dsimp only); omega, by (try dsimp only); omega⟩
          intro v11 hh11 tkk11 FF11 NN11 kp11 lek11 ⟨t11, e11⟩
          try dsimp only at lek11
          rw [e11]
          clear e11
          exact CompElt.intro FF11 NN11 (fun p hp => hp) (lens_snoc hJ (lens_is e i hi) _)
        case kdone =>
          rintro D3 h tk lens hle hL F N off
          try dsimp only
          iterate 2 walk_at "s1"
          refine QR.go (by with_reducible assumption) _ _ ?_
          intro _
          exact hret _ _ (Fr.keep F) (by (try dsimp only); omega)
end
section
set_option maxRecDepth 100000
set_option maxHeartbeats 4000000
theorem ref_inj {a b : Addr} {x : Option Value} (h1 : x = some (.ref a)) (h2 : x = some (.ref b)) : a = b := by
  rw [h1] at h2
  cases h2
  rfl
noncomputable def lq : OpenLaw := { prog := pq, name := (PySem.Str.ofString "law"), about := [(PySem.Str.ofString "_parse_varint")], foot := 8, most := some 63, bound := none, writes := false }
theorem l_is : PySem.Challenge.rw_ta0050_01 = lq := congrArg (fun p : Program => ({ prog := p, name := (PySem.Str.ofString "law"), about := [(PySem.Str.ofString "_parse_varint")], foot := 8, most := some 63, bound := none, writes := false } : OpenLaw)) pw_is
theorem said_q (h : lq.row.wellSaid = true → lq.row.Holds) : lq.Holds := by
  o_law
  exact h (by assumption)
theorem tryR (said : PySem.Challenge.rw_ta0050_01.row.wellSaid = true) : PySem.Challenge.rw_ta0050_01.row.Holds := by
  w_on
  refine holdsT rfl (by rfl) (by rfl) (by rfl) (by rfl) (by assumption) (by decide +kernel) ⟨rfl, rfl, rfl, rfl, rfl, by decide +kernel⟩ ?hw ?hc
  case hw => w_witness2
  intro w s₀ s₁ mg mb G Y hto fa o pm cd doc dV kV ho hd hcd hD hmg hg args vals as hpre hlay hrd hwl hlo
  have KX := kIn_of Y
  refine Ground.open G ?_
  intro T B D TE TW
  have hfa : mg (Str.ofString "law") = some (.ref 227) := mg_of KX T.g (by k_is)
  obtain rfl : fa = 227 := ref_inj hmg hfa
  clear hfa hmg ho hd hcd hD B D TE TW
  wrow_args hpre hlay hrd hwl hlo
  rename IntsAre _ _ => hI
  rename Heap.IsList _ _ _ => hL
  rw [looseM_eq] at T
  refine c_law (dp := 1 + claimMargin) (un := 4) (gd := some []) hI (by omega) (by decide) (by decide) (below_caller s₁.heap) KX T hto hL ?_
  intro h' tk' kp le
  refine GoodW.toG ?_
  refine ⟨.inl ⟨_, .bool true, [], rfl, raisesW_false ?hn, .bool true, ?hp, unshared_nil⟩, kp, rfl, hg⟩
  case hn => wrow_none_raised
  case hp => wrow_post
theorem tryJ : PySem.Challenge.rw_ta0050_01.Holds := by
  rw [l_is]
  refine said_q fun said => ?_
  rw [← l_is] at said ⊢
  exact tryR said
end
end Mine
theorem PySem.Challenge.cw_ta0050_01_holds : PySem.Challenge.rw_ta0050_01.Holds :=
  Mine.tryJ
