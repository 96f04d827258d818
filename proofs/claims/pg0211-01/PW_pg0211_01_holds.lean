import PyProof.Rows.All
import Wide.All
import OpenK.AllK
import Wide.FinOn
import KE.KTryOn
import KE.KTurns
import KE.KIntText
import PyProof.ZipIter
import KE.KLcTest
import KE.KTurnsDict
import KE.KTryMore
import KE.KAnyBase
import KE.KSliceW
import KE.KOpsOwn
import KE.KCat
import KE.KEqDat
import KE.LcTurns
import KE.RegLcTurns
import PySem.Challenge.RW_pg0211_01
open PySem PySem.W PyProof.Rows
set_option Elab.async false
set_option compiler.extract_closed false
set_option linter.all false
local macro_rules | `(tactic| omega) => `(tactic| lia)
namespace Mine
set_option maxRecDepth 100000
set_option maxHeartbeats 8000000
noncomputable abbrev PR : Program := PySem.Challenge.pw_pg0211_01
noncomputable def st (i : Nat) : Stmt := PySem.Challenge.pw_pg0211_01.main.body.getD i default
noncomputable def clsBody (s : Stmt) : List Stmt := by
  cases s
  case ClassDef _ _ _ b _ _ _ _ _ _ _ => exact b
  all_goals exact []
noncomputable def forBody (s : Stmt) : List Stmt := by
  cases s
  case For _ _ b _ _ => exact b
  all_goals exact []
noncomputable def mst (i : Nat) : Stmt := (clsBody (st 11)).getD i default
noncomputable def fnBody (s : Stmt) : List Stmt := by
  cases s
  case FunctionDef _ _ b _ _ _ _ _ _ _ => exact b
  all_goals exact []
noncomputable def fnParams (s : Stmt) : Arguments := by
  cases s
  case FunctionDef _ b _ _ _ _ _ _ _ _ => exact b
  all_goals exact default
noncomputable def fnScope (s : Stmt) : Scope := by
  cases s
  case FunctionDef _ _ _ _ _ _ b _ _ _ => exact b
  all_goals exact default
noncomputable def s5_0 : Stmt := (fnBody (st 5)).getD 0 default
noncomputable def s5_1 : Stmt := (fnBody (st 5)).getD 1 default
noncomputable def s5_2 : Stmt := (fnBody (st 5)).getD 2 default
noncomputable def s5_3 : Stmt := (fnBody (st 5)).getD 3 default
noncomputable abbrev bd5 : List Stmt := [s5_0, s5_1, s5_2, s5_3]
noncomputable def sc5 : Scope := fnScope (st 5)
noncomputable def ar5 : Arguments := fnParams (st 5)
noncomputable def s10_0 : Stmt := (fnBody (st 10)).getD 0 default
noncomputable abbrev bd10 : List Stmt := [s10_0]
noncomputable def sc10 : Scope := fnScope (st 10)
noncomputable def ar10 : Arguments := fnParams (st 10)
noncomputable def s13_0 : Stmt := (fnBody (st 13)).getD 0 default
noncomputable def s13_1 : Stmt := (fnBody (st 13)).getD 1 default
noncomputable def s13_2 : Stmt := (fnBody (st 13)).getD 2 default
noncomputable def s13_3 : Stmt := (fnBody (st 13)).getD 3 default
noncomputable abbrev bd13 : List Stmt := [s13_0, s13_1, s13_2, s13_3]
noncomputable def sc13 : Scope := fnScope (st 13)
noncomputable def ar13 : Arguments := fnParams (st 13)
noncomputable def s14_0 : Stmt := (fnBody (st 14)).getD 0 default
noncomputable def s14_1 : Stmt := (fnBody (st 14)).getD 1 default
noncomputable def s14_2 : Stmt := (fnBody (st 14)).getD 2 default
noncomputable def s14_3 : Stmt := (fnBody (st 14)).getD 3 default
noncomputable def s14_4 : Stmt := (fnBody (st 14)).getD 4 default
noncomputable abbrev bd14 : List Stmt := [s14_0, s14_1, s14_2, s14_3, s14_4]
noncomputable def sc14 : Scope := fnScope (st 14)
noncomputable def ar14 : Arguments := fnParams (st 14)
noncomputable def s15_0 : Stmt := (fnBody (st 15)).getD 0 default
noncomputable def s15_1 : Stmt := (fnBody (st 15)).getD 1 default
noncomputable def s15_2 : Stmt := (fnBody (st 15)).getD 2 default
noncomputable abbrev bd15 : List Stmt := [s15_0, s15_1, s15_2]
noncomputable def sc15 : Scope := fnScope (st 15)
noncomputable def ar15 : Arguments := fnParams (st 15)
noncomputable def s16_0 : Stmt := (fnBody (st 16)).getD 0 default
noncomputable def s16_1 : Stmt := (fnBody (st 16)).getD 1 default
noncomputable abbrev bd16 : List Stmt := [s16_0, s16_1]
noncomputable def sc16 : Scope := fnScope (st 16)
noncomputable def ar16 : Arguments := fnParams (st 16)
noncomputable def s17_0 : Stmt := (fnBody (st 17)).getD 0 default
noncomputable def s17_1 : Stmt := (fnBody (st 17)).getD 1 default
noncomputable def s17_2 : Stmt := (fnBody (st 17)).getD 2 default
noncomputable def s17_3 : Stmt := (fnBody (st 17)).getD 3 default
noncomputable def s17_4 : Stmt := (fnBody (st 17)).getD 4 default
noncomputable def s17_5 : Stmt := (fnBody (st 17)).getD 5 default
noncomputable def s17_6 : Stmt := (fnBody (st 17)).getD 6 default
noncomputable def s17_7 : Stmt := (fnBody (st 17)).getD 7 default
noncomputable def s17_8 : Stmt := (fnBody (st 17)).getD 8 default
noncomputable def s17_9 : Stmt := (fnBody (st 17)).getD 9 default
noncomputable abbrev bd17 : List Stmt := [s17_0, s17_1, s17_2, s17_3, s17_4, s17_5, s17_6, s17_7, s17_8, s17_9]
noncomputable def sc17 : Scope := fnScope (st 17)
noncomputable def ar17 : Arguments := fnParams (st 17)
noncomputable def s18_0 : Stmt := (fnBody (st 18)).getD 0 default
noncomputable def s18_1 : Stmt := (fnBody (st 18)).getD 1 default
noncomputable def s18_2 : Stmt := (fnBody (st 18)).getD 2 default
noncomputable def s18_3 : Stmt := (fnBody (st 18)).getD 3 default
noncomputable def s18_4 : Stmt := (fnBody (st 18)).getD 4 default
noncomputable def s18_5 : Stmt := (fnBody (st 18)).getD 5 default
noncomputable abbrev bd18 : List Stmt := [s18_0, s18_1, s18_2, s18_3, s18_4, s18_5]
noncomputable def sc18 : Scope := fnScope (st 18)
noncomputable def ar18 : Arguments := fnParams (st 18)
noncomputable def s19_0 : Stmt := (fnBody (st 19)).getD 0 default
noncomputable def s19_1 : Stmt := (fnBody (st 19)).getD 1 default
noncomputable def s19_2 : Stmt := (fnBody (st 19)).getD 2 default
noncomputable def s19_3 : Stmt := (fnBody (st 19)).getD 3 default
noncomputable def s19_4 : Stmt := (fnBody (st 19)).getD 4 default
noncomputable abbrev bd19 : List Stmt := [s19_0, s19_1, s19_2, s19_3, s19_4]
noncomputable def sc19 : Scope := fnScope (st 19)
noncomputable def ar19 : Arguments := fnParams (st 19)
noncomputable def m0_0 : Stmt := (fnBody (mst 0)).getD 0 default
noncomputable def m0_1 : Stmt := (fnBody (mst 0)).getD 1 default
noncomputable def m0_2 : Stmt := (fnBody (mst 0)).getD 2 default
noncomputable def m0_3 : Stmt := (fnBody (mst 0)).getD 3 default
noncomputable abbrev mbd0 : List Stmt := [m0_0, m0_1, m0_2, m0_3]
noncomputable def msc0 : Scope := fnScope (mst 0)
noncomputable def mar0 : Arguments := fnParams (mst 0)
noncomputable def m1_0 : Stmt := (fnBody (mst 1)).getD 0 default
noncomputable def m1_1 : Stmt := (fnBody (mst 1)).getD 1 default
noncomputable abbrev mbd1 : List Stmt := [m1_0, m1_1]
noncomputable def msc1 : Scope := fnScope (mst 1)
noncomputable def mar1 : Arguments := fnParams (mst 1)
noncomputable def m3_0 : Stmt := (fnBody (mst 3)).getD 0 default
noncomputable def m3_1 : Stmt := (fnBody (mst 3)).getD 1 default
noncomputable abbrev mbd3 : List Stmt := [m3_0, m3_1]
noncomputable def msc3 : Scope := fnScope (mst 3)
noncomputable def mar3 : Arguments := fnParams (mst 3)
noncomputable def m4_0 : Stmt := (fnBody (mst 4)).getD 0 default
noncomputable def m4_1 : Stmt := (fnBody (mst 4)).getD 1 default
noncomputable abbrev mbd4 : List Stmt := [m4_0, m4_1]
noncomputable def msc4 : Scope := fnScope (mst 4)
noncomputable def mar4 : Arguments := fnParams (mst 4)
noncomputable def m8_0 : Stmt := (fnBody (mst 8)).getD 0 default
noncomputable def m8_1 : Stmt := (fnBody (mst 8)).getD 1 default
noncomputable def m8_2 : Stmt := (fnBody (mst 8)).getD 2 default
noncomputable abbrev mbd8 : List Stmt := [m8_0, m8_1, m8_2]
noncomputable def msc8 : Scope := fnScope (mst 8)
noncomputable def mar8 : Arguments := fnParams (mst 8)
noncomputable def m11_0 : Stmt := (fnBody (mst 11)).getD 0 default
noncomputable abbrev mbd11 : List Stmt := [m11_0]
noncomputable def msc11 : Scope := fnScope (mst 11)
noncomputable def mar11 : Arguments := fnParams (mst 11)
noncomputable def m15_0 : Stmt := (fnBody (mst 15)).getD 0 default
noncomputable def m15_1 : Stmt := (fnBody (mst 15)).getD 1 default
noncomputable abbrev mbd15 : List Stmt := [m15_0, m15_1]
noncomputable def msc15 : Scope := fnScope (mst 15)
noncomputable def mar15 : Arguments := fnParams (mst 15)
noncomputable def m16_0 : Stmt := (fnBody (mst 16)).getD 0 default
noncomputable def m16_1 : Stmt := (fnBody (mst 16)).getD 1 default
noncomputable def m16_2 : Stmt := (fnBody (mst 16)).getD 2 default
noncomputable def m16_3 : Stmt := (fnBody (mst 16)).getD 3 default
noncomputable abbrev mbd16 : List Stmt := [m16_0, m16_1, m16_2, m16_3]
noncomputable def msc16 : Scope := fnScope (mst 16)
noncomputable def mar16 : Arguments := fnParams (mst 16)
/-- the written part of the heap behind the top: the objects that the walk looks at -/
noncomputable def KK (P : Params) : Frag :=
    (nat_lit 3, PySem.Obj.mk (PySem.Value.type "dict") Option.none
  (PySem.Data.dict
    #[PySem.DictEntry.mk (PySem.PyData.keyHash P (PySem.Str.ofString "__name__"))
        (PySem.Value.str (PySem.Str.ofString "__name__") 165)
        (PySem.Value.str (PySem.Str.ofString "law_pg0211_01") 646),
      PySem.DictEntry.mk (PySem.PyData.keyHash P (PySem.Str.ofString "__doc__"))
        (PySem.Value.str (PySem.Str.ofString "__doc__") 166) PySem.Value.none,
      PySem.DictEntry.mk (PySem.PyData.keyHash P (PySem.Str.ofString "__package__"))
        (PySem.Value.str (PySem.Str.ofString "__package__") 167) PySem.Value.none,
      PySem.DictEntry.mk (PySem.PyData.keyHash P (PySem.Str.ofString "__loader__"))
        (PySem.Value.str (PySem.Str.ofString "__loader__") 168) (PySem.Value.builtin "__main__.__loader__#opaque"),
      PySem.DictEntry.mk (PySem.PyData.keyHash P (PySem.Str.ofString "__spec__"))
        (PySem.Value.str (PySem.Str.ofString "__spec__") 169) PySem.Value.none,
      PySem.DictEntry.mk (PySem.PyData.keyHash P (PySem.Str.ofString "__annotations__"))
        (PySem.Value.str (PySem.Str.ofString "__annotations__") 170) (PySem.Value.ref 6),
      PySem.DictEntry.mk (PySem.PyData.keyHash P (PySem.Str.ofString "__builtins__"))
        (PySem.Value.str (PySem.Str.ofString "__builtins__") 171) (PySem.Value.ref 4),
      PySem.DictEntry.mk (PySem.PyData.keyHash P (PySem.Str.ofString "__file__"))
        (PySem.Value.str (PySem.Str.ofString "__file__") 173)
        (PySem.Value.str (PySem.Str.ofString "/claim/cut.py") 172),
      PySem.DictEntry.mk (PySem.PyData.keyHash P (PySem.Str.ofString "__cached__"))
        (PySem.Value.str (PySem.Str.ofString "__cached__") 174) PySem.Value.none,
      PySem.DictEntry.mk (PySem.PyData.keyHash P (PySem.Str.ofString "_sre"))
        (PySem.Value.str (PySem.Str.ofString "_sre") 275) (PySem.Value.ref 12),
      PySem.DictEntry.mk (PySem.PyData.keyHash P (PySem.Str.ofString "_wall"))
        (PySem.Value.str (PySem.Str.ofString "_wall") 288) (PySem.Value.ref 38),
      PySem.DictEntry.mk (PySem.PyData.keyHash P (PySem.Str.ofString "_twin_re_1"))
        (PySem.Value.str (PySem.Str.ofString "_twin_re_1") 337) (PySem.Value.ref 43),
      PySem.DictEntry.mk (PySem.PyData.keyHash P (PySem.Str.ofString "_ver_stages"))
        (PySem.Value.str (PySem.Str.ofString "_ver_stages") 368) (PySem.Value.ref 44),
      PySem.DictEntry.mk (PySem.PyData.keyHash P (PySem.Str.ofString "_comparable_version"))
        (PySem.Value.str (PySem.Str.ofString "_comparable_version") 379) (PySem.Value.ref 51),
      PySem.DictEntry.mk (PySem.PyData.keyHash P (PySem.Str.ofString "tspecials"))
        (PySem.Value.str (PySem.Str.ofString "tspecials") 415) (PySem.Value.ref 56),
      PySem.DictEntry.mk (PySem.PyData.keyHash P (PySem.Str.ofString "_name_disallowed_re"))
        (PySem.Value.str (PySem.Str.ofString "_name_disallowed_re") 441) (PySem.Value.ref 61),
      PySem.DictEntry.mk (PySem.PyData.keyHash P (PySem.Str.ofString "_value_disallowed_re"))
        (PySem.Value.str (PySem.Str.ofString "_value_disallowed_re") 475) (PySem.Value.ref 66),
      PySem.DictEntry.mk (PySem.PyData.keyHash P (PySem.Str.ofString "_formatparam"))
        (PySem.Value.str (PySem.Str.ofString "_formatparam") 485) (PySem.Value.ref 74),
      PySem.DictEntry.mk (PySem.PyData.keyHash P (PySem.Str.ofString "Headers"))
        (PySem.Value.str (PySem.Str.ofString "Headers") 645) (PySem.Value.ref 197),
      PySem.DictEntry.mk (PySem.PyData.keyHash P (PySem.Str.ofString "_law_name"))
        (PySem.Value.str (PySem.Str.ofString "_law_name") 659) (PySem.Value.ref 208),
      PySem.DictEntry.mk (PySem.PyData.keyHash P (PySem.Str.ofString "_law_ranks"))
        (PySem.Value.str (PySem.Str.ofString "_law_ranks") 670) (PySem.Value.ref 215),
      PySem.DictEntry.mk (PySem.PyData.keyHash P (PySem.Str.ofString "_law_told"))
        (PySem.Value.str (PySem.Str.ofString "_law_told") 676) (PySem.Value.ref 220),
      PySem.DictEntry.mk (PySem.PyData.keyHash P (PySem.Str.ofString "_law_call"))
        (PySem.Value.str (PySem.Str.ofString "_law_call") 688) (PySem.Value.ref 227),
      PySem.DictEntry.mk (PySem.PyData.keyHash P (PySem.Str.ofString "_law_due"))
        (PySem.Value.str (PySem.Str.ofString "_law_due") 694) (PySem.Value.ref 232),
      PySem.DictEntry.mk (PySem.PyData.keyHash P (PySem.Str.ofString "_law_grown"))
        (PySem.Value.str (PySem.Str.ofString "_law_grown") 722) (PySem.Value.ref 239),
      PySem.DictEntry.mk (PySem.PyData.keyHash P (PySem.Str.ofString "law"))
        (PySem.Value.str (PySem.Str.ofString "law") 728) (PySem.Value.ref 244)]
    26)
  #[]) ::
    (nat_lit 42, PySem.Obj.mk (PySem.Value.type "tuple") Option.none
  (PySem.Data.seq
    #[PySem.Value.int 14 0, PySem.Value.int 4 0, PySem.Value.int 0 0, PySem.Value.int 1 0, PySem.Value.int 4294967295 0,
      PySem.Value.int 17 0, PySem.Value.int 0 0, PySem.Value.int 7 0, PySem.Value.int 14 0, PySem.Value.int 24 0,
      PySem.Value.int 10 0, PySem.Value.int 1 0, PySem.Value.int 4294967295 0, PySem.Value.int 13 0,
      PySem.Value.int 5 0, PySem.Value.int 22 0, PySem.Value.int 48 0, PySem.Value.int 57 0, PySem.Value.int 0 0,
      PySem.Value.int 1 0, PySem.Value.int 15 0, PySem.Value.int 17 0, PySem.Value.int 15 0, PySem.Value.int 13 0,
      PySem.Value.int 11 0, PySem.Value.int 9 0, PySem.Value.int 0 0, PySem.Value.int 26624 0,
      PySem.Value.int 2147483648 0, PySem.Value.int 0 0, PySem.Value.int 0 0, PySem.Value.int 0 0, PySem.Value.int 0 0,
      PySem.Value.int 0 0, PySem.Value.int 0 0, PySem.Value.int 15 0, PySem.Value.int 2 0, PySem.Value.int 0 0,
      PySem.Value.int 17 0, PySem.Value.int 1 0, PySem.Value.int 1 0])
  #[]) ::
    (nat_lit 43, PySem.Obj.mk (PySem.Value.type "re.Pattern") Option.none
  (PySem.Data.fields
    #[PySem.Value.str (PySem.Str.ofString "([0-9]+|[._+-])") 292, PySem.Value.int 32 336, PySem.Value.int 1 0,
      PySem.Value.none, PySem.Value.none, PySem.Value.ref 42, PySem.Value.int 0 0])
  #[]) ::
    (nat_lit 44, PySem.Obj.mk (PySem.Value.type "dict") Option.none
  (PySem.Data.dict
    #[PySem.DictEntry.mk (PySem.PyData.keyHash P (PySem.Str.ofString "dev"))
        (PySem.Value.str (PySem.Str.ofString "dev") 338) (PySem.Value.int 10 339),
      PySem.DictEntry.mk (PySem.PyData.keyHash P (PySem.Str.ofString "alpha"))
        (PySem.Value.str (PySem.Str.ofString "alpha") 340) (PySem.Value.int 20 341),
      PySem.DictEntry.mk (PySem.PyData.keyHash P (PySem.Str.ofString "a"))
        (PySem.Value.str (PySem.Str.ofString "a") 342) (PySem.Value.int 20 343),
      PySem.DictEntry.mk (PySem.PyData.keyHash P (PySem.Str.ofString "beta"))
        (PySem.Value.str (PySem.Str.ofString "beta") 344) (PySem.Value.int 30 345),
      PySem.DictEntry.mk (PySem.PyData.keyHash P (PySem.Str.ofString "b"))
        (PySem.Value.str (PySem.Str.ofString "b") 346) (PySem.Value.int 30 347),
      PySem.DictEntry.mk (PySem.PyData.keyHash P (PySem.Str.ofString "c"))
        (PySem.Value.str (PySem.Str.ofString "c") 348) (PySem.Value.int 40 349),
      PySem.DictEntry.mk (PySem.PyData.keyHash P (PySem.Str.ofString "RC"))
        (PySem.Value.str (PySem.Str.ofString "RC") 350) (PySem.Value.int 50 351),
      PySem.DictEntry.mk (PySem.PyData.keyHash P (PySem.Str.ofString "rc"))
        (PySem.Value.str (PySem.Str.ofString "rc") 352) (PySem.Value.int 50 353),
      PySem.DictEntry.mk (PySem.PyData.keyHash P (PySem.Str.ofString "pl"))
        (PySem.Value.str (PySem.Str.ofString "pl") 354) (PySem.Value.int 200 355),
      PySem.DictEntry.mk (PySem.PyData.keyHash P (PySem.Str.ofString "p"))
        (PySem.Value.str (PySem.Str.ofString "p") 356) (PySem.Value.int 200 357)]
    10)
  #[]) ::
    (nat_lit 50, PySem.Obj.mk (PySem.Value.type "code") Option.none
  (PySem.Data.fields
    #[PySem.Value.str (PySem.Str.ofString "_comparable_version") 369,
      PySem.Value.str (PySem.Str.ofString "_comparable_version") 370,
      PySem.Value.str (PySem.Str.ofString "/claim/cut.py") 371, PySem.Value.int 8 0, PySem.Value.int 1 0,
      PySem.Value.int 0 0, PySem.Value.int 0 0, PySem.Value.int 3 0, PySem.Value.ref 45, PySem.Value.bool Bool.true,
      PySem.Value.int 276 0, PySem.Value.ref 46, PySem.Value.none, PySem.Value.ref 47, PySem.Value.ref 48,
      PySem.Value.ref 49, PySem.Value.int 377 0, PySem.Value.int 8 0,
      PySem.Value.str (PySem.Str.ofString "/claim/cut.py") 378])
  #[]) ::
    (nat_lit 51, PySem.Obj.mk (PySem.Value.type "function") Option.none
  (PySem.Data.func
    (PySem.FuncData.mk (PySem.Str.ofString "_comparable_version") (PySem.Str.ofString "_comparable_version") ar5 (PySem.FuncBody.stmts bd5)
      sc5 3 [] PySem.Value.none PySem.Value.none PySem.Value.none
      (PySem.Value.str (PySem.Str.ofString "cpy313.platform") 289) Option.none (PySem.Value.ref 50) PySem.Value.none 0))
  #[]) ::
    (nat_lit 60, PySem.Obj.mk (PySem.Value.type "tuple") Option.none
  (PySem.Data.seq
    #[PySem.Value.int 14 0, PySem.Value.int 10 0, PySem.Value.int 4 0, PySem.Value.int 1 0, PySem.Value.int 1 0,
      PySem.Value.int 22 0, PySem.Value.int 0 0, PySem.Value.int 31 0, PySem.Value.int 16 0, PySem.Value.int 127 0,
      PySem.Value.int 0 0, PySem.Value.int 13 0, PySem.Value.int 7 0, PySem.Value.int 22 0, PySem.Value.int 0 0,
      PySem.Value.int 31 0, PySem.Value.int 16 0, PySem.Value.int 127 0, PySem.Value.int 0 0, PySem.Value.int 1 0])
  #[]) ::
    (nat_lit 61, PySem.Obj.mk (PySem.Value.type "re.Pattern") Option.none
  (PySem.Data.fields
    #[PySem.Value.str (PySem.Str.ofString "[\\x00-\\x1F\\x7F]") 417, PySem.Value.int 32 440, PySem.Value.int 0 0,
      PySem.Value.none, PySem.Value.none, PySem.Value.ref 60, PySem.Value.int 0 0])
  #[]) ::
    (nat_lit 65, PySem.Obj.mk (PySem.Value.type "tuple") Option.none
  (PySem.Data.seq
    #[PySem.Value.int 14 0, PySem.Value.int 14 0, PySem.Value.int 4 0, PySem.Value.int 1 0, PySem.Value.int 1 0,
      PySem.Value.int 9 0, PySem.Value.int 4294966783 0, PySem.Value.int 0 0, PySem.Value.int 0 0,
      PySem.Value.int 2147483648 0, PySem.Value.int 0 0, PySem.Value.int 0 0, PySem.Value.int 0 0, PySem.Value.int 0 0,
      PySem.Value.int 0 0, PySem.Value.int 13 0, PySem.Value.int 11 0, PySem.Value.int 9 0,
      PySem.Value.int 4294966783 0, PySem.Value.int 0 0, PySem.Value.int 0 0, PySem.Value.int 2147483648 0,
      PySem.Value.int 0 0, PySem.Value.int 0 0, PySem.Value.int 0 0, PySem.Value.int 0 0, PySem.Value.int 0 0,
      PySem.Value.int 1 0])
  #[]) ::
    (nat_lit 66, PySem.Obj.mk (PySem.Value.type "re.Pattern") Option.none
  (PySem.Data.fields
    #[PySem.Value.str (PySem.Str.ofString "[\\x00-\\x08\\x0A-\\x1F\\x7F]") 443, PySem.Value.int 32 474,
      PySem.Value.int 0 0, PySem.Value.none, PySem.Value.none, PySem.Value.ref 65, PySem.Value.int 0 0])
  #[]) ::
    (nat_lit 67, PySem.Obj.mk (PySem.Value.type "tuple") Option.none (PySem.Data.seq #[PySem.Value.none, PySem.Value.int 1 476]) #[]) ::
    (nat_lit 73, PySem.Obj.mk (PySem.Value.type "code") Option.none
  (PySem.Data.fields
    #[PySem.Value.str (PySem.Str.ofString "_formatparam") 477, PySem.Value.str (PySem.Str.ofString "_formatparam") 478,
      PySem.Value.str (PySem.Str.ofString "/claim/cut.py") 479, PySem.Value.int 24 0, PySem.Value.int 3 0,
      PySem.Value.int 0 0, PySem.Value.int 0 0, PySem.Value.int 3 0, PySem.Value.ref 68, PySem.Value.bool Bool.true,
      PySem.Value.int 276 0, PySem.Value.ref 69, PySem.Value.none, PySem.Value.ref 70, PySem.Value.ref 71,
      PySem.Value.ref 72, PySem.Value.int 483 0, PySem.Value.int 24 0,
      PySem.Value.str (PySem.Str.ofString "/claim/cut.py") 484])
  #[]) ::
    (nat_lit 74, PySem.Obj.mk (PySem.Value.type "function") Option.none
  (PySem.Data.func
    (PySem.FuncData.mk (PySem.Str.ofString "_formatparam") (PySem.Str.ofString "_formatparam") ar10 (PySem.FuncBody.stmts bd10) sc10 3 []
      (PySem.Value.ref 67) PySem.Value.none PySem.Value.none
      (PySem.Value.str (PySem.Str.ofString "cpy313.wsgiref.headers") 380) Option.none (PySem.Value.ref 73)
      PySem.Value.none 0))
  #[]) ::
    (nat_lit 82, PySem.Obj.mk (PySem.Value.type "tuple") Option.none (PySem.Data.seq #[PySem.Value.none]) #[]) ::
    (nat_lit 88, PySem.Obj.mk (PySem.Value.type "code") Option.none
  (PySem.Data.fields
    #[PySem.Value.str (PySem.Str.ofString "__init__") 498, PySem.Value.str (PySem.Str.ofString "Headers.__init__") 499,
      PySem.Value.str (PySem.Str.ofString "/claim/cut.py") 500, PySem.Value.int 35 0, PySem.Value.int 2 0,
      PySem.Value.int 0 0, PySem.Value.int 0 0, PySem.Value.int 3 0, PySem.Value.ref 83, PySem.Value.bool Bool.true,
      PySem.Value.int 276 0, PySem.Value.ref 84, PySem.Value.none, PySem.Value.ref 85, PySem.Value.ref 86,
      PySem.Value.ref 87, PySem.Value.int 505 0, PySem.Value.int 35 0,
      PySem.Value.str (PySem.Str.ofString "/claim/cut.py") 506])
  #[]) ::
    (nat_lit 89, PySem.Obj.mk (PySem.Value.type "function") Option.none
  (PySem.Data.func
    (PySem.FuncData.mk (PySem.Str.ofString "__init__") (PySem.Str.ofString "Headers.__init__") mar0 (PySem.FuncBody.stmts mbd0) msc0 3 []
      (PySem.Value.ref 82) PySem.Value.none PySem.Value.none
      (PySem.Value.str (PySem.Str.ofString "cpy313.wsgiref.headers") 380) Option.none (PySem.Value.ref 88)
      PySem.Value.none 0))
  #[]) ::
    (nat_lit 95, PySem.Obj.mk (PySem.Value.type "code") Option.none
  (PySem.Data.fields
    #[PySem.Value.str (PySem.Str.ofString "_convert_string_type") 508,
      PySem.Value.str (PySem.Str.ofString "Headers._convert_string_type") 509,
      PySem.Value.str (PySem.Str.ofString "/claim/cut.py") 510, PySem.Value.int 45 0, PySem.Value.int 2 0,
      PySem.Value.int 0 0, PySem.Value.int 1 0, PySem.Value.int 3 0, PySem.Value.ref 90, PySem.Value.bool Bool.true,
      PySem.Value.int 276 0, PySem.Value.ref 91, PySem.Value.none, PySem.Value.ref 92, PySem.Value.ref 93,
      PySem.Value.ref 94, PySem.Value.int 515 0, PySem.Value.int 45 0,
      PySem.Value.str (PySem.Str.ofString "/claim/cut.py") 516])
  #[]) ::
    (nat_lit 96, PySem.Obj.mk (PySem.Value.type "function") Option.none
  (PySem.Data.func
    (PySem.FuncData.mk (PySem.Str.ofString "_convert_string_type") (PySem.Str.ofString "Headers._convert_string_type")
      mar1 (PySem.FuncBody.stmts mbd1) msc1 3 [] PySem.Value.none PySem.Value.none PySem.Value.none
      (PySem.Value.str (PySem.Str.ofString "cpy313.wsgiref.headers") 380) Option.none (PySem.Value.ref 95)
      PySem.Value.none 0))
  #[]) ::
    (nat_lit 109, PySem.Obj.mk (PySem.Value.type "code") Option.none
  (PySem.Data.fields
    #[PySem.Value.str (PySem.Str.ofString "__setitem__") 525,
      PySem.Value.str (PySem.Str.ofString "Headers.__setitem__") 526,
      PySem.Value.str (PySem.Str.ofString "/claim/cut.py") 527, PySem.Value.int 56 0, PySem.Value.int 3 0,
      PySem.Value.int 0 0, PySem.Value.int 0 0, PySem.Value.int 3 0, PySem.Value.ref 104, PySem.Value.bool Bool.true,
      PySem.Value.int 276 0, PySem.Value.ref 105, PySem.Value.none, PySem.Value.ref 106, PySem.Value.ref 107,
      PySem.Value.ref 108, PySem.Value.int 531 0, PySem.Value.int 56 0,
      PySem.Value.str (PySem.Str.ofString "/claim/cut.py") 532])
  #[]) ::
    (nat_lit 110, PySem.Obj.mk (PySem.Value.type "function") Option.none
  (PySem.Data.func
    (PySem.FuncData.mk (PySem.Str.ofString "__setitem__") (PySem.Str.ofString "Headers.__setitem__") mar3 (PySem.FuncBody.stmts mbd3) msc3 3
      [] PySem.Value.none PySem.Value.none PySem.Value.none
      (PySem.Value.str (PySem.Str.ofString "cpy313.wsgiref.headers") 380) Option.none (PySem.Value.ref 109)
      PySem.Value.none 0))
  #[]) ::
    (nat_lit 114, PySem.Obj.mk (PySem.Value.type "code") Option.none
  (PySem.Data.fields
    #[PySem.Value.str (PySem.Str.ofString "__delitem__") 534,
      PySem.Value.str (PySem.Str.ofString "Headers.__delitem__") 535,
      PySem.Value.str (PySem.Str.ofString "/claim/cut.py") 536, PySem.Value.int 60 0, PySem.Value.int 2 0,
      PySem.Value.int 0 0, PySem.Value.int 0 0, PySem.Value.int 3 0, PySem.Value.ref 111, PySem.Value.bool Bool.true,
      PySem.Value.int 276 0, PySem.Value.ref 112, PySem.Value.none, PySem.Value.none, PySem.Value.none,
      PySem.Value.ref 113, PySem.Value.int 537 0, PySem.Value.int 60 0,
      PySem.Value.str (PySem.Str.ofString "/claim/cut.py") 538])
  #[]) ::
    (nat_lit 115, PySem.Obj.mk (PySem.Value.type "function") Option.none
  (PySem.Data.func
    (PySem.FuncData.mk (PySem.Str.ofString "__delitem__") (PySem.Str.ofString "Headers.__delitem__") mar4 (PySem.FuncBody.stmts mbd4) msc4 3
      [] PySem.Value.none PySem.Value.none PySem.Value.none
      (PySem.Value.str (PySem.Str.ofString "cpy313.wsgiref.headers") 380) Option.none (PySem.Value.ref 114)
      PySem.Value.none 0))
  #[]) ::
    (nat_lit 137, PySem.Obj.mk (PySem.Value.type "tuple") Option.none (PySem.Data.seq #[PySem.Value.none]) #[]) ::
    (nat_lit 143, PySem.Obj.mk (PySem.Value.type "code") Option.none
  (PySem.Data.fields
    #[PySem.Value.str (PySem.Str.ofString "get") 564, PySem.Value.str (PySem.Str.ofString "Headers.get") 565,
      PySem.Value.str (PySem.Str.ofString "/claim/cut.py") 566, PySem.Value.int 73 0, PySem.Value.int 3 0,
      PySem.Value.int 0 0, PySem.Value.int 0 0, PySem.Value.int 3 0, PySem.Value.ref 138, PySem.Value.bool Bool.true,
      PySem.Value.int 276 0, PySem.Value.ref 139, PySem.Value.none, PySem.Value.ref 140, PySem.Value.ref 141,
      PySem.Value.ref 142, PySem.Value.int 572 0, PySem.Value.int 73 0,
      PySem.Value.str (PySem.Str.ofString "/claim/cut.py") 573])
  #[]) ::
    (nat_lit 144, PySem.Obj.mk (PySem.Value.type "function") Option.none
  (PySem.Data.func
    (PySem.FuncData.mk (PySem.Str.ofString "get") (PySem.Str.ofString "Headers.get") mar8 (PySem.FuncBody.stmts mbd8) msc8 3 []
      (PySem.Value.ref 137) PySem.Value.none PySem.Value.none
      (PySem.Value.str (PySem.Str.ofString "cpy313.wsgiref.headers") 380) Option.none (PySem.Value.ref 143)
      PySem.Value.none 0))
  #[]) ::
    (nat_lit 160, PySem.Obj.mk (PySem.Value.type "code") Option.none
  (PySem.Data.fields
    #[PySem.Value.str (PySem.Str.ofString "items") 587, PySem.Value.str (PySem.Str.ofString "Headers.items") 588,
      PySem.Value.str (PySem.Str.ofString "/claim/cut.py") 589, PySem.Value.int 86 0, PySem.Value.int 1 0,
      PySem.Value.int 0 0, PySem.Value.int 0 0, PySem.Value.int 3 0, PySem.Value.ref 155, PySem.Value.bool Bool.true,
      PySem.Value.int 276 0, PySem.Value.ref 156, PySem.Value.none, PySem.Value.ref 157, PySem.Value.ref 158,
      PySem.Value.ref 159, PySem.Value.int 591 0, PySem.Value.int 86 0,
      PySem.Value.str (PySem.Str.ofString "/claim/cut.py") 592])
  #[]) ::
    (nat_lit 161, PySem.Obj.mk (PySem.Value.type "function") Option.none
  (PySem.Data.func
    (PySem.FuncData.mk (PySem.Str.ofString "items") (PySem.Str.ofString "Headers.items") mar11 (PySem.FuncBody.stmts mbd11) msc11 3 []
      PySem.Value.none PySem.Value.none PySem.Value.none
      (PySem.Value.str (PySem.Str.ofString "cpy313.wsgiref.headers") 380) Option.none (PySem.Value.ref 160)
      PySem.Value.none 0))
  #[]) ::
    (nat_lit 186, PySem.Obj.mk (PySem.Value.type "code") Option.none
  (PySem.Data.fields
    #[PySem.Value.str (PySem.Str.ofString "setdefault") 614,
      PySem.Value.str (PySem.Str.ofString "Headers.setdefault") 615,
      PySem.Value.str (PySem.Str.ofString "/claim/cut.py") 616, PySem.Value.int 98 0, PySem.Value.int 3 0,
      PySem.Value.int 0 0, PySem.Value.int 0 0, PySem.Value.int 3 0, PySem.Value.ref 181, PySem.Value.bool Bool.true,
      PySem.Value.int 276 0, PySem.Value.ref 182, PySem.Value.none, PySem.Value.ref 183, PySem.Value.ref 184,
      PySem.Value.ref 185, PySem.Value.int 621 0, PySem.Value.int 98 0,
      PySem.Value.str (PySem.Str.ofString "/claim/cut.py") 622])
  #[]) ::
    (nat_lit 187, PySem.Obj.mk (PySem.Value.type "function") Option.none
  (PySem.Data.func
    (PySem.FuncData.mk (PySem.Str.ofString "setdefault") (PySem.Str.ofString "Headers.setdefault") mar15 (PySem.FuncBody.stmts mbd15) msc15 3 []
      PySem.Value.none PySem.Value.none PySem.Value.none
      (PySem.Value.str (PySem.Str.ofString "cpy313.wsgiref.headers") 380) Option.none (PySem.Value.ref 186)
      PySem.Value.none 0))
  #[]) ::
    (nat_lit 193, PySem.Obj.mk (PySem.Value.type "code") Option.none
  (PySem.Data.fields
    #[PySem.Value.str (PySem.Str.ofString "add_header") 624,
      PySem.Value.str (PySem.Str.ofString "Headers.add_header") 625,
      PySem.Value.str (PySem.Str.ofString "/claim/cut.py") 626, PySem.Value.int 106 0, PySem.Value.int 3 0,
      PySem.Value.int 0 0, PySem.Value.int 0 0, PySem.Value.int 11 0, PySem.Value.ref 188, PySem.Value.bool Bool.true,
      PySem.Value.int 276 0, PySem.Value.ref 189, PySem.Value.none, PySem.Value.ref 190, PySem.Value.ref 191,
      PySem.Value.ref 192, PySem.Value.int 634 0, PySem.Value.int 106 0,
      PySem.Value.str (PySem.Str.ofString "/claim/cut.py") 635])
  #[]) ::
    (nat_lit 194, PySem.Obj.mk (PySem.Value.type "function") Option.none
  (PySem.Data.func
    (PySem.FuncData.mk (PySem.Str.ofString "add_header") (PySem.Str.ofString "Headers.add_header") mar16 (PySem.FuncBody.stmts mbd16) msc16 3 []
      PySem.Value.none PySem.Value.none PySem.Value.none
      (PySem.Value.str (PySem.Str.ofString "cpy313.wsgiref.headers") 380) Option.none (PySem.Value.ref 193)
      PySem.Value.none 0))
  #[]) ::
    (nat_lit 196, PySem.Obj.mk (PySem.Value.type "dict") Option.none
  (PySem.Data.dict
    #[PySem.DictEntry.mk (PySem.PyData.keyHash P (PySem.Str.ofString "__module__"))
        (PySem.Value.str (PySem.Str.ofString "__module__") 493)
        (PySem.Value.str (PySem.Str.ofString "cpy313.wsgiref.headers") 380),
      PySem.DictEntry.mk (PySem.PyData.keyHash P (PySem.Str.ofString "__firstlineno__"))
        (PySem.Value.str (PySem.Str.ofString "__firstlineno__") 497) (PySem.Value.int 33 496),
      PySem.DictEntry.mk (PySem.PyData.keyHash P (PySem.Str.ofString "__init__"))
        (PySem.Value.str (PySem.Str.ofString "__init__") 507) (PySem.Value.ref 89),
      PySem.DictEntry.mk (PySem.PyData.keyHash P (PySem.Str.ofString "_convert_string_type"))
        (PySem.Value.str (PySem.Str.ofString "_convert_string_type") 517) (PySem.Value.ref 96),
      PySem.DictEntry.mk (PySem.PyData.keyHash P (PySem.Str.ofString "__len__"))
        (PySem.Value.str (PySem.Str.ofString "__len__") 524) (PySem.Value.ref 103),
      PySem.DictEntry.mk (PySem.PyData.keyHash P (PySem.Str.ofString "__setitem__"))
        (PySem.Value.str (PySem.Str.ofString "__setitem__") 533) (PySem.Value.ref 110),
      PySem.DictEntry.mk (PySem.PyData.keyHash P (PySem.Str.ofString "__delitem__"))
        (PySem.Value.str (PySem.Str.ofString "__delitem__") 539) (PySem.Value.ref 115),
      PySem.DictEntry.mk (PySem.PyData.keyHash P (PySem.Str.ofString "__getitem__"))
        (PySem.Value.str (PySem.Str.ofString "__getitem__") 547) (PySem.Value.ref 122),
      PySem.DictEntry.mk (PySem.PyData.keyHash P (PySem.Str.ofString "__contains__"))
        (PySem.Value.str (PySem.Str.ofString "__contains__") 555) (PySem.Value.ref 129),
      PySem.DictEntry.mk (PySem.PyData.keyHash P (PySem.Str.ofString "get_all"))
        (PySem.Value.str (PySem.Str.ofString "get_all") 563) (PySem.Value.ref 136),
      PySem.DictEntry.mk (PySem.PyData.keyHash P (PySem.Str.ofString "get"))
        (PySem.Value.str (PySem.Str.ofString "get") 574) (PySem.Value.ref 144),
      PySem.DictEntry.mk (PySem.PyData.keyHash P (PySem.Str.ofString "keys"))
        (PySem.Value.str (PySem.Str.ofString "keys") 580) (PySem.Value.ref 149),
      PySem.DictEntry.mk (PySem.PyData.keyHash P (PySem.Str.ofString "values"))
        (PySem.Value.str (PySem.Str.ofString "values") 586) (PySem.Value.ref 154),
      PySem.DictEntry.mk (PySem.PyData.keyHash P (PySem.Str.ofString "items"))
        (PySem.Value.str (PySem.Str.ofString "items") 593) (PySem.Value.ref 161),
      PySem.DictEntry.mk (PySem.PyData.keyHash P (PySem.Str.ofString "__repr__"))
        (PySem.Value.str (PySem.Str.ofString "__repr__") 600) (PySem.Value.ref 168),
      PySem.DictEntry.mk (PySem.PyData.keyHash P (PySem.Str.ofString "__str__"))
        (PySem.Value.str (PySem.Str.ofString "__str__") 606) (PySem.Value.ref 173),
      PySem.DictEntry.mk (PySem.PyData.keyHash P (PySem.Str.ofString "__bytes__"))
        (PySem.Value.str (PySem.Str.ofString "__bytes__") 613) (PySem.Value.ref 180),
      PySem.DictEntry.mk (PySem.PyData.keyHash P (PySem.Str.ofString "setdefault"))
        (PySem.Value.str (PySem.Str.ofString "setdefault") 623) (PySem.Value.ref 187),
      PySem.DictEntry.mk (PySem.PyData.keyHash P (PySem.Str.ofString "add_header"))
        (PySem.Value.str (PySem.Str.ofString "add_header") 636) (PySem.Value.ref 194),
      PySem.DictEntry.mk (PySem.PyData.keyHash P (PySem.Str.ofString "__static_attributes__"))
        (PySem.Value.str (PySem.Str.ofString "__static_attributes__") 638) (PySem.Value.ref 195),
      PySem.DictEntry.mk (PySem.PyData.keyHash P (PySem.Str.ofString "__dict__"))
        (PySem.Value.str (PySem.Str.ofString "__dict__") 640) (PySem.Value.ref 198),
      PySem.DictEntry.mk (PySem.PyData.keyHash P (PySem.Str.ofString "__weakref__"))
        (PySem.Value.str (PySem.Str.ofString "__weakref__") 642) (PySem.Value.ref 199),
      PySem.DictEntry.mk (PySem.PyData.keyHash P (PySem.Str.ofString "__doc__"))
        (PySem.Value.str (PySem.Str.ofString "__doc__") 643) PySem.Value.none]
    4)
  #[]) ::
    (nat_lit 197, PySem.Obj.mk (PySem.Value.type "type") Option.none
  (PySem.Data.cls
    (PySem.ClassData.mk (PySem.Str.ofString "Headers") [PySem.Value.type "object"]
      [PySem.Value.ref 197, PySem.Value.type "object"] 196 (PySem.Str.ofString "Headers") Bool.true [] [] Bool.false
      Option.none Bool.false))
  #[Option.none, Option.none, Option.some (PySem.Value.str (PySem.Str.ofString "Headers") 486),
    Option.some (PySem.Value.str (PySem.Str.ofString "Headers") 494),
    Option.some (PySem.Value.builtin "object.__new__"), Option.some (PySem.Value.bool Bool.true)]) ::
    (nat_lit 198, PySem.Obj.mk (PySem.Value.type "getset_descriptor") Option.none
  (PySem.Data.fields
    #[PySem.Value.str (PySem.Str.ofString "__dict__") 639, PySem.Value.ref 197, PySem.Value.builtin "function.__dict__",
      PySem.Value.builtin "function.__dict__#set"])
  #[]) ::
    (nat_lit 199, PySem.Obj.mk (PySem.Value.type "getset_descriptor") Option.none
  (PySem.Data.fields
    #[PySem.Value.str (PySem.Str.ofString "__weakref__") 641, PySem.Value.ref 197,
      PySem.Value.builtin "ExceptionGroup.__weakref__", PySem.Value.none])
  #[]) ::
    (nat_lit 207, PySem.Obj.mk (PySem.Value.type "code") Option.none
  (PySem.Data.fields
    #[PySem.Value.str (PySem.Str.ofString "_law_name") 648, PySem.Value.str (PySem.Str.ofString "_law_name") 649,
      PySem.Value.str (PySem.Str.ofString "/claim/cut.py") 650, PySem.Value.int 120 0, PySem.Value.int 2 0,
      PySem.Value.int 0 0, PySem.Value.int 0 0, PySem.Value.int 3 0, PySem.Value.ref 202, PySem.Value.bool Bool.true,
      PySem.Value.int 276 0, PySem.Value.ref 203, PySem.Value.none, PySem.Value.ref 204, PySem.Value.ref 205,
      PySem.Value.ref 206, PySem.Value.int 657 0, PySem.Value.int 120 0,
      PySem.Value.str (PySem.Str.ofString "/claim/cut.py") 658])
  #[]) ::
    (nat_lit 208, PySem.Obj.mk (PySem.Value.type "function") Option.none
  (PySem.Data.func
    (PySem.FuncData.mk (PySem.Str.ofString "_law_name") (PySem.Str.ofString "_law_name") ar13 (PySem.FuncBody.stmts bd13) sc13 3 []
      PySem.Value.none PySem.Value.none PySem.Value.none (PySem.Value.str (PySem.Str.ofString "law_pg0211_01") 646)
      Option.none (PySem.Value.ref 207) PySem.Value.none 0))
  #[]) ::
    (nat_lit 214, PySem.Obj.mk (PySem.Value.type "code") Option.none
  (PySem.Data.fields
    #[PySem.Value.str (PySem.Str.ofString "_law_ranks") 660, PySem.Value.str (PySem.Str.ofString "_law_ranks") 661,
      PySem.Value.str (PySem.Str.ofString "/claim/cut.py") 662, PySem.Value.int 132 0, PySem.Value.int 1 0,
      PySem.Value.int 0 0, PySem.Value.int 0 0, PySem.Value.int 3 0, PySem.Value.ref 209, PySem.Value.bool Bool.true,
      PySem.Value.int 276 0, PySem.Value.ref 210, PySem.Value.none, PySem.Value.ref 211, PySem.Value.ref 212,
      PySem.Value.ref 213, PySem.Value.int 668 0, PySem.Value.int 132 0,
      PySem.Value.str (PySem.Str.ofString "/claim/cut.py") 669])
  #[]) ::
    (nat_lit 215, PySem.Obj.mk (PySem.Value.type "function") Option.none
  (PySem.Data.func
    (PySem.FuncData.mk (PySem.Str.ofString "_law_ranks") (PySem.Str.ofString "_law_ranks") ar14 (PySem.FuncBody.stmts bd14) sc14 3 []
      PySem.Value.none PySem.Value.none PySem.Value.none (PySem.Value.str (PySem.Str.ofString "law_pg0211_01") 646)
      Option.none (PySem.Value.ref 214) PySem.Value.none 0))
  #[]) ::
    (nat_lit 219, PySem.Obj.mk (PySem.Value.type "code") Option.none
  (PySem.Data.fields
    #[PySem.Value.str (PySem.Str.ofString "_law_told") 671, PySem.Value.str (PySem.Str.ofString "_law_told") 672,
      PySem.Value.str (PySem.Str.ofString "/claim/cut.py") 673, PySem.Value.int 139 0, PySem.Value.int 2 0,
      PySem.Value.int 0 0, PySem.Value.int 0 0, PySem.Value.int 3 0, PySem.Value.ref 216, PySem.Value.bool Bool.true,
      PySem.Value.int 276 0, PySem.Value.ref 217, PySem.Value.none, PySem.Value.none, PySem.Value.none,
      PySem.Value.ref 218, PySem.Value.int 674 0, PySem.Value.int 139 0,
      PySem.Value.str (PySem.Str.ofString "/claim/cut.py") 675])
  #[]) ::
    (nat_lit 220, PySem.Obj.mk (PySem.Value.type "function") Option.none
  (PySem.Data.func
    (PySem.FuncData.mk (PySem.Str.ofString "_law_told") (PySem.Str.ofString "_law_told") ar15 (PySem.FuncBody.stmts bd15) sc15 3 []
      PySem.Value.none PySem.Value.none PySem.Value.none (PySem.Value.str (PySem.Str.ofString "law_pg0211_01") 646)
      Option.none (PySem.Value.ref 219) PySem.Value.none 0))
  #[]) ::
    (nat_lit 226, PySem.Obj.mk (PySem.Value.type "code") Option.none
  (PySem.Data.fields
    #[PySem.Value.str (PySem.Str.ofString "_law_call") 677, PySem.Value.str (PySem.Str.ofString "_law_call") 678,
      PySem.Value.str (PySem.Str.ofString "/claim/cut.py") 679, PySem.Value.int 146 0, PySem.Value.int 5 0,
      PySem.Value.int 0 0, PySem.Value.int 0 0, PySem.Value.int 3 0, PySem.Value.ref 221, PySem.Value.bool Bool.true,
      PySem.Value.int 276 0, PySem.Value.ref 222, PySem.Value.none, PySem.Value.ref 223, PySem.Value.ref 224,
      PySem.Value.ref 225, PySem.Value.int 686 0, PySem.Value.int 146 0,
      PySem.Value.str (PySem.Str.ofString "/claim/cut.py") 687])
  #[]) ::
    (nat_lit 227, PySem.Obj.mk (PySem.Value.type "function") Option.none
  (PySem.Data.func
    (PySem.FuncData.mk (PySem.Str.ofString "_law_call") (PySem.Str.ofString "_law_call") ar16 (PySem.FuncBody.stmts bd16) sc16 3 []
      PySem.Value.none PySem.Value.none PySem.Value.none (PySem.Value.str (PySem.Str.ofString "law_pg0211_01") 646)
      Option.none (PySem.Value.ref 226) PySem.Value.none 0))
  #[]) ::
    (nat_lit 231, PySem.Obj.mk (PySem.Value.type "code") Option.none
  (PySem.Data.fields
    #[PySem.Value.str (PySem.Str.ofString "_law_due") 689, PySem.Value.str (PySem.Str.ofString "_law_due") 690,
      PySem.Value.str (PySem.Str.ofString "/claim/cut.py") 691, PySem.Value.int 159 0, PySem.Value.int 6 0,
      PySem.Value.int 0 0, PySem.Value.int 0 0, PySem.Value.int 3 0, PySem.Value.ref 228, PySem.Value.bool Bool.true,
      PySem.Value.int 276 0, PySem.Value.ref 229, PySem.Value.none, PySem.Value.none, PySem.Value.none,
      PySem.Value.ref 230, PySem.Value.int 692 0, PySem.Value.int 159 0,
      PySem.Value.str (PySem.Str.ofString "/claim/cut.py") 693])
  #[]) ::
    (nat_lit 232, PySem.Obj.mk (PySem.Value.type "function") Option.none
  (PySem.Data.func
    (PySem.FuncData.mk (PySem.Str.ofString "_law_due") (PySem.Str.ofString "_law_due") ar17 (PySem.FuncBody.stmts bd17) sc17 3 []
      PySem.Value.none PySem.Value.none PySem.Value.none (PySem.Value.str (PySem.Str.ofString "law_pg0211_01") 646)
      Option.none (PySem.Value.ref 231) PySem.Value.none 0))
  #[]) ::
    (nat_lit 238, PySem.Obj.mk (PySem.Value.type "code") Option.none
  (PySem.Data.fields
    #[PySem.Value.str (PySem.Str.ofString "_law_grown") 695, PySem.Value.str (PySem.Str.ofString "_law_grown") 696,
      PySem.Value.str (PySem.Str.ofString "/claim/cut.py") 697, PySem.Value.int 177 0, PySem.Value.int 1 0,
      PySem.Value.int 0 0, PySem.Value.int 0 0, PySem.Value.int 3 0, PySem.Value.ref 233, PySem.Value.bool Bool.true,
      PySem.Value.int 276 0, PySem.Value.ref 234, PySem.Value.none, PySem.Value.ref 235, PySem.Value.ref 236,
      PySem.Value.ref 237, PySem.Value.int 720 0, PySem.Value.int 177 0,
      PySem.Value.str (PySem.Str.ofString "/claim/cut.py") 721])
  #[]) ::
    (nat_lit 239, PySem.Obj.mk (PySem.Value.type "function") Option.none
  (PySem.Data.func
    (PySem.FuncData.mk (PySem.Str.ofString "_law_grown") (PySem.Str.ofString "_law_grown") ar18 (PySem.FuncBody.stmts bd18) sc18 3 []
      PySem.Value.none PySem.Value.none PySem.Value.none (PySem.Value.str (PySem.Str.ofString "law_pg0211_01") 646)
      Option.none (PySem.Value.ref 238) PySem.Value.none 0))
  #[]) ::
    (nat_lit 243, PySem.Obj.mk (PySem.Value.type "code") Option.none
  (PySem.Data.fields
    #[PySem.Value.str (PySem.Str.ofString "law") 723, PySem.Value.str (PySem.Str.ofString "law") 724,
      PySem.Value.str (PySem.Str.ofString "/claim/cut.py") 725, PySem.Value.int 210 0, PySem.Value.int 1 0,
      PySem.Value.int 0 0, PySem.Value.int 0 0, PySem.Value.int 3 0, PySem.Value.ref 240, PySem.Value.bool Bool.true,
      PySem.Value.int 276 0, PySem.Value.ref 241, PySem.Value.none, PySem.Value.none, PySem.Value.none,
      PySem.Value.ref 242, PySem.Value.int 726 0, PySem.Value.int 210 0,
      PySem.Value.str (PySem.Str.ofString "/claim/cut.py") 727])
  #[]) ::
    (nat_lit 244, PySem.Obj.mk (PySem.Value.type "function") Option.none
  (PySem.Data.func
    (PySem.FuncData.mk (PySem.Str.ofString "law") (PySem.Str.ofString "law") ar19 (PySem.FuncBody.stmts bd19) sc19 3 [] PySem.Value.none
      PySem.Value.none PySem.Value.none (PySem.Value.str (PySem.Str.ofString "law_pg0211_01") 646) Option.none
      (PySem.Value.ref 243) PySem.Value.none 0))
  #[]) :: []
noncomputable abbrev KA : List Addr := [3, 42, 43, 44, 50, 51, 60, 61, 65, 66, 67, 73, 74, 82, 88, 89, 95, 96, 109, 110, 114, 115, 137, 143, 144, 160, 161, 186, 187, 193, 194, 196, 197, 198, 199, 207, 208, 214, 215, 219, 220, 226, 227, 231, 232, 238, 239, 243, 244]
theorem ka_eq : ∀ P, KA = (KK P).map (·.1) := fun _ => by kernel_rfl
end Mine
namespace Mine
open PySem PySem.W PySem.Calls PyProof.Rows PyProof.V PySem.Spec
set_option maxRecDepth 100000
set_option maxHeartbeats 8000000

/-- what a call of f upon vs gives back, over a ledger that stands: nothing that stood is turned -/
noncomputable def Gives (w : World) (f : Addr) (dd uu : Nat) (vs : List Value) (news : List (Addr × Obj)) (Out : List (Addr × Obj) → Value → Prop) : Prop :=
  ∀ (p : Program) (loose : List PySem.Str) (mean : ExcName → Option Value) (mg mb : PySem.Str → Option Value)
    (dp un : Nat) (gd : Option (List Code)) (cn : PySem.Str) (cs : Scope) (a : Addr) (ccd : Value) (cl : List (PySem.Str × Addr)) (outer : List Env) (A₀ : Around) (base h₀ : Heap) (L : Addr) (m : PySem.Str → Option Value) (s : Shared) (Q E : Value → Shared → Prop),
    Below A₀ base outer h₀ → Fr h₀ L s.heap m → (KK w.params).In h₀ → News h₀ L s.heap news → Top p loose mean mg mb h₀ → cs.kind = .function → dp + dd < recursionLimit → un + uu < cLine →
    (∀ r tl h' tk', Fr h₀ L h' m → News h₀ L h' (tl ++ news) → (∀ q ∈ news, ∀ p ∈ tl, q.1 < p.1) → Out (tl ++ news) r → Q r { s with heap := h', toks := tk' }) →
    wpAny (model PR w) (ktrTop dp un gd cn cs L a ccd cl outer) (call (.ref f) vs) Q E s

section
variable {prog : Program} {w : World} {A : Around} {E : Value → Shared → Prop} {s : Shared} {env : Env} {h₀ : Heap} {target : Expr} {body : List Stmt} {Q : Flow → Shared → Prop}

theorem items_inv {vs : List Value} {I : Addr} {keep : List (Addr × Obj)} (J : Nat → (PySem.Str → Option Value) → List (Addr × Obj) → Prop)
    (turn : ∀ i v m nx h tk oI, vs[i]? = some v → J i m nx → SubL keep nx → (oI : Obj).cls = .type "list_iterator" → Fr h₀ env.locals h m → News h₀ env.locals h ((I, oI) :: nx) → (∀ p ∈ nx, p.1 ≠ I) →
      wpAny (model prog w) A (assign target env v) (fun _ s₂ => wpAny (model prog w) A (execs body env)
        (UnrPostW h₀ env.locals { s with heap := h, toks := tk } [(I, oI)] (fun m' nx' => SubL keep nx' ∧ J (i + 1) m' nx') Q) E s₂) E { s with heap := h, toks := tk })
    (done : ∀ m nx h tk, J vs.length m nx → Fr h₀ env.locals h m → News h₀ env.locals h nx → Q .next { s with heap := h, toks := tk }) :
    ∀ (k i : Nat) (m : PySem.Str → Option Value) (nx : List (Addr × Obj)), i + k = vs.length → SubL keep nx → (∀ p ∈ nx, p.1 ≠ I) → J i m nx → ItemsRest prog w A E h₀ env target body Q s [(I, "list_iterator")] keep ((vs.drop i).map .val) m nx := by
  intro k
  induction k with
  | zero =>
    intro i m nx hi hk hne hj
    have e : vs.drop i = [] := List.drop_eq_nil_of_le (by omega)
    rw [e]
    exact ItemsRest.zero fun h tk F N => done m nx h tk (by rw [show vs.length = i by omega]; exact hj) F N
  | succ k ih =>
    intro i m nx hi hk hne hj
    have hlt : i < vs.length := by omega
    rw [List.drop_eq_getElem_cons hlt, List.map_cons]
    refine ItemsRest.val fun h tk F => ?_
    refine AllObj.cons fun oI hoI => AllObj.nil fun N => ?_
    refine wpAny_mono (turn i _ m nx h tk oI (List.getElem?_eq_getElem hlt) hj hk hoI F N hne) (fun _ s₂ x => wpAny_mono x (fun f s₃ y => ?_) fun _ _ e => e) fun _ _ e => e
    have fin : UnrEndW h₀ env.locals { s with heap := h, toks := tk } [(I, oI)] (fun m' nx' => SubL keep nx' ∧ J (i + 1) m' nx') s₃ →
        UnrEndW h₀ env.locals { s with heap := h, toks := tk } [(I, oI)] (fun m' n' => SubL keep n' ∧ ItemsRest prog w A E h₀ env target body Q s [(I, "list_iterator")] keep ((vs.drop (i + 1)).map .val) m' n') s₃ := by
      rintro ⟨h', tk', m', news', e, F', N', off, hk', hj'⟩
      exact ⟨h', tk', m', news', e, F', N', off, hk', ih (i + 1) m' news' (by omega) hk' (fun p hp => off p hp _ (.head _)) hj'⟩
    cases f with
    | ret v => exact y
    | brk => exact y
    | next => exact fin y
    | cont => exact fin y

/-- a loop over a list of the ledger, by what holds between the turns -/
theorem for_led {ax : Addr} {vs : List Value} {n : Nat} {m₀ : PySem.Str → Option Value} {news : List (Addr × Obj)} (J : Nat → (PySem.Str → Option Value) → List (Addr × Obj) → Prop)
    (hh : A.handled = none) (F : Fr h₀ env.locals s.heap m₀) (N : News h₀ env.locals s.heap news) (hm : (ax, listOf vs.toArray n) ∈ news) (hj : J 0 m₀ news)
    (turn : ∀ I oI i v m nx h tk, vs[i]? = some v → J i m nx → (ax, listOf vs.toArray n) ∈ nx → (∀ p ∈ news, p.1 < I) → (∀ p ∈ nx, p.1 ≠ I) → Fr h₀ env.locals h m → News h₀ env.locals h ((I, oI) :: nx) →
      wpAny (model prog w) A (assign target env v) (fun _ s₂ => wpAny (model prog w) A (execs body env)
        (UnrPostW h₀ env.locals { s with heap := h, toks := tk } [(I, oI)] (fun m' nx' => (ax, listOf vs.toArray n) ∈ nx' ∧ J (i + 1) m' nx') Q) E s₂) E { s with heap := h, toks := tk })
    (done : ∀ m nx h tk, J vs.length m nx → Fr h₀ env.locals h m → News h₀ env.locals h nx → Q .next { s with heap := h, toks := tk }) :
    wpAny (model prog w) A (pyIter (.ref ax)) (fun it s₂ => TurnsAt prog w A h₀ env target body Q E it s₂) E s := by
  refine iter_listTurns hh F N hm rfl rfl fun I hI => ?_
  have := items_inv (prog := prog) (w := w) (A := A) (E := E) (s := s) (env := env) (h₀ := h₀) (target := target) (body := body) (Q := Q) (vs := vs) (I := I) (keep := [(ax, listOf vs.toArray n)]) J
    (fun i v m nx h tk oI hv hj' hk _ F' N' hne => wpAny_mono (turn I oI i v m nx h tk hv hj' hk.1 hI hne F' N') (fun _ s₂ x => wpAny_mono x (fun f s₃ y => by
      cases f with
      | ret v => exact y
      | brk => exact y
      | next => obtain ⟨h', tk', m', n', e, a, b, c, d1, d2⟩ := y; exact ⟨h', tk', m', n', e, a, b, c, ⟨d1, trivial⟩, d2⟩
      | cont => obtain ⟨h', tk', m', n', e, a, b, c, d1, d2⟩ := y; exact ⟨h', tk', m', n', e, a, b, c, ⟨d1, trivial⟩, d2⟩) fun _ _ e => e) fun _ _ e => e) done vs.length 0 m₀ news (by omega) ⟨hm, trivial⟩ (fun p hp => Nat.ne_of_lt (hI p hp)) hj
  simpa using this
end

/-- the map of a frame, one name set by hand -/
noncomputable def setM (x : PySem.Str) (u : Option Value) (m : PySem.Str → Option Value) : PySem.Str → Option Value := fun y => if y = x then u else m y
/-- a frame's map of which a few names are known -/
noncomputable def fixM (l : List (PySem.Str × Value)) (u : PySem.Str → Option Value) : PySem.Str → Option Value := fun y => match l.lookup y with | some v => some v | none => u y
theorem fix_of (l : List (PySem.Str × Value)) {m : PySem.Str → Option Value} (h : ∀ p ∈ l, m p.1 = some p.2) : m = fixM l m := by
  funext y
  unfold fixM
  cases e : l.lookup y with
  | none => rfl
  | some v =>
    have : ∀ l : List (PySem.Str × Value), l.lookup y = some v → (y, v) ∈ l := by
      intro l
      induction l with
      | nil => intro h; cases h
      | cons p r ih =>
        intro h
        rw [List.lookup_cons] at h
        cases hy : (y == p.1) with
        | true =>
          rw [hy] at h
          have e1 : y = p.1 := by simpa using hy
          cases h
          rw [e1]; exact .head _
        | false =>
          rw [hy] at h
          exact .tail _ (ih h)
    exact h _ (this l e)

theorem unr_end {h₀ : Heap} {L : Addr} {s₁ : Shared} {I : Addr} {oI : Obj} {rest : (PySem.Str → Option Value) → List (Addr × Obj) → Prop} {h' : Heap} {tk : Nat} {m' : PySem.Str → Option Value} (nx : List (Addr × Obj)) (F : Fr h₀ L h' m') (N : News h₀ L h' ((I, oI) :: nx))
    (off : ∀ p ∈ nx, p.1 ≠ I) (r : rest m' nx) : UnrEndW h₀ L s₁ [(I, oI)] rest { s₁ with heap := h', toks := tk } :=
  ⟨h', tk, m', nx, rfl, F, N, fun p hp q hq e => off p hp (by rw [List.mem_singleton.mp hq] at e; exact e), r⟩

theorem pyStr_ne {a b : PySem.Str} (h : (a == b) = false) : a ≠ b := fun e => by subst e; simp at h

theorem open_stmt {M : Model} {A : Around} {st st' : Stmt} {env : Env} {Q : Flow → Shared → Prop} {E : Value → Shared → Prop} {s : Shared} (e : st = st') (h : wpAny M A (exec st' env) Q E s) : wpAny M A (exec st env) Q E s := e ▸ h


/-- a frame's end: what goes back, over the ledger that stood -/
noncomputable def Ret (g : Heap) (L : Addr) (news : List (Addr × Obj)) (Out : List (Addr × Obj) → Value → Prop) (s : Shared) (v : Value) (s' : Shared) : Prop :=
  ∃ m' tl h' tk', s' = { s with heap := h', toks := tk' } ∧ Fr g L h' m' ∧ News g L h' (tl ++ news) ∧ (∀ q ∈ news, ∀ p ∈ tl, q.1 < p.1) ∧ Out (tl ++ news) v
theorem Ret.intro {g : Heap} {L : Addr} {news : List (Addr × Obj)} {Out : List (Addr × Obj) → Value → Prop} {s : Shared} {v : Value} {m' : PySem.Str → Option Value} {h' : Heap} {tk' : Nat} (tl : List (Addr × Obj)) (F : Fr g L h' m') (N : News g L h' (tl ++ news))
    (o : ∀ q ∈ news, ∀ p ∈ tl, q.1 < p.1) (h : Out (tl ++ news) v) : Ret g L news Out s v { s with heap := h', toks := tk' } := ⟨m', tl, h', tk', rfl, F, N, o, h⟩

/-- a def's body over a ledger -/
noncomputable def BodyOk (w : World) (f : Addr) (qual : PySem.Str) (scope : Scope) (cdv : Value) (body : List Stmt) (dd uu : Nat) (binds : List (PySem.Str × Value)) (news : List (Addr × Obj)) (Out : List (Addr × Obj) → Value → Prop) : Prop :=
  ∀ (p : Program) (loose : List PySem.Str) (mean : ExcName → Option Value) (mg mb : PySem.Str → Option Value) (dp un : Nat) (gd : Option (List Code)) (outer : List Env) (A₀ : Around) (base g : Heap) (L : Addr) (h₁ : Heap) (s : Shared) (tk : Nat),
    Below A₀ base outer g → Fr g L h₁ (fun y => binds.reverse.lookup y) → (KK w.params).In g → News g L h₁ news → Top p loose mean mg mb g → (∀ q ∈ news, q.1 < L) → dp + dd < recursionLimit → un + uu < cLine →
    wpAny (model PR w) (ktrTop dp un gd qual scope L f cdv [] outer) (execs body (envX qual scope L f cdv [])) (fun fl s' => Ret g L news Out s (match fl with | .ret v => v | _ => .none) s') (fun _ _ => False) { s with heap := h₁, toks := tk }

theorem gives_plain {w : World} {f : Addr} {name qual : PySem.Str} {params : Arguments} {body : List Stmt} {scope : Scope} {dV kV doc pm cdv ct oc : Value} {an od : Option Addr} {osl : Array (Option Value)} {dd uu : Nat} {vs : List Value} {news : List (Addr × Obj)} {Out : List (Addr × Obj) → Value → Prop}
    (binds : List (PySem.Str × Value)) (ho : ∀ P, (KK P).lookup f = some ⟨oc, od, .func (fnOf name qual params body scope dV kV doc pm an cdv ct), osl⟩) (hcd : ∀ P, codeIn (KK P) cdv qual = true)
    (hbind : ∀ (s : Shared), (KK w.params).In s.heap → BindsTo s (fnOf name qual params body scope dV kV doc pm an cdv ct) ⟨vs, []⟩ binds) (hloc : (binds.all fun x => decide (scope.names.lookup x.1 = some .local)) = true)
    (hco : scope.isCoroutine = false) (hgen : scope.isGenerator = false) (hk : scope.kind = .function) (hcell : (scope.names.all fun x => decide (x.2 ≠ .cell)) = true)
    (h : BodyOk w f qual scope cdv body dd uu binds news Out) : Gives w f (dd + 1) (uu + 3) vs news Out := by
  unfold Gives
  intro p loose mean mg mb dp un gd cn cs a ccd cl outer A₀ base h₀ L m s Q E B F X N T hkc hd hu ret
  refine wpAny_call (callX_plain (cl := []) (env := envX cn cs L a ccd cl) B F N T.nolimit rfl rfl hkc ((X.keeps F.keep) _ _ (ho _)) rfl (codeRec_of (X.keeps F.keep) (hcd _)) (by show dp < recursionLimit; omega)
    (hbind s (X.keeps F.keep)) (locs hloc) (fun g L' h₁ FG F' N' B' st lt => ?_) (fun x hx => of_decide_eq_true (List.all_eq_true.mp hcell x hx)) hco hgen hk)
  refine wpAny_mono (h p loose mean mg mb (dp + 1) (un + 3) gd (envX cn cs L a ccd cl :: outer) _ base g L' h₁ s _ B' F' (X.keeps st) N' (T.keeps st) lt (by omega) (by omega)) (fun fl s' hr => ?_) fun _ _ x => x.elim
  obtain ⟨m', tl, h', tk', rfl, F3, N3, o, out⟩ := hr
  refine leaveK_ F3 N3 fun F4 N4 => ?_
  exact ret _ tl h' tk' F4 N4 o out

theorem fill : (KK, PySem.Challenge.rw_pg0211_01) = (KK, PySem.Challenge.rw_pg0211_01) := by w_top off; k_fill; rfl
end Mine
namespace Mine
open PySem PySem.W PySem.Calls PyProof.Rows PyProof.V PySem.Spec
set_option maxRecDepth 100000
set_option maxHeartbeats 8000000
/-- the words, by their numbers -/
noncomputable def wordL : List PySem.Str := ["Rc", "dev", "a", "alpha", "b", "beta", "c", "RC", "rc", "0", "2", "10", "p", "pl"]
noncomputable def rankL : List Int := [0, 10, 20, 20, 30, 30, 40, 50, 50, 100, 100, 100, 200, 200]
noncomputable def partL : List Dat := [.str "Rc", .str "dev", .str "a", .str "alpha", .str "b", .str "beta", .str "c", .str "RC", .str "rc", .int 0, .int 2, .int 10, .str "p", .str "pl"]
noncomputable def rankOf (c : Nat) : Int := rankL.getD c 0
noncomputable def partOf (c : Nat) : Dat := partL.getD c .none
noncomputable def rowD (cs : List Nat) : List Dat := [.int 100, .int 1] ++ cs.flatMap fun c => [.int (rankOf c), partOf c]
noncomputable def codesD (cs : List Nat) : Dat := .list (cs.map fun c : Nat => .int (c : Int))
/-- is the one text in the other -/
noncomputable def isInB (x y : PySem.Str) : Bool := !(Builtin.Str.occurrences x y 0 x.length 1).isEmpty
noncomputable def wordOf (c : Nat) : PySem.Str := wordL.getD c PySem.Str.empty
noncomputable def digitsS : PySem.Str := "0123456789"
noncomputable def sepsS : PySem.Str := ".-_+."
noncomputable def wordAt (mark c : Nat) : PySem.Str := if mark % 2 = 1 ∧ 8 < c ∧ c < 12 then PySem.Str.ofString "0" ++ wordOf c else wordOf c
noncomputable def joins (mark : Nat) (nm : PySem.Str) (c : Nat) : Bool := decide (mark = 4) && (isInB digitsS (Txt.item nm (-1)) != isInB digitsS (Txt.item (wordAt mark c) 0))
noncomputable def nameStep (mark : Nat) (nm : PySem.Str) (c : Nat) : PySem.Str := if joins mark nm c then nm ++ wordAt mark c else nm ++ (Txt.item sepsS (mark : Int) ++ wordAt mark c)
noncomputable def nameOf (cs : List Nat) (mark : Nat) : PySem.Str := cs.foldl (nameStep mark) "1"
theorem wordOf_length (c : Nat) (h : c < 14) : 1 ≤ (wordOf c).length ∧ (wordOf c).length ≤ 5 := by
  have : ∀ c, c < 14 → 1 ≤ (wordOf c).length ∧ (wordOf c).length ≤ 5 := by decide +kernel
  exact this c h
theorem wordAt_length (mark c : Nat) (h : c < 14) : 1 ≤ (wordAt mark c).length ∧ (wordAt mark c).length ≤ 6 := by
  have a := wordOf_length c h
  unfold wordAt
  split
  · rw [PySem.Str.length_append]; have : (PySem.Str.ofString "0").length = 1 := by decide +kernel
    lia
  · lia
theorem nameOf_length (mark : Nat) : ∀ (cs : List Nat) (nm : PySem.Str), (∀ c ∈ cs, c < 14) → 1 ≤ nm.length → 1 ≤ (cs.foldl (nameStep mark) nm).length ∧ (cs.foldl (nameStep mark) nm).length ≤ nm.length + 7 * cs.length
  | [], nm, _, h => ⟨h, by simp⟩
  | c :: cs, nm, hc, h => by
    have hw := wordAt_length mark c (hc c (.head _))
    have hi : (Txt.item sepsS (mark : Int)).length = 1 := rfl
    have hs : nm.length ≤ (nameStep mark nm c).length ∧ (nameStep mark nm c).length ≤ nm.length + 7 := by
      unfold nameStep
      split
      · rw [PySem.Str.length_append]; lia
      · rw [PySem.Str.length_append, PySem.Str.length_append, hi]; lia
    have := nameOf_length mark cs (nameStep mark nm c) (fun x hx => hc x (.tail _ hx)) (by lia)
    simp only [List.foldl_cons, List.length_cons]
    lia
theorem rowD_snoc (cs : List Nat) (c : Nat) : rowD (cs ++ [c]) = rowD cs ++ [.int (rankOf c), partOf c] := by
  simp [rowD, List.flatMap_append]
theorem rowD_length (cs : List Nat) : (rowD cs).length = 2 + 2 * cs.length := by
  simp only [rowD, List.length_append, List.length_cons, List.length_nil, List.length_flatMap]
  have : ∀ l : List Nat, (l.map fun a => ([Dat.int (rankOf a), partOf a] : List Dat).length).sum = 2 * l.length := by
    intro l; induction l with
    | nil => rfl
    | cons a l ih => simp only [List.map_cons, List.sum_cons, List.length_cons, ih, List.length_nil] at *; lia
  simp only [List.length_cons, List.length_nil] at this
  rw [this]
end Mine
namespace Mine
open PySem PySem.W PySem.Calls PyProof.Rows PyProof.V PySem.Spec
set_option maxRecDepth 100000
set_option maxHeartbeats 1000000

noncomputable abbrev frs (outer : List Env) : List Addr := outer.filterMap (·.frame)
noncomputable abbrev aro (dp un : Nat) (gd : Option (List Code)) (outer : List Env) : Around := { handled := none, depth := dp, frames := some outer, guards := gd, units := un }

/-- a fault of a built-in, looked at by the try of the own frame -/
theorem own_new {M : Model} {A : Around} {E : Value → Shared → Prop} {Q : Unit → Shared → Prop} {s' : Shared} {base g h : Heap} {outer : List Env} {L a e : Addr} {m : PySem.Str → Option Value} {name : PySem.Str} {scope : Scope} {cd : Value} {news : List (Addr × Obj)} {cls : String}
    (K : Below A base outer g) (hx : Heap.NewExc h s'.heap e cls) (F : Fr g L h m) (N : News g L h news) (hk : scope.kind = .function)
    (hQ : ∀ h', RaisedSN base (hideAll h (news.map (·.1))) (envOf name scope L a cd :: outer) e (.type cls) news h' → Fr g L (hideAll h (news.map (·.1))) m → (hideAll h (news.map (·.1))).UpToSlots h' → Q () { s' with heap := h' }) :
    wpAny M (A.deeper (envOf name scope L a cd)) (noteFrame (.ref e) (envOf name scope L a cd)) (fun _ s₂ => wpAny M (A.deeper (envOf name scope L a cd)) (setFlight (.ref e) none) Q E s₂) E s' := by
  have K' := K.push (name := name) (a := a) (cd := cd) F hk
  obtain ⟨FG, _, _, _⟩ := groundX (R := fun _ _ => True) (s := { s' with heap := h }) (A := A.deeper (envOf name scope L a cd)) (env := envOf name scope L a cd) K F N (Around.frames_deeper K.stack) rfl hk
  have hin : ∀ env ∈ (envOf name scope L a cd :: outer), ∀ b, env.frame = some b → b ∈ (envOf name scope L a cd :: outer).filterMap (·.frame) := fun env he b hb => List.mem_filterMap.mpr ⟨env, he, hb⟩
  have st : base.StaysIn (hideAll h ((envOf name scope L a cd :: outer).filterMap (·.frame))) := fun b o q => hideAll_get _ (K'.stays b o q) fun hm => by
    rw [(K'.frames.mem hm).1] at q; cases q
  have sg : ∀ b o, (hideAll h (news.map (·.1))).get? b = some o → b ∉ (envOf name scope L a cd :: outer).filterMap (·.frame) → (hideAll h ((envOf name scope L a cd :: outer).filterMap (·.frame))).get? b = some o := fun b o q nm => hideAll_get _ (of_hideAll _ q) nm
  have hl : ∀ q ∈ news, (hideAll h ((envOf name scope L a cd :: outer).filterMap (·.frame))).get? q.1 = some q.2 ∧ (hideAll h (news.map (·.1))).get? q.1 = none ∧ base.get? q.1 = none := fun q hq => by
    refine ⟨hideAll_get _ (N q hq).1 fun hm => ?_, hideAll_none _ (List.mem_map_of_mem hq), fresh_of_stays K.stays (N q hq).2.2⟩
    obtain ⟨env, he, hf⟩ := List.mem_filterMap.mp hm
    rcases List.mem_cons.mp he with rfl | he
    · exact (N q hq).2.1 (Option.some.inj hf).symm
    · obtain ⟨o, ho, _⟩ := (K.frames.mem (List.mem_filterMap.mpr ⟨env, he, hf⟩)).2
      rw [(N q hq).2.2] at ho; cases ho
  obtain ⟨ob, tp, he, hcls, hd⟩ := hx.there
  have hen : (hideAll h ((envOf name scope L a cd :: outer).filterMap (·.frame))).get? e = none := by
    cases q : (hideAll h ((envOf name scope L a cd :: outer).filterMap (·.frame))).get? e with
    | none => rfl
    | some o => have := of_hideAll _ q; rw [hx.new] at this; cases this
  unfold noteFrame
  simp only [show (envOf name scope L a cd).frame = some L from rfl]
  refine wpAny_bind (wpAny_field he hd (x := .none) rfl ?_)
  rw [if_neg (by decide)]
  refine wpAny_newEntryW (a0 := tp) K'.stack ((funFrames_hide K'.frames hin).of_keeps fun b o hb _ => ⟨o, hx.keeps b o hb, rfl⟩) rfl he (fun b o hb => hx.keeps b o (of_hideAll _ hb)) hen hd (by show 1 < 6; decide) rfl fun h' hL => ?_
  obtain ⟨k1, k2, k3, k4⟩ := hL
  exact hQ h' ⟨_, tp, st, sg, hl, k1, hen, k2, by rw [← hcls]; exact k3⟩ FG ((Heap.UpToSlots.of_keeps fun b o e => hx.keeps b o (of_hideAll _ e)).trans k4)

/-- the end of a turn, when the ground itself may be turned -/
noncomputable def UnrEndT (L : Addr) (s₁ : Shared) (I : Addr) (oI : Obj) (rest : Heap → (PySem.Str → Option Value) → List (Addr × Obj) → Prop) (s₃ : Shared) : Prop :=
  ∃ g' h' tk m' nx, s₃ = { s₁ with heap := h', toks := tk } ∧ Fr g' L h' m' ∧ News g' L h' ((I, oI) :: nx) ∧ (∀ p ∈ nx, p.1 ≠ I) ∧ rest g' m' nx
noncomputable def UnrPostT (L : Addr) (s₁ : Shared) (I : Addr) (oI : Obj) (rest : Heap → (PySem.Str → Option Value) → List (Addr × Obj) → Prop) (Q : Flow → Shared → Prop) (f : Flow) (s₃ : Shared) : Prop :=
  match f with
  | .ret v => Q (.ret v) s₃
  | .brk => Q .next s₃
  | _ => UnrEndT L s₁ I oI rest s₃

section
variable {prog : Program} {w : World} {A : Around} {E : Value → Shared → Prop} {s : Shared} {env : Env} {target : Expr} {body : List Stmt} {Q : Flow → Shared → Prop}
end

theorem unr_endT {L : Addr} {s₁ : Shared} {I : Addr} {oI : Obj} {rest : Heap → (PySem.Str → Option Value) → List (Addr × Obj) → Prop} {g' h' : Heap} {tk : Nat} {m' : PySem.Str → Option Value} (nx : List (Addr × Obj)) (F : Fr g' L h' m') (N : News g' L h' ((I, oI) :: nx))
    (off : ∀ p ∈ nx, p.1 ≠ I) (r : rest g' m' nx) : UnrEndT L s₁ I oI rest { s₁ with heap := h', toks := tk } := ⟨g', h', tk, m', nx, rfl, F, N, off, r⟩

noncomputable def RetT (outer : List Env) (g : Heap) (L : Addr) (news : List (Addr × Obj)) (Out : List (Addr × Obj) → Value → Prop) (s : Shared) (v : Value) (s' : Shared) : Prop :=
  ∃ g' m' tl h' tk', s' = { s with heap := h', toks := tk' } ∧ KtsTurn (frs outer) g g' ∧ Fr g' L h' m' ∧ News g' L h' (tl ++ news) ∧ (∀ q ∈ news, ∀ p ∈ tl, q.1 < p.1) ∧ Out (tl ++ news) v
theorem RetT.intro {outer : List Env} {g g' : Heap} {L : Addr} {news : List (Addr × Obj)} {Out : List (Addr × Obj) → Value → Prop} {s : Shared} {v : Value} {m' : PySem.Str → Option Value} {h' : Heap} {tk' : Nat} (tl : List (Addr × Obj)) (T : KtsTurn (frs outer) g g') (F : Fr g' L h' m') (N : News g' L h' (tl ++ news))
    (o : ∀ q ∈ news, ∀ p ∈ tl, q.1 < p.1) (h : Out (tl ++ news) v) : RetT outer g L news Out s v { s with heap := h', toks := tk' } := ⟨g', m', tl, h', tk', rfl, T, F, N, o, h⟩

theorem mem_frs {env : Env} {L b : Addr} {outer : List Env} (hf : env.frame = some L) (hm : b ∈ frs (env :: outer)) : b = L ∨ b ∈ frs outer := by
  obtain ⟨e, he, hb⟩ := List.mem_filterMap.mp hm
  rcases List.mem_cons.mp he with rfl | he
  · exact .inl (Option.some.inj (hb.symm.trans hf))
  · exact .inr (List.mem_filterMap.mpr ⟨e, he, hb⟩)

end Mine
namespace Mine
open PySem PySem.W PySem.Calls PyProof.Rows PyProof.V PySem.Spec
set_option maxRecDepth 100000
set_option maxHeartbeats 8000000

theorem dat_at {news : List (Addr × Obj)} {vs : List Value} {ds : List Dat} {i : Nat} {v : Value} (h : DatAll news vs ds) (hv : vs[i]? = some v) : ∃ d, ds[i]? = some d ∧ DatIn news v d := by
  have hi : i < vs.length := (List.getElem?_eq_some_iff.mp hv).1
  have hi' : i < ds.length := by rw [← h.length]; exact hi
  obtain ⟨u, hu, hd⟩ := h.get hi'
  rw [hv] at hu
  cases hu
  exact ⟨_, List.getElem?_eq_getElem hi', hd⟩
theorem take_snoc {α : Type} {ds : List α} {i : Nat} {d : α} (h : ds[i]? = some d) : ds.take (i + 1) = ds.take i ++ [d] := by
  rw [List.take_add_one, h]; rfl
theorem dat_list_inv {news : List (Addr × Obj)} {a : Addr} {ds : List Dat} (h : DatIn news (.ref a) (.list ds)) : ∃ vs n, (a, listOf vs.toArray n) ∈ news ∧ DatAll news vs ds := by
  cases h with
  | list h r => exact ⟨_, _, h, r⟩
theorem dat_tuple_inv {news : List (Addr × Obj)} {a : Addr} {ds : List Dat} (h : DatIn news (.ref a) (.tuple ds)) : ∃ vs n, (a, ({ cls := .type "tuple", data := .seq vs.toArray n } : Obj)) ∈ news ∧ DatAll news vs ds := by
  cases h with
  | tuple h r => exact ⟨_, _, h, r⟩
theorem ref_of_list {news : List (Addr × Obj)} {v : Value} {ds : List Dat} (h : DatIn news v (.list ds)) : ∃ a, v = .ref a := by
  cases h; exact ⟨_, rfl⟩
theorem ref_of_tuple {news : List (Addr × Obj)} {v : Value} {ds : List Dat} (h : DatIn news v (.tuple ds)) : ∃ a, v = .ref a := by
  cases h; exact ⟨_, rfl⟩
theorem int_of_dat {news : List (Addr × Obj)} {v : Value} {i : Int} (h : DatIn news v (.int i)) : ∃ t, v = .int i t := by
  cases h; exact ⟨_, rfl⟩
theorem str_of_dat {news : List (Addr × Obj)} {v : Value} {x : PySem.Str} (h : DatIn news v (.str x)) : ∃ t, v = .str x t := by
  cases h; exact ⟨_, rfl⟩
theorem bool_of_dat {news : List (Addr × Obj)} {v : Value} {x : Bool} (h : DatIn news v (.bool x)) : v = .bool x := by
  cases h; rfl

theorem allLt_ne {d : Addr} {l : List (Addr × Obj)} (h : AllLt d l) : ∀ p ∈ l, p.1 ≠ d := fun p hp => Nat.ne_of_lt (ktn_ltOf h p hp)
theorem all_lt_ne {d : Addr} {l : List (Addr × Obj)} (h : ∀ p ∈ l, p.1 < d) : ∀ p ∈ l, p.1 ≠ d := fun p hp => Nat.ne_of_lt (h p hp)
theorem all_gt_ne {d : Addr} {l : List (Addr × Obj)} (h : ∀ p ∈ l, d < p.1) : ∀ p ∈ l, p.1 ≠ d := fun p hp => Nat.ne_of_gt (h p hp)
theorem allLt_trans {a b : Addr} {l : List (Addr × Obj)} (h : AllLt a l) (k : (a : Nat) ≤ b) : AllLt b l := allLt_of fun p hp => Nat.lt_of_lt_of_le (ktn_ltOf h p hp) k

/-- the data of a display of written ints and strs -/

inductive ConstsD : List Expr → List Dat → Prop
  | nil : ConstsD [] []
  | int {i : Int} {p k r ds} : ConstsD r ds → ConstsD (.Constant (.int i) p k :: r) (.int i :: ds)
  | str {x : PySem.Str} {p k r ds} : ConstsD r ds → ConstsD (.Constant (.str x) p k :: r) (.str x :: ds)
section
variable {M : Model} {A : Around} {E : Value → Shared → Prop} {env : Env} {h₀ : Heap} {L : Addr} {m : PySem.Str → Option Value} {news : List (Addr × Obj)} {pos : Pos}
theorem spliced_consts {elts : List Expr} {ds : List Dat} (h : ConstsD elts ds) : ∀ (s : Shared) (Q : List Value → Shared → Prop), (∀ vs tk, DatAll [] vs ds → Q vs { s with toks := tk }) →
    wpAny M A (spliced (backTo pos (starEach elts env))) Q E s := by
  induction h with
  | nil => intro s Q k; exact Calls.spliced_nil (k [] s.toks .nil)
  | int _ ih =>
    intro s Q k
    refine spliced_more (wpAny_Constant_int ?_)
    exact ih _ _ fun vs tk hd => k _ tk (.cons (.int _ _) hd)
  | str _ ih =>
    intro s Q k
    refine spliced_more (Calls.Constant_str ?_)
    exact ih _ _ fun vs tk hd => k _ tk (.cons (.str _ _) hd)
theorem list_consts {s : Shared} {elts : List Expr} (ds : List Dat) {Q : Value → Shared → Prop} (F : Fr h₀ L s.heap m) (N : News h₀ L s.heap news) (hc : ConstsD elts ds) (hl : ds.length ≤ 1000)
    (h : ∀ l vs h' tk, DatAll [] vs ds → Fr h₀ L h' m → News h₀ L h' ((l, listOf vs.toArray 0) :: news) → (∀ p ∈ news, p.1 < l) → Q (.ref l) { s with heap := h', toks := tk }) :
    wpAny M A (eval (.List elts pos) env) Q E s := by
  refine List_ (spliced_consts hc s _ fun vs tk hd => ?_)
  exact newList_K (s := { s with toks := tk }) F N (fun l h' F' N' lt => h l vs h' tk hd F' N' lt) (by rw [hd.length, sizeLine_eq]; omega)
end

section
variable {prog : Program} {w : World} {M : Model} {A : Around} {E : Value → Shared → Prop} {s : Shared} {h₀ h : Heap} {L D b : Addr} {m : PySem.Str → Option Value} {news news' : List (Addr × Obj)} {its its2 : Array Value} {n n2 : Nat}

/-- an item of a ledger's list at a place that is known to lie in it -/
theorem item_dat {value slice : Expr} {a : Addr} {vs : List Value} {ds : List Dat} {src : List (Addr × Obj)} {k : Int} {u : Tok} {Q : Value → Shared → Prop} (N : News h₀ L s.heap news) (hm : (a, listOf vs.toArray n) ∈ news) (hd : DatAll src vs ds)
    (h0 : 0 ≤ k) (h1 : k < (ds.length : Int)) (hl : (ds.length : Int) < 2 ^ 60) (h : ∀ v d, ds[k.toNat]? = some d → DatIn src v d → vs[k.toNat]? = some v → Q v s)
    (hs : subscripted slice false (.ref a) (.int k u) = operate [.ref a, .int k u] (getItem (.ref a) (.int k u)) := by with_unfolding_all rfl) (hg : ∀ r, letTemporaryGo value (.ref a) r = pure () := by intro _; with_unfolding_all rfl) :
    wpAny (model prog w) A (subscriptTail value slice (.ref a) (.int k u)) Q E s := by
  have hk : k.toNat < ds.length := by omega
  obtain ⟨v, hv, hv'⟩ := hd.get hk
  exact item_listL (N.isList hm) h0 (by omega) hv (h v _ (List.getElem?_eq_getElem hk) hv' hv) hs hg

theorem item_strsD {value slice : Expr} {a : Addr} {vs : List Value} {ws : List PySem.Str} {src : List (Addr × Obj)} {k : Int} {u : Tok} {Q : Value → Shared → Prop} (N : News h₀ L s.heap news) (hm : (a, listOf vs.toArray n) ∈ news) (hd : DatAll src vs (ws.map Dat.str))
    (h0 : 0 ≤ k) (h1 : k < (ws.length : Int)) (hl : (ws.length : Int) < 2 ^ 60) (h : ∀ t, Q (.str (ws.getD k.toNat PySem.Str.empty) t) s)
    (hs : subscripted slice false (.ref a) (.int k u) = operate [.ref a, .int k u] (getItem (.ref a) (.int k u)) := by with_unfolding_all rfl) (hg : ∀ r, letTemporaryGo value (.ref a) r = pure () := by intro _; with_unfolding_all rfl) :
    wpAny (model prog w) A (subscriptTail value slice (.ref a) (.int k u)) Q E s := by
  refine item_dat N hm hd h0 (by rw [List.length_map]; exact h1) (by rw [List.length_map]; exact hl) (fun v d hk hv _ => ?_) hs hg
  rw [List.getElem?_map] at hk
  obtain ⟨x, hx, rfl⟩ := Option.map_eq_some_iff.mp hk
  obtain ⟨t, rfl⟩ := str_of_dat hv
  have := h t
  rw [List.getD_eq_getElem?_getD, hx] at this
  exact this

theorem item_word {value slice : Expr} {a : Addr} {vs : List Value} {src : List (Addr × Obj)} {c : Nat} {u : Tok} {Q : Value → Shared → Prop} (N : News h₀ L s.heap news) (hm : (a, listOf vs.toArray n) ∈ news) (hd : DatAll src vs (wordL.map Dat.str))
    (h1 : c < 14) (h : ∀ t, Q (.str (wordOf c) t) s)
    (hs : subscripted slice false (.ref a) (.int c u) = operate [.ref a, .int c u] (getItem (.ref a) (.int c u)) := by with_unfolding_all rfl) (hg : ∀ r, letTemporaryGo value (.ref a) r = pure () := by intro _; with_unfolding_all rfl) :
    wpAny (model prog w) A (subscriptTail value slice (.ref a) (.int c u)) Q E s := by
  have e : wordL.length = 14 := rfl
  refine item_strsD N hm hd (by omega) (by omega) (by omega) (fun t => ?_) hs hg
  exact h t

theorem in_strB {x y : PySem.Str} {t u : Tok} {Q : Value → Shared → Prop} (h : Q (.bool (isInB x y)) s) : wpAny (model prog w) A (compareOp .In (.str y u) (.str x t)) Q E s := in_str h
theorem item_strI {value slice : Expr} {x : PySem.Str} {t u : Tok} {i : Int} {Q : Value → Shared → Prop} (h1 : -(x.length : Int) ≤ i) (h2 : i < (x.length : Int)) (hr : (x.length : Int) < 2 ^ 60) (h : ∀ tk tk', (Txt.item x i).length = 1 → Q (.str (Txt.item x i) tk) { s with toks := tk' })
    (hs : subscripted slice false (.str x t) (.int i u) = operate [.str x t, .int i u] (getItem (.str x t) (.int i u)) := by with_unfolding_all rfl)
    (ht : ∀ r, letTemporaryGo value (.str x t) r = pure () := by intro _; with_unfolding_all rfl) :
    wpAny (model prog w) A (subscriptTail value slice (.str x t) (.int i u)) Q E s :=
  item_str (fitsSsize_of (N := 9223372036854775808) (by omega) (by omega) (Int.le_refl _)) h1 h2 (fun _ => h _ _ rfl) hs ht

theorem seq_list_iadd : seqSlot? (.type "list") (dunderI "add") = pure (some (.builtin "list.__iadd__")) := by
  unfold seqSlot?
  rw [PySem.F.slot_list_iadd.lookup]
  show (if (!isSeqSlot (some (Value.builtin "list.__iadd__"))) = true then (pure none : Sem (Option Value)) else pure (some (Value.builtin "list.__iadd__"))) = _
  rw [show isSeqSlot (some (Value.builtin "list.__iadd__")) = true from by decide +kernel]
  rfl
/-- list += list, in place -/
theorem iadd_list {xs ys zs : List Value} {Q : Value → Shared → Prop} (F : Fr h₀ L s.heap m) (N : News h₀ L s.heap news) (hb : (b, listOf ys.toArray n2) ∈ news) (hz : zs = xs ++ ys) (hne : ys.length ≠ 0)
    (U : Upd D (listOf xs.toArray n) (listOf zs.toArray (n + 1)) news news') (hsz : xs.length + ys.length ≤ 100000)
    (h : ∀ h', Fr h₀ L h' m → News h₀ L h' news' → Q (.ref D) { s with heap := h' }) : wpAny (model prog w) A (inplaceOp .Add (.ref D) (.ref b)) Q E s := by
  subst hz
  obtain ⟨pre, post, rfl, rfl, a, c⟩ := U.split
  have z := N (D, listOf xs.toArray n) (List.mem_append.mpr (.inr (.head _)))
  have zb := N _ hb
  have ha : s.TypeIs (.ref D) "list" := ⟨_, z.1, rfl⟩
  have hbT : s.TypeIs (.ref b) "list" := ⟨_, zb.1, rfl⟩
  have h1 : ¬(!xs.toArray.isEmpty && Builtin.List.listTooLong (xs.toArray.size + ys.toArray.size)) = true := extend_door (by simp only [List.size_toArray, sizeLine_eq]; omega)
  unfold inplaceOp
  refine wpAny_holding ?_
  have hfi : fillsInplaceSlot (.type "list") "add" (Operator.Add == .Add) = pure false := by
    unfold fillsInplaceSlot
    show (typeLookup (.type "list") (dunderI "add") >>= fun fi => pure (fi.isSome && !isSeqSlot fi)) = pure false
    rw [PySem.F.slot_list_iadd.lookup]
    show (pure ((some (Value.builtin "list.__iadd__")).isSome && !isSeqSlot (some (Value.builtin "list.__iadd__"))) : Sem Bool) = _
    rw [show isSeqSlot (some (.builtin "list.__iadd__")) = true from by decide +kernel]; rfl
  refine wpAny_bind (wpAny_typeOf ha (wpAny_bind (wpAny_of_eq hfi ?_)))
  show wpAny _ A (if false = true then _ else _) Q E s
  rw [if_neg Bool.false_ne_true]
  refine wpAny_bind (wpAny_binaryOp1_none (nm := "add") ha hbT noFill_list_add ?_)
  refine wpAny_bind (wpAny_of_eq seq_list_iadd ?_)
  refine wpAny_bind (wpAny_rule ?_)
  refine call_meets PySem.F.slot_list_iadd ha PySem.F.entry_list_iadd (PySem.F.args_list_iadd_2 _ _) (PySem.AutoSeq1.list___iadd___list_list_0 D xs.toArray n b ys.toArray n2 h1 (by simp only [List.size_toArray, sizeLine_eq]; omega) (by simp only [List.size_toArray, sizeLine_eq]; omega)) ⟨z.1, zb.1, ?_⟩
  refine h _ (F.change (Heap.SameBut.update ..) z.2.1 z.2.2) (kl_turn _ N a c ?_ ?_)
  · apply Array.toList_inj.mp
    simp
  · simp only [List.size_toArray, List.length_append]; omega
end
end Mine
namespace Mine
open PySem PySem.W PySem.Calls PyProof.Rows PyProof.V PySem.Spec
open PySem.Sre (M)
set_option maxRecDepth 100000
set_option maxHeartbeats 200000
/-- the words of `([0-9]+|[._+-])` -/
noncomputable def verC : Array Nat := #[14, 4, 0, 1, 4294967295, 17, 0, 7, 14, 24, 10, 1, 4294967295, 13, 5, 22, 48, 57, 0, 1, 15, 17, 15, 13, 11, 9, 0, 26624, 2147483648, 0, 0, 0, 0, 0, 0, 15, 2, 0, 17, 1, 1]
noncomputable def isDig (c : Nat) : Bool := Nat.ble 48 c && Nat.ble c 57
noncomputable def isSep (c : Nat) : Bool := c == 43 || c == 45 || c == 46 || c == 95
noncomputable abbrev kp0 : Sre.Kept := { lastmark := 0, lastindex := -1 }
noncomputable def at0 (text : Array Nat) (lim p : Nat) (b : Bool) (x : Option Nat) (sn : Sre.Seen) : M :=
  { code := verC, text, lim, start := p, lastStart := lim, pc := 5, pos := p, handed := p, outermost := b, marks := #[x, none], frames := [{ wait := .nextStart, pc := 5, pos := p, outermost := b }], weight := 1, seen := sn }
/-- ahead of the repeat -/
noncomputable def at9 (text : Array Nat) (lim p : Nat) (b : Bool) (sn : Sre.Seen) : M :=
  { at0 text lim p b (some p) sn with lastmark := 0, pc := 9, frames := [{ wait := .nextBranch, pc := 8, pos := p, outermost := b, kept := kp0 }, { wait := .nextStart, pc := 5, pos := p, outermost := b }], weight := 2 }
noncomputable def at23 (text : Array Nat) (lim p : Nat) (b : Bool) (sn : Sre.Seen) : M :=
  { at0 text lim p b (some p) sn with lastmark := 0, pc := 23, frames := [{ wait := .nextBranch, pc := 22, pos := p, outermost := b, kept := kp0 }, { wait := .nextStart, pc := 5, pos := p, outermost := b }], weight := 2 }
theorem runFor_succ (n : Nat) (m : M) : M.runFor (n + 1) m = if m.outcome.isSome then m else M.runFor n m.step := rfl
theorem runFor_zero (m : M) : M.runFor 0 m = m := rfl
theorem runFor_done (n : Nat) (m : M) (h : m.outcome.isSome = true) : M.runFor n m = m := by
  cases n with
  | zero => rfl
  | succ n => rw [runFor_succ, if_pos h]
theorem runFor_add (a b : Nat) (m : M) : M.runFor (a + b) m = M.runFor b (M.runFor a m) := by
  induction a generalizing m with
  | zero => rw [Nat.zero_add, runFor_zero]
  | succ a ih =>
    rw [Nat.succ_add, Nat.succ_eq_add_one, runFor_succ, runFor_succ]
    by_cases h : m.outcome.isSome = true
    · rw [if_pos h, if_pos h, runFor_done b m h]
    · rw [if_neg h, if_neg h]; exact ih _
theorem runFor_step (n : Nat) (m m' : M) (h : m.outcome.isSome = false) (e : m.step = m') : M.runFor (n + 1) m = M.runFor n m' := by
  rw [runFor_succ, if_neg (by rw [h]; decide), e]
theorem runFor_one (m : M) (h : m.outcome.isSome = false) : M.runFor 1 m = m.step := by
  rw [show (1 : Nat) = 0 + 1 from rfl, runFor_succ, if_neg (by rw [h]; decide), runFor_zero]
theorem go_0_9 (text : Array Nat) (lim p : Nat) (b : Bool) (x : Option Nat) (sn : Sre.Seen) : ∃ sn', M.runFor 2 (at0 text lim p b x sn) = at9 text lim p b sn' := ⟨_, by rfl⟩
theorem acc13 (c : Nat) (sn : Sre.Seen) : ∃ sn', Sre.accepts verC 13 c sn = .ok (isDig c, sn') := by
  cases h : isDig c with
  | true =>
    refine ⟨sn.add 22, ?_⟩
    have h' : (decide (48 ≤ c) && decide (c ≤ 57)) = true := by
      unfold isDig at h
      simp only [Bool.and_eq_true, Nat.ble_eq, decide_eq_true_eq] at h ⊢
      exact h
    show (if (decide (48 ≤ c) && decide (c ≤ 57)) = true then (Except.ok (true, _) : Except String (Bool × Sre.Seen)) else _) = _
    rw [if_pos h']; rfl
  | false =>
    refine ⟨(sn.add 22).add 0, ?_⟩
    have h' : ¬ (decide (48 ≤ c) && decide (c ≤ 57)) = true := by
      unfold isDig at h
      intro q
      simp only [Bool.and_eq_true, decide_eq_true_eq] at q
      have : (Nat.ble 48 c && Nat.ble c 57) = true := by simp [q.1, q.2]
      rw [h] at this; cases this
    show (if (decide (48 ≤ c) && decide (c ≤ 57)) = true then (Except.ok (true, _) : Except String (Bool × Sre.Seen)) else _) = _
    rw [if_neg h']
    rfl
theorem sep_table : ∀ c, c < 256 → (verC.getD (25 + (1 + c / 32)) 0).testBit (c % 32) = isSep c := by decide +kernel
theorem acc23 (c : Nat) (sn : Sre.Seen) : ∃ sn', Sre.accepts verC 23 c sn = .ok (isSep c, sn') := by
  have e : (decide (c < 256) && (verC.getD (25 + (1 + c / 32)) 0).testBit (c % 32)) = isSep c := by
    by_cases h : c < 256
    · rw [sep_table c h]; simp [h]
    · have : isSep c = false := by
        unfold isSep
        simp only [Bool.or_eq_false_iff, beq_eq_false_iff_ne]
        lia
      rw [this]; simp [h]
  cases h : isSep c with
  | true =>
    refine ⟨sn.add 9, ?_⟩
    rw [h] at e
    show (if (decide (c < 256) && (verC.getD (25 + (1 + c / 32)) 0).testBit (c % 32)) = true then (Except.ok (true, _) : Except String (Bool × Sre.Seen)) else _) = _
    rw [if_pos e]; rfl
  | false =>
    refine ⟨(sn.add 9).add 0, ?_⟩
    rw [h] at e
    show (if (decide (c < 256) && (verC.getD (25 + (1 + c / 32)) 0).testBit (c % 32)) = true then (Except.ok (true, _) : Except String (Bool × Sre.Seen)) else _) = _
    rw [if_neg (by rw [e]; decide)]
    rfl
/-- the run of figures from a place on -/
noncomputable def digs (text : Array Nat) : Nat → Nat → Nat
  | 0, _ => 0
  | n + 1, p => if isDig (text.getD p 0) then 1 + digs text n (p + 1) else 0
theorem run13 (text : Array Nat) : ∀ (n p f : Nat) (sn : Sre.Seen), ∃ sn', Sre.run verC text 13 n p f sn = .ok (f + digs text n p, sn')
  | 0, p, f, sn => ⟨sn, rfl⟩
  | n + 1, p, f, sn => by
    obtain ⟨s1, e1⟩ := acc13 (text.getD p 0) sn
    unfold Sre.run digs
    rw [e1]
    cases h : isDig (text.getD p 0) with
    | true =>
      obtain ⟨s2, e2⟩ := run13 text n (p + 1) (f + 1) s1
      refine ⟨s2, ?_⟩
      show (Sre.run verC text 13 n (p + 1) (f + 1) s1) = _
      rw [e2, if_pos rfl, Nat.add_assoc]
    | false => exact ⟨s1, rfl⟩
noncomputable def at20 (text : Array Nat) (lim p k : Nat) (b : Bool) (sn : Sre.Seen) : M :=
  { at9 text lim p b sn with pc := 20, pos := p + k, handed := p + k, frames := [{ wait := .giveBack, pc := 9, pos := p + k, outermost := b, count := k, kept := kp0 }, { wait := .nextBranch, pc := 8, pos := p, outermost := b, kept := kp0 }, { wait := .nextStart, pc := 5, pos := p, outermost := b }], weight := 3 }
theorem step9_yes {text : Array Nat} {lim p k : Nat} {b : Bool} {sn sn' : Sre.Seen} (hp : p < lim) (hl : lim ≤ 100000) (hr : Sre.run verC text 13 (lim - p) p 0 ((sn.add 24).add 13) = .ok (k, sn')) (hk : 1 ≤ k) : (at9 text lim p b sn).step = at20 text lim p k b sn' := by
  have e : min 4294967295 ((lim : Int) - (p : Int)).toNat = lim - p := by lia
  rw [← e] at hr
  show (if ((1 : Nat) : Int) > (lim : Int) - (p : Int) then _ else match Sre.run verC text 13 (min 4294967295 ((lim : Int) - (p : Int)).toNat) p 0 ((sn.add 24).add 13) with | .error why => _ | .ok (n, seen) => _) = _
  rw [if_neg (by lia), hr]
  show (if k < 1 then _ else _) = _
  rw [if_neg (by lia)]
  rfl
noncomputable def finM (text : Array Nat) (lim p e : Nat) (b : Bool) (sn : Sre.Seen) : M :=
  { at0 text lim p b (some p) sn with lastmark := 1, lastindex := 1, handed := e, marks := #[some p, some e], frames := [], weight := 0, answer := some true, outcome := some .matched }
theorem fin20 (text : Array Nat) (lim p k : Nat) (b : Bool) (sn : Sre.Seen) : M.runFor 7 (at20 text lim p k b sn) = finM text lim p (p + k) b (((sn.add 15).add 17).add 1) := by
  cases b <;> kernel_rfl
theorem step9_no {text : Array Nat} {lim p : Nat} {b : Bool} {sn sn' : Sre.Seen} (hp : p < lim) (hl : lim ≤ 100000) (hr : Sre.run verC text 13 (lim - p) p 0 ((sn.add 24).add 13) = .ok (0, sn')) :
    (at9 text lim p b sn).step = { at9 text lim p b sn' with answer := some false } := by
  have e : min 4294967295 ((lim : Int) - (p : Int)).toNat = lim - p := by lia
  rw [← e] at hr
  show (if ((1 : Nat) : Int) > (lim : Int) - (p : Int) then _ else match Sre.run verC text 13 (min 4294967295 ((lim : Int) - (p : Int)).toNat) p 0 ((sn.add 24).add 13) with | .error why => _ | .ok (n, seen) => _) = _
  rw [if_neg (by lia), hr]
  rfl
theorem step9_end {text : Array Nat} {lim p : Nat} {b : Bool} {sn : Sre.Seen} (hp : lim ≤ p) : (at9 text lim p b sn).step = { at9 text lim p b (sn.add 24) with answer := some false } := by
  show (if ((1 : Nat) : Int) > (lim : Int) - (p : Int) then _ else _) = _
  rw [if_pos (by lia)]
  rfl
theorem back23 (text : Array Nat) (lim p : Nat) (b : Bool) (sn : Sre.Seen) : M.runFor 1 { at9 text lim p b sn with answer := some false } = at23 text lim p b sn := by rfl
theorem step23_yes {text : Array Nat} {lim p : Nat} {b : Bool} {sn sn' : Sre.Seen} (hp : p < lim) (hr : Sre.accepts verC 23 (text.getD p 0) (sn.add 13) = .ok (true, sn')) :
    (at23 text lim p b sn).step = { at23 text lim p b sn' with pc := 35, pos := p + 1 } := by
  show (if p ≥ lim then _ else match Sre.accepts verC 23 (text.getD p 0) (sn.add 13) with | .error why => _ | .ok (false, seen) => _ | .ok (true, seen) => _) = _
  rw [if_neg (by lia), hr]
  rfl
theorem step23_no {text : Array Nat} {lim p : Nat} {b : Bool} {sn sn' : Sre.Seen} (hp : p < lim) (hr : Sre.accepts verC 23 (text.getD p 0) (sn.add 13) = .ok (false, sn')) :
    (at23 text lim p b sn).step = { at23 text lim p b sn' with answer := some false } := by
  show (if p ≥ lim then _ else match Sre.accepts verC 23 (text.getD p 0) (sn.add 13) with | .error why => _ | .ok (false, seen) => _ | .ok (true, seen) => _) = _
  rw [if_neg (by lia), hr]
  rfl
theorem step23_end {text : Array Nat} {lim p : Nat} {b : Bool} {sn : Sre.Seen} (hp : lim ≤ p) : (at23 text lim p b sn).step = { at23 text lim p b (sn.add 13) with answer := some false } := by
  show (if p ≥ lim then _ else _) = _
  rw [if_pos hp]
  rfl
theorem fin35 (text : Array Nat) (lim p : Nat) (b : Bool) (sn : Sre.Seen) : M.runFor 6 { at23 text lim p b sn with pc := 35, pos := p + 1 } = finM text lim p (p + 1) b (((sn.add 15).add 17).add 1) := by
  cases b <;> kernel_rfl
/-- behind the last way -/
noncomputable def atF (text : Array Nat) (lim p : Nat) (b : Bool) (sn : Sre.Seen) : M :=
  { at0 text lim p b (some p) sn with lastmark := 0, answer := some false }
theorem backF (text : Array Nat) (lim p : Nat) (b : Bool) (sn : Sre.Seen) : M.runFor 1 { at23 text lim p b sn with answer := some false } = { atF text lim p b sn with pc := 22 } := by rfl
theorem on1 {text : Array Nat} {lim p : Nat} {b : Bool} {sn : Sre.Seen} (pc : Nat) (hp : p < lim) : ({ atF text lim p b sn with pc := pc } : M).step = at0 text lim (p + 1) false (some p) sn := by
  show (if p < lim then _ else _) = _
  rw [if_pos hp]
  rfl
theorem off1 {text : Array Nat} {lim p : Nat} {b : Bool} {sn : Sre.Seen} (pc : Nat) (hp : lim ≤ p) : ∃ m', M.runFor 2 { atF text lim p b sn with pc := pc } = m' ∧ m'.outcome = some .failed := by
  have e : ({ atF text lim p b sn with pc := pc } : M).step = { atF text lim p b sn with pc := 5, frames := [], weight := 0 } := by
    show (if p < lim then _ else _) = _
    rw [if_neg (by lia)]
    rfl
  refine ⟨_, rfl, ?_⟩
  rw [runFor_step 1 _ _ rfl e]
  rfl

theorem pass1 {text : Array Nat} {lim p : Nat} {b : Bool} {x : Option Nat} {sn : Sre.Seen} (hp : p < lim) (hl : lim ≤ 100000) (h1 : isDig (text.getD p 0) = false) (h2 : isSep (text.getD p 0) = false) :
    ∃ sn', M.runFor 7 (at0 text lim p b x sn) = at0 text lim (p + 1) false (some p) sn' := by
  obtain ⟨s1, e1⟩ := go_0_9 text lim p b x sn
  obtain ⟨s2, e2⟩ := run13 text (lim - p) p 0 ((s1.add 24).add 13)
  have z : digs text (lim - p) p = 0 := by
    obtain ⟨n, hn⟩ : ∃ n, lim - p = n + 1 := ⟨lim - p - 1, by lia⟩
    rw [hn]; unfold digs; rw [h1]; rfl
  rw [z] at e2
  obtain ⟨s3, e3⟩ := acc23 (text.getD p 0) (s2.add 13)
  rw [h2] at e3
  refine ⟨s3, ?_⟩
  rw [show (7 : Nat) = 2 + (1 + (1 + (1 + (1 + 1)))) from rfl, runFor_add, e1, runFor_add, runFor_one _ rfl, step9_no hp hl e2, runFor_add, back23, runFor_add, runFor_one _ rfl, step23_no hp e3, runFor_add, backF, runFor_one _ rfl, on1 _ hp]
theorem found_dig {text : Array Nat} {lim p : Nat} {b : Bool} {x : Option Nat} {sn : Sre.Seen} (hp : p < lim) (hl : lim ≤ 100000) (h1 : isDig (text.getD p 0) = true) :
    ∃ sn', M.runFor 10 (at0 text lim p b x sn) = finM text lim p (p + digs text (lim - p) p) b sn' := by
  obtain ⟨s1, e1⟩ := go_0_9 text lim p b x sn
  obtain ⟨s2, e2⟩ := run13 text (lim - p) p 0 ((s1.add 24).add 13)
  have z : 1 ≤ digs text (lim - p) p := by
    obtain ⟨n, hn⟩ : ∃ n, lim - p = n + 1 := ⟨lim - p - 1, by lia⟩
    rw [hn]; unfold digs; rw [h1, if_pos rfl]; lia
  rw [Nat.zero_add] at e2
  refine ⟨((s2.add 15).add 17).add 1, ?_⟩
  rw [show (10 : Nat) = 2 + (1 + 7) from rfl, runFor_add, e1, runFor_add, runFor_one _ rfl, step9_yes hp hl e2 z, fin20]
theorem found_sep {text : Array Nat} {lim p : Nat} {b : Bool} {x : Option Nat} {sn : Sre.Seen} (hp : p < lim) (hl : lim ≤ 100000) (h1 : isDig (text.getD p 0) = false) (h2 : isSep (text.getD p 0) = true) :
    ∃ sn', M.runFor 11 (at0 text lim p b x sn) = finM text lim p (p + 1) b sn' := by
  obtain ⟨s1, e1⟩ := go_0_9 text lim p b x sn
  obtain ⟨s2, e2⟩ := run13 text (lim - p) p 0 ((s1.add 24).add 13)
  have z : digs text (lim - p) p = 0 := by
    obtain ⟨n, hn⟩ : ∃ n, lim - p = n + 1 := ⟨lim - p - 1, by lia⟩
    rw [hn]; unfold digs; rw [h1]; rfl
  rw [z] at e2
  obtain ⟨s3, e3⟩ := acc23 (text.getD p 0) (s2.add 13)
  rw [h2] at e3
  refine ⟨((s3.add 15).add 17).add 1, ?_⟩
  rw [show (11 : Nat) = 2 + (1 + (1 + (1 + 6))) from rfl, runFor_add, e1, runFor_add, runFor_one _ rfl, step9_no hp hl e2, runFor_add, back23, runFor_add, runFor_one _ rfl, step23_yes hp e3, fin35]
theorem found_end {text : Array Nat} {lim : Nat} {b : Bool} {x : Option Nat} {sn : Sre.Seen} : (M.runFor 8 (at0 text lim lim b x sn)).outcome = some .failed := by
  obtain ⟨s1, e1⟩ := go_0_9 text lim lim b x sn
  obtain ⟨m', e, h⟩ := off1 (text := text) (lim := lim) (p := lim) (b := b) (sn := (s1.add 24).add 13) 22 (Nat.le_refl _)
  rw [show (8 : Nat) = 2 + (1 + (1 + (1 + (1 + 2)))) from rfl, runFor_add, e1, runFor_add, runFor_one _ rfl, step9_end (Nat.le_refl _), runFor_add, back23, runFor_add, runFor_one _ rfl, step23_end (Nat.le_refl _), runFor_add, backF, e]
  exact h

/-- the end of the next part, from a place that opens one -/
noncomputable def partEnd (text : Array Nat) (lim q : Nat) : Nat := if isDig (text.getD q 0) then q + digs text (lim - q) q else q + 1
theorem scan_found {text : Array Nat} {lim : Nat} (hl : lim ≤ 100000) : ∀ (k p q : Nat) (b : Bool) (x : Option Nat) (sn : Sre.Seen), q = p + k → q < lim → (∀ i, p ≤ i → i < q → isDig (text.getD i 0) = false ∧ isSep (text.getD i 0) = false) →
    (isDig (text.getD q 0) || isSep (text.getD q 0)) = true → ∃ n b' sn', n ≤ 7 * k + 11 ∧ M.runFor n (at0 text lim p b x sn) = finM text lim q (partEnd text lim q) b' sn'
  | 0, p, q, b, x, sn, hq, hlt, _, hh => by
    have e : q = p := by lia
    subst e
    unfold partEnd
    cases h1 : isDig (text.getD q 0) with
    | true =>
      obtain ⟨s', e⟩ := found_dig (b := b) (x := x) (sn := sn) hlt hl h1
      exact ⟨10, b, s', by lia, e⟩
    | false =>
      rw [h1, Bool.false_or] at hh
      obtain ⟨s', e⟩ := found_sep (b := b) (x := x) (sn := sn) hlt hl h1 hh
      exact ⟨11, b, s', by lia, e⟩
  | k + 1, p, q, b, x, sn, hq, hlt, hno, hh => by
    obtain ⟨a1, a2⟩ := hno p (Nat.le_refl _) (by lia)
    obtain ⟨s1, e1⟩ := pass1 (b := b) (x := x) (sn := sn) (show p < lim by lia) hl a1 a2
    obtain ⟨n, b', s2, hn, e2⟩ := scan_found hl k (p + 1) q false (some p) s1 (by lia) hlt (fun i h1 h2 => hno i (by lia) h2) hh
    exact ⟨7 + n, b', s2, by lia, by rw [runFor_add, e1, e2]⟩
theorem scan_none {text : Array Nat} {lim : Nat} (hl : lim ≤ 100000) : ∀ (k p : Nat) (b : Bool) (x : Option Nat) (sn : Sre.Seen), lim = p + k → (∀ i, p ≤ i → i < lim → isDig (text.getD i 0) = false ∧ isSep (text.getD i 0) = false) →
    ∃ n, n ≤ 7 * k + 8 ∧ (M.runFor n (at0 text lim p b x sn)).outcome = some .failed
  | 0, p, b, x, sn, hq, _ => by
    have e : lim = p := by lia
    subst e
    exact ⟨8, by lia, found_end⟩
  | k + 1, p, b, x, sn, hq, hno => by
    obtain ⟨a1, a2⟩ := hno p (Nat.le_refl _) (by lia)
    obtain ⟨s1, e1⟩ := pass1 (b := b) (x := x) (sn := sn) (show p < lim by lia) hl a1 a2
    obtain ⟨n, hn, e2⟩ := scan_none hl k (p + 1) false (some p) s1 (by lia) (fun i h1 h2 => hno i (by lia) h2)
    exact ⟨7 + n, by lia, by rw [runFor_add, e1]; exact e2⟩
theorem forSearch_at {text : Array Nat} {lim p : Nat} (hp : p < lim) : Sre.forSearch verC text 1 p lim false = at0 text lim p true none (({} : Sre.Seen).add 14) := by
  show (if (decide (p > lim) || decide (lim - p < 1)) = true then _ else _) = _
  rw [if_neg (by simp only [Bool.or_eq_true, decide_eq_true_eq]; lia)]
  rfl
theorem forSearch_lim {text : Array Nat} {lim : Nat} : Sre.forSearch verC text 1 lim lim false = { code := verC, text, lim, start := lim, pc := 5, pos := lim, handed := lim, marks := Array.replicate 2 none, seen := ({} : Sre.Seen).add 14, answer := some false } := by
  show (if (decide (lim > lim) || decide (lim - lim < 1)) = true then _ else _) = _
  rw [if_pos (by simp)]
  rfl
theorem forSearch_end {text : Array Nat} {lim : Nat} : (M.runFor 1 (Sre.forSearch verC text 1 lim lim false)).outcome = some .failed := by
  rw [forSearch_lim, runFor_one _ rfl]
  rfl

section
variable {Mo : Model} {A : Around} {E : Value → Shared → Prop} {s : Shared}
open Builtin.Re
theorem drive_ends : ∀ (n turns : Nat) (m : M) {Q : M → Shared → Prop}, n ≤ 4 * turns → 0 < turns → (M.runFor n m).outcome.isSome = true → Q (M.runFor n m) s → wpAny Mo A (reDrive turns m) Q E s := by
  intro n
  induction n using Nat.strongRecOn with
  | ind n ih =>
    intro turns m Q hn ht hs hQ
    obtain ⟨t, rfl⟩ : ∃ t, turns = t + 1 := ⟨turns - 1, by lia⟩
    have e : ∀ k, (M.runFor 4 m).outcome.isSome = true → n ≤ 4 ∨ 4 ≤ n → M.runFor 4 m = M.runFor n m ∨ k = k + 1 := by
      intro k h4 hor
      left
      rcases hor with h | h
      · have : (4 : Nat) = n + (4 - n) := by lia
        rw [this, runFor_add, runFor_done _ _ hs]
      · have : n = 4 + (n - 4) := by lia
        rw [this, runFor_add, runFor_done _ _ h4]
    unfold reDrive
    show wpAny Mo A (if (M.runFor 4 m).outcome.isSome = true then pure (M.runFor 4 m) else (do rule "sre.turn"; reDrive t (M.runFor 4 m))) Q E s
    by_cases h4 : (M.runFor 4 m).outcome.isSome = true
    · rw [if_pos h4]
      rcases e 0 h4 (by lia) with e' | e'
      · rw [e']; exact wpAny_pure hQ
      · lia
    · rw [if_neg h4]
      have hlt : 4 < n := by
        apply Nat.lt_of_not_le
        intro h
        apply h4
        have : (4 : Nat) = n + (4 - n) := by lia
        rw [this, runFor_add, runFor_done _ _ hs]
        exact hs
      have hn' : n = 4 + (n - 4) := by lia
      rw [hn', runFor_add] at hs hQ
      exact wpAny_bind (wpAny_rule (ih (n - 4) (by lia) t (M.runFor 4 m) (by lia) (by lia) hs hQ))
theorem many_turns : (1000000 : Nat) ≤ 4 * 2 ^ 64 := Nat.le_of_ble_eq_true rfl
theorem runToEnd {m : M} {n : Nat} {Q : Option M → Shared → Prop} (hn : n ≤ 1000000) (h : ((M.runFor n m).outcome = some .matched ∧ Q (some (M.runFor n m)) s) ∨ ((M.runFor n m).outcome = some .failed ∧ Q none s)) : wpAny Mo A (reRunToEnd m) Q E s := by
  unfold reRunToEnd
  refine wpAny_bind (drive_ends n _ m (Nat.le_trans hn many_turns) (by decide) (by rcases h with ⟨e, _⟩ | ⟨e, _⟩ <;> rw [e] <;> rfl) ?_)
  refine wpAny_bind (wpAny_forIn_list _ (fun _ _ s' => s' = s) _ ?_ ?_ _ _ rfl)
  · rintro i rest b s' rfl
    split
    · exact wpAny_bind (wpAny_rule (wpAny_pure rfl))
    · exact wpAny_pure rfl
  · rintro b s' rfl
    rcases h with ⟨e, q⟩ | ⟨e, q⟩
    · rw [e]; exact wpAny_pure q
    · rw [e]; exact wpAny_pure q
end
end Mine
namespace Mine
open PySem PySem.W PySem.Calls PyProof.Rows PyProof.V PySem.Spec
open PySem.Sre (M)
open Builtin.Re
set_option maxRecDepth 100000
set_option maxHeartbeats 400000
theorem plainAttrs_pat : PlainAttrs "re.Pattern" :=
  ⟨⟨"object.__getattribute__", by rw [typeLookup_type, builtinLookup_eq_fast]; kernel_rfl, by decide +kernel⟩, by rw [typeLookup_type, builtinLookup_eq_fast]; kernel_rfl⟩
theorem slot_split : Slot "re.Pattern" "split" "re.Pattern.split" :=
  .of (owner := "re.Pattern") (n := "split") (by rw [typeLookup_type, builtinLookup_eq_fast]; kernel_rfl) (by decide +kernel) (by decide +kernel) (by decide +kernel)
    (by first | exact .inl (by decide +kernel) | exact .inr (by decide +kernel)) (by rw [isSubtype_type]; kernel_rfl)
theorem type_split : typeOf (.builtin "re.Pattern.split") = pure (.type "method_descriptor") := by show builtinType _ = _; rw [builtinType_eq_fast]; kernel_rfl
theorem entry_split : entryFor table "re.Pattern.split" = some Builtin.«re.Pattern.split» := entryFor_of_tree (by kernel_rfl)
theorem args_split (a b : Value) : argsOk "re.Pattern.split" ⟨[a, b], []⟩ := by unfold argsOk; kernel_rfl
theorem slot_search : Slot "re.Pattern" "search" "re.Pattern.search" :=
  .of (owner := "re.Pattern") (n := "search") (by rw [typeLookup_type, builtinLookup_eq_fast]; kernel_rfl) (by decide +kernel) (by decide +kernel) (by decide +kernel)
    (by first | exact .inl (by decide +kernel) | exact .inr (by decide +kernel)) (by rw [isSubtype_type]; kernel_rfl)
theorem type_search : typeOf (.builtin "re.Pattern.search") = pure (.type "method_descriptor") := by show builtinType _ = _; rw [builtinType_eq_fast]; kernel_rfl
theorem entry_search : entryFor table "re.Pattern.search" = some Builtin.«re.Pattern.search» := entryFor_of_tree (by kernel_rfl)
theorem args_search (a b : Value) : argsOk "re.Pattern.search" ⟨[a, b], []⟩ := by unfold argsOk; kernel_rfl

/-- a compiled pattern, as it lies in the heap -/
structure PatAt (h : Heap) (pat : Addr) (code : Array Nat) (groups : Nat) : Prop where
  ex : ∃ (tup : Addr) (v0 v1 v3 v4 : Value) (g0 g1 : Tok) (cv : Array Value), h.get? pat = some { cls := .type "re.Pattern", data := .fields #[v0, v1, .int groups g0, v3, v4, .ref tup, .int 0 g1] } ∧ h.get? tup = some { cls := .type "tuple", data := .seq cv } ∧ (cv.map reRawOf).map (·.toNat) = code
section
variable {Mo : Model} {A : Around} {E : Value → Shared → Prop} {s : Shared}
theorem wholeTarget_ok {pat : Addr} {x : PySem.Str} {t : Tok} {code : Array Nat} {groups : Nat} {Q : ReTarget → Shared → Prop} (hp : PatAt s.heap pat code groups)
    (h : Q { pattern := .ref pat, string := .str x t, code, text := x.cps, kind := 0, groups, pos := 0, lim := x.cps.size } s) : wpAny Mo A (reWholeTarget (.ref pat) (.str x t)) Q E s := by
  obtain ⟨tup, v0, v1, v3, v4, g0, g1, cv, h1, h2, h3⟩ := hp.ex
  unfold reWholeTarget
  obtain ⟨hh, g, d, tk, os⟩ := s
  wp_walk using wpAny_loadPart' h1, wpAny_loadPart' h2
  subst h3
  exact h
theorem named_split {v : Value} {Q : List (Option Value) → Shared → Prop} (h : Q [some v, none] s) : wpAny Mo A (reNamed "re.Pattern.split" "split" ["string", "maxsplit"] 1 [v] []) Q E s := by
  obtain ⟨hh, g, d, tk, os⟩ := s
  wp_walk
  exact h
theorem slice_ok {text : Array Nat} {b e : Nat} {Q : Value → Shared → Prop} (hz : text.size ≤ 100000) (h : ∀ t, Q (.str ⟨text.extract b e⟩ t) { s with toks := s.toks + 1 }) : wpAny Mo A (reSlice text 0 b e) Q E s := by
  show wpAny Mo A (mkStr ⟨text.extract b e⟩) Q E s
  refine wpAny_mkStr (h _) ?_
  show (text.extract b e).size ≤ sizeLine
  rw [Array.size_extract, sizeLine_eq]
  have := Nat.min_le_right e text.size
  lia

noncomputable def otherAt (text : Array Nat) (i : Nat) : Prop := isDig (text.getD i 0) = false ∧ isSep (text.getD i 0) = false
/-- what a split of a text gives from a place on -/
inductive Splits (text : Array Nat) (lim : Nat) : Nat → List PySem.Str → Prop
  | done {p : Nat} : p ≤ lim → (∀ i, p ≤ i → i < lim → otherAt text i) → Splits text lim p [⟨text.extract p lim⟩]
  | part {p q : Nat} {ps : List PySem.Str} : p ≤ q → q < lim → (∀ i, p ≤ i → i < q → otherAt text i) → (isDig (text.getD q 0) || isSep (text.getD q 0)) = true → partEnd text lim q ≤ lim → Splits text lim (partEnd text lim q) ps →
      Splits text lim p (⟨text.extract p q⟩ :: ⟨text.extract q (partEnd text lim q)⟩ :: ps)
theorem Splits.len {text : Array Nat} {lim p : Nat} {ps : List PySem.Str} (h : Splits text lim p ps) : ps.length ≤ 2 * (lim - p) + 1 := by
  induction h with
  | done _ _ => simp
  | part h1 h2 h3 h4 h5 h6 ih =>
    rename_i p q ps
    have : q < partEnd text lim q := by
      unfold partEnd
      cases h : isDig (text.getD q 0) with
      | true =>
        rw [if_pos rfl]
        obtain ⟨n, hn⟩ : ∃ n, lim - q = n + 1 := ⟨lim - q - 1, by lia⟩
        rw [hn]; unfold digs; rw [h, if_pos rfl]; lia
      | false => rw [if_neg (by decide)]; lia
    simp only [List.length_cons]
    lia
theorem partEnd_gt (text : Array Nat) (lim q : Nat) (hq : q < lim) (h : (isDig (text.getD q 0) || isSep (text.getD q 0)) = true) : q < partEnd text lim q := by
  unfold partEnd
  cases h1 : isDig (text.getD q 0) with
  | true =>
    rw [if_pos rfl]
    obtain ⟨n, hn⟩ : ∃ n, lim - q = n + 1 := ⟨lim - q - 1, by lia⟩
    rw [hn]; unfold digs; rw [h1, if_pos rfl]; lia
  | false => rw [if_neg (by decide)]; lia
theorem next_none {T : ReTarget} {last : Nat} (hc : T.code = verC) (hg : T.groups = 1) (hl : T.lim = T.text.size) (hx : T.text.size ≤ 100000) (h1 : last ≤ T.lim) (h2 : ∀ i, last ≤ i → i < T.text.size → otherAt T.text i) {Q : Option M → Shared → Prop} (h : Q none s) :
    wpAny Mo A (reNextFound T last false) Q E s := by
  unfold reNextFound
  rw [hc, hg, hl]
  by_cases hlt : last < T.text.size
  · obtain ⟨n', hn', e⟩ := scan_none hx (T.text.size - last) last true none (({} : Sre.Seen).add 14) (by lia) h2
    have hb : n' ≤ 1000000 := by clear e; lia
    rw [forSearch_at hlt]
    generalize at0 T.text T.text.size last true none (({} : Sre.Seen).add 14) = m at e ⊢
    refine @runToEnd Mo A E s m n' Q hb ?_
    exact .inr ⟨e, h⟩
  · have e : last = T.text.size := by lia
    rw [e]
    have e' := @forSearch_end T.text T.text.size
    generalize Sre.forSearch verC T.text 1 T.text.size T.text.size false = m at e' ⊢
    refine @runToEnd Mo A E s m 1 Q (by decide) ?_
    exact .inr ⟨e', h⟩
theorem next_some {T : ReTarget} {last q : Nat} (hc : T.code = verC) (hg : T.groups = 1) (hl : T.lim = T.text.size) (hx : T.text.size ≤ 100000) (h1 : last ≤ q) (h2 : q < T.text.size) (h3 : ∀ i, last ≤ i → i < q → otherAt T.text i) (h4 : (isDig (T.text.getD q 0) || isSep (T.text.getD q 0)) = true)
    {Q : Option M → Shared → Prop} (h : ∀ b' sn', Q (some (finM T.text T.text.size q (partEnd T.text T.text.size q) b' sn')) s) : wpAny Mo A (reNextFound T last false) Q E s := by
  unfold reNextFound
  rw [hc, hg, hl]
  obtain ⟨n', b', sn', hn', e⟩ := scan_found hx (q - last) last q true none (({} : Sre.Seen).add 14) (by lia) h2 h3 h4
  have hb : n' ≤ 1000000 := by clear e; lia
  rw [forSearch_at (show last < T.text.size by lia)]
  generalize at0 T.text T.text.size last true none (({} : Sre.Seen).add 14) = m at e ⊢
  refine @runToEnd Mo A E s m n' Q hb ?_
  rw [e]
  exact .inl ⟨rfl, h b' sn'⟩
theorem group_ok {T : ReTarget} {lim q e : Nat} {b : Bool} {sn : Sre.Seen} (hk : T.kind = 0) (hqe : q ≤ e) (hz : T.text.size ≤ 100000) {Q : Value → Shared → Prop} (h : ∀ t, Q (.str ⟨T.text.extract q e⟩ t) { s with toks := s.toks + 1 }) :
    wpAny Mo A (reMachineGroup T (finM T.text lim q e b sn) (0 + 1) (pure Value.none)) Q E s := by
  unfold reMachineGroup
  have h0 : ¬ (((2 * (0 + 1 - 1) : Nat) : Int) ≥ (finM T.text lim q e b sn).lastmark) := by show ¬ ((0 : Int) ≥ 1); decide
  rw [if_neg h0]
  show wpAny Mo A (if e < q then reWrongSpan else reSlice T.text T.kind q e) Q E s
  rw [if_neg (by lia), hk]
  exact slice_ok hz h
theorem split_run {pat : Addr} {x : PySem.Str} {t : Tok} {ps : List PySem.Str} {P : PySem.Fin → Shared → Prop} (hp : PatAt s.heap pat verC 1) (hx : x.cps.size ≤ 100000) (hs : Splits x.cps x.cps.size 0 ps)
    (h : ∀ vs tk, DatAll [] vs (ps.map Dat.str) → P (.done (.ret (.ref s.heap.objs.size))) { s with heap := s.heap.push (listOf vs.toArray 0), toks := tk }) :
    wpAny Mo A (Builtin.«re.Pattern.split» ⟨[.ref pat, .str x t], []⟩) P E s := by
  unfold Builtin.«re.Pattern.split»
  refine wpAny_bind (named_split ?_)
  dsimp only
  refine wpAny_bind (wpAny_pure ?_)
  refine wpAny_bind (wholeTarget_ok hp ?_)
  refine wpAny_bind (wpAny_forIn_list _ (fun rest b s' => (∃ tk, s' = { s with toks := tk }) ∧
    ((b.2.2.2.2.2 = true ∧ ∃ prs, ps = prs ++ [⟨x.cps.extract b.2.2.1 x.cps.size⟩] ∧ DatAll [] b.1.toList (prs.map Dat.str)) ∨
     (b.2.2.2.2.2 = false ∧ b.2.2.2.1 = false ∧ b.2.2.1 = b.2.1 ∧ ∃ prs ps', ps = prs ++ ps' ∧ Splits x.cps x.cps.size b.2.1 ps' ∧ DatAll [] b.1.toList (prs.map Dat.str) ∧ (x.cps.size - b.2.1) + 2 ≤ rest.length))) _ ?_ ?_ _ _ ?_)
  · rintro i rest ⟨out, start, last, must, n, over⟩ s' ⟨⟨tk, rfl⟩, hI⟩
    dsimp only at hI ⊢
    rcases hI with ⟨ho, hfin⟩ | ⟨ho, hm, hls, prs, ps', hps, hsp, hd, hlen⟩
    · subst ho
      exact wpAny_pure ⟨⟨tk, rfl⟩, .inl ⟨rfl, hfin⟩⟩
    · subst ho; subst hm; subst hls
      rw [if_pos (show (!false) = true from rfl)]
      cases hsp with
      | done h1 h2 =>
        refine wpAny_bind ?_
        rw [if_neg (by simp)]
        refine next_none rfl rfl rfl hx h1 h2 ?_
        exact wpAny_pure ⟨⟨tk, rfl⟩, .inl ⟨rfl, prs, hps, hd⟩⟩
      | part h1 h2 h3 h4 h5 h6 =>
        rename_i q ps''
        have hgt := partEnd_gt x.cps x.cps.size q h2 h4
        refine wpAny_bind ?_
        rw [if_neg (by simp)]
        refine next_some rfl rfl rfl hx h1 h2 h3 h4 fun b' sn' => ?_
        dsimp only
        refine wpAny_bind (slice_ok hx fun t1 => ?_)
        dsimp only
        rw [show List.range 1 = [0] from rfl, List.forIn_cons]
        refine wpAny_bind (wpAny_bind (wpAny_bind ?_))
        refine group_ok (T := { pattern := Value.ref pat, string := Value.str x t, code := verC, text := x.cps, kind := 0, groups := 1, pos := 0, lim := x.cps.size }) rfl (Nat.le_of_lt hgt) hx fun t2 => ?_
        refine wpAny_pure ?_
        dsimp only
        rw [List.forIn_nil]
        refine wpAny_pure (wpAny_pure ⟨⟨_, rfl⟩, .inr ⟨rfl, ?_, rfl, prs ++ [⟨x.cps.extract last q⟩, ⟨x.cps.extract q (partEnd x.cps x.cps.size q)⟩], ps'', ?_, h6, ?_, ?_⟩⟩)
        · show (partEnd x.cps x.cps.size q == q) = false
          simp only [beq_eq_false_iff_ne]; lia
        · rw [hps, List.append_assoc]; rfl
        · rw [List.map_append]
          have e2 : ∀ (v1 v2 : Value), ((out.push v1).push v2).toList = out.toList ++ [v1, v2] := by intro v1 v2; simp
          rw [e2]
          exact hd.append (.cons (.str _ _) (.cons (.str _ _) .nil))
        · show x.cps.size - partEnd x.cps x.cps.size q + 2 ≤ rest.length
          simp only [List.length_cons] at hlen
          lia
  · rintro ⟨out, start, last, must, n, over⟩ s' ⟨⟨tk, rfl⟩, hI⟩
    dsimp only at hI ⊢
    rcases hI with ⟨ho, prs, hps, hd⟩ | ⟨_, _, _, _, _, _, _, _, hlen⟩
    · subst ho
      rw [if_neg (show ¬ (!true) = true from by decide)]
      refine wpAny_bind (slice_ok hx fun t1 => ?_)
      have hl : (out.push (Value.str ⟨x.cps.extract last x.cps.size⟩ t1)).toList.length ≤ sizeLine := by
        have h1 := hd.length
        have h2 : prs.length ≤ ps.length := by rw [hps]; simp
        have h3 := hs.len
        simp only [List.length_map] at h1
        simp only [Array.toList_push, List.length_append, List.length_cons, List.length_nil, sizeLine_eq]
        lia
      refine wpAny_bind (wpAny_newList ?_ hl)
      refine wpAny_pure ?_
      refine h _ _ ?_
      rw [hps, List.map_append, Array.toList_push]
      exact hd.append (.cons (.str _ _) .nil)
    · simp at hlen
  · refine ⟨⟨s.toks, rfl⟩, .inr ⟨rfl, rfl, rfl, [], ps, rfl, hs, .nil, ?_⟩⟩
    simp only [reMostMatches, List.length_range]
    lia
end
end Mine
namespace Mine
open PySem PySem.W PySem.Calls PyProof.Rows PyProof.V PySem.Spec
open PySem.Sem (wp)
set_option maxRecDepth 100000
set_option maxHeartbeats 1000000

/-- the caller of the claim stands on the stack -/
noncomputable def Cal (Γ : PySem.Ctx) : Prop := Γ.code.isCaller = true ∨ Γ.below.any (·.1.isCaller) = true
noncomputable def CalB (Γ : PySem.Ctx) : Prop := Γ.below.any (·.1.isCaller) = true
theorem CalB.cal {Γ : PySem.Ctx} (h : CalB Γ) : Cal Γ := .inr h
theorem Cal.enter {Γ : PySem.Ctx} (h : Cal Γ) (c : Code) (hd : Option Value) (p : Pos) : CalB (Γ.enter c hd p) := by
  show ((Γ.code, p) :: Γ.below).any (·.1.isCaller) = true
  rw [List.any_cons]
  rcases h with h | h
  · rw [h]; rfl
  · rw [h]; exact Bool.or_true _
theorem CalB.goto {Γ : PySem.Ctx} (h : CalB Γ) (c : Code) : CalB (Γ.goto c) := h

structure wpC {α : Type} (M : Model) (A : Around) (t : Sem α) (Q : α → Shared → Prop) (E : Value → Shared → Prop) (s : Shared) : Prop where
  at_ : ∀ Γ p, Γ.In A → Cal Γ → wp M Γ t (fun a _ s' => Q a s') (fun e _ s' => E e s') p s
structure codeC (M : Model) (A : Around) (c : Code) (R : Result → Shared → Prop) (s : Shared) : Prop where
  at_ : ∀ Γ p, Γ.code = c → Γ.Below A → CalB Γ → wpCode M Γ R p s

section
variable {α β : Type} {M : Model} {A : Around} {E : Value → Shared → Prop} {s : Shared}
theorem wpC_any {t : Sem α} {Q : α → Shared → Prop} (h : wpAny M A t Q E s) : wpC M A t Q E s := wpC.mk fun Γ p hΓ _ => h Γ p hΓ
theorem codeC_any {c : Code} {R : Result → Shared → Prop} (h : codeAny M A c R s) : codeC M A c R s := codeC.mk fun Γ p hc hΓ _ => h Γ p hc hΓ
theorem wpC_mono {t : Sem α} {Q Q' : α → Shared → Prop} {E' : Value → Shared → Prop} (h : wpC M A t Q E s) (hQ : ∀ a s, Q a s → Q' a s) (hE : ∀ e s, E e s → E' e s) : wpC M A t Q' E' s :=
  wpC.mk fun Γ p hΓ hc => Sem.wp_mono M Γ t (fun a _ s => hQ a s) (fun e _ s => hE e s) p s (h.at_ Γ p hΓ hc)
theorem codeC_mono {c : Code} {R R' : Result → Shared → Prop} (h : codeC M A c R s) (hR : ∀ r s, R r s → R' r s) : codeC M A c R' s :=
  codeC.mk fun Γ p hc hΓ hk => wpCode_mono hR (h.at_ Γ p hc hΓ hk)
theorem wpC_pure {a : α} {Q : α → Shared → Prop} (h : Q a s) : wpC M A (pure a) Q E s := wpC_any (wpAny_pure h)
theorem wpC_bind {m : Sem α} {f : α → Sem β} {Q : β → Shared → Prop} (h : wpC M A m (fun a s' => wpC M A (f a) Q E s') E s) : wpC M A (m >>= f) Q E s := wpC.mk fun Γ p hΓ hc => by
  rw [Sem.wp_bind']
  exact Sem.wp_mono M Γ m (fun a p' s' h' => h'.at_ Γ p' hΓ hc) (fun _ _ _ h' => h') p s (h.at_ Γ p hΓ hc)
theorem wpC_bindA {m : Sem α} {f : α → Sem β} {Q : β → Shared → Prop} (h : wpAny M A m (fun a s' => wpC M A (f a) Q E s') E s) : wpC M A (m >>= f) Q E s := wpC_bind (wpC_any h)
theorem wpC_holding {vs : List Value} {m : Sem α} {Q : α → Shared → Prop} (h : wpC M A m Q E s) : wpC M A (holding vs m) Q E s := wpC.mk fun Γ p hΓ hc => by rw [Sem.wp_holding]; exact h.at_ Γ p hΓ hc
theorem wpC_keep {vs : List Value} {m : Sem α} {Q : α → Shared → Prop} (h : wpC M A m Q E s) : wpC M A (m.keep vs) Q E s := wpC.mk fun Γ p hΓ hc => by rw [Sem.wp_keep]; exact h.at_ Γ p hΓ hc
theorem wpC_attempt {m : Sem α} {Q : Except Value α → Shared → Prop} (h : wpC M A m (fun a => Q (.ok a)) (fun e => Q (.error e)) s) : wpC M A m.attempt Q E s := wpC.mk fun Γ p hΓ hc => by rw [Sem.wp_attempt]; exact h.at_ Γ p hΓ hc
theorem wpC_onRaise {m : Sem α} {k : Value → Sem Unit} {Q : α → Shared → Prop} (h : wpC M A m Q (fun e s' => wpAny M A (k e) (fun _ s'' => E e s'') E s') s) : wpC M A (m.onRaise k) Q E s := wpC.mk fun Γ p hΓ hc => by
  rw [Sem.wp_onRaise]
  exact Sem.wp_mono M Γ m (fun _ _ _ h' => h') (fun e p' s' h' => h' Γ p' hΓ) p s (h.at_ Γ p hΓ hc)
theorem wpC_run {c : Code} {h : Option Value} {Q : Flow → Shared → Prop}
    (hc : codeC M (A.mark h) c (fun r s' => match r with | .ok f => Q f s' | .error e => E e s') s) (hnb : h ≠ some byPass := by intro x; cases x) : wpC M A (run c h) Q E s :=
  wpC.mk fun Γ p hΓ hk => by rw [Sem.wp_run]; exact hc.at_ _ p rfl (hΓ.enter c h p hnb) (hk.enter c h p)
theorem wpC_runValue {c : Code} {Q : Value → Shared → Prop}
    (hc : codeC M A c (fun r s' => match r with | .ok (.ret v) => Q v s' | .ok _ => False | .error e => E e s') s) : wpC M A (runValue c) Q E s :=
  wpC.mk fun Γ p hΓ hk => by rw [Sem.wp_runValue]; exact hc.at_ _ p rfl (hΓ.enter c none p (by intro x; cases x)) (hk.enter c none p)
theorem wpC_call {f : Value} {pos : List Value} {kw : List (PySem.Str × Value)} {Q : Value → Shared → Prop}
    (hc : codeC M A (.call f ⟨pos, kw⟩) (fun r s' => match r with | .ok (.ret v) => Q v s' | .ok _ => False | .error e => E e s') s) : wpC M A (call f pos kw) Q E s := wpC_runValue hc
theorem codeC_of_tree {c : Code} {R : Result → Shared → Prop}
    (h : wpC M (A.under c) (M.den c) (fun fin s' => match fin with | .done f => R (.ok f) s' | .again c' => c'.quiet = true ∧ codeC M A c' R s') (fun e s' => R (.error e) s') s) : codeC M A c R s := codeC.mk fun Γ p hc hΓ hk => by
  rw [wpCode_iff_wp, hc]
  refine Sem.wp_mono M Γ _ (fun fin p' s' h' => ?_) (fun _ _ _ h' => h') p s (h.at_ Γ p (hc ▸ hΓ.in) hk.cal)
  cases fin with
  | done f => exact h'
  | again c' => exact ⟨h'.1, h'.2.at_ (Γ.goto c') p' rfl (hΓ.goto c') (hk.goto c')⟩
theorem codeC_loop {c : Code} {R : Result → Shared → Prop} (hq : c.quiet = true) (I : Nat → Shared → Prop)
    (turn : ∀ n s, I n s → wpC M (A.under c) (M.den c) (fun fin s' => match fin with
        | .done f => R (.ok f) s'
        | .again c' => (c' = c ∧ ∃ m, m < n ∧ I m s') ∨ (c'.quiet = true ∧ codeC M A c' R s')) (fun e s' => R (.error e) s') s)
    (n : Nat) (h : I n s) : codeC M A c R s := by
  induction n using Nat.strongRecOn generalizing s with
  | ind n ih =>
    refine codeC_of_tree (wpC_mono (turn n s h) (fun fin s' hf => ?_) fun _ _ h' => h')
    cases fin with
    | done f => exact hf
    | again c' =>
      rcases hf with ⟨rfl, m, hm, hI⟩ | hf
      · exact ⟨hq, ih m hm hI⟩
      · exact hf
theorem wpC_ite {c : Prop} [Decidable c] {a b : Sem α} {Q : α → Shared → Prop} (h : if c then wpC M A a Q E s else wpC M A b Q E s) : wpC M A (if c then a else b) Q E s := by split <;> simp_all
/-- with the caller on the stack a refusal is not marked -/
theorem wpC_mark {own : List String} {e : Value} {Q : Unit → Shared → Prop} (h : Q () s) : wpC M A (markTheRefusal own e) Q E s := wpC.mk fun Γ p hΓ hc => by
  have hm : pythonCodeMadeTheCall own (((Γ.code, p) :: Γ.below).map (·.1)) = false := by
    have h2 : (((Γ.code, p) :: Γ.below).map (·.1)).any Code.isCaller = true := by
      rw [List.map_cons, List.any_cons, List.any_map]
      rcases hc with hc | hc
      · rw [hc]; rfl
      · have : (List.any Γ.below (Code.isCaller ∘ fun x => x.1)) = true := hc
        rw [this]; exact Bool.or_true _
    generalize ((Γ.code, p) :: Γ.below).map (·.1) = l at h2 ⊢
    have h3 : ∀ x y : Bool, ((!(l.any Code.isCaller)) && x && y) = false := by intro x y; rw [h2]; rfl
    exact h3 _ _
  unfold markTheRefusal
  rw [Sem.wp_bind']
  show wp M Γ (if pythonCodeMadeTheCall own (((Γ.code, p) :: Γ.below).map (·.1)) = true then _ else _) _ _ p s
  rw [hm, if_neg (by decide)]
  exact h
end

section
variable {prog : Program} {w : World} {A : Around} {E : Value → Shared → Prop} {s : Shared} {env : Env}
theorem codeC_func {body : List Stmt} {R : Result → Shared → Prop}
    (h : wpC (model prog w) (A.deeper env) (execs body env) (fun f s' => R (.ok (.ret (match f with | .ret v => v | _ => .none))) s')
      (fun e s' => wpAny (model prog w) (A.deeper env) (leaving env e) (fun _ s'' => R (.error e) s'') (fun e' s'' => R (.error e') s'') s') s) :
    codeC (model prog w) A (.func body env) R s := by
  refine codeC_of_tree ?_
  show wpC _ (A.deeper env) (do point; match ← (execs body env).onRaise (leaving env) with | .ret v => ret v | _ => ret .none) _ _ s
  refine wpC_bindA (wpAny_point (wpC_bind (wpC_onRaise (wpC_mono h (fun f s' h' => ?_) fun _ _ h' => h'))))
  cases f <;> exact wpC_pure h'
theorem codeC_call_function {R : Result → Shared → Prop} {a : Addr} {args : Args} {o : Obj} {fd : FuncData} {body : List Stmt} (hroom : A.depth < recursionLimit)
    (ho : s.heap.get? a = some o) (hd' : o.data = .func fd) (hco : fd.scope.isCoroutine = false) (hgen : fd.scope.isGenerator = false) (hbody : fd.body = .stmts body) (hcd : s.heap.CodeRec fd.code fd.qualname)
    (h : wpAny (model prog w) A.in1 (bindArgs fd args) (fun binds s₁ =>
      wpAny (model prog w) A.in1 (newFunctionEnv fd.scope fd.globals fd.closure binds (fd.qualname ++ ".<locals>.") (some a) fd.code none fd.builtins)
        (fun env s₂ => s₂.heap.NoLimit ∧ codeC (model prog w) A (.func body env) R s₂) (fun e s' => R (.error e) s') s₁) (fun e s' => R (.error e) s') s) :
    codeC (model prog w) A (.call (.ref a) args) R s := by
  refine codeC_of_tree ?_
  show wpC _ A.in1 (callAny (.ref a) args) _ _ s
  simp only [callAny]
  refine wpC_bindA (wpAny_load ho ?_)
  obtain ⟨c, oc, vs, tq, hc, hoc, hdc, hq⟩ := hcd
  simp only [hd', callFunction, hco, hgen, hbody, hc]
  rw [hc] at h
  refine wpC_bindA (m := field (.ref c) 1) (wpAny_field hoc hdc hq (wpC_bindA (wpAny_pure ?_)))
  exact wpC_bindA (wpAny_mono h (fun binds s₁ h₁ => wpC_bindA (wpAny_mono h₁ (fun env s₂ h₂ => wpC_bindA (wpAny_enterFrame h₂.1 hroom
    (wpC_pure (And.intro rfl h₂.2)))) fun _ _ h' => h')) fun _ _ h' => h')
theorem codeC_call_def {R : Result → Shared → Prop} {a : Addr} {o : Obj} {fd : FuncData} {body : List Stmt} {args : Args} {binds : List (PySem.Str × Value)}
    (hroom : A.depth < recursionLimit) (ho : s.heap.get? a = some o) (hdata : o.data = .func fd) (hlim : s.heap.NoLimit) (hcd : s.heap.CodeRec fd.code fd.qualname)
    (hbody : fd.body = .stmts body) (hbind : BindsTo s fd args binds)
    (hcell : ∀ x ∈ fd.scope.names, x.2 ≠ .cell) (hloc : ∀ x ∈ binds, fd.scope.names.lookup x.1 = some .local)
    (h : ∀ h₀, h₀.Ns s.heap.objs.size (fun x => binds.reverse.lookup x) → (∀ b o, s.heap.get? b = some o → h₀.get? b = some o) →
      wpC (model prog w) (A.deeper (callEnv fd s.heap.objs.size a)) (execs body (callEnv fd s.heap.objs.size a)) (fun f s' => R (.ok (.ret (match f with | .ret v => v | _ => .none))) s')
        (fun e s' => wpAny (model prog w) (A.deeper (callEnv fd s.heap.objs.size a)) (leaving (callEnv fd s.heap.objs.size a) e) (fun _ s'' => R (.error e) s'') (fun e' s'' => R (.error e') s'') s')
        { s with heap := h₀, toks := s.toks + binds.length })
    (hco : fd.scope.isCoroutine = false) (hgen : fd.scope.isGenerator = false) (hk : fd.scope.kind = .function) :
    codeC (model prog w) A (.call (.ref a) args) R s := by
  refine codeC_call_function hroom ho hdata hco hgen hbody hcd (hbind _ _ _ _ ?_)
  refine wpAny_newFunctionEnv hcell hloc (fun h₀ hns₀ hsb₀ => ⟨hlim.fresh _ hsb₀, codeC_func (h h₀ hns₀ fun b o e => ?_)⟩) hk
  exact hsb₀.extBut b o (Nat.ne_of_lt (Heap.lt_size e)) (Heap.get?_push_of_some _ e)
theorem wpC_execs_cons {st : Stmt} {rest : List Stmt} {Q : Flow → Shared → Prop}
    (h : wpC (model prog w) A (exec st env) (fun f s' => match f with | .next => wpC (model prog w) A (execs rest env) Q E s' | f => Q f s') E s) : wpC (model prog w) A (execs (st :: rest) env) Q E s := wpC.mk fun Γ p hΓ hc => by
  rw [execs_cons, Sem.wp_bind']
  refine Sem.wp_mono _ Γ _ (fun f p' s' h' => ?_) (fun _ _ _ h' => h') _ _ (h.at_ Γ p hΓ hc)
  cases f <;> first | exact h'.at_ Γ p' hΓ hc | exact h'
theorem wpC_noted {α : Type} {m : Sem α} {Q : α → Shared → Prop} (h : wpC (model prog w) A m Q (notedBy (model prog w) A env E) s) : wpC (model prog w) A (m.onRaise fun x => do noteFrame x env; theTreesLotGoes x) Q E s :=
  wpC_onRaise (wpC_mono h (fun _ _ q => q) fun _ _ hx => wpAny_bind (wpAny_mono hx (fun _ _ e => wpAny_theTreesLotGoes e) fun _ _ e => e))
theorem wpC_passesOwn {α : Type} {t : Sem α} {Q : α → Shared → Prop} (hE : PassesOwn (model prog w) A env E) (h : wpC (model prog w) A t Q E s) : wpC (model prog w) A t Q (notedBy (model prog w) A env (cameBackBy (model prog w) A env E)) s :=
  wpC_mono h (fun _ _ x => x) hE
theorem codeC_forLoop_any {R : Result → Shared → Prop} {target : Expr} {it : Value} {body : List Stmt} (I : Nat → Shared → Prop)
    (turn : ∀ n s, I n s → wpAny (model prog w) A (pyNext it) (fun r s₁ => match r with
      | none => R (.ok .next) s₁
      | some v => wpAny (model prog w) A (letOwnedTupleGo target it v) (fun _ s₁' =>
          wpAny (model prog w) A (assign target env v) (fun _ s₂ => wpC (model prog w) A (execs body env) (fun f s₃ => match f with
            | .next | .cont => ∃ m, m < n ∧ I m s₃
            | .brk => R (.ok .next) s₃
            | .ret v => R (.ok (.ret v)) s₃) (notedBy (model prog w) A env fun e s' => R (.error e) s') s₂) (notedBy (model prog w) A env fun e s' => R (.error e) s') s₁') (notedBy (model prog w) A env fun e s' => R (.error e) s') s₁) (notedBy (model prog w) A env fun e s' => R (.error e) s') s)
    (n : Nat) (h : I n s) : codeC (model prog w) A (.forLoop target it body [] env) R s := by
  refine codeC_loop rfl I (fun n s hI => ?_) n h
  show wpC _ A ((forTurn target it body [] env).onRaise (fun x => do noteFrame x env; theTreesLotGoes x)) _ _ s
  refine wpC_noted ?_
  simp only [forTurn]
  refine wpC_bindA (wpAny_standAt (wpC_bindA (wpAny_onRaise (wpAny_mono (turn n s hI) (fun r s₁ h₁ => ?_) fun _ _ h' => wpAny_standAt h'))))
  cases r with
  | none => exact wpC_pure (.inr ⟨rfl, codeC_any (codeAny_block (wpAny_execs_nil h₁))⟩)
  | some v =>
    refine wpC_bindA (wpAny_mono h₁ (fun _ s₁' h₁' => ?_) fun _ _ h' => h')
    refine wpC_bindA (wpAny_mono h₁' (fun _ s₂ h₂ => wpC_bind (wpC_mono h₂ (fun f s₃ h₃ => ?_) fun _ _ h' => h')) fun _ _ h' => h')
    cases f with
    | next => exact wpC_pure (.inl ⟨rfl, h₃⟩)
    | cont => exact wpC_pure (.inl ⟨rfl, h₃⟩)
    | brk => exact wpC_pure h₃
    | ret v => exact wpC_pure h₃
theorem wpC_runOwn {c : Code} {Q : Flow → Shared → Prop} (hc : codeC (model prog w) A c (fun r s' => match r with | .ok f => Q f s' | .error e => cameBackBy (model prog w) A env E e s') s) : wpC (model prog w) A (runOwn c env) Q E s := by
  unfold runOwn
  refine wpC_onRaise (wpC_run (by rw [show A.mark none = A from rfl]; exact hc))
theorem wpC_For {target iter : Expr} {body : List Stmt} {pos : Pos} {Q : Flow → Shared → Prop}
    (h : wpAny (model prog w) A (eval iter env) (fun x s₁ => wpAny (model prog w) A (pyIter x) (fun it s₂ =>
      codeC (model prog w) A (.forLoop target it body [] env) (fun r s' => match r with | .ok f => Q f s' | .error e => cameBackBy (model prog w) A env E e s') s₂) E s₁) E s)
    (hs : ∀ x, foldedSetIterable iter env x = pure x := by intro _; rfl) : wpC (model prog w) A (exec (.For target iter body [] pos) env) Q E s := by
  rw [exec_For]
  exact wpC_bindA (wpAny_standAt (wpC_bindA (wpAny_mono h (fun x s₁ h₁ => wpC_bindA (wpAny_of_eq (hs x) (wpC_bindA (wpAny_standAt (wpC_bindA (wpAny_holding
    (wpAny_mono h₁ (fun it s₂ h₂ => wpC_runOwn h₂) fun _ _ h' => h'))))))) fun _ _ h' => h')))
theorem wpC_If {test : Expr} {body orelse : List Stmt} {pos : Pos} {Q : Flow → Shared → Prop}
    (h : wpAny (model prog w) A (isTrue test env (eval test env)) (fun b s₂ => if b then wpC (model prog w) A (execs body env) Q E s₂ else wpC (model prog w) A (execs orelse env) Q E s₂) E s) :
    wpC (model prog w) A (exec (.If test body orelse pos) env) Q E s := wpC.mk fun Γ p hΓ hc => by
  simp only [exec_If, Sem.wp_bind', Sem.wp_cmd_standAt]
  refine Sem.wp_mono _ Γ _ (fun b p₂ s₂ h₂ => ?_) (fun _ _ _ h' => h') _ _ (h Γ _ hΓ)
  cases b <;> exact h₂.at_ Γ p₂ hΓ hc
theorem wpC_Assign_Name {x : PySem.Str} {pos' pos : Pos} {value : Expr} {Q : Flow → Shared → Prop}
    (h : wpC (model prog w) A (eval value env) (fun v s₁ => wpAny (model prog w) A (storeName env x v) (fun _ => Q .next) E s₁) E s)
    (hs : swapsWith value (some (.Name x pos')) pos.line env = pure false := by rfl) : wpC (model prog w) A (exec (.Assign [.Name x pos'] value pos) env) Q E s := wpC.mk fun Γ p hΓ hc => by
  simp only [exec_Assign_Name env x pos' value pos hs, Sem.wp_bind', Sem.wp_cmd_standAt, Sem.wp_bindName, Sem.wp_pure']
  exact Sem.wp_mono _ Γ _ (fun v _ s₁ h₁ => h₁ Γ _ hΓ) (fun _ _ _ h' => h') _ _ (h.at_ Γ _ hΓ hc)
theorem wpC_Assign_Tuple {elts : List Expr} {k : Nat} {tpos pos : Pos} {value : Expr} {Q : Flow → Shared → Prop}
    (h : wpC (model prog w) A (eval value env) (fun v s₁ => wpAny (model prog w) A (assign (.Tuple elts k tpos) env v) (fun _ => Q .next) E s₁) E s)
    (hs : swapsWithSole [.Tuple elts k tpos] value pos.line env = pure false := by rfl)
    (hw : swappedStores [.Tuple elts k tpos] value env = pure none := by rfl) : wpC (model prog w) A (exec (.Assign [.Tuple elts k tpos] value pos) env) Q E s := by
  rw [exec_Assign]
  refine wpC_bindA (wpAny_standAt ?_)
  rw [hs]
  refine wpC_bindA (wpAny_pure ?_)
  rw [if_neg (by decide)]
  refine wpC_bind (wpC_mono h (fun v s₁ h₁ => ?_) fun _ _ x => x)
  rw [hw]
  refine wpC_bindA (wpAny_pure ?_)
  show wpC _ A (do assignAll v [assign (.Tuple elts k tpos) env]; pure .next) Q E s₁
  exact wpC_bindA (wpAny_mono h₁ (fun _ _ x => wpC_pure x) fun _ _ x => x)
theorem wpC_Try_except {body orelse : List Stmt} {h₀ : ExceptHandler} {hs : List ExceptHandler} {pos : Pos} {Q : Flow → Shared → Prop}
    (h : wpC (model prog w) A (execs body env) (fun f s₁ => match f with | .next => wpAny (model prog w) A (execs orelse env) Q E s₁ | f => Q f s₁)
      (fun e s₁ => wpAny (model prog w) A (noteFrame e env) (fun _ s₂ => wpAny (model prog w) A (setFlight e none) (fun _ s₃ => wpAny (model prog w) A (handleBy e env (h₀ :: hs)) Q E s₃) E s₂) E s₁) s) :
    wpC (model prog w) A (exec (.Try body (h₀ :: hs) orelse [] pos) env) Q E s := by
  rw [arm_exec_Try]
  refine wpC_bindA (wpAny_standAt ?_)
  unfold tryStmt
  simp only [List.isEmpty_nil, if_true, List.isEmpty_cons, Bool.false_and, Bool.false_eq_true, if_false]
  refine wpC_bind (wpC_attempt (wpC_mono h (fun f s₁ h₁ => ?_) fun e s₁ h₁ => ?_))
  · cases f <;> first | exact wpC_any h₁ | exact wpC_pure h₁
  · exact wpC_any (wpAny_bind (wpAny_mono h₁ (fun _ _ h₂ => wpAny_bind h₂) fun _ _ x => x))
theorem wpC_Call_Name {id : PySem.Str} {p pos : Pos} {args : List Expr} {Q : Value → Shared → Prop}
    (h : wpAny (model prog w) A (eval (.Name id p) env) (fun f s₁ => wpC (model prog w) A (callWith pos f [] (backTo pos (starEach args env)) []) Q E s₁) E s) :
    wpC (model prog w) A (eval (.Call (.Name id p) args [] pos) env) Q E s := by
  show wpC _ A (do callWith pos (← eval (.Name id p) env) [] (backTo pos (starEach args env)) (backToKw pos (keywordEach [] env))) Q E s
  exact wpC_bindA h
theorem wpC_callWith_function {pos : Pos} {a : Addr} {o : Obj} {fd : FuncData} {args : List (Bool × Sem Value)} {Q : Value → Shared → Prop}
    (h : wpAny (model prog w) A (evalArgs (.ref a) true args []) (fun x s₁ => (s₁.heap.get? a = some o ∧ o.data = .func fd) ∧ wpC (model prog w) A (call (.ref a) x.pos x.kw) Q E s₁) E s) :
    wpC (model prog w) A (callWith pos (.ref a) [] args []) Q E s := by
  unfold callWith
  refine wpC_bindA (wpAny_holding (wpAny_mono h (fun x s₁ h₁ => wpC_bindA (wpAny_standAt ?_)) fun _ _ x => x))
  have tail : ∀ {t : Sem Value}, wpC (model prog w) A t Q E s₁ → wpC (model prog w) A (t >>= fun r => holding [r] point >>= fun _ => pure r) Q E s₁ :=
    fun ht => wpC_bind (wpC_mono ht (fun r s₂ hr => wpC_bindA (wpAny_holding (wpAny_point (wpC_pure hr)))) fun _ _ x => x)
  cases hs : (args.any (·.1) || ([] : List (Option PySem.Str × Sem Value)).any (·.1.isNone)) <;>
    refine wpC_bindA (m := keeperOf (.ref a)) ?_ <;> unfold keeperOf <;>
    refine wpAny_bind (wpAny_load h₁.1.1 ?_) <;> rw [h₁.1.2] <;> refine wpAny_pure ?_
  · first
      | refine wpC_ite ?_
      | skip
    split <;> first
      | exact tail h₁.2
      | exact tail (by unfold callMarked; exact wpC_keep h₁.2)
  · first
      | exact tail (by unfold callMarked; exact wpC_keep h₁.2)
      | exact tail h₁.2
theorem wpC_callWith_type {pos : Pos} {T : String} {args : List (Bool × Sem Value)} {Q : Value → Shared → Prop} (hplain : args.any (·.1) = false)
    (h : wpAny (model prog w) A (evalArgs (.type T) true args []) (fun a s₁ => wpC (model prog w) A (call (.type T) a.pos a.kw) Q E s₁) E s) :
    wpC (model prog w) A (callWith pos (.type T) [] args []) Q E s := by
  unfold callWith
  refine wpC_bindA (wpAny_holding (wpAny_mono h (fun a s₁ h₁ => wpC_bindA (wpAny_standAt ?_)) fun _ _ x => x))
  simp only [hplain, List.any_nil, Bool.or_false]
  refine wpC_bindA (wpAny_pure ?_)
  exact wpC_bind (wpC_mono h₁ (fun r s₂ hr => wpC_bindA (wpAny_holding (wpAny_point (wpC_pure hr)))) fun _ _ x => x)
theorem codeC_builtin {R : Result → Shared → Prop} {id : String} {args : Args} {b : Builtin} (hb : entryFor table id = some b)
    (h : wpC (model prog w) (A.under (.builtin id args)) (b args)
      (fun fin s' => match fin with | .done f => R (.ok f) s' | .again c' => c'.quiet = true ∧ codeC (model prog w) A c' R s') (fun e s' => R (.error e) s') s) :
    codeC (model prog w) A (.builtin id args) R s := by
  refine codeC_of_tree ?_
  show wpC _ _ (match entryFor table id with | some b => b args | none => unsupported ((withoutEnding? id "#data").getD id)) _ _ s
  rw [hb]; exact h
end
end Mine
namespace Mine
open PySem PySem.W PySem.Calls PyProof.Rows PyProof.V PySem.Spec
/-- small steps of arithmetic, tried ahead of omega -/
theorem q0 {a K N : Nat} (h : a + K < N) : a < N := Nat.lt_of_le_of_lt (Nat.le_add_right a K) h
theorem q1 {a K N k : Nat} (h : a + K < N) (e : Nat.ble k K = true) : a + k < N := Nat.lt_of_le_of_lt (Nat.add_le_add_left (Nat.le_of_ble_eq_true e) a) h
theorem q2 {a K N i k : Nat} (h : a + K < N) (e : Nat.ble (i + k) K = true) : a + i + k < N := by rw [Nat.add_assoc]; exact q1 h e
theorem q3 {a K N i j k : Nat} (h : a + K < N) (e : Nat.ble (i + (j + k)) K = true) : a + i + j + k < N := by rw [Nat.add_assoc]; exact q2 h e
theorem q4 {a K N i k : Nat} (h : a + i + K < N) (e : Nat.ble k (i + K) = true) : a + k < N := by rw [Nat.add_assoc] at h; exact q1 h e
theorem b1 {a b c : Nat} (h : a ≤ b) (e : Nat.ble b c = true) : a ≤ c := Nat.le_trans h (Nat.le_of_ble_eq_true e)
theorem b2 {a b c : Nat} (h : a < b) (e : Nat.ble b c = true) : a < c := Nat.lt_of_lt_of_le h (Nat.le_of_ble_eq_true e)
theorem b3 {a b c d : Nat} (h : a = b) (k : b ≤ c) (e : Nat.ble c d = true) : a ≤ d := h ▸ b1 k e
theorem b4 {a b c : Nat} {d : Int} (h : a = b) (k : b ≤ c) (e : (c : Int) < d) : (a : Int) < d := Int.lt_of_le_of_lt (Int.ofNat_le.mpr (h ▸ k)) e
theorem b5 {a b : Nat} {d : Int} (k : a ≤ b) (e : (b : Int) < d) : (a : Int) < d := Int.lt_of_le_of_lt (Int.ofNat_le.mpr k) e
theorem b6 {a b : Nat} {d : Int} (k : a < b) (e : (b : Int) ≤ d) : (a : Int) < d := Int.lt_of_lt_of_le (Int.ofNat_lt.mpr k) e
theorem isFor {a b c d e} : Stmt.For a b c d e = Stmt.For a b c d e := rfl
theorem isTry {a b c d e} : Stmt.Try a b c d e = Stmt.Try a b c d e := rfl
theorem isRai {a b c} : Stmt.Raise a b c = Stmt.Raise a b c := rfl
theorem isAss {a b c} : Stmt.Assign a b c = Stmt.Assign a b c := rfl
theorem isIf {a b c d} : Stmt.If a b c d = Stmt.If a b c d := rfl
theorem isRet {a b} : Stmt.Return a b = Stmt.Return a b := rfl
theorem isExp {a b} : Stmt.Expr a b = Stmt.Expr a b := rfl
theorem isAug {a b c d} : Stmt.AugAssign a b c d = Stmt.AugAssign a b c d := rfl
theorem isDlt {a b} : Stmt.Delete a b = Stmt.Delete a b := rfl
section
variable {M : Model} {A : Around} {E : Value → Shared → Prop} {s : Shared} {env : Env}
theorem sFor {a b c d e} {Q : Flow → Shared → Prop} (h : wpAny M A (exec (.For a b c d e) env) Q E s) : wpAny M A (exec (.For a b c d e) env) Q E s := h
theorem sTry {a b c d e} {Q : Flow → Shared → Prop} (h : wpAny M A (exec (.Try a b c d e) env) Q E s) : wpAny M A (exec (.Try a b c d e) env) Q E s := h
theorem sRai {a b c} {Q : Flow → Shared → Prop} (h : wpAny M A (exec (.Raise a b c) env) Q E s) : wpAny M A (exec (.Raise a b c) env) Q E s := h
theorem sAss {a b c} {Q : Flow → Shared → Prop} (h : wpAny M A (exec (.Assign a b c) env) Q E s) : wpAny M A (exec (.Assign a b c) env) Q E s := h
theorem sIf {a b c d} {Q : Flow → Shared → Prop} (h : wpAny M A (exec (.If a b c d) env) Q E s) : wpAny M A (exec (.If a b c d) env) Q E s := h
theorem sRet {a b} {Q : Flow → Shared → Prop} (h : wpAny M A (exec (.Return a b) env) Q E s) : wpAny M A (exec (.Return a b) env) Q E s := h
theorem sExp {a b} {Q : Flow → Shared → Prop} (h : wpAny M A (exec (.Expr a b) env) Q E s) : wpAny M A (exec (.Expr a b) env) Q E s := h
theorem sAug {a b c d} {Q : Flow → Shared → Prop} (h : wpAny M A (exec (.AugAssign a b c d) env) Q E s) : wpAny M A (exec (.AugAssign a b c d) env) Q E s := h
theorem sDlt {a b} {Q : Flow → Shared → Prop} (h : wpAny M A (exec (.Delete a b) env) Q E s) : wpAny M A (exec (.Delete a b) env) Q E s := h
theorem sAlc {a x y z u c} {Q : Flow → Shared → Prop} (h : wpAny M A (exec (.Assign a (.ListComp x y z u) c) env) Q E s) : wpAny M A (exec (.Assign a (.ListComp x y z u) c) env) Q E s := h
theorem sUnr {a b c d e f} (h : UnrEndW a b c d e f) : UnrEndW a b c d e f := h
theorem sGm {a b c} {Q : Value × List Value → Shared → Prop} (h : wpAny M A (getMethod (.ref a) b c) Q E s) : wpAny M A (getMethod (.ref a) b c) Q E s := h
variable {Q : Value → Shared → Prop}
theorem sCal {f vs kw} (h : wpAny M A (PySem.call (.ref f) vs kw) Q E s) : wpAny M A (PySem.call (.ref f) vs kw) Q E s := h
theorem sLow {vs kw} (h : wpAny M A (PySem.call (.builtin "str.lower") vs kw) Q E s) : wpAny M A (PySem.call (.builtin "str.lower") vs kw) Q E s := h
theorem sRep {vs kw} (h : wpAny M A (PySem.call (.builtin "str.replace") vs kw) Q E s) : wpAny M A (PySem.call (.builtin "str.replace") vs kw) Q E s := h
theorem sJoi {vs kw} (h : wpAny M A (PySem.call (.builtin "str.join") vs kw) Q E s) : wpAny M A (PySem.call (.builtin "str.join") vs kw) Q E s := h
theorem sSum {vs kw} (h : wpAny M A (PySem.call (.builtin "sum") vs kw) Q E s) : wpAny M A (PySem.call (.builtin "sum") vs kw) Q E s := h
theorem sIdx {vs kw} (h : wpAny M A (PySem.call (.builtin "list.index") vs kw) Q E s) : wpAny M A (PySem.call (.builtin "list.index") vs kw) Q E s := h
theorem sLen {vs kw} (h : wpAny M A (PySem.call (.builtin "len") vs kw) Q E s) : wpAny M A (PySem.call (.builtin "len") vs kw) Q E s := h
theorem sApp {vs kw} (h : wpAny M A (PySem.call (.builtin "list.append") vs kw) Q E s) : wpAny M A (PySem.call (.builtin "list.append") vs kw) Q E s := h
theorem sSor {vs kw} (h : wpAny M A (PySem.call (.builtin "sorted") vs kw) Q E s) : wpAny M A (PySem.call (.builtin "sorted") vs kw) Q E s := h
theorem sIte {v} (h : wpAny M A (pyIter v) Q E s) : wpAny M A (pyIter v) Q E s := h
theorem sLc {a b c d} (h : wpAny M A (eval (.ListComp a b c d) env) Q E s) : wpAny M A (eval (.ListComp a b c d) env) Q E s := h
theorem sSub {x y a i} (h : wpAny M A (subscriptTail x y (.ref a) i) Q E s) : wpAny M A (subscriptTail x y (.ref a) i) Q E s := h
theorem sSubR {x y a i} (h : wpAny M A (subscriptTail x y (.ref a) (.ref i)) Q E s) : wpAny M A (subscriptTail x y (.ref a) (.ref i)) Q E s := h
theorem sNe {a b} (h : wpAny M A (compareOp .NotEq (.ref a) (.ref b)) Q E s) : wpAny M A (compareOp .NotEq (.ref a) (.ref b)) Q E s := h
theorem sEq {a b} (h : wpAny M A (compareOp .Eq (.ref a) (.ref b)) Q E s) : wpAny M A (compareOp .Eq (.ref a) (.ref b)) Q E s := h
theorem sIn {a b} (h : wpAny M A (compareOp .In (.ref a) (.ref b)) Q E s) : wpAny M A (compareOp .In (.ref a) (.ref b)) Q E s := h
theorem sAdd {a b} (h : wpAny M A (binaryOp .Add (.ref a) (.ref b)) Q E s) : wpAny M A (binaryOp .Add (.ref a) (.ref b)) Q E s := h
theorem sIad {a b} (h : wpAny M A (inplaceOp .Add (.ref a) (.ref b)) Q E s) : wpAny M A (inplaceOp .Add (.ref a) (.ref b)) Q E s := h
theorem sSet {a b v} {Q : Unit → Shared → Prop} (h : wpAny M A (setItem (.ref a) (.ref b) v) Q E s) : wpAny M A (setItem (.ref a) (.ref b) v) Q E s := h
theorem sSetA {a b v} {Q : Unit → Shared → Prop} (h : wpAny M A (setItem (.ref a) b v) Q E s) : wpAny M A (setItem (.ref a) b v) Q E s := h
theorem sDel {a b} {Q : Unit → Shared → Prop} (h : wpAny M A (delItem (.ref a) b) Q E s) : wpAny M A (delItem (.ref a) b) Q E s := h
theorem sNot {a} {Q : Unit → Shared → Prop} (h : wpAny M A (noteFrame a env) Q E s) : wpAny M A (noteFrame a env) Q E s := h
theorem sStP {v} {Q : Unit → Shared → Prop} (h : wpAny M A (storeName env (PySem.Str.ofString "pairs") v) Q E s) : wpAny M A (storeName env (PySem.Str.ofString "pairs") v) Q E s := h
end
/-- the end of a frame as a letter, the context and the frame's names as letters too -/
theorem opaqueU {M : Model} {A : Around} {E : Value → Shared → Prop} {s : Shared} {env : Env} {body : List Stmt} {P : Value → Shared → Prop}
    (h : ∀ Q : Value → Shared → Prop, (∀ v s', P v s' → Q v s') → let A' := A; let e := env; wpAny M A' (execs body e) (fun fl s' => Q (match fl with | .ret v => v | _ => .none) s') E s) :
    wpAny M A (execs body env) (fun fl s' => P (match fl with | .ret v => v | _ => .none) s') E s := h P fun _ _ x => x
theorem opaqueC {M : Model} {A : Around} {E : Value → Shared → Prop} {s : Shared} {env : Env} {body : List Stmt} {P : Value → Shared → Prop}
    (h : ∀ Q : Value → Shared → Prop, (∀ v s', P v s' → Q v s') → let A' := A; let e := env; wpC M A' (execs body e) (fun fl s' => Q (match fl with | .ret v => v | _ => .none) s') E s) :
    wpC M A (execs body env) (fun fl s' => P (match fl with | .ret v => v | _ => .none) s') E s := h P fun _ _ x => x
/-- the end of a loop's turn as a letter -/
theorem opaqueT {M : Model} {A : Around} {E : Value → Shared → Prop} {s : Shared} {env : Env} {body : List Stmt} {t : Expr} {v : Value} {P : Flow → Shared → Prop}
    (h : ∀ R : Flow → Shared → Prop, (∀ f s', P f s' → R f s') → wpAny M A (assign t env v) (fun _ s₂ => wpAny M A (execs body env) R E s₂) E s) :
    wpAny M A (assign t env v) (fun _ s₂ => wpAny M A (execs body env) P E s₂) E s := h P fun _ _ x => x
theorem opaqueTC {M : Model} {A : Around} {E : Value → Shared → Prop} {s : Shared} {env : Env} {body : List Stmt} {t : Expr} {v : Value} {P : Flow → Shared → Prop}
    (h : ∀ R : Flow → Shared → Prop, (∀ f s', P f s' → R f s') → wpAny M A (assign t env v) (fun _ s₂ => wpC M A (execs body env) R E s₂) E s) :
    wpAny M A (assign t env v) (fun _ s₂ => wpC M A (execs body env) P E s₂) E s := h P fun _ _ x => x
/-- the end of an element as a letter -/
theorem opaqueE {M : Model} {A : Around} {E : Value → Shared → Prop} {s : Shared} {t : Sem Value} {P : Value → Shared → Prop}
    (h : ∀ R : Value → Shared → Prop, (∀ f s', P f s' → R f s') → wpAny M A t R E s) : wpAny M A t P E s := h P fun _ _ x => x
theorem opaqueI {M : Model} {A : Around} {E : Value → Shared → Prop} {s : Shared} {t : Sem Bool} {u : Sem Value} {P1 : Value → Shared → Prop} {P2 : Shared → Prop}
    (h : ∀ (R1 : Value → Shared → Prop) (R2 : Shared → Prop), (∀ y s', P1 y s' → R1 y s') → (∀ s', P2 s' → R2 s') → wpAny M A t (fun ok s' => if ok = true then wpAny M A u R1 E s' else R2 s') E s) :
    wpAny M A t (fun ok s' => if ok = true then wpAny M A u P1 E s' else P2 s') E s := h P1 P2 (fun _ _ x => x) fun _ x => x
/-- the context and the frame's names as letters -/
theorem ctx_exec {M : Model} {A : Around} {E : Value → Shared → Prop} {s : Shared} {env : Env} {st : Stmt} {Q : Flow → Shared → Prop} (h : let A' := A; let e := env; wpAny M A' (exec st e) Q E s) : wpAny M A (exec st env) Q E s := h
theorem ctx_execC {M : Model} {A : Around} {E : Value → Shared → Prop} {s : Shared} {env : Env} {st : Stmt} {Q : Flow → Shared → Prop} (h : let A' := A; let e := env; wpC M A' (exec st e) Q E s) : wpC M A (exec st env) Q E s := h
theorem ctx_execs {M : Model} {A : Around} {E : Value → Shared → Prop} {s : Shared} {env : Env} {st : List Stmt} {Q : Flow → Shared → Prop} (h : let A' := A; let e := env; wpAny M A' (execs st e) Q E s) : wpAny M A (execs st env) Q E s := h
theorem ctx_execsC {M : Model} {A : Around} {E : Value → Shared → Prop} {s : Shared} {env : Env} {st : List Stmt} {Q : Flow → Shared → Prop} (h : let A' := A; let e := env; wpC M A' (execs st e) Q E s) : wpC M A (execs st env) Q E s := h
end Mine
namespace Mine
open PySem PySem.W PySem.Calls PyProof.Rows
open PySem.Sem (wp)
set_option maxRecDepth 100000
set_option maxHeartbeats 1000000

theorem cal_caller : Cal (⟨.builtin "claim.caller" {}, none, none, [], none⟩ : PySem.Ctx) := .inl rfl

theorem thread_C {prog : Program} {w : World} {t : Sem Fin} {s : Shared} {R : Result → Shared → Prop} (hreg : s.asleep)
    (h : wpC (model prog w) callerA t (fun fin s' => ∃ f, fin = .done f ∧ (R (.ok f) s' ∧ leftWithCleanup s'.gens = false)) (fun e s' => R (.error e) s' ∧ leftWithCleanup s'.gens = false) s) :
    ∃ n r s' s'', runN (denote table) prog w n s ⟨t, .builtin "claim.caller" {}, default, []⟩ = .halted (outcomeOf r) s' ∧
      schedN (denote table) prog w n (.single s ⟨t, .builtin "claim.caller" {}, default, []⟩) = .halted (outcomeOf r) s' ∧ s'.forget = s''.forget ∧ R r s'' := by
  have h' : wp (model prog w) ⟨.builtin "claim.caller" {}, none, none, [], none⟩ t (Sem.finPost (model prog w) ⟨.builtin "claim.caller" {}, none, none, [], none⟩ fun r s' => R r s' ∧ leftWithCleanup s'.gens = false)
      (fun e _ s' => R (.error e) s' ∧ leftWithCleanup s'.gens = false) default s :=
    Sem.wp_mono _ _ t (fun fin p' s' ⟨f, e, hf⟩ => by subst e; exact hf) (fun _ _ _ x => x) default s (h.at_ _ default caller_in cal_caller)
  obtain ⟨n, r, s₁, s₂, hs, hn, hfo, hR⟩ := wp_halts_full (M := model prog w) (R := R) hreg h'
  exact ⟨n, r, s₂, s₁, hn, hs, hfo, hR⟩

theorem callFrom_C {c : ClaimW} {tree : List Value → Sem Fin} {w : World} {s : Shared} {free : Addr → Prop} {gens : Prop} {kept : Heap → Prop} (hz : s.asleep) (hgens : s.gens = #[])
    (hspec : ∀ args, c.pre args = true → WData.layableAll args = true → ∀ ord : List DictEntry → List DictEntry, (∀ l, (ord l).Perm l) →
      ∃ vs s₁, layAllW c.records (classAt s.heap) w.params ord args s = some (vs, s₁) ∧
        wpC (model c.prog w) callerA (tree vs) (fun fin s' => ∃ f, fin = .done f ∧ (c.Ends s args vs s₁ (.ok f) s' ∧ s'.os = s.os ∧ AllBare s'.gens ∧ kept s'.heap))
          (fun e s' => c.Ends s args vs s₁ (.error e) s' ∧ s'.os = s.os ∧ AllBare s'.gens ∧ kept s'.heap) s₁) :
    c.CallFrom (fun vs => ⟨tree vs, .builtin "claim.caller" {}, default, []⟩) w free gens kept s := by
  intro args hpre hlay ord hord
  obtain ⟨vs, s₁, hlaid, hcode⟩ := hspec args hpre hlay ord hord
  have hal := layAllW_rest _ _ _ hlaid
  obtain ⟨k, r, s', s'', hrun, hsched, hfo, hcase, hos, hkp⟩ := thread_C (prog := c.prog) (w := w) (t := tree vs) (s := s₁)
    (R := fun r s' => c.Ends s args vs s₁ r s' ∧ s'.os = s.os ∧ kept s'.heap) (Shared.asleep_of_life hal.2.2.2 hz)
    (wpC_mono hcode (fun fin s' ⟨f, e, h1, h2, h3, h4⟩ => ⟨f, e, ⟨h1, h2, h4⟩, leftWithCleanup_false_of_bare h3⟩) fun e s' ⟨h1, h2, h3, h4⟩ => ⟨⟨h1, h2, h4⟩, leftWithCleanup_false_of_bare h3⟩)
  obtain ⟨eh, _, _, eo, _⟩ := Shared.forget_eq hfo
  have hcase := hcase.congr eh
  have hkp : kept s'.heap := by first | exact eh ▸ hkp | (rw [eh] at hkp; exact hkp) | (rw [← eh] at hkp; exact hkp)
  rw [← eo] at hos
  refine ⟨vs, s₁, hlaid, k, _, s', hsched, ?_, (fun _ i x hx => by rw [hgens] at hx; simp at hx), hkp, by rw [(runN_life _ _ _ hrun).trans hal.2.2.2], Shared.rest_eq hos⟩
  rcases hcase with ⟨v, rfl, d1, d2, d3, d4, d5⟩ | ⟨e, ob, cls, rfl, d1, d2, d3, d4, d5⟩
  · exact .inl ⟨v, rfl, d1, d2, d3, fun b o y _ => d4 b o y, d5⟩
  · exact .inr ⟨e, ob, cls, rfl, d1, d2, d3, d4, fun b o y _ => d5 b o y⟩

/-- what is asked of the law, in contexts with the claim's caller -/
noncomputable abbrev WalkC (q : Program) (loose : List PySem.Str) (XP : (PySem.Str → Option Value) → Heap → Prop) (YP : World → Heap → Prop) (r : RowW) (d : DefRec) : Prop :=
  ∀ (w : World) (s₀ s₁ : Shared) (mg mb : PySem.Str → Option Value), Ground q loose r.records XP w s₀ mg mb s₁.heap → YP w s₁.heap → ∀ (a : Addr) (o : Obj) (pm cd doc dV kV : Value), s₁.heap.get? a = some o →
    o.data = .func { docDef d.name d.params d.body d.scope pm cd doc with defaults := dV, kwdefaults := kV } → s₁.heap.CodeRec cd d.name → mg d.name = some (.ref a) → s₁.gens = #[] →
    ∀ (args : List WData) (vals : List Value) (as : List Addr), r.claim.pre args = true → WData.layableAll args = true → ReadsAllW r.records (classAt s₀.heap) s₁.heap vals args as → WellAll w.params s₁.heap vals args →
      wpC (model r.prog w) callerA (PySem.call (.ref a) vals) (fun v s' => GoodWG r.claim (classAt s₀.heap) (ExcName.means s₀.heap) args s₁ (.ok (.ret v)) s')
        (fun e s' => GoodWG r.claim (classAt s₀.heap) (ExcName.means s₀.heap) args s₁ (.error e) s') s₁

theorem holds_C {r : OpenRow} {q : Program} {loose : List PySem.Str} {Xt : Shared → Bool} {XP : (PySem.Str → Option Value) → Heap → Prop} {α : Type} {Yf : Shared → α} {Ya : World → α} {YP : World → Heap → Prop} {d : DefRec} {kwd : List (PySem.Str × Expr)} {N : Nat}
    (left : LeftO r.prog q loose Xt Yf Ya N) (hY : ∀ w s, Yf s = Ya w → YP w s.heap) (hYk : ∀ w h h', YP w h → (∀ b o, h.get? b = some o → h'.get? b = some o) → YP w h')
    (hX : ∀ s, Xt s = true → XP (s.heap.nsMap mainGlobals) s.heap) (hXk : ∀ mg h h', XP mg h → (∀ b o, h.get? b = some o → h'.get? b = some o) → XP mg h')
    (hdef : defOf q r.name = some (d, kwd)) (hp : r.prog.theDef r.name = some (d.params, d.body, d.scope)) (hk : kwWritten? d.params.kwonlyargs d.params.kw_defaults = some kwd) (hRf : ∀ s, Xt s = true → RecFacts r.records s.heap) (hwr : (!r.writes || r.records.isEmpty) = true)
    (k1 : r.wellSaid = true) (ok : (chainsOk q && opensWell r.prog && (frees r.toRowW && r.within.isEmpty)) = true) (hb : r.prog.bare) (hw : r.toRowW.promised)
    (call : WalkC q loose XP YP r.toRowW d) : r.Holds := by
  refine ⟨k1, hw, ?_⟩
  obtain ⟨ok, k5⟩ := Bool.and_eq_true_iff.mp ok
  obtain ⟨hch, o1⟩ := Bool.and_eq_true_iff.mp ok
  obtain ⟨k5, k6⟩ := Bool.and_eq_true_iff.mp k5
  obtain ⟨hsame, hu, ha, hap, hm⟩ := frees_parts k5
  refine ⟨⟨hb, o1, by show r.toRowW.makers.map _ = []; rw [hm]; rfl⟩, hw.witness, fun w => ⟨(left.behind hX hch w).1, fun s' hs' => ?_⟩⟩
  obtain ⟨s₀, hf, hg0, s, hT, hz, hgens, hg, G00, y⟩ := (left.behind (XP := fun mg h => XP mg h ∧ RecFacts r.records h) (fun s hs => ⟨hX s hs, hRf s hs⟩) hch w).2 s' hs'
  have G0 : Ground q loose [] XP w s (s.heap.nsMap mainGlobals) (s.heap.nsMap builtinsNs) s.heap := ⟨G00.T, G00.B, G00.D, G00.TE, G00.TD, G00.W, G00.X.1, G00.cls, G00.has, G00.apart, G00.once, G00.K⟩
  have RF := G00.X.2
  refine ⟨s₀, hf, hg0, s, hT, ?_, RF.1, RF.2.1, ?_⟩
  · intro n hn
    obtain rfl : n = r.name := by split at hn <;> simp_all
    exact pinned_of_view hg G0 hdef hp hk
  have hgens : s.gens = #[] := Array.eq_empty_of_size_eq_zero (beq_iff_eq.mp hgens)
  have G : Ground q loose r.records XP w s _ _ s.heap := RF.ground G0
  refine callFrom_C (c := r.toRowW.claim) hz hgens fun args hpre hlay ord hord => ?_
  obtain ⟨⟨vs, s₁⟩, hlaid⟩ := Option.isSome_iff_exists.mp (layAllW_isSome (P := w.params) (ord := ord) G.has args r.args s (pre_splitW hpre).1)
  have keeps := layAllW_keeps _ _ _ hlaid
  have hal := layAllW_rest _ _ _ hlaid
  obtain ⟨as, hrd, hin, hold⟩ := reads_layAllW hord _ _ _ hlaid hlay s₁.heap (fun _ _ e => e)
  have L : Laid r.records w s s₁ args vs as := ⟨⟨ord, hord, hlaid⟩, hrd, hin, hold, keeps, hal.1.trans hgens, hal.2.2.1⟩
  have G₁ := G.keeps hXk keeps
  obtain ⟨a, o, pm, cd, doc, dV, kV, h1, h2, h3, h4, h5⟩ := G₁.fn hdef
  have h := call w s s₁ _ _ G₁ (hYk _ _ _ (hY w s y) keeps) a o pm cd doc dV kV h2 h3 h4 (defOf_name hdef ▸ h1) L.gens args vs as hpre hlay L.reads L.well
  have hi := ident_freeW hu ha hap
  have hwi : r.toRowW.claim.within = [] := List.isEmpty_iff.mp k6
  refine ⟨vs, s₁, hlaid, wpC_bindA (wpAny_nsGet G₁.T.g ?_)⟩
  rw [h1]
  exact wpC_bind (wpC_mono h (fun v s' g => wpC_pure ⟨_, rfl, have z := g.laid (c := r.toRowW.claim) hsame hwi hi L; ⟨z.1, z.2.1, z.2.2, fun q => ⟨namesKept_of hT hg _ keeps g.2.1.old, noTable hwr q⟩⟩⟩)
    fun e s' g => have z := g.laid (c := r.toRowW.claim) hsame hwi hi L; ⟨z.1, z.2.1, z.2.2, fun q => ⟨namesKept_of hT hg _ keeps g.2.1.old, noTable hwr q⟩⟩)
/-- the part of the text that the top's facts speak of: the one line that opens it, and the law -/
noncomputable def qv : Program := { PySem.Challenge.pw_pg0211_01 with main := { (PySem.Challenge.pw_pg0211_01).main with body := [st 0, st 19] } }
noncomputable abbrev lo : List PySem.Str := ["_wall", "_twin_re_1", "_ver_stages", "_comparable_version", "tspecials", "_name_disallowed_re", "_value_disallowed_re", "_formatparam", "Headers", "_law_name", "_law_ranks", "_law_told", "_law_call", "_law_due", "_law_grown"]
noncomputable abbrev hk : Hook := kHook KK KA ka_eq
noncomputable abbrev rW : RowW := OpenRow.toRowW PySem.Challenge.rw_pg0211_01.row
noncomputable def stPos (s : Stmt) : Pos := by
  cases s
  case FunctionDef _ _ _ _ _ _ _ _ _ b => exact b
  all_goals exact default
noncomputable def dLaw : DefRec := { name := "law", params := ar19, body := bd19, scope := sc19, pos := stPos (st 19) }
noncomputable abbrev WalkLaw : Prop := WalkC qv lo (XL qv []) hk.says rW dLaw
theorem left_ok : LeftO rW.prog qv lo (fun s => xlAt qv [] s && recOk rW.records s) hk.obs hk.val 3300 := by
  refine LeftO.of_split "special-get-raises" (fun w => ?_)
  kernel_rfl
theorem said_ok : (PySem.Challenge.rw_pg0211_01).wellSaid = true := by kernel_rfl
theorem head (call : WalkLaw) : PySem.Challenge.rw_pg0211_01.Holds := by
  refine holds_law said_ok fun _ => ?_
  refine holds_C (q := qv) (loose := lo) (Xt := fun s => xlAt qv [] s && recOk rW.records s) (XP := XL qv []) (Yf := hk.obs) (Ya := hk.val) (YP := hk.says) (N := 3300) left_ok hk.of hk.keeps (fun s e => xl_of s (Bool.and_eq_true_iff.mp e).1) XL.keeps (by rfl) (by rfl) (by rfl) (fun s e => recFacts_of (Bool.and_eq_true_iff.mp e).2) (by rfl) (by first | assumption | decide +kernel) (by decide +kernel) ⟨rfl, rfl, rfl, rfl, rfl, by decide +kernel⟩ ?hw call
  case hw => w_witness2
end Mine
namespace Mine
open PySem PySem.W PySem.Calls PyProof.Rows PyProof.V PySem.Spec
set_option maxRecDepth 100000
set_option maxHeartbeats 1000000
noncomputable def TurnsC (prog : Program) (w : World) (A : Around) (env : Env) (target : Expr) (body : List Stmt) (Q : Flow → Shared → Prop) (E : Value → Shared → Prop) (it : Value) (s₂ : Shared) : Prop :=
  codeC (model prog w) A (.forLoop target it body [] env) (fun r s' => match r with | .ok f => Q f s' | .error e => cameBackBy (model prog w) A env E e s') s₂

/-- where a loop over a list stands -/
structure LedAt (L ax I n : Nat) (vs : List Value) (J : Nat → Heap → (PySem.Str → Option Value) → List (Addr × Obj) → Prop) (s : Shared) (k : Nat) (s' : Shared) (h' : Heap) (tk i : Nat) (g : Heap) (m : PySem.Str → Option Value) (nx : List (Addr × Obj)) : Prop where
  e : s' = { s with heap := h', toks := tk }
  it : h'.IsListIter I ax i
  li : h'.IsList ax vs.toArray
  F : Fr g L h' m
  N : News g L h' nx
  off : ∀ p ∈ nx, p.1 ≠ I
  mem : (ax, listOf vs.toArray n) ∈ nx
  new : g.get? I = none
  j : J i g m nx
  le : i ≤ vs.length
  meas : k = vs.length + 1 - i
noncomputable def LedInv (L ax I n : Nat) (vs : List Value) (J : Nat → Heap → (PySem.Str → Option Value) → List (Addr × Obj) → Prop) (s : Shared) (k : Nat) (s' : Shared) : Prop := ∃ h' tk i g m nx, LedAt L ax I n vs J s k s' h' tk i g m nx
section
variable {prog : Program} {w : World} {A : Around} {E : Value → Shared → Prop} {s : Shared} {env : Env} {target : Expr} {body : List Stmt} {Q : Flow → Shared → Prop}
theorem For_turnsC {iter : Expr} {pos : Pos}
    (h : wpAny (model prog w) A (eval iter env) (fun xv s₁ => wpAny (model prog w) A (pyIter xv) (fun it s₂ => TurnsC prog w A env target body Q E it s₂) E s₁) E s)
    (hs : ∀ x, foldedSetIterable iter env x = pure x := by intro _; rfl) :
    wpC (model prog w) A (exec (.For target iter body [] pos) env) Q E s := wpC_For h hs

/-- a loop over a list of the ledger, when the ground itself may be turned -/
theorem for_ledI {ax : Addr} {vs : List Value} {n : Nat} {m₀ : PySem.Str → Option Value} {news : List (Addr × Obj)} {g₀ : Heap} (J : Nat → Heap → (PySem.Str → Option Value) → List (Addr × Obj) → Prop)
    (hh : A.handled = none) (F : Fr g₀ env.locals s.heap m₀) (N : News g₀ env.locals s.heap news) (hm : (ax, listOf vs.toArray n) ∈ news) (hj : J 0 g₀ m₀ news)
    (turn : ∀ I oI i v g m nx h tk, (oI : Obj).cls = .type "list_iterator" → vs[i]? = some v → J i g m nx → (ax, listOf vs.toArray n) ∈ nx → (∀ p ∈ news, p.1 < I) → (∀ p ∈ nx, p.1 ≠ I) → Fr g env.locals h m → News g env.locals h ((I, oI) :: nx) →
      wpAny (model prog w) A (assign target env v) (fun _ s₂ => wpC (model prog w) A (execs body env)
        (UnrPostT env.locals { s with heap := h, toks := tk } I oI (fun g' m' nx' => (ax, listOf vs.toArray n) ∈ nx' ∧ J (i + 1) g' m' nx') Q) E s₂) E { s with heap := h, toks := tk })
    (done : ∀ g m nx h tk, J vs.length g m nx → Fr g env.locals h m → News g env.locals h nx → Q .next { s with heap := h, toks := tk })
    (hE : PassesOwn (model prog w) A env E) :
    wpAny (model prog w) A (pyIter (.ref ax)) (fun it s₂ => TurnsC prog w A env target body Q E it s₂) E s := by
  have hax := N _ hm
  have hl : s.heap.IsList ax vs.toArray := ⟨_, hax.1, rfl, n, rfl⟩
  have hlt : ax < s.heap.objs.size := Heap.lt_size hax.1
  have hne : ax ≠ s.heap.objs.size := Nat.ne_of_lt hlt
  refine wpAny_pyIter_list hl ?_
  generalize hI : s.heap.objs.size = I at hne hlt ⊢
  have hnI : ∀ p ∈ news, p.1 < I := fun p hp => hI ▸ Heap.lt_size (N p hp).1
  have hLI : env.locals ≠ I := hI ▸ Nat.ne_of_lt F.ns.lt
  have W := Walks.list (prog := prog) (w := w) (A := A) hh I ax hne vs.toArray
  have hsz : vs.toArray.size = vs.length := by simp
  unfold TurnsC
  refine codeC_forLoop_any (LedInv env.locals ax I n vs J s) ?_ (vs.length + 1) ⟨_, _, 0, g₀, m₀, news, ⟨rfl, ⟨_, hI ▸ Heap.get?_push_size _ rfl, rfl, rfl⟩, hl.at fun o e => Heap.get?_push_of_some _ e, F.push _, fun p hp => ⟨Heap.get?_push_of_some _ (N p hp).1, (N p hp).2⟩, fun p hp => Nat.ne_of_lt (hnI p hp), hm, hI ▸ next_is_new F, hj, Nat.zero_le _, rfl⟩⟩
  rintro k s' ⟨h', tk, i, g, m, nx, P⟩
  obtain rfl := P.e
  obtain rfl := P.meas
  have next : ∀ h₁ : Heap, (∀ b o, b ∉ [I] → h'.get? b = some o → h₁.get? b = some o) → Fr g env.locals h₁ m ∧ News g env.locals h₁ nx := fun h₁ hk₁ =>
    ⟨⟨P.F.ns.at' fun o e => hk₁ _ o (fun q => hLI (List.mem_singleton.mp q)) e, fun b o e => hk₁ b o (fun q => by rw [List.mem_singleton.mp q, P.new] at e; cases e) (P.F.keep b o e), P.F.above⟩, fun p hp => ⟨hk₁ _ _ (fun q => P.off p hp (List.mem_singleton.mp q)) (P.N p hp).1, (P.N p hp).2⟩⟩
  by_cases hlt' : i < vs.length
  · refine W.item i _ _ _ (hsz ▸ hlt') ⟨P.it, P.li⟩ fun v h₁ tk₁ hv hst₁ hk₁ => ?_
    refine letGo_listiter hst₁.1 ?_
    obtain ⟨F₁, N₁⟩ := next h₁ hk₁
    obtain ⟨oI, hoI, hoc, hod⟩ := hst₁.1
    have hv' : vs[i]? = some v := by simpa using hv
    have N₂ : News g env.locals h₁ ((I, oI) :: nx) := fun p hp => by
      rcases List.mem_cons.mp hp with rfl | hp
      · exact ⟨hoI, Ne.symm hLI, P.new⟩
      · exact N₁ p hp
    have hlt2 : vs.length + 1 - (i + 1) < vs.length + 1 - i := by omega
    refine wpAny_mono (turn I oI i v g m nx h₁ tk₁ hoc hv' P.j P.mem hnI P.off F₁ N₂) (fun _ s₂ h₂ => wpC_mono (wpC_passesOwn hE h₂) (fun f s₃ h₃ => ?_) fun _ _ x => x) hE
    have fin : UnrEndT env.locals { s with heap := h₁, toks := tk₁ } I oI (fun g' m' nx' => (ax, listOf vs.toArray n) ∈ nx' ∧ J (i + 1) g' m' nx') s₃ → ∃ m_1, m_1 < vs.length + 1 - i ∧ LedInv env.locals ax I n vs J s m_1 s₃ := by
      rintro ⟨g', hp₃, tk₃, m', nx', rfl, F₃, N₃, off, hm₃, hJ₃⟩
      exact ⟨_, hlt2, hp₃, tk₃, i + 1, g', m', nx', ⟨rfl, ⟨oI, (N₃ _ (.head _)).1, hoc, hod⟩, ⟨_, (N₃ _ (.tail _ hm₃)).1, rfl, n, rfl⟩, F₃, fun p hp => N₃ p (.tail _ hp), off, hm₃, (N₃ _ (.head _)).2.2, hJ₃, hlt', rfl⟩⟩
    cases f with
    | ret v => exact h₃
    | brk => exact h₃
    | next => exact fin h₃
    | cont => exact fin h₃
  · have hin : i = vs.length := Nat.le_antisymm P.le (Nat.not_lt.mp hlt')
    subst hin
    refine W.done _ _ _ (hsz ▸ ⟨P.it, P.li⟩) fun h₁ tk₁ hk₁ => ?_
    obtain ⟨F₁, N₁⟩ := next h₁ hk₁
    exact done g m nx h₁ tk₁ P.j F₁ N₁
theorem for_ledC {ax : Addr} {vs : List Value} {n : Nat} {m₀ : PySem.Str → Option Value} {news : List (Addr × Obj)} {g₀ : Heap} (J : Nat → Heap → (PySem.Str → Option Value) → List (Addr × Obj) → Prop)
    (hh : A.handled = none) (F : Fr g₀ env.locals s.heap m₀) (N : News g₀ env.locals s.heap news) (hm : (ax, listOf vs.toArray n) ∈ news) (hj : J 0 g₀ m₀ news)
    (turn : ∀ I oI i v g m nx h tk, vs[i]? = some v → J i g m nx → (ax, listOf vs.toArray n) ∈ nx → (∀ p ∈ news, p.1 < I) → (∀ p ∈ nx, p.1 ≠ I) → Fr g env.locals h m → News g env.locals h ((I, oI) :: nx) →
      wpAny (model prog w) A (assign target env v) (fun _ s₂ => wpC (model prog w) A (execs body env)
        (UnrPostT env.locals { s with heap := h, toks := tk } I oI (fun g' m' nx' => (ax, listOf vs.toArray n) ∈ nx' ∧ J (i + 1) g' m' nx') Q) E s₂) E { s with heap := h, toks := tk })
    (done : ∀ g m nx h tk, J vs.length g m nx → Fr g env.locals h m → News g env.locals h nx → Q .next { s with heap := h, toks := tk })
    (hE : PassesOwn (model prog w) A env E) :
    wpAny (model prog w) A (pyIter (.ref ax)) (fun it s₂ => TurnsC prog w A env target body Q E it s₂) E s :=
  for_ledI J hh F N hm hj (fun I oI i v g m nx h tk _ => turn I oI i v g m nx h tk) done hE
end

/-- what a call of f upon vs gives back, when a fault may have been caught on the way: the frames below may be turned -/
noncomputable def GivesC (w : World) (f : Addr) (dd uu : Nat) (vs : List Value) (news : List (Addr × Obj)) (Out : List (Addr × Obj) → Value → Prop) : Prop :=
  ∀ (p : Program) (loose : List PySem.Str) (mean : ExcName → Option Value) (mg mb : PySem.Str → Option Value)
    (dp un : Nat) (gd : Option (List Code)) (cn : PySem.Str) (cs : Scope) (a : Addr) (ccd : Value) (cl : List (PySem.Str × Addr)) (outer : List Env) (A₀ : Around) (base h₀ : Heap) (L : Addr) (m : PySem.Str → Option Value) (s : Shared) (Q E : Value → Shared → Prop),
    Below A₀ base outer h₀ → Fr h₀ L s.heap m → (KK w.params).In base → News h₀ L s.heap news → Top p loose mean mg mb base → KtsDicts (frs outer) h₀ → cs.kind = .function → dp + dd < recursionLimit → un + uu < cLine →
    (∀ r tl g' h' tk', KtsTurn (frs outer) h₀ g' → Below A₀ base outer g' → KtsDicts (frs outer) g' → Fr g' L h' m → News g' L h' (tl ++ news) → (∀ q ∈ news, ∀ p ∈ tl, q.1 < p.1) → Out (tl ++ news) r → Q r { s with heap := h', toks := tk' }) →
    wpC (model PR w) (ktrTop dp un gd cn cs L a ccd cl outer) (call (.ref f) vs) Q E s

noncomputable def BodyC (w : World) (f : Addr) (qual : PySem.Str) (scope : Scope) (cdv : Value) (body : List Stmt) (dd uu : Nat) (binds : List (PySem.Str × Value)) (news : List (Addr × Obj)) (Out : List (Addr × Obj) → Value → Prop) : Prop :=
  ∀ (p : Program) (loose : List PySem.Str) (mean : ExcName → Option Value) (mg mb : PySem.Str → Option Value) (dp un : Nat) (gd : Option (List Code)) (outer : List Env) (base g : Heap) (L : Addr) (h₁ : Heap) (s : Shared) (tk : Nat),
    Below (aro dp un gd outer) base outer g → Fr g L h₁ (fun y => binds.reverse.lookup y) → (KK w.params).In base → News g L h₁ news → Top p loose mean mg mb base → KtsDicts (frs outer) g → (∀ q ∈ news, q.1 < L) → dp + 1 + dd < recursionLimit → un + 3 + uu < cLine →
    wpC (model PR w) (ktrTop (dp + 1) (un + 3) gd qual scope L f cdv [] outer) (execs body (envX qual scope L f cdv [])) (fun fl s' => RetT outer g L news Out s (match fl with | .ret v => v | _ => .none) s') (fun _ _ => False) { s with heap := h₁, toks := tk }

theorem gives_turnC {w : World} {f : Addr} {name qual : PySem.Str} {params : Arguments} {body : List Stmt} {scope : Scope} {dV kV doc pm cdv ct oc : Value} {an od : Option Addr} {osl : Array (Option Value)} {dd uu : Nat} {vs : List Value} {news : List (Addr × Obj)} {Out : List (Addr × Obj) → Value → Prop}
    (binds : List (PySem.Str × Value)) (ho : ∀ P, (KK P).lookup f = some ⟨oc, od, .func (fnOf name qual params body scope dV kV doc pm an cdv ct), osl⟩) (hcd : ∀ P, codeIn (KK P) cdv qual = true)
    (hbind : ∀ (s : Shared), (KK w.params).In s.heap → BindsTo s (fnOf name qual params body scope dV kV doc pm an cdv ct) ⟨vs, []⟩ binds) (hloc : (binds.all fun x => decide (scope.names.lookup x.1 = some .local)) = true)
    (hco : scope.isCoroutine = false) (hgen : scope.isGenerator = false) (hk : scope.kind = .function) (hcell : (scope.names.all fun x => decide (x.2 ≠ .cell)) = true)
    (h : BodyC w f qual scope cdv body dd uu binds news Out) : GivesC w f (dd + 1) (uu + 3) vs news Out := by
  unfold GivesC
  intro p loose mean mg mb dp un gd cn cs a ccd cl outer A₀ base h₀ L m s Q E B F XB N TB D hkc hd hu ret
  have X₀ : (KK w.params).In h₀ := XB.keeps B.stays
  have T₀ := TB.keeps B.stays
  have hke : (envX cn cs L a ccd cl).scope.kind = .function := hkc
  obtain ⟨FG, BG, st, _⟩ := groundX (R := fun _ _ => True) (A := ktrTop dp un gd cn cs L a ccd cl outer) (env := envX cn cs L a ccd cl) B F N rfl rfl hke
  obtain ⟨oL, es, ep, hL, hLd, hLk, hLf⟩ := FG.ns
  refine wpC_call (codeC_call_def (fd := fnOf name qual params body scope dV kV doc pm an cdv ct) (body := body) (binds := binds) (by show dp < recursionLimit; omega) ((X₀.keeps F.keep) _ _ (ho _)) rfl (T₀.nolimit.keeps F.keep) (codeRec_of (X₀.keeps F.keep) (hcd _)) rfl
    (hbind s (X₀.keeps F.keep)) (fun x hx => of_decide_eq_true (List.all_eq_true.mp hcell x hx)) (locs hloc) (fun h₁ hns hk₁ => ?_) hco hgen hk)
  have DG : KtsDicts (frs (envX cn cs L a ccd cl :: outer)) (hideAll s.heap (news.map (·.1))) := fun b hb => by
    rcases mem_frs (env := envX cn cs L a ccd cl) rfl hb with rfl | hb
    · exact ⟨oL, es, ep, hL, hLd⟩
    · obtain ⟨o, es', n', ho', hd'⟩ := D b hb
      exact ⟨o, es', n', st b o ho', hd'⟩
  refine wpC_mono (h p loose mean mg mb dp un gd (envX cn cs L a ccd cl :: outer) base _ s.heap.objs.size h₁ s _ ⟨rfl, BG.stays, BG.frames⟩ ⟨hns, fun b o e => hk₁ b o (of_hideAll _ e), Nat.le_of_eq (hideAll_size _ _)⟩ XB
    (fun p hp => ⟨hk₁ _ _ (N p hp).1, Nat.ne_of_lt (Heap.lt_size (N p hp).1), hideAll_none _ (List.mem_map_of_mem hp)⟩) TB DG (fun p hp => Heap.lt_size (N p hp).1) (by omega) (by omega)) (fun fl s' hr => ?_) fun _ _ x => x.elim
  obtain ⟨g', m', tl, h', tk', rfl, T', F', N', ord, out⟩ := hr
  have nL₀ : h₀.get? L = none := kts_self F
  obtain ⟨sl, hs⟩ := T'.up hL
  obtain ⟨T₁, S₁⟩ := kts_turn_at (h := h') (fs := frs outer) (g := h₀)
    (fun b hb => by
      obtain ⟨_, o, ho', _⟩ := B.frames.mem hb
      exact ⟨o, ho'⟩)
    (fun b o e nmem => F'.keep b o (T'.other b o (st b o e) (fun q => by
      rcases mem_frs (env := envX cn cs L a ccd cl) rfl q with z | z
      · rw [z, nL₀] at e
        cases e
      · exact nmem z)))
    (fun b o e hm => by
      obtain ⟨sl', hs'⟩ := T'.up (st b o e)
      exact ⟨sl', F'.keep _ _ hs'⟩)
  have B₃ : Below A₀ base outer (ktsHeap h' (frs outer) h₀) := ⟨B.stack, fun b o e => T₁.other b o (B.stays b o e) (fun hm => by
    rw [(B.frames.mem hm).1] at e
    cases e), B.frames.of_keeps fun b o e _ => by
    obtain ⟨sl', hs'⟩ := T₁.up e
    exact ⟨_, hs', rfl⟩⟩
  refine ret _ tl _ h' tk' T₁ B₃ (D.turn T₁) ⟨⟨_, es, ep, F'.keep _ _ hs, hLd, hLk, hLf⟩, S₁, by rw [T₁.size]; exact F.above⟩ (fun p hp => ⟨(N' p hp).1, fun q => ?_, ?_⟩) ord out
  · have := (N' p hp).2.2; rw [q, hs] at this; cases this
  · refine T₁.none_ _ ?_
    cases q : h₀.get? p.1 with
    | none => rfl
    | some o =>
      obtain ⟨sl', hs'⟩ := T'.up (st _ _ q)
      have := (N' p hp).2.2
      rw [hs'] at this
      cases this
end Mine
namespace Mine
open PySem PySem.W PySem.Calls PyProof.Rows PyProof.V PySem.Spec
local macro_rules | `(tactic| walk_at "exec") => `(tactic| (plain_pass; (fail_if_success (with_reducible first | refine sAss ?_ | refine sFor ?_ | refine sIf ?_ | refine sRet ?_ | refine sExp ?_ | refine sAug ?_ | refine sTry ?_ | refine sDlt ?_ | refine sRai ?_)); (with_reducible refine' open_stmt ?oe ?_); (case oe => first | exact isAss | exact isFor | exact isIf | exact isRet | exact isExp | exact isAug | exact isTry | exact isDlt | exact isRai)))
local macro_rules | `(tactic| walk_at "enter") => `(tactic| ((case ho => (intro P; k_is)); (case hcd => (intro P; k_is)); (case hbind => (intro s X; exact BindsTo.of_eq rfl)); (case hloc => exact rfl); (case hco => exact rfl); (case hgen => exact rfl); (case hk => exact rfl); (case hcell => exact rfl)))
local macro_rules | `(tactic| k_all) => `(tactic| first | (refine allLt_ne ?_; with_reducible assumption) | (refine all_lt_ne ?_; with_reducible assumption) | exact List.forall_mem_nil _ | (refine' List.forall_mem_cons.mpr ⟨?a, ?b⟩; (case a => k_ne); (case b => k_all)))
local macro_rules | `(tactic| walk_at "subscriptTail Name Name ref int") => `(tactic| (k_here; (with_reducible show wpAny _ _ (subscriptTail _ _ (Value.ref _) (Value.int _ _)) _ _ _); k_dflt (refine' item_dat ?N ?m ?d ?h0 ?h1 ?hl ?_ ?hs ?hg; (case N => k_asm); (case m => k_mem); (case d => assumption); (case h0 => omega); (case h1 => omega); (case hl => omega); (case hs => with_unfolding_all rfl); (case hg => (intro _; with_unfolding_all rfl)); k_whole); intro v' d' hd' hv' hw'))
local macro_rules | `(tactic| walk_at "inplaceOp Add ref ref") => `(tactic| (k_here; (with_reducible show wpAny _ _ (inplaceOp Operator.Add (Value.ref _) (Value.ref _)) _ _ _); k_dflt (refine' iadd_list ?F ?N ?b ?z ?e ?U ?sz ?_; (case F => k_asm); (case N => k_asm); (case b => k_mem); (case z => exact rfl); (case e => exact Nat.succ_ne_zero _); (case U => k_upd); (case sz => ((try simp only [List.length_cons, List.length_nil]); omega)); k_whole); intro h' F' N'; (try k_sweep)))
local macro_rules | `(tactic| k_mem) => `(tactic| ((show _ ∈ _); with_reducible assumption))
local macro_rules | `(tactic| walk_at "w1") => `(tactic| first | (k_unfold; (try dsimp only)) | walk1 | (dsimp only; walk1))
local macro_rules | `(tactic| walk_at "w2") => `(tactic| first | (k_unfold; (try dsimp only)) | (dsimp only; walk1) | walk1)
local macro_rules | `(tactic| walk_at "compareOp In str str") => `(tactic| (k_here; refine in_strB ?_))
local macro_rules | `(tactic| walk_at "my len") => `(tactic| ((try simp only [PySem.Str.length_append]); omega))
local macro_rules | `(tactic| walk_at "binaryOp Add str str") => `(tactic| (k_here; (refine' PyProof.Rows.add_str ?_ ?z); rotate_left; (with_reducible show _ ≤ _); ((try simp only [PySem.Str.length_append]); simp only [sizeLine_eq]; omega); (intro _ _)))
local macro_rules | `(tactic| walk_at "inplaceOp Add str str") => `(tactic| (k_here; (refine' PyProof.Rows.iadd_str ?_ ?z); rotate_left; (with_reducible show _ ≤ _); ((try simp only [PySem.Str.length_append]); simp only [sizeLine_eq]; omega); (intro _ _)))
local macro_rules | `(tactic| walk_at "my item str") => `(tactic| (k_here; (with_reducible show wpAny _ _ (subscriptTail _ _ (Value.str _ _) (Value.int _ _)) _ _ _); (refine' item_strI ?h1 ?h2 ?hr ?_ ?hs ?hg; (case h1 => walk_at "my len"); (case h2 => walk_at "my len"); (case hr => walk_at "my len"); (case hs => with_unfolding_all rfl); (case hg => (intro _; with_unfolding_all rfl))); intro tk' tk'' hlen'))
local macro_rules | `(tactic| walk_at "subscriptTail Name UnaryOp str int") => `(tactic| walk_at "my item str")
local macro_rules | `(tactic| walk_at "subscriptTail Name Constant str int") => `(tactic| walk_at "my item str")
local macro_rules | `(tactic| walk_at "subscriptTail Constant str Name str int") => `(tactic| walk_at "my item str")
local macro_rules | `(tactic| walk_at "as") => `(tactic| (with_reducible assumption))
local macro_rules | `(tactic| omega) => `(tactic| first | (with_reducible exact Nat.le_of_ble_eq_true rfl) | (refine q1 ?_ ?_; walk_at "as"; exact rfl) | (refine q2 ?_ ?_; walk_at "as"; exact rfl) | (refine q0 ?_; walk_at "as") | (refine b1 ?_ ?_; walk_at "as"; exact rfl) | (refine b3 ?_ ?_ ?_; walk_at "as"; walk_at "as"; exact rfl) | (refine b5 ?_ ?_; walk_at "as"; decide) | (refine b4 ?_ ?_ ?_; walk_at "as"; walk_at "as"; decide))
section TRanks
open PySem PySem.W PySem.Calls PyProof.Rows PyProof.V PySem.Spec
set_option maxRecDepth 100000
set_option maxHeartbeats 2000000
set_option pp.maxSteps 12000

local macro_rules | `(tactic| walk_at "eval List cons") => `(tactic| (k_here; k_dflt (first
  | (refine' list_consts partL ?F ?N ?c ?l ?_; (case c => repeat' constructor); (case F => k_asm); (case N => k_asm); (case l => decide))
  | (refine' list_consts (rankL.map .int) ?F ?N ?c ?l ?_; (case c => repeat' constructor); (case F => k_asm); (case N => k_asm); (case l => decide))
  | (refine' list_consts (rowD []) ?F ?N ?c ?l ?_; (case c => repeat' constructor); (case F => k_asm); (case N => k_asm); (case l => decide))); intro l' vs' h' tk' hd' F' N' l1; (try k_lt l1); (try k_sweep)))
theorem ranks_ok (w : World) (news : List (Addr × Obj)) (l : Addr) (cs : List Nat) (hc : ∀ c ∈ cs, c < 14) (hlen : cs.length ≤ 100) (hl : DatIn news (.ref l) (codesD cs)) :
    Gives w 215 5 50 [.ref l] news (fun all r => DatIn all r (.list (rowD cs))) := by
  refine' gives_plain (dd := 4) (uu := 47) [("codes", .ref l)] ?ho ?hcd ?hbind ?hloc ?hco ?hgen ?hk ?hcell ?_
  walk_at "enter"
  intro p loose mean mg mb dp un gd outer A₀ base g L h₁ s tk B F X N T lt hd hu
  simp only [List.reverse_cons, List.reverse_nil, List.nil_append] at F
  refine opaqueU ?_
  intro QQ hQ AA ee
  (repeat' ((fail_if_success (with_reducible first | refine sFor ?_)); walk_at "w1"))
  (rename Fr _ _ _ _ => F1); (rename News _ _ _ _ => N1); (rename Heap => h2)
  obtain ⟨cv, cn, hcm, hcv⟩ := dat_list_inv hl
  obtain ⟨lr, lp, lk, rv, pv, kv, hr, hpv, hkv, F2, N2, o1, o2, o3, o4, o5, o6⟩ : ∃ (lr lp lk : Nat) (rv pv kv : List Value), DatAll [] rv (rowD []) ∧ DatAll [] pv partL ∧ DatAll [] kv (rankL.map .int) ∧
      Fr g L h2 (fun y => if y = "row" then some (.ref lr) else if y = "parts" then some (.ref lp) else if y = "ranks" then some (.ref lk) else List.lookup y [("codes", .ref l)]) ∧
      News g L h2 ((lr, listOf rv.toArray 0) :: (lp, listOf pv.toArray 0) :: (lk, listOf kv.toArray 0) :: news) ∧ lp < lr ∧ lk < lr ∧ lk < lp ∧ AllLt lk news ∧ AllLt lp news ∧ AllLt lr news := by
    refine ⟨_, _, _, _, _, _, ?_, ?_, ?_, F1, N1, ?_, ?_, ?_, ?_, ?_, ?_⟩
    iterate 3 assumption
    all_goals first | omega | exact allLt_of (by assumption) | (simp_all; done)
  clear F1 N1
  have hpl : partL.length = 14 := rfl
  have hkl : (rankL.map Dat.int).length = 14 := rfl
  refine For_turns F2 ?_
  walk1
  refine for_led (fun i m nx => ∃ u rs k, m = fixM [("row", .ref lr), ("parts", .ref lp), ("ranks", .ref lk)] u ∧
      nx = (lr, listOf rs.toArray k) :: (lp, listOf pv.toArray 0) :: (lk, listOf kv.toArray 0) :: news ∧ DatAll [] rs (rowD (cs.take i))) rfl F2 N2 (.tail _ (.tail _ (.tail _ hcm)))
      ⟨_, _, _, fix_of _ (List.forall_mem_cons.mpr ⟨rfl, List.forall_mem_cons.mpr ⟨rfl, List.forall_mem_cons.mpr ⟨rfl, List.forall_mem_nil _⟩⟩⟩), rfl, hr⟩ ?_ ?_
  · intro I oI i v m nx h tk hv hJ hax hI hne F N
    refine opaqueT ?_
    intro RR hR
    obtain ⟨u, rs, k, rfl, rfl, hrs⟩ := hJ
    obtain ⟨d, hd', hvd⟩ := dat_at hcv hv
    obtain ⟨c, hci, rfl⟩ : ∃ c, cs[i]? = some c ∧ d = .int (c : Int) := by
      rw [List.getElem?_map] at hd'
      obtain ⟨c, a, b⟩ := Option.map_eq_some_iff.mp hd'
      exact ⟨c, a, b.symm⟩
    obtain ⟨tc, rfl⟩ := int_of_dat hvd
    have hc14 : c < 14 := hc c (List.mem_of_getElem? hci)
    have hrl : rs.length ≤ 2 + 2 * 100 := by
      rw [hrs.length, rowD_length, List.length_take]; omega
    have i1 : lr < I := hI (lr, _) (by k_mem)
    have i2 : lp < I := hI (lp, _) (by k_mem)
    have i3 : lk < I := hI (lk, _) (by k_mem)
    have i4 : AllLt I news := allLt_of fun p hp => hI p (.tail _ (.tail _ (.tail _ hp)))
    (repeat' ((fail_if_success (with_reducible first | refine sFor ?_)); walk_at "w1"))
    rename_i v1 d1 hd1 hv1 hw1 v2 d2 hd2 hv2 hw2 l1 h1' o1' h2' h3 F3 N3
    refine hR _ _ ?_; refine unr_end _ F3 (fun p hp => N3 p (.tail _ hp)) (by k_all) ⟨.tail _ (.tail _ (.tail _ hcm)), _, _, _, fix_of _ (List.forall_mem_cons.mpr ⟨rfl, List.forall_mem_cons.mpr ⟨rfl, List.forall_mem_cons.mpr ⟨rfl, List.forall_mem_nil _⟩⟩⟩), rfl, ?_⟩
    rw [take_snoc hci, rowD_snoc]
    refine hrs.append (.cons ?_ (.cons ?_ .nil))
    · have e : (List.map Dat.int rankL)[((c : Int)).toNat]? = some (.int (rankOf c)) := by
        unfold rankOf
        simp only [Int.toNat_natCast, List.getElem?_map, List.getD_eq_getElem?_getD]
        have : c < rankL.length := hc14
        rw [List.getElem?_eq_getElem this]; rfl
      rw [e] at hd1; cases hd1; exact hv1
    · have e : partL[((c : Int)).toNat]? = some (partOf c) := by
        unfold partOf
        simp only [Int.toNat_natCast, List.getD_eq_getElem?_getD]
        have : c < partL.length := hc14
        rw [List.getElem?_eq_getElem this]; rfl
      rw [e] at hd2; cases hd2; exact hv2
  · intro m nx h tk hJ F N
    obtain ⟨u, rs, k, rfl, rfl, hrs⟩ := hJ
    rw [hcv.length, List.length_map, List.take_length] at hrs
    dsimp only
    (repeat' ((fail_if_success (with_reducible first | refine sFor ?_)); walk_at "w1"))
    (rename Fr _ _ _ _ => F3); (rename News _ _ _ _ => N3)
    refine hQ _ _ ?_; refine Ret.intro [_, _, _] F3 N3 ?_ ?_
    · intro q hq p hp
      have q1 := ktn_ltOf o4 q hq
      have q2 := ktn_ltOf o5 q hq
      have q3 := ktn_ltOf o6 q hq
      simp only [List.mem_cons, List.not_mem_nil, or_false] at hp
      rcases hp with rfl | rfl | rfl <;> assumption
    · exact .list (.head _) (hrs.mono fun _ h => absurd h List.not_mem_nil)
end TRanks
section TName
open PySem PySem.W PySem.Calls PyProof.Rows PyProof.V PySem.Spec
set_option maxRecDepth 100000
set_option maxHeartbeats 1500000
set_option pp.maxSteps 12000


local macro_rules | `(tactic| walk_at "eval List cons") => `(tactic| (k_here; k_dflt (first
  | (refine' list_consts (wordL.map .str) ?F ?N ?c ?l ?_; (case c => repeat' constructor); (case F => k_asm); (case N => k_asm); (case l => decide))); intro l' vs' h' tk' hd' F' N' l1; (try k_lt l1); (try k_sweep)))
local macro_rules | `(tactic| walk_at "subscriptTail Name Name ref int") => `(tactic| (k_here; (with_reducible show wpAny _ _ (subscriptTail _ _ (Value.ref _) (Value.int _ _)) _ _ _); k_dflt (refine' item_word ?N ?m ?d ?h1 ?_ ?hs ?hg; (case N => k_asm); (case m => k_mem); (case d => assumption); (case h1 => assumption); (case hs => with_unfolding_all rfl); (case hg => (intro _; with_unfolding_all rfl)); k_whole); intro tw'))
theorem name_end {g : Heap} {L I l lw : Addr} {oI : Obj} {s₁ : Shared} {h' : Heap} {tk : Nat} {m' : PySem.Str → Option Value} {cv wv : List Value} {cn : Nat} {news : List (Addr × Obj)} {cs : List Nat} {i c mark : Nat} {nm x : PySem.Str} {t tm : Tok}
    (F : Fr g L h' m') (N : News g L h' ((I, oI) :: (lw, listOf wv.toArray 0) :: news)) (hcm : (l, listOf cv.toArray cn) ∈ news) (off : ∀ p ∈ (lw, listOf wv.toArray 0) :: news, p.1 ≠ I) (hci : cs[i]? = some c) (hnm : nm = (cs.take i).foldl (nameStep mark) "1")
    (h1 : m' "name" = some (.str x t)) (h2 : m' "words" = some (.ref lw)) (h3 : m' "mark" = some (.int mark tm)) (hx : x = nameStep mark nm c) :
    UnrEndW g L s₁ [(I, oI)] (fun m' nx' => (l, listOf cv.toArray cn) ∈ nx' ∧ ∃ u t, m' = fixM [("name", .str ((cs.take (i + 1)).foldl (nameStep mark) "1") t), ("words", .ref lw), ("mark", .int mark tm)] u ∧ nx' = (lw, listOf wv.toArray 0) :: news) { s₁ with heap := h', toks := tk } := by
  refine unr_end _ F N off ⟨.tail _ hcm, m', t, fix_of _ ?_, rfl⟩
  rw [take_snoc hci, List.foldl_append, ← hnm]
  refine List.forall_mem_cons.mpr ⟨?_, List.forall_mem_cons.mpr ⟨h2, List.forall_mem_cons.mpr ⟨h3, List.forall_mem_nil _⟩⟩⟩
  rw [h1, hx]; rfl
theorem nm_fix {g h : Heap} {L : Addr} {m : PySem.Str → Option Value} {l : List (PySem.Str × Value)} (F : Fr g L h m) (hk : ∀ p ∈ l, m p.1 = some p.2) : Fr g L h (fixM l m) := by
  rw [← fix_of l hk]; exact F
theorem nm1 {w : World} {p : Program} {loose : List PySem.Str} {mean : ExcName → Option Value} {mg mb : PySem.Str → Option Value} {dp un : Nat} {gd : Option (List Code)} {outer : List Env} {A₀ : Around} {base g : Heap} {L lw : Addr} {h₁ : Heap} {s : Shared} {tk : Nat} {c mark : Nat} {tc tm t tw : Tok} {nm : PySem.Str} {m : PySem.Str → Option Value} {nx : List (Addr × Obj)} {Q : Flow → Shared → Prop}
    (hc14 : c < 14) (B : Below A₀ base outer g) (F : Fr g L h₁ m) (hk : ∀ p ∈ [(("word" : PySem.Str), Value.str (wordOf c) tw), ("code", .int c tc), ("name", .str nm t), ("words", .ref lw), ("mark", .int mark tm)], m p.1 = some p.2) (X : (KK w.params).In g) (T : Top p loose mean mg mb g) (N : News g L h₁ nx) (hd : dp + 4 < recursionLimit) (hu : un + 47 < cLine)
    (cont : ∀ h tk u x t', Fr g L h (fixM [("word", .str x t'), ("name", .str nm t), ("words", .ref lw), ("mark", .int mark tm)] u) → News g L h nx → x = wordAt mark c → Q .next { s with heap := h, toks := tk }) :
    wpAny (model PR w) (ktrTop dp un gd "_law_name" sc13 L 208 (.ref 207) [] outer) (exec ((forBody s13_2).getD 1 default) (envX "_law_name" sc13 L 208 (.ref 207) [])) Q (fun _ _ => False) { s with heap := h₁, toks := tk } := by
  replace F := nm_fix F hk
  clear hk
  have hfm : Int.fmod (mark : Int) 2 = ((mark % 2 : Nat) : Int) := by rw [Int.fmod_eq_emod_of_nonneg _ (by decide)]; rfl
  have hn0 : (PySem.Str.ofString "0").length = 1 := by decide +kernel
  have hwc := wordOf_length c hc14
  show wpAny _ _ (exec (.If _ _ _ _) _) _ _ _
  with_reducible refine ctx_exec ?_
  intro AA ee
  (repeat' ((fail_if_success (with_reducible first | refine sFor ?_)); walk_at "w1"))
  all_goals (
    (rename Fr _ _ _ _ => F3); (rename News _ _ _ _ => N3)
    refine cont _ _ _ _ _ (nm_fix F3 (List.forall_mem_cons.mpr ⟨rfl, List.forall_mem_cons.mpr ⟨rfl, List.forall_mem_cons.mpr ⟨rfl, List.forall_mem_cons.mpr ⟨rfl, List.forall_mem_nil _⟩⟩⟩⟩)) N3 ?_
    clear F3 N3 X T B cont
    simp only [hfm] at *
    unfold wordAt
    first | (exfalso; omega) | ((repeat' split) <;> first | rfl | (exfalso; omega) | (simp_all; done) | (simp_all; omega)))
theorem nm2 {w : World} {p : Program} {loose : List PySem.Str} {mean : ExcName → Option Value} {mg mb : PySem.Str → Option Value} {dp un : Nat} {gd : Option (List Code)} {outer : List Env} {A₀ : Around} {base g : Heap} {L lw : Addr} {h₁ : Heap} {s : Shared} {tk : Nat} {c mark : Nat} {tm t tw : Tok} {nm wd : PySem.Str} {m : PySem.Str → Option Value} {nx : List (Addr × Obj)} {Q : Flow → Shared → Prop}
    (hmk : mark < 5) (hw : wd = wordAt mark c) (hw1 : 1 ≤ wd.length) (hw2 : wd.length ≤ 6) (hn1 : 1 ≤ nm.length) (hn2 : nm.length ≤ 701) (B : Below A₀ base outer g) (F : Fr g L h₁ (fixM [("word", .str wd tw), ("name", .str nm t), ("words", .ref lw), ("mark", .int mark tm)] m)) (X : (KK w.params).In g) (T : Top p loose mean mg mb g) (N : News g L h₁ nx) (hd : dp + 4 < recursionLimit) (hu : un + 47 < cLine)
    (cont : ∀ h tk u x t', Fr g L h (fixM [("name", .str x t'), ("words", .ref lw), ("mark", .int mark tm)] u) → News g L h nx → x = nameStep mark nm c → Q .next { s with heap := h, toks := tk }) :
    wpAny (model PR w) (ktrTop dp un gd "_law_name" sc13 L 208 (.ref 207) [] outer) (exec ((forBody s13_2).getD 2 default) (envX "_law_name" sc13 L 208 (.ref 207) [])) Q (fun _ _ => False) { s with heap := h₁, toks := tk } := by
  have hns : (PySem.Str.ofString ".-_+.").length = 5 := by decide +kernel
  show wpAny _ _ (exec (.If _ _ _ _) _) _ _ _
  with_reducible refine ctx_exec ?_
  intro AA ee
  (repeat' ((fail_if_success (with_reducible first | refine sFor ?_)); walk_at "w1"))
  all_goals (
    (rename Fr _ _ _ _ => F3); (rename News _ _ _ _ => N3)
    refine cont _ _ _ _ _ (nm_fix F3 (List.forall_mem_cons.mpr ⟨rfl, List.forall_mem_cons.mpr ⟨rfl, List.forall_mem_cons.mpr ⟨rfl, List.forall_mem_nil _⟩⟩⟩)) N3 ?_
    clear F3 N3 X T B cont
    unfold nameStep joins digitsS sepsS
    rw [← hw]
    first | (exfalso; omega) | ((repeat' split) <;> first | rfl | (exfalso; omega) | (simp_all; done) | (simp_all; omega)))
theorem name_ok (w : World) (news : List (Addr × Obj)) (l : Addr) (cs : List Nat) (mark : Nat) (tm : Tok) (hc : ∀ c ∈ cs, c < 14) (hlen : cs.length ≤ 100) (hmk : mark < 5) (hl : DatIn news (.ref l) (codesD cs)) :
    Gives w 208 5 50 [.ref l, .int mark tm] news (fun all r => ∃ t, r = .str (nameOf cs mark) t) := by
  refine' gives_plain (dd := 4) (uu := 47) [("codes", .ref l), ("mark", .int mark tm)] ?ho ?hcd ?hbind ?hloc ?hco ?hgen ?hk ?hcell ?_
  walk_at "enter"
  intro p loose mean mg mb dp un gd outer A₀ base g L h₁ s tk B F X N T lt hd hu
  simp only [List.reverse_cons, List.reverse_nil, List.nil_append, List.cons_append] at F
  refine opaqueU ?_
  intro QQ hQ AA ee
  (repeat' ((fail_if_success (with_reducible first | refine sFor ?_)); walk_at "w1"))
  (rename Fr _ _ _ _ => F1); (rename News _ _ _ _ => N1); (rename Heap => h2)
  obtain ⟨cv, cn, hcm, hcv⟩ := dat_list_inv hl
  obtain ⟨lw, wv, t1, hwv, F2, N2, o1⟩ : ∃ (lw : Nat) (wv : List Value) (t1 : Tok), DatAll [] wv (wordL.map Dat.str) ∧
      Fr g L h2 (fun y => if y = "name" then some (.str "1" t1) else if y = "words" then some (.ref lw) else List.lookup y [("mark", .int mark tm), ("codes", .ref l)]) ∧
      News g L h2 ((lw, listOf wv.toArray 0) :: news) ∧ AllLt lw news := by
    refine ⟨_, _, _, ?_, F1, N1, ?_⟩
    · assumption
    · first | assumption | exact allLt_of (by assumption)
  clear F1 N1
  have hwl : wordL.length = 14 := rfl
  refine For_turns F2 ?_
  walk1
  refine for_led (fun i m nx => ∃ u t, m = fixM [("name", .str ((cs.take i).foldl (nameStep mark) "1") t), ("words", .ref lw), ("mark", .int mark tm)] u ∧
      nx = (lw, listOf wv.toArray 0) :: news) rfl F2 N2 (.tail _ hcm)
      ⟨_, _, fix_of _ (List.forall_mem_cons.mpr ⟨rfl, List.forall_mem_cons.mpr ⟨rfl, List.forall_mem_cons.mpr ⟨rfl, List.forall_mem_nil _⟩⟩⟩), rfl⟩ ?_ ?_
  · intro I oI i v m nx h tk hv hJ hax hI hne F N
    refine opaqueT ?_
    intro RR hR
    obtain ⟨u, t, rfl, rfl⟩ := hJ
    obtain ⟨d, hd', hvd⟩ := dat_at hcv hv
    obtain ⟨c, hci, rfl⟩ : ∃ c, cs[i]? = some c ∧ d = .int (c : Int) := by
      rw [List.getElem?_map] at hd'
      obtain ⟨c, a, b⟩ := Option.map_eq_some_iff.mp hd'
      exact ⟨c, a, b.symm⟩
    obtain ⟨tc, rfl⟩ := int_of_dat hvd
    have hc14 : c < 14 := hc c (List.mem_of_getElem? hci)
    have hnl := nameOf_length mark (cs.take i) "1" (fun x hx => hc x (List.mem_of_mem_take hx)) (by decide +kernel)
    have hnt : (cs.take i).length ≤ 100 := by rw [List.length_take]; omega
    have hfm : Int.fmod (mark : Int) 2 = ((mark % 2 : Nat) : Int) := by rw [Int.fmod_eq_emod_of_nonneg _ (by decide)]; rfl
    have hn1 : (PySem.Str.ofString "1").length = 1 := by decide +kernel
    have hn0 : (PySem.Str.ofString "0").length = 1 := by decide +kernel
    have hns : (PySem.Str.ofString ".-_+.").length = 5 := by decide +kernel
    have hwc := wordOf_length c hc14
    obtain ⟨nm, hnm⟩ : ∃ nm, nm = (cs.take i).foldl (nameStep mark) "1" := ⟨_, rfl⟩
    rw [← hnm] at F hnl
    have i1 : lw < I := hI (lw, _) (by k_mem)
    have i4 : AllLt I news := allLt_of fun p hp => hI p (.tail _ hp)
    repeat' ((fail_if_success (with_reducible first | refine sIf ?_)); walk_at "w1")
    (rename Fr _ _ _ _ => F3); (rename News _ _ _ _ => N3)
    refine nm1 hc14 B F3 (List.forall_mem_cons.mpr ⟨rfl, List.forall_mem_cons.mpr ⟨rfl, List.forall_mem_cons.mpr ⟨rfl, List.forall_mem_cons.mpr ⟨rfl, List.forall_mem_cons.mpr ⟨rfl, List.forall_mem_nil _⟩⟩⟩⟩⟩) X T N3 hd hu fun h4 tk4 u4 x4 t4 F4 N4 hx => ?_
    clear F3 N3 F N
    have hwa := wordAt_length mark c hc14
    rw [← hx] at hwa
    repeat' ((fail_if_success (with_reducible first | refine sIf ?_)); walk_at "w1")
    refine nm2 hmk hx hwa.1 (by omega) hnl.1 (by omega) B F4 X T N4 hd hu fun h5 tk5 u5 x5 t5 F5 N5 hx5 => ?_
    clear F4 N4
    (repeat' ((fail_if_success (with_reducible first | refine sFor ?_)); walk_at "w1"))
    refine hR _ _ ?_; refine name_end F5 N5 hcm ?_ hci hnm rfl rfl rfl hx5
    k_all
  · intro m nx h tk hJ F N
    obtain ⟨u, t, rfl, rfl⟩ := hJ
    rw [hcv.length, List.length_map, List.take_length] at F
    dsimp only
    (repeat' ((fail_if_success (with_reducible first | refine sFor ?_)); walk_at "w1"))
    (rename Fr _ _ _ _ => F3); (rename News _ _ _ _ => N3)
    refine hQ _ _ ?_; refine Ret.intro [_] F3 N3 ?_ ⟨_, rfl⟩
    intro q hq p hp
    rw [List.mem_singleton.mp hp]
    exact ktn_ltOf o1 q hq
end TName
section TIntA
open PySem PySem.W PySem.Calls PyProof.Rows PySem.NumText
set_option maxRecDepth 100000
set_option maxHeartbeats 2000000
theorem int2_text {x : PySem.Str} {u t : Tok} {n : Int} (hl : x.length ≤ 640) (hn : PySem.intText? x = some n) : PySem.Gives (Builtin.«int.__new__» ⟨[.type "int", .str x u, .int 10 t], []⟩) (.int n) :=
  .of_wp fun M A E s Q h => by
    obtain ⟨hp, g, d, tk, os⟩ := s
    have f1 := F.conv_sub_int
    have f2 := F.madeHere_int
    have f3 := KIN.str_int
    have f4 := KIN.str_idx
    have f5 := KIN.str_trunc
    have f6 : typeOf (.str x u) = pure (.type "str") := rfl
    have hs : (numSeenOf x).length ≤ 640 := Nat.le_trans (seen_length x) hl
    have hr : (int_private% "readNumeral") 0 10 (numSeenOf x) = (int_private% "Numeral.value") n ∧ ((numSeenOf x).length == (numTextOf x).length) = true := by
      rcases read0 x hs with ⟨m, h1, h2, h3⟩ | ⟨h1, _⟩
      · rw [hn] at h1
        injection h1 with h1
        subst h1
        exact ⟨h3, h2⟩
      · rw [hn] at h1
        cases h1
    have hk := KIN.Hid.mk (And.intro hs hr)
    clear hs hr hl hn
    repeat (any_goals (first
      | assumption
      | ((with_reducible show wpAny _ _ ((int_private% "intFromText") _ _ _) _ _ _); refine KIN.wp_text hk.out.1 hk.out.2.1 hk.out.2.2 ?_)
      | wp_step))
    all_goals first | exact ⟨_, rfl, h⟩ | skip
theorem wpC_ifT {α : Type} {M : Model} {A : Around} {E : Value → Shared → Prop} {s : Shared} {c : Prop} [Decidable c] {a b : Sem α} {Q : α → Shared → Prop} (hc : c) (h : wpC M A a Q E s) : wpC M A (if c then a else b) Q E s := by rw [if_pos hc]; exact h
theorem wpC_ifF {α : Type} {M : Model} {A : Around} {E : Value → Shared → Prop} {s : Shared} {c : Prop} [Decidable c] {a b : Sem α} {Q : α → Shared → Prop} (hc : ¬ c) (h : wpC M A b Q E s) : wpC M A (if c then a else b) Q E s := by rw [if_neg hc]; exact h
theorem small_msg (a y : PySem.Str) (h : a.length ≤ 1000) : (a ++ (⟨y.cps.extract 0 200⟩ : PySem.Str)).length ≤ sizeLine := by
  have e : (⟨y.cps.extract 0 200⟩ : PySem.Str).length ≤ 200 := by
    show (y.cps.extract 0 200).size ≤ 200
    rw [Array.size_extract]
    omega
  rw [PySem.Str.length_append, sizeLine_eq]
  omega
theorem int2_refuses {prog : Program} {w : World} {A : Around} {E : Value → Shared → Prop} {s : Shared} {Q : PySem.Fin → Shared → Prop} {x : PySem.Str} {u t : Tok} (hl : x.length ≤ 640) (hrp : (reprText x).length ≤ sizeLine) (hn : PySem.intText? x = none) (hh : A.handled = none)
    (h : ∀ h' tk e, Heap.NewExc s.heap h' e "ValueError" → E (.ref e) { s with heap := h', toks := tk }) :
    wpC (model prog w) A (Builtin.«int.__new__» ⟨[.type "int", .str x u, .int 10 t], []⟩) Q E s := by
  have f1 := F.conv_sub_int
  have f2 := F.madeHere_int
  have f6 : typeOf (.str x u) = pure (.type "str") := rfl
  have hs : (numSeenOf x).length ≤ 640 := Nat.le_trans (seen_length x) hl
  unfold Builtin.«int.__new__»
  dsimp only
  simp only [show isType (.type "int") = pure true from rfl, f1, f2, pure_bind, Bool.not_true, Bool.false_eq_true, if_false]
  refine wpC_ifF (show ¬ (Value.type "int" == Value.type "int" && true && false) = true by decide) ?_
  refine wpC_ifF (show ¬ (2 + 0 > 2) by decide) ?_
  simp only [List.forIn_nil, pure_bind]
  show wpC (model prog w) A (do
      let base ← Builtin.Int.intIndex "int.__new__" (.int 10 t)
      if (base != 0 && decide (base < 2) || decide (base > 36)) = true then _ else _) Q E s
  refine wpC_bindA (m := Builtin.Int.intIndex "int.__new__" (.int 10 t)) (wpAny_of_eq (a := (10 : Int)) rfl ?_)
  refine wpC_ifF (by decide) ?_
  refine wpC_bindA (wpAny_of_eq (a := some (numTextOf x)) rfl ?_)
  dsimp only
  refine wpC_bind ?_
  have hc := read0 x hs
  rw [hn] at hc
  have hc2 : ((int_private% "readNumeral") 0 10 (numSeenOf x) = int_private% "Numeral.invalid" ∨ ∃ i, (int_private% "readNumeral") 0 10 (numSeenOf x) = (int_private% "Numeral.value") i ∧ ¬ ((numSeenOf x).length == (numTextOf x).length) = true) := by
    rcases hc with ⟨n, h1, _⟩ | ⟨_, h2⟩
    · cases h1
    · exact h2
  clear hc
  show wpC (model prog w) A ((int_private% "intFromText") (.str x u) (numTextOf x) 10) _ E s
  refine wpC_ifT hs ?_
  refine wpC_bindA (wpAny_pure ?_)
  have hseen : List.takeWhile (fun x => x != 0) (numTextOf x) = numSeenOf x := rfl
  dsimp only
  rw [hseen]
  rcases hc2 with hr | ⟨i, hr, hne⟩
  · rw [hr]
    refine wpC_bindA (wpAny_of_eq (a := (none : Option (Array UInt8))) rfl ?_)
    refine wpC_ifF (by simp) ?_
    refine wpC_bindA (wpAny_rule ?_)
    refine wpC_bindA (wpAny_of_eq (a := (none : Option (Array UInt8))) rfl ?_)
    dsimp only
    refine wpC_bindA (wpAny_pyRepr_str ?_ hrp)
    refine wpC_bindA (wpAny_mkStr ?_ ?_)
    · refine wpC_bindA (wpAny_newExc_plain plainExc_ValueError fun h' e hm => ?_)
      refine wpC_bind (wpC_mark ?_)
      refine wpC_any (wpAny_raiseNew_none hh (h _ _ _ hm.newExc))
    · exact small_msg _ _ (by decide +kernel)
  · rw [hr]
    dsimp only
    refine wpC_ifF hne ?_
    refine wpC_bindA (wpAny_rule ?_)
    refine wpC_bindA (wpAny_of_eq (a := (none : Option (Array UInt8))) rfl ?_)
    dsimp only
    refine wpC_bindA (wpAny_pyRepr_str ?_ hrp)
    refine wpC_bindA (wpAny_mkStr ?_ ?_)
    · refine wpC_bindA (wpAny_newExc_plain plainExc_ValueError fun h' e hm => ?_)
      refine wpC_bind (wpC_mark ?_)
      refine wpC_any (wpAny_raiseNew_none hh (h _ _ _ hm.newExc))
    · exact small_msg _ _ (by decide +kernel)
end TIntA
section TIntB
open PySem PySem.W PySem.Calls PyProof.Rows PySem.NumText
set_option maxRecDepth 100000
set_option maxHeartbeats 2000000
section
variable {prog : Program} {w : World} {A : Around} {E : Value → Shared → Prop} {s : Shared}
theorem codeC_call_builtin {R : Result → Shared → Prop} {id : String} {args : Args} {b : Builtin} (hq : plainId id = true) (hb : entryFor table id = some b) (hch : checkBuiltinCall id args = pure ())
    (h : wpC (model prog w) A.in1 (b args) (fun fin s' => match fin with | .done f => R (.ok f) s' | .again c' => c'.quiet = true ∧ codeC (model prog w) A c' R s') (fun e s' => R (.error e) s') s) : codeC (model prog w) A (.call (.builtin id) args) R s := by
  refine codeC_of_tree ?_
  show wpC _ A.in1 (do checkBuiltinCall id args; again (.builtin id args)) _ _ s
  rw [hch]
  refine wpC_bindA (wpAny_pure (wpC_pure (And.intro (plainId_quiet hq args) (codeC_builtin hb ?_))))
  rw [Around.under_plainId hq args]
  exact h
theorem typeCall_int_2 (a b : Value) : checkTypeCall "int" ⟨[a, b], []⟩ = pure () := by kernel_rfl
theorem newCall_int_2 (a b : Value) : checkBuiltinCall "int.__new__" ⟨[.type "int", a, b], []⟩ = pure () := by kernel_rfl
/-- int(text, 10) that refuses, with the claim's caller on the stack -/
theorem int_refuses {Q : Value → Shared → Prop} {x : PySem.Str} {u t : Tok} (hl : x.length ≤ 640) (hrp : (reprText x).length ≤ sizeLine) (hn : PySem.intText? x = none) (hh : A.handled = none)
    (h : ∀ h' tk e, Heap.NewExc s.heap h' e "ValueError" → E (.ref e) { s with heap := h', toks := tk }) :
    wpC (model prog w) A (call (.type "int") [.str x u, .int 10 t]) Q E s := by
  have ft := F.called_int
  obtain ⟨c, tl, hmro⟩ := ft.mro
  refine wpC_call (codeC_of_tree ?_)
  show wpC _ _ (callAny (.type "int") _) _ _ _
  refine wpC_pure ⟨Code.quiet_builtin _ (by decide +kernel), codeC_builtin F.entry_type_call ?_⟩
  rw [Around.under_plain (weight_type_call_type "int" _ _) (units_type_call_type "int" _ _)]
  unfold Builtin.«type.__call__»
  dsimp only
  simp only [ft.notType, ft.canCreate, typeCall_int_2, hmro, ft.made, pure_bind, Bool.false_eq_true, if_false, List.isEmpty_cons]
  exact wpC_bind (wpC_holding (wpC_call (codeC_call_builtin F.called_int.plain F.entry_int_new (newCall_int_2 _ _)
    (wpC_mono (Q := fun _ _ => False) (int2_refuses hl hrp hn hh fun h' tk e hx => h h' tk e hx) (fun _ _ x => x.elim) fun _ _ x => x))))
/-- int(text, 10) that reads the text -/
theorem int_reads {Q : Value → Shared → Prop} {x : PySem.Str} {u t : Tok} {n : Int} (hl : x.length ≤ 640) (hn : PySem.intText? x = some n) (h : Q (.int n s.toks) { s with toks := s.toks + 1 }) :
    wpAny (model prog w) A (call (.type "int") [.str x u, .int 10 t]) Q E s :=
  callType_new F.called_int F.newNe_int (typeCall_int_2 _ _) (newCall_int_2 _ _) (fun obj => F.args_object_init_3 obj _ _) F.entry_int_new (int2_text hl hn).meets (show (Made.int n).post _ s from ⟨rfl, h⟩)
end
end TIntB
section TToks
open PySem PySem.W PySem.Calls PyProof.Rows PyProof.V PySem.Spec
set_option maxRecDepth 100000
set_option maxHeartbeats 1000000

/-- a part of a version's text -/
inductive Tk
  | D (l : List Nat)
  | S (c : Nat)
  | A (l : List Nat)
noncomputable def Tk.ch : Tk → List Nat
  | .D l => l
  | .S c => [c]
  | .A l => l
noncomputable def Tk.ok : Tk → Prop
  | .D l => l ≠ [] ∧ ∀ c ∈ l, isDig c = true
  | .S c => isSep c = true
  | .A l => l ≠ [] ∧ ∀ c ∈ l, isDig c = false ∧ isSep c = false
noncomputable def Tk.apart : Tk → Tk → Prop
  | .D _, .D _ => False
  | .A _, .A _ => False
  | _, _ => True
noncomputable def TksOk : List Tk → Prop
  | [] => True
  | [a] => a.ok
  | a :: b :: r => a.ok ∧ a.apart b ∧ TksOk (b :: r)
noncomputable def chs (ts : List Tk) : List Nat := ts.flatMap Tk.ch
noncomputable def pieces : List Tk → List (List Nat)
  | [] => [[]]
  | .D l :: r => [] :: l :: pieces r
  | .S c :: r => [] :: [c] :: pieces r
  | .A l :: .D d :: r => l :: d :: pieces r
  | .A l :: .S c :: r => l :: [c] :: pieces r
  | .A l :: _ => [l]
noncomputable def strOf (l : List Nat) : PySem.Str := ⟨l.toArray⟩

theorem getD_arr (text : Array Nat) (i : Nat) : text.getD i 0 = text.toList.getD i 0 := by
  rw [Array.getD_eq_getD_getElem?, List.getD_eq_getElem?_getD, Array.getElem?_toList]
theorem extract_arr {text : Array Nat} {pre m rest : List Nat} (h : text.toList = pre ++ (m ++ rest)) : (⟨text.extract pre.length (pre.length + m.length)⟩ : PySem.Str) = strOf m := by
  have e : text = (pre ++ (m ++ rest)).toArray := by rw [← h]
  unfold strOf
  congr 1
  apply Array.ext'
  rw [Array.toList_extract, h]
  simp [List.extract_eq_take_drop]
theorem size_arr {text : Array Nat} {l : List Nat} (h : text.toList = l) : text.size = l.length := by rw [← h]; simp
theorem getD_mid {pre l rest : List Nat} {i : Nat} (h1 : pre.length ≤ i) (h2 : i < pre.length + l.length) : ∃ c ∈ l, (pre ++ (l ++ rest)).getD i 0 = c := by
  have h3 : i - pre.length < l.length := by lia
  refine ⟨l[i - pre.length], List.getElem_mem _, ?_⟩
  rw [List.getD_eq_getElem?_getD, List.getElem?_append_right h1, List.getElem?_append_left h3, List.getElem?_eq_getElem h3]
  rfl
theorem digs_run (text : Array Nat) : ∀ (l pre rest : List Nat) (n : Nat), text.toList = pre ++ (l ++ rest) → (∀ c ∈ l, isDig c = true) → isDig (rest.getD 0 0) = false → l.length ≤ n → digs text n pre.length = l.length
  | [], pre, rest, n, h, _, hr, _ => by
    cases n with
    | zero => rfl
    | succ n =>
      have e : text.getD pre.length 0 = rest.getD 0 0 := by
        rw [getD_arr, h, List.getD_eq_getElem?_getD, List.getD_eq_getElem?_getD, List.getElem?_append_right (Nat.le_refl _)]
        simp
      unfold digs
      rw [e, hr]; rfl
  | c :: l, pre, rest, n, h, hl, hr, hn => by
    cases n with
    | zero => simp at hn
    | succ n =>
      have e : text.getD pre.length 0 = c := by
        rw [getD_arr, h, List.getD_eq_getElem?_getD, List.getElem?_append_right (Nat.le_refl _)]
        simp
      have := digs_run text l (pre ++ [c]) rest n (by rw [h]; simp) (fun x hx => hl x (.tail _ hx)) hr (by simpa using hn)
      unfold digs
      rw [e, hl c (.head _), if_pos rfl]
      simp only [List.length_append, List.length_cons, List.length_nil] at this
      rw [show pre.length + 1 = pre.length + (0 + 1) by lia, this]
      simp only [List.length_cons]; lia

/-- one part of the split -/
theorem splits_step {text : Array Nat} {pre a m rest : List Nat} {ps : List PySem.Str} (h : text.toList = pre ++ (a ++ (m ++ rest))) (ha : ∀ c ∈ a, isDig c = false ∧ isSep c = false)
    (hm : (m ≠ [] ∧ (∀ c ∈ m, isDig c = true) ∧ isDig (rest.getD 0 0) = false) ∨ ∃ c, m = [c] ∧ isSep c = true)
    (hs : Splits text text.size (pre ++ a ++ m).length ps) : Splits text text.size pre.length (strOf a :: strOf m :: ps) := by
  have hsz := size_arr h
  simp only [List.length_append] at hsz
  have hm0 : 0 < m.length := by
    rcases hm with ⟨h1, _⟩ | ⟨c, rfl, _⟩
    · exact List.length_pos_iff.mpr h1
    · exact Nat.one_pos
  have h' : text.toList = (pre ++ a) ++ (m ++ rest) := by rw [h]; simp
  have hla : (pre ++ a).length = pre.length + a.length := List.length_append
  have hq : text.getD (pre.length + a.length) 0 = m.getD 0 0 := by
    rw [getD_arr, h', ← hla, List.getD_eq_getElem?_getD, List.getD_eq_getElem?_getD, List.getElem?_append_right (Nat.le_refl _), Nat.sub_self, List.getElem?_append_left hm0]
  have hpe : partEnd text text.size (pre.length + a.length) = pre.length + a.length + m.length := by
    unfold partEnd
    rw [hq]
    rcases hm with ⟨h1, h2, h3⟩ | ⟨c, rfl, hc⟩
    · obtain ⟨c, l, rfl⟩ := List.exists_cons_of_ne_nil h1
      rw [show (c :: l).getD 0 0 = c from rfl, h2 c (.head _), if_pos rfl]
      have := digs_run text (c :: l) (pre ++ a) rest (text.size - (pre.length + a.length)) h' h2 h3 (by lia)
      rw [hla] at this
      rw [this]
    · have hd : isDig c = false := by
        unfold isSep at hc
        simp only [Bool.or_eq_true, beq_iff_eq] at hc
        rcases hc with ((rfl | rfl) | rfl) | rfl <;> decide
      rw [show [c].getD 0 0 = c from rfl, hd, if_neg (by decide)]
      rfl
  have e1 := extract_arr (text := text) (pre := pre) (m := a) (rest := m ++ rest) h
  have e2 := extract_arr (text := text) (pre := pre ++ a) (m := m) (rest := rest) h'
  rw [hla, ← hpe] at e2
  rw [← e1, ← e2]
  refine Splits.part (by lia) (by lia) (fun i hi1 hi2 => ?_) ?_ (by rw [hpe]; lia) ?_
  · obtain ⟨c, hc, e⟩ := getD_mid (rest := m ++ rest) hi1 hi2
    have := ha c hc
    unfold otherAt
    rw [getD_arr, h, e]
    exact this
  · rw [hq]
    rcases hm with ⟨h1, h2, h3⟩ | ⟨c, rfl, hc⟩
    · obtain ⟨c, l, rfl⟩ := List.exists_cons_of_ne_nil h1
      rw [show (c :: l).getD 0 0 = c from rfl, h2 c (.head _)]; rfl
    · rw [show [c].getD 0 0 = c from rfl, hc, Bool.or_true]
  · rw [hpe]
    simp only [List.length_append] at hs
    exact hs
theorem splits_last {text : Array Nat} {pre a : List Nat} (h : text.toList = pre ++ a) (ha : ∀ c ∈ a, isDig c = false ∧ isSep c = false) : Splits text text.size pre.length [strOf a] := by
  have hsz := size_arr h
  simp only [List.length_append] at hsz
  have e1 := extract_arr (text := text) (pre := pre) (m := a) (rest := []) (by rw [h]; simp)
  rw [← hsz] at e1
  rw [← e1]
  refine Splits.done (by lia) fun i hi1 hi2 => ?_
  obtain ⟨c, hc, e⟩ := getD_mid (l := a) (rest := []) hi1 (by lia)
  have := ha c hc
  unfold otherAt
  rw [getD_arr, h, show pre ++ a = pre ++ (a ++ []) by simp, e]
  exact this

theorem TksOk.tail {a : Tk} {r : List Tk} (h : TksOk (a :: r)) : TksOk r := by
  cases r with
  | nil => trivial
  | cons b r => exact h.2.2
theorem TksOk.hd {a : Tk} {r : List Tk} (h : TksOk (a :: r)) : a.ok := by
  cases r with
  | nil => exact h
  | cons b r => exact h.1
/-- what stands after digits is no digit -/
theorem TksOk.after {l : List Nat} {r : List Tk} (h : TksOk (.D l :: r)) : isDig ((chs r).getD 0 0) = false := by
  cases r with
  | nil => decide
  | cons b r =>
    obtain ⟨_, hap, ht⟩ := h
    cases b with
    | D _ => exact hap.elim
    | S c =>
      have hc : isSep c = true := ht.hd
      show isDig c = false
      unfold isSep at hc
      simp only [Bool.or_eq_true, beq_iff_eq] at hc
      rcases hc with ((rfl | rfl) | rfl) | rfl <;> decide
    | A l =>
      have ha : l ≠ [] ∧ ∀ c ∈ l, isDig c = false ∧ isSep c = false := ht.hd
      obtain ⟨c, l, rfl⟩ := List.exists_cons_of_ne_nil ha.1
      exact (ha.2 c (.head _)).1

theorem splits_toks (text : Array Nat) : ∀ (n : Nat) (ts : List Tk) (pre : List Nat), ts.length ≤ n → text.toList = pre ++ chs ts → TksOk ts → Splits text text.size pre.length ((pieces ts).map strOf)
  | _, [], pre, _, h, _ => splits_last (a := []) h (by simp)
  | 0, _ :: _, _, hn, _, _ => by simp at hn
  | n + 1, .D l :: r, pre, hn, h, hok => by
    have hd : l ≠ [] ∧ ∀ c ∈ l, isDig c = true := hok.hd
    have h' : text.toList = pre ++ ([] ++ (l ++ chs r)) := h
    refine splits_step (a := []) h' (by simp) (.inl ⟨hd.1, hd.2, hok.after⟩) (splits_toks text n r _ (by simpa using hn) (by rw [h']; simp) hok.tail)
  | n + 1, .S c :: r, pre, hn, h, hok => by
    have h' : text.toList = pre ++ ([] ++ ([c] ++ chs r)) := h
    refine splits_step (a := []) h' (by simp) (.inr ⟨c, rfl, hok.hd⟩) (splits_toks text n r _ (by simpa using hn) (by rw [h']; simp) hok.tail)
  | n + 1, [.A l], pre, hn, h, hok => by
    have ha : l ≠ [] ∧ ∀ c ∈ l, isDig c = false ∧ isSep c = false := hok
    exact splits_last (a := l) (by rw [h]; simp [chs, Tk.ch]) ha.2
  | n + 1, .A l :: .D d :: r, pre, hn, h, hok => by
    have ha : l ≠ [] ∧ ∀ c ∈ l, isDig c = false ∧ isSep c = false := hok.hd
    have hd : d ≠ [] ∧ ∀ c ∈ d, isDig c = true := hok.tail.hd
    have h' : text.toList = pre ++ (l ++ (d ++ chs r)) := h
    refine splits_step (a := l) h' ha.2 (.inl ⟨hd.1, hd.2, hok.tail.after⟩) (splits_toks text n r _ (by simp only [List.length_cons] at hn; lia) (by rw [h']; simp) hok.tail.tail)
  | n + 1, .A l :: .S c :: r, pre, hn, h, hok => by
    have ha : l ≠ [] ∧ ∀ c ∈ l, isDig c = false ∧ isSep c = false := hok.hd
    have h' : text.toList = pre ++ (l ++ ([c] ++ chs r)) := h
    refine splits_step (a := l) h' ha.2 (.inr ⟨c, rfl, hok.tail.hd⟩) (splits_toks text n r _ (by simp only [List.length_cons] at hn; lia) (by rw [h']; simp) hok.tail.tail)
  | n + 1, .A l :: .A l' :: r, pre, hn, h, hok => hok.2.1.elim
end TToks
section TNames
open PySem PySem.W PySem.Calls PyProof.Rows PyProof.V PySem.Spec
set_option maxRecDepth 100000
set_option maxHeartbeats 1000000
noncomputable def sepC : PySem.Str := "._+-"
noncomputable def stageL : List (PySem.Str × Int) := [("dev", 10), ("alpha", 20), ("a", 20), ("beta", 30), ("b", 30), ("c", 40), ("RC", 50), ("rc", 50), ("pl", 200), ("p", 200)]
noncomputable def stageOf (p : PySem.Str) : Int := (stageL.lookup p).getD 0
noncomputable def pieceD (p : PySem.Str) : List Dat := if isInB sepC p then [] else match PySem.intText? p with
  | some n => [.int 100, .int n]
  | none => [.int (stageOf p), .str p]
noncomputable def isDc (c : Nat) : Bool := Nat.ble 9 c && Nat.ble c 11
noncomputable def wordTk (mark c : Nat) : Tk := if isDc c then .D (wordAt mark c).cps.toList else .A (wordAt mark c).cps.toList
noncomputable def sepK (mark : Nat) : Nat := (Txt.charAt sepsS (mark : Int)).getD 0
noncomputable def toks (mark : Nat) : Bool → List Nat → List Tk
  | _, [] => []
  | pd, c :: cs => (if mark = 4 ∧ pd ≠ isDc c then [wordTk mark c] else [.S (sepK mark), wordTk mark c]) ++ toks mark (isDc c) cs
noncomputable def lastD (nm : PySem.Str) : Bool := isInB digitsS (Txt.item nm (-1))

theorem seq_last (n : Nat) (h : 1 ≤ n) : seqIndex? (-1) n = some (n - 1) := by
  unfold seqIndex?
  simp only [show ((-1 : Int) < 0) from by decide, if_true]
  rw [if_pos (by simp only [Bool.and_eq_true, decide_eq_true_eq]; lia)]
  congr 1
  lia
theorem item_last (x y : PySem.Str) (h : 1 ≤ y.length) : Txt.item (x ++ y) (-1) = Txt.item y (-1) := by
  have hy : 1 ≤ y.cps.size := h
  have e1 : seqIndex? (-1) (x ++ y).length = some (x.cps.size + y.cps.size - 1) := by
    rw [PySem.Str.length_append]
    exact seq_last _ (by show 1 ≤ x.cps.size + y.cps.size; lia)
  have e2 : seqIndex? (-1) y.length = some (y.cps.size - 1) := seq_last _ hy
  unfold Txt.item Txt.charAt
  rw [e1, e2]
  simp only [Option.bind_some]
  rw [show (x ++ y).cps = x.cps ++ y.cps from rfl, Array.getElem?_append_right (by lia), show x.cps.size + y.cps.size - 1 - x.cps.size = y.cps.size - 1 by lia]
theorem toks_cons (mark : Nat) (pd : Bool) (c : Nat) (cs : List Nat) : toks mark pd (c :: cs) = (if mark = 4 ∧ pd ≠ isDc c then [wordTk mark c] else [.S (sepK mark), wordTk mark c]) ++ toks mark (isDc c) cs := by rw [toks]
theorem ground1 : ∀ mark, mark < 5 → ∀ c, c < 14 → isInB digitsS (Txt.item (wordAt mark c) (-1)) = isDc c ∧ isInB digitsS (Txt.item (wordAt mark c) 0) = isDc c := by decide +kernel
theorem wordTk_ch (mark c : Nat) : (wordTk mark c).ch = (wordAt mark c).cps.toList := by unfold wordTk; split <;> rfl
theorem app_list (x y : PySem.Str) : (x ++ y).cps.toList = x.cps.toList ++ y.cps.toList := by rw [show (x ++ y).cps = x.cps ++ y.cps from rfl, Array.toList_append]
theorem chs_app (a b : List Tk) : chs (a ++ b) = chs a ++ chs b := by simp [chs]
theorem name_toks (mark : Nat) (hm : mark < 5) : ∀ (cs : List Nat) (nm : PySem.Str), (∀ c ∈ cs, c < 14) → (cs.foldl (nameStep mark) nm).cps.toList = nm.cps.toList ++ chs (toks mark (lastD nm) cs)
  | [], nm, _ => by simp [toks, chs]
  | c :: cs, nm, hc => by
    have hw := wordAt_length mark c (hc c (.head _))
    obtain ⟨g1, g2⟩ := ground1 mark hm c (hc c (.head _))
    have hl : lastD (nameStep mark nm c) = isDc c := by
      unfold lastD nameStep
      split
      · rw [item_last _ _ hw.1]; exact g1
      · rw [item_last _ _ (by rw [PySem.Str.length_append]; lia), item_last _ _ hw.1]; exact g1
    have ih := name_toks mark hm cs (nameStep mark nm c) (fun x hx => hc x (.tail _ hx))
    rw [List.foldl_cons, ih, hl]
    have hj : joins mark nm c = decide (mark = 4 ∧ lastD nm ≠ isDc c) := by
      unfold joins
      rw [g2]
      show (decide (mark = 4) && (lastD nm != isDc c)) = _
      cases h1 : decide (mark = 4) <;> cases h2 : lastD nm <;> cases h3 : isDc c <;> simp_all
    rw [toks_cons]
    unfold nameStep
    rw [hj]
    by_cases h : mark = 4 ∧ lastD nm ≠ isDc c
    · rw [if_pos h, if_pos (decide_eq_true h), chs_app, app_list, List.append_assoc, show chs [wordTk mark c] = (wordTk mark c).ch ++ [] from rfl, wordTk_ch, List.append_nil]
    · rw [if_neg h, if_neg (by simpa using h), chs_app, app_list, app_list, List.append_assoc]
      rw [show chs [.S (sepK mark), wordTk mark c] = [sepK mark] ++ ((wordTk mark c).ch ++ []) from rfl, wordTk_ch, List.append_nil]
      rw [show (Txt.item sepsS (mark : Int)).cps.toList = [sepK mark] from rfl]
      try simp only [List.append_assoc]

noncomputable def Tk.okB : Tk → Bool
  | .D l => !l.isEmpty && l.all isDig
  | .S c => isSep c
  | .A l => !l.isEmpty && l.all fun c => !isDig c && !isSep c
theorem okB_ok {t : Tk} (h : t.okB = true) : t.ok := by
  cases t with
  | D l =>
    have h : (!l.isEmpty && l.all isDig) = true := h
    rw [Bool.and_eq_true, List.all_eq_true] at h
    exact ⟨by intro e; subst e; exact absurd h.1 (by decide), h.2⟩
  | S c => exact h
  | A l =>
    have h : (!l.isEmpty && l.all fun c => !isDig c && !isSep c) = true := h
    rw [Bool.and_eq_true, List.all_eq_true] at h
    exact ⟨by intro e; subst e; exact absurd h.1 (by decide), fun c hc => by simpa using h.2 c hc⟩
noncomputable def Tk.isK : Tk → Bool → Prop
  | .D _, b => b = true
  | .A _, b => b = false
  | .S _, _ => False
theorem ground2 : ∀ mark, mark < 5 → (Tk.S (sepK mark)).ok ∧ pieceD (strOf [sepK mark]) = [] ∧ ∀ c, c < 14 → (wordTk mark c).ok := by
  have h1 : ∀ mark, mark < 5 → (Tk.S (sepK mark)).okB = true ∧ isInB sepC (strOf [sepK mark]) = true ∧ ∀ c, c < 14 → (wordTk mark c).okB = true := by decide +kernel
  intro mark hm
  obtain ⟨a, b, c⟩ := h1 mark hm
  exact ⟨okB_ok a, by unfold pieceD; rw [if_pos b], fun x hx => okB_ok (c x hx)⟩
theorem wordTk_isK (mark c : Nat) : (wordTk mark c).isK (isDc c) := by
  unfold wordTk
  cases h : isDc c <;> rfl
theorem toks_ok (mark : Nat) (hm : mark < 5) : ∀ (cs : List Nat) (pd : Bool) (prev : Tk), (∀ c ∈ cs, c < 14) → prev.ok → prev.isK pd → TksOk (prev :: toks mark pd cs)
  | [], pd, prev, _, ho, _ => by rw [toks]; exact ho
  | c :: cs, pd, prev, hc, ho, hk => by
    obtain ⟨g1, _, g2⟩ := ground2 mark hm
    have gw := g2 c (hc c (.head _))
    have ih := toks_ok mark hm cs (isDc c) (wordTk mark c) (fun x hx => hc x (.tail _ hx)) gw (wordTk_isK mark c)
    rw [toks_cons]
    by_cases h : mark = 4 ∧ pd ≠ isDc c
    · rw [if_pos h]
      refine ⟨ho, ?_, ih⟩
      have hw := wordTk_isK mark c
      revert hw hk
      cases prev <;> cases wordTk mark c <;> intro hk hw <;> first | trivial | (exact absurd (hk.trans hw.symm) h.2) | (exact hw.elim) | (exact hk.elim)
    · rw [if_neg h]
      refine ⟨ho, ?_, g1, ?_, ih⟩
      · cases prev <;> trivial
      · cases wordTk mark c <;> trivial
theorem strOf_back (x : PySem.Str) : strOf x.cps.toList = x := by
  obtain ⟨a⟩ := x
  rfl
theorem piece_nil : pieceD (strOf []) = [] := by
  have : isInB sepC (strOf []) = true := by decide +kernel
  unfold pieceD; rw [if_pos this]
theorem pieces_data : ∀ (n : Nat) (ts : List Tk), ts.length ≤ n → TksOk ts → ((pieces ts).map strOf).flatMap pieceD = ts.flatMap (fun t => pieceD (strOf t.ch)) ∧ ∀ p ∈ pieces ts, p = [] ∨ ∃ t ∈ ts, p = t.ch
  | _, [], _, _ => ⟨by show pieceD (strOf []) ++ [] = []; rw [piece_nil]; rfl, fun p hp => .inl (List.mem_singleton.mp hp)⟩
  | 0, _ :: _, hn, _ => by simp at hn
  | n + 1, .D l :: r, hn, hok => by
    obtain ⟨h1, h2⟩ := pieces_data n r (by simpa using hn) hok.tail
    refine ⟨?_, fun p hp => ?_⟩
    · show pieceD (strOf []) ++ (pieceD (strOf l) ++ ((pieces r).map strOf).flatMap pieceD) = pieceD (strOf l) ++ r.flatMap _
      rw [piece_nil, h1]; rfl
    · have hp : p ∈ [] :: l :: pieces r := hp
      rcases List.mem_cons.mp hp with rfl | hp
      · exact .inl rfl
      rcases List.mem_cons.mp hp with rfl | hp
      · exact .inr ⟨.D p, .head _, rfl⟩
      · exact (h2 p hp).imp id fun ⟨t, ht, e⟩ => ⟨t, .tail _ ht, e⟩
  | n + 1, .S c :: r, hn, hok => by
    obtain ⟨h1, h2⟩ := pieces_data n r (by simpa using hn) hok.tail
    refine ⟨?_, fun p hp => ?_⟩
    · show pieceD (strOf []) ++ (pieceD (strOf [c]) ++ ((pieces r).map strOf).flatMap pieceD) = pieceD (strOf [c]) ++ r.flatMap _
      rw [piece_nil, h1]; rfl
    · have hp : p ∈ [] :: [c] :: pieces r := hp
      rcases List.mem_cons.mp hp with rfl | hp
      · exact .inl rfl
      rcases List.mem_cons.mp hp with rfl | hp
      · exact .inr ⟨.S c, .head _, rfl⟩
      · exact (h2 p hp).imp id fun ⟨t, ht, e⟩ => ⟨t, .tail _ ht, e⟩
  | n + 1, [.A l], hn, hok => by
    refine ⟨rfl, fun p hp => ?_⟩
    have hp : p ∈ [l] := hp
    exact .inr ⟨.A l, .head _, List.mem_singleton.mp hp⟩
  | n + 1, .A l :: .D d :: r, hn, hok => by
    obtain ⟨h1, h2⟩ := pieces_data n r (by simp only [List.length_cons] at hn; lia) hok.tail.tail
    refine ⟨?_, fun p hp => ?_⟩
    · show pieceD (strOf l) ++ (pieceD (strOf d) ++ ((pieces r).map strOf).flatMap pieceD) = pieceD (strOf l) ++ (pieceD (strOf d) ++ r.flatMap _)
      rw [h1]
    · have hp : p ∈ l :: d :: pieces r := hp
      rcases List.mem_cons.mp hp with rfl | hp
      · exact .inr ⟨.A p, .head _, rfl⟩
      rcases List.mem_cons.mp hp with rfl | hp
      · exact .inr ⟨.D p, .tail _ (.head _), rfl⟩
      · exact (h2 p hp).imp id fun ⟨t, ht, e⟩ => ⟨t, .tail _ (.tail _ ht), e⟩
  | n + 1, .A l :: .S c :: r, hn, hok => by
    obtain ⟨h1, h2⟩ := pieces_data n r (by simp only [List.length_cons] at hn; lia) hok.tail.tail
    refine ⟨?_, fun p hp => ?_⟩
    · show pieceD (strOf l) ++ (pieceD (strOf [c]) ++ ((pieces r).map strOf).flatMap pieceD) = pieceD (strOf l) ++ (pieceD (strOf [c]) ++ r.flatMap _)
      rw [h1]
    · have hp : p ∈ l :: [c] :: pieces r := hp
      rcases List.mem_cons.mp hp with rfl | hp
      · exact .inr ⟨.A p, .head _, rfl⟩
      rcases List.mem_cons.mp hp with rfl | hp
      · exact .inr ⟨.S c, .tail _ (.head _), rfl⟩
      · exact (h2 p hp).imp id fun ⟨t, ht, e⟩ => ⟨t, .tail _ (.tail _ ht), e⟩
  | n + 1, .A l :: .A l' :: r, hn, hok => hok.2.1.elim
/-- the texts that a version's text can split into -/
noncomputable def pieceL : List PySem.Str := strOf [] :: "1" :: "00" :: "02" :: "010" :: ([43, 45, 46, 95].map fun c => strOf [c]) ++ wordL
theorem ground3 : ∀ mark, mark < 5 → strOf [sepK mark] ∈ pieceL ∧ ∀ c, c < 14 → wordAt mark c ∈ pieceL := by decide +kernel
noncomputable def flatP (p : PySem.Str) : Option (Int × Option Int) := if isInB sepC p then none else match PySem.intText? p with
  | some n => some (100, some n)
  | none => some (stageOf p, none)
noncomputable def partI (c : Nat) : Option Int := if isDc c then some (match c with | 9 => 0 | 10 => 2 | _ => 10) else none
theorem ground4 : ∀ mark, mark < 5 → ∀ c, c < 14 → flatP (wordAt mark c) = some (rankOf c, partI c) ∧ (isDc c = false → wordAt mark c = wordOf c) := by decide +kernel
theorem partOf_eq : ∀ c, c < 14 → partOf c = match partI c with | some n => .int n | none => .str (wordOf c)
  | 0, _ => rfl | 1, _ => rfl | 2, _ => rfl | 3, _ => rfl | 4, _ => rfl | 5, _ => rfl | 6, _ => rfl | 7, _ => rfl | 8, _ => rfl | 9, _ => rfl | 10, _ => rfl | 11, _ => rfl | 12, _ => rfl | 13, _ => rfl
  | n + 14, h => by lia
theorem word_data (mark c : Nat) (hm : mark < 5) (hc : c < 14) : pieceD (wordAt mark c) = [.int (rankOf c), partOf c] := by
  obtain ⟨h, hw⟩ := ground4 mark hm c hc
  rw [partOf_eq c hc]
  unfold flatP at h
  unfold pieceD
  split at h
  · cases h
  · rename_i hs
    rw [if_neg hs]
    split at h
    · rename_i n hn
      injection h with h
      injection h with h1 h2
      rw [← h1, ← h2]
    · rename_i hn
      injection h with h
      injection h with h1 h2
      have hd : isDc c = false := by
        unfold partI at h2
        split at h2
        · cases h2
        · rename_i hd; simpa using hd
      rw [← h1, ← h2, hw hd]
theorem one_data : pieceD "1" = [.int 100, .int 1] := by
  have h : flatP "1" = some (100, some 1) := by decide +kernel
  unfold flatP at h
  unfold pieceD
  split at h
  · cases h
  · rename_i hs
    rw [if_neg hs]
    split at h
    · rename_i n hn
      injection h with h
      injection h with h1 h2
      injection h2 with h2
      rw [h2]
    · cases h
theorem toks_data (mark : Nat) (hm : mark < 5) : ∀ (cs : List Nat) (pd : Bool), (∀ c ∈ cs, c < 14) → (toks mark pd cs).flatMap (fun t => pieceD (strOf t.ch)) = cs.flatMap (fun c => [.int (rankOf c), partOf c]) ∧ ∀ t ∈ toks mark pd cs, strOf t.ch ∈ pieceL
  | [], pd, _ => by rw [toks]; exact ⟨rfl, fun t ht => by cases ht⟩
  | c :: cs, pd, hc => by
    obtain ⟨h1, h2⟩ := toks_data mark hm cs (isDc c) fun x hx => hc x (.tail _ hx)
    have hw : pieceD (strOf (wordTk mark c).ch) = [.int (rankOf c), partOf c] := by rw [wordTk_ch, strOf_back]; exact word_data mark c hm (hc c (.head _))
    have hs := (ground2 mark hm).2.1
    have hml : strOf (wordTk mark c).ch ∈ pieceL := by rw [wordTk_ch, strOf_back]; exact (ground3 mark hm).2 c (hc c (.head _))
    have hsl := (ground3 mark hm).1
    rw [toks_cons]
    by_cases h : mark = 4 ∧ pd ≠ isDc c
    · rw [if_pos h, List.flatMap_append, h1]
      refine ⟨?_, fun t ht => ?_⟩
      · show (pieceD (strOf (wordTk mark c).ch) ++ []) ++ _ = _
        rw [hw]; rfl
      · rcases List.mem_append.mp ht with ht | ht
        · rw [List.mem_singleton.mp ht]; exact hml
        · exact h2 t ht
    · rw [if_neg h, List.flatMap_append, h1]
      refine ⟨?_, fun t ht => ?_⟩
      · show (pieceD (strOf [sepK mark]) ++ (pieceD (strOf (wordTk mark c).ch) ++ [])) ++ _ = _
        rw [hw, hs]; rfl
      · rcases List.mem_append.mp ht with ht | ht
        · rcases List.mem_cons.mp ht with rfl | ht
          · exact hsl
          · rw [List.mem_singleton.mp ht]; exact hml
        · exact h2 t ht
/-- the split of a version's text, and what its pieces say -/
theorem name_pieces (cs : List Nat) (mark : Nat) (hm : mark < 5) (hc : ∀ c ∈ cs, c < 14) :
    ∃ ps, Splits (nameOf cs mark).cps (nameOf cs mark).cps.size 0 ps ∧ (∀ p ∈ ps, p ∈ pieceL) ∧ ps.flatMap pieceD = rowD cs := by
  have hl : lastD "1" = true := by decide +kernel
  have h1 : (PySem.Str.ofString "1").cps.toList = [49] := by decide +kernel
  have hn : (nameOf cs mark).cps.toList = [] ++ chs (.D [49] :: toks mark true cs) := by
    have := name_toks mark hm cs "1" hc
    rw [hl, h1] at this
    exact this
  have hok : TksOk (.D [49] :: toks mark true cs) := toks_ok mark hm cs true _ hc ⟨by decide, by decide⟩ rfl
  have hs := splits_toks _ _ _ [] (Nat.le_refl _) hn hok
  obtain ⟨hd, hp⟩ := pieces_data _ _ (Nat.le_refl _) hok
  obtain ⟨td, tp⟩ := toks_data mark hm cs true hc
  have e1 : strOf [49] = "1" := by decide +kernel
  refine ⟨_, hs, fun p hp' => ?_, ?_⟩
  · obtain ⟨q, hq, rfl⟩ := List.mem_map.mp hp'
    rcases hp q hq with rfl | ⟨t, ht, rfl⟩
    · exact .head _
    · rcases List.mem_cons.mp ht with rfl | ht
      · show strOf [49] ∈ pieceL
        rw [e1]; exact .tail _ (.head _)
      · exact tp t ht
  · rw [hd, List.flatMap_cons, td]
    show pieceD (strOf [49]) ++ _ = rowD cs
    rw [e1, one_data]
    rfl
end TNames
section TCVa
open PySem PySem.W PySem.Calls PyProof.Rows PyProof.V PySem.Spec
open Builtin.Re
set_option maxRecDepth 100000
set_option maxHeartbeats 1000000
theorem pat43 {P : Params} {h : Heap} (X : (KK P).In h) : PatAt h 43 verC 1 :=
  ⟨⟨42, _, _, _, _, _, _, _, X 43 _ rfl, X 42 _ rfl, by decide +kernel⟩⟩
section
variable {prog : Program} {w : World} {A : Around} {E : Value → Shared → Prop} {s : Shared}
theorem typeIs_pat {pat : Addr} {code : Array Nat} {n : Nat} (hp : PatAt s.heap pat code n) : s.TypeIs (.ref pat) "re.Pattern" := by
  obtain ⟨tup, v0, v1, v3, v4, g0, g1, cv, h1, h2, h3⟩ := hp.ex
  exact ⟨_, h1, rfl⟩
theorem noDict_pat {pat : Addr} {code : Array Nat} {n : Nat} (hp : PatAt s.heap pat code n) : ∀ a, Value.ref pat = .ref a → ∃ o, s.heap.get? a = some o ∧ o.dict = none := by
  obtain ⟨tup, v0, v1, v3, v4, g0, g1, cv, h1, h2, h3⟩ := hp.ex
  intro a e
  cases e
  exact ⟨_, h1, rfl⟩
theorem getMethod_split {pat : Addr} {pl : Sem Bool} {Q : Value × List Value → Shared → Prop} {code : Array Nat} {n : Nat} (hp : PatAt s.heap pat code n) (h : Q (.builtin "re.Pattern.split", [.ref pat]) s) : wpAny (model prog w) A (getMethod (.ref pat) "split" pl) Q E s :=
  getMethod_builtin (typeIs_pat hp) plainAttrs_pat slot_split type_split (noDict_pat hp) h
theorem call_split {pat : Addr} {x : PySem.Str} {t : Tok} {ps : List PySem.Str} {Q : Value → Shared → Prop} (hp : PatAt s.heap pat verC 1) (hx : x.cps.size ≤ 100000) (hs : Splits x.cps x.cps.size 0 ps)
    (h : ∀ vs tk, DatAll [] vs (ps.map Dat.str) → Q (.ref s.heap.objs.size) { s with heap := s.heap.push (listOf vs.toArray 0), toks := tk }) :
    wpAny (model prog w) A (call (.builtin "re.Pattern.split") [.ref pat, .str x t]) Q E s :=
  call_meetsIn (S := fun _ R s' => s' = s ∧ ∀ vs tk, DatAll [] vs (ps.map Dat.str) → R (.ok (.ret (.ref s.heap.objs.size))) { s with heap := s.heap.push (listOf vs.toArray 0), toks := tk }) slot_split (typeIs_pat hp) entry_split (args_split _ _)
    (fun A R s' ⟨e, k⟩ => by subst e; exact split_run hp hx hs fun vs tk d => k vs tk d) ⟨rfl, fun vs tk d => h vs tk d⟩
end
/-- the dict of the stages -/
noncomputable def stageHit (o : Option Value) (i : Int) : Bool := match o with
  | some (.int j _) => j == i
  | none => i == 0
  | _ => false
/-- what is known of the pieces, by looking at each -/
theorem piece_good : ∀ p ∈ pieceL, p.length ≤ 640 ∧ (reprText p).length ≤ 1000 := by decide +kernel
section
variable {prog : Program} {w : World} {A : Around} {E : Value → Shared → Prop} {s : Shared} {h₀ : Heap} {L D b : Addr} {m : PySem.Str → Option Value} {news news' : List (Addr × Obj)}
theorem ext_pair {rs : List Value} {k n2 : Nat} {v1 v2 : Value} {Q : Value → Shared → Prop} (F : Fr h₀ L s.heap m) (N : News h₀ L s.heap news) (hb : (b, ({ cls := .type "tuple", data := .seq #[v1, v2] n2 } : Obj)) ∈ news)
    (U : Upd D (listOf rs.toArray k) (listOf (rs ++ [v1, v2]).toArray (k + 1)) news news') (hl : rs.length ≤ 90000) (h : ∀ h', Fr h₀ L h' m → News h₀ L h' news' → Q .none { s with heap := h' }) : wpAny (model prog w) A (call (.builtin "list.extend") [.ref D, .ref b]) Q E s :=
  kup_extend F N hb (its2 := #[v1, v2]) rfl (by show (2 : Nat) ≠ 0; decide) U (extend_door (by simp only [List.size_toArray, sizeLine_eq]; show rs.length + 2 ≤ _; omega)) (by rw [sizeLine_eq]; show rs.length ≤ _; omega) (by simp only [List.size_toArray, sizeLine_eq]; show rs.length + 2 ≤ _; omega) h
end
theorem stage_look {v : Value} : ∀ p ∈ pieceL, Flat v ((Spec.lookup (PyData.str p) [(PyData.str { cps := #[100, 101, 118] }, PyData.int 10),
            (PyData.str { cps := #[97, 108, 112, 104, 97] }, PyData.int 20),
            (PyData.str { cps := #[97] }, PyData.int 20), (PyData.str { cps := #[98, 101, 116, 97] }, PyData.int 30),
            (PyData.str { cps := #[98] }, PyData.int 30), (PyData.str { cps := #[99] }, PyData.int 40),
            (PyData.str { cps := #[82, 67] }, PyData.int 50), (PyData.str { cps := #[114, 99] }, PyData.int 50),
            (PyData.str { cps := #[112, 108] }, PyData.int 200), (PyData.str { cps := #[112] }, PyData.int 200)]).getD (PyData.int 0)) → DatIn [] v (.int (stageOf p)) := by
  intro p hp h
  have e : ∀ p ∈ pieceL, (match (Spec.lookup (PyData.str p) [(PyData.str { cps := #[100, 101, 118] }, PyData.int 10),
            (PyData.str { cps := #[97, 108, 112, 104, 97] }, PyData.int 20),
            (PyData.str { cps := #[97] }, PyData.int 20), (PyData.str { cps := #[98, 101, 116, 97] }, PyData.int 30),
            (PyData.str { cps := #[98] }, PyData.int 30), (PyData.str { cps := #[99] }, PyData.int 40),
            (PyData.str { cps := #[82, 67] }, PyData.int 50), (PyData.str { cps := #[114, 99] }, PyData.int 50),
            (PyData.str { cps := #[112, 108] }, PyData.int 200), (PyData.str { cps := #[112] }, PyData.int 200)]).getD (PyData.int 0) with | .int j => j == stageOf p | _ => false) = true := by decide +kernel
  have e := e p hp
  revert h e
  generalize (Spec.lookup (PyData.str p) _).getD (PyData.int 0) = d
  intro h e
  cases d with
  | int j =>
    have : j = stageOf p := by simpa using e
    subst this
    obtain ⟨t, rfl⟩ := Flat.int_inv h
    exact .int _ _
  | _ => cases e
theorem pieceD_len (p : PySem.Str) : (pieceD p).length ≤ 2 := by
  unfold pieceD
  split
  · simp
  · split <;> simp
theorem pieces_len : ∀ ps : List PySem.Str, (ps.flatMap pieceD).length ≤ 2 * ps.length
  | [] => by simp
  | p :: ps => by
    have h1 := pieceD_len p
    have h2 := pieces_len ps
    simp only [List.flatMap_cons, List.length_append, List.length_cons]
    omega
end TCVa
section TCV
open PySem PySem.W PySem.Calls PyProof.Rows PyProof.V PySem.Spec
set_option maxRecDepth 100000
set_option maxHeartbeats 1000000
set_option pp.maxSteps 12000


theorem open_stmtC {M : Model} {A : Around} {st st' : Stmt} {env : Env} {Q : Flow → Shared → Prop} {E : Value → Shared → Prop} {s : Shared} (e : st = st') (h : wpC M A (exec st' env) Q E s) : wpC M A (exec st env) Q E s := e ▸ h
theorem wpC_callWith_type1 {prog : Program} {w : World} {A : Around} {env : Env} {pos : Pos} {T : String} {e : Expr} {rest : List Expr} {Q : Value → Shared → Prop} {E : Value → Shared → Prop} {s : Shared}
    (h : wpAny (model prog w) A (spliced (backTo pos (starEach (e :: rest) env))) (fun vs s₁ => wpC (model prog w) A (call (.type T) vs) Q E s₁) E s)
    (he : starEach (e :: rest) env = (false, eval e env) :: starEach rest env := by rfl) (hplain : (backTo pos (starEach rest env)).any (·.1) = false := by rfl) :
    wpC (model prog w) A (callWith pos (.type T) [] (backTo pos (starEach (e :: rest) env)) []) Q E s := by
  rw [he] at h ⊢
  exact wpC_callWith_type (by show (false || (backTo pos (starEach rest env)).any (·.1)) = false; rw [hplain]; rfl) (evalArgs_plain h)
theorem cv_end {base g g' h' : Heap} {A : Around} {outer : List Env} {L I S lr : Addr} {oI : Obj} {s₁ : Shared} {tk i k : Nat} {vs rs : List Value} {ps : List PySem.Str} {pc : PySem.Str} {news : List (Addr × Obj)} {m : PySem.Str → Option Value}
    (F : Fr g' L h' m) (N : News g' L h' ((I, oI) :: (S, listOf vs.toArray 0) :: (lr, listOf rs.toArray k) :: news)) (T' : KtsTurn (frs outer) g g') (B' : Below A base outer g') (D' : KtsDicts (frs outer) g')
    (hS : S ≠ I) (hL : lr ≠ I) (hn : ∀ p ∈ news, p.1 ≠ I) (hm : m "result" = some (.ref lr)) (hpc : ps[i]? = some pc) (hrs : DatAll [] rs ((ps.take i).flatMap pieceD ++ pieceD pc)) :
    UnrEndT L s₁ I oI (fun g' m' nx' => (S, listOf vs.toArray 0) ∈ nx' ∧ KtsTurn (frs outer) g g' ∧ Below A base outer g' ∧ KtsDicts (frs outer) g' ∧ ∃ u rs k, m' = fixM [("result", .ref lr)] u ∧
      nx' = (S, listOf vs.toArray 0) :: (lr, listOf rs.toArray k) :: news ∧ DatAll [] rs ((ps.take (i + 1)).flatMap pieceD)) { s₁ with heap := h', toks := tk } := by
  refine unr_endT _ F N ?_ ⟨.head _, T', B', D', _, rs, k, fix_of _ (List.forall_mem_cons.mpr ⟨hm, List.forall_mem_nil _⟩), rfl, ?_⟩
  · intro p hp
    rcases List.mem_cons.mp hp with rfl | hp
    · exact hS
    rcases List.mem_cons.mp hp with rfl | hp
    · exact hL
    · exact hn p hp
  · rw [take_snoc hpc, List.flatMap_append]
    simpa using hrs
theorem cv_ok (w : World) (news : List (Addr × Obj)) (x : PySem.Str) (t : Tok) (ps : List PySem.Str) (hx : x.cps.size ≤ 2000) (hs : Splits x.cps x.cps.size 0 ps) (hp : ∀ p ∈ ps, p ∈ pieceL) :
    GivesC w 51 5 50 [.str x t] news (fun all r => DatIn all r (.list (ps.flatMap pieceD))) := by
  refine' gives_turnC (dd := 4) (uu := 47) [("version", .str x t)] ?ho ?hcd ?hbind ?hloc ?hco ?hgen ?hk ?hcell ?_
  walk_at "enter"
  intro p loose mean mg mb dp un gd outer base g L h₁ s tk B F XB N TB D lt hd hu
  simp only [List.reverse_cons, List.reverse_nil, List.nil_append, List.cons_append] at F
  have X : (KK w.params).In g := XB.keeps B.stays
  have T := TB.keeps B.stays
  refine opaqueC ?_
  intro QQ hQ AA ee
  refine wpC_execs_cons (wpC_any ?_)
  (repeat' ((fail_if_success (with_reducible first | refine sFor ?_)); walk_at "w1"))
  dsimp only
  refine wpC_execs_cons (wpC_any ?_)
  (repeat' ((fail_if_success (with_reducible first | refine sFor ?_)); walk_at "w1"))
  dsimp only
  refine wpC_execs_cons (open_stmtC (rfl : s5_2 = Stmt.For _ _ _ _ _) (For_turnsC ?_))
  repeat' ((fail_if_success (with_reducible first | refine sGm ?_)); walk_at "w1")
  (rename Fr _ _ _ _ => F1); (rename News _ _ _ _ => N1); (rename Heap => h2)
  refine getMethod_split (pat43 (X.keeps F1.keep)) ?_
  (repeat' ((fail_if_success (with_reducible first | refine sFor ?_)); walk_at "w1"))
  refine call_split (pat43 (X.keeps F1.keep)) (by omega) hs fun vs tk2 hvs => ?_
  obtain ⟨lr, F2, N2, o1⟩ : ∃ lr : Nat, Fr g L h2 (fun y => if y = "result" then some (.ref lr) else if y = "component_re" then some (.ref 43) else List.lookup y [("version", .str x t)]) ∧
      News g L h2 ((lr, listOf [].toArray 0) :: news) ∧ AllLt lr news := by
    refine ⟨_, F1, N1, ?_⟩
    first | assumption | exact allLt_of (by assumption)
  clear F1 N1
  have hlr : lr < h2.objs.size := Heap.lt_size (N2 _ (.head _)).1
  obtain ⟨S, hS⟩ : ∃ S, S = h2.objs.size := ⟨_, rfl⟩
  have F3 : Fr g L (h2.push (listOf vs.toArray 0)) _ := F2.push _
  have N3 : News g L (h2.push (listOf vs.toArray 0)) ((S, listOf vs.toArray 0) :: (lr, listOf [].toArray 0) :: news) := by
    intro q hq
    rcases List.mem_cons.mp hq with rfl | hq
    · exact ⟨hS ▸ Heap.get?_push_size _ rfl, fun e => absurd F2.ns.lt (by rw [← e, hS]; exact Nat.lt_irrefl _), hS ▸ next_is_new F2⟩
    · exact ⟨Heap.get?_push_of_some _ (N2 q hq).1, (N2 q hq).2⟩
  have hnews : ∀ q ∈ news, q.1 < S := fun q hq => hS ▸ Heap.lt_size (N2 q (.tail _ hq)).1
  dsimp only
  rw [← hS]
  refine for_ledC (fun i g' m nx => KtsTurn (frs outer) g g' ∧ Below (aro dp un gd outer) base outer g' ∧ KtsDicts (frs outer) g' ∧ ∃ u rs k, m = fixM [("result", .ref lr)] u ∧
      nx = (S, listOf vs.toArray 0) :: (lr, listOf rs.toArray k) :: news ∧ DatAll [] rs ((ps.take i).flatMap pieceD)) rfl F3 N3 (.head _)
      ⟨KtsTurn.refl, B, D, _, [], 0, fix_of _ (List.forall_mem_cons.mpr ⟨rfl, List.forall_mem_nil _⟩), rfl, .nil⟩ ?turn ?done PassesOwn.never
  case done =>
    intro g' m nx h tk' hJ F N
    obtain ⟨T', B', D', u, rs, k, rfl, rfl, hrs⟩ := hJ
    rw [hvs.length, List.length_map, List.take_length] at hrs
    have X' : (KK w.params).In g' := XB.keeps B'.stays
    have TT' := TB.keeps B'.stays
    clear X T B D F3 N3 F2 N2
    dsimp only
    refine wpC_execs_cons (wpC_any ?_)
    (repeat' ((fail_if_success (with_reducible first | refine sFor ?_)); walk_at "w1"))
    (rename Fr _ _ _ _ => F6); (rename News _ _ _ _ => N6)
    refine hQ _ _ ?_; refine RetT.intro [_, _] T' F6 N6 ?_ (.list (.tail _ (.head _)) (hrs.mono fun _ h => absurd h List.not_mem_nil))
    intro q hq p hp
    simp only [List.mem_cons, List.not_mem_nil, or_false] at hp
    rcases hp with rfl | rfl
    · exact hnews q hq
    · exact ktn_ltOf o1 q hq
  case turn =>
    intro I oI i v g' m nx h tk' hv hJ hax hI hne F N
    refine opaqueTC ?_
    intro RR hR
    obtain ⟨T', B', D', u, rs, k, rfl, rfl, hrs⟩ := hJ
    obtain ⟨d, hd', hvd⟩ := dat_at hvs hv
    obtain ⟨pc, hpc, rfl⟩ : ∃ pc, ps[i]? = some pc ∧ d = .str pc := by
      rw [List.getElem?_map] at hd'
      obtain ⟨c, a, b⟩ := Option.map_eq_some_iff.mp hd'
      exact ⟨c, a, b.symm⟩
    obtain ⟨tc, rfl⟩ := str_of_dat hvd
    have hpl := hp pc (List.mem_of_getElem? hpc)
    have hrl : rs.length ≤ 90000 := by
      have h1 := hrs.length
      have h2 := pieces_len (ps.take i)
      have h3 := hs.len
      rw [List.length_take] at h2
      omega
    obtain ⟨pl1, pl2⟩ := piece_good pc hpl
    have i1 : lr < I := hI (lr, _) (.tail _ (.head _))
    have i2 : lr < S := by omega
    have X' : (KK w.params).In g' := XB.keeps B'.stays
    have TT' := TB.keeps B'.stays
    clear X T B D F3 N3 F2 N2
    (repeat' ((fail_if_success (with_reducible first | refine sFor ?_)); walk_at "w1"))
    refine wpC_execs_cons (wpC_If ?_)
    (repeat' ((fail_if_success (with_reducible first | refine sFor ?_)); walk_at "w1"))
    all_goals ((rename Fr _ _ _ _ => F5); (rename News _ _ _ _ => N5); (rename List.isEmpty _ = _ => hb))
    all_goals try (
      have hsep : isInB sepC pc = true := by rw [show isInB sepC pc = !(List.isEmpty (Builtin.Str.occurrences (PySem.Str.ofString "._+-") pc 0 (PySem.Str.ofString "._+-").length 1)) from rfl, hb]; rfl
      have hpd : pieceD pc = [] := by unfold pieceD; rw [if_pos hsep]
      refine wpC_any (wpAny_execs_nil ?_)
      dsimp only
      refine wpC_any (wpAny_execs_nil ?_)
      refine hR _ _ ?_; exact cv_end F5 N5 T' B' D' (hne _ (.head _)) (hne _ (.tail _ (.head _))) (fun p hp => hne p (.tail _ (.tail _ hp))) rfl hpc (by rw [hpd, List.append_nil]; exact hrs))
    have hsep : ¬ isInB sepC pc = true := by rw [show isInB sepC pc = !(List.isEmpty (Builtin.Str.occurrences (PySem.Str.ofString "._+-") pc 0 (PySem.Str.ofString "._+-").length 1)) from rfl, hb]; decide
    refine wpC_execs_cons (wpC_Try_except ?_)
    refine wpC_execs_cons (wpC_Assign_Name (wpC_Call_Name ?_))
    (repeat' ((fail_if_success (with_reducible first | refine sFor ?_)); walk_at "w1"))
    refine wpC_callWith_type1 ?_
    (repeat' ((fail_if_success (with_reducible first | refine sFor ?_)); walk_at "w1"))
    cases hit : PySem.intText? pc with
    | some n =>
      have hpd : pieceD pc = [.int 100, .int n] := by unfold pieceD; rw [if_neg hsep, hit]
      refine wpC_any (int_reads pl1 hit ?_)
      (repeat' ((fail_if_success (with_reducible first | refine sFor ?_)); walk_at "w1"))
      refine wpC_any ?_
      (repeat' ((fail_if_success (with_reducible first | refine sFor ?_)); walk_at "w1"))
      dsimp only
      refine wpC_any ?_
      (repeat' ((fail_if_success (with_reducible first | refine sFor ?_)); walk_at "w1"))
      (rename Fr _ _ _ _ => F6); (rename News _ _ _ _ => N6)
      refine' ext_pair F6 N6 (.head _) ?u hrl ?_
      case u => k_upd
      intro h7 F7 N7
      (repeat' ((fail_if_success (with_reducible first | refine sFor ?_)); walk_at "w1"))
      dsimp only
      refine wpC_any (wpAny_execs_nil ?_)
      refine hR _ _ ?_; exact cv_end F7 (fun q hq => N7 q (.tail _ hq)) T' B' D' (hne _ (.head _)) (hne _ (.tail _ (.head _))) (fun p hp => hne p (.tail _ (.tail _ hp))) rfl hpc (by rw [hpd]; exact hrs.append (.cons (.int _ _) (.cons (.int _ _) .nil)))
    | none =>
      have hpd : pieceD pc = [.int (stageOf pc), .str pc] := by unfold pieceD; rw [if_neg hsep, hit]
      refine int_refuses pl1 (by rw [sizeLine_eq]; omega) hit rfl fun h' tk6 e6 hx6 => ?_
      dsimp only at hx6 ⊢
      refine own_new (A := aro dp un gd outer) B' hx6 F5 N5 rfl fun h7 R7 FG7 U7 => ?_
      refine hit_SN0 (A₀ := aro dp un gd outer) R7 FG7 B' U7 XB TB D' T' ?kt ?_
      case kt => kts_test
      intro h8 g8 T8 F8 N8 B8 X8 P8 D8
      clear F5 N5 X' TT' R7 FG7 U7 hx6
      (repeat' ((fail_if_success (with_reducible first | refine sFor ?_)); walk_at "w1"))
      dsimp only
      refine wpC_any ?_
      (repeat' ((fail_if_success (with_reducible first | refine sFor ?_)); walk_at "w1"))
      (rename Fr _ _ _ _ => F6); (rename News _ _ _ _ => N6); (rename Flat _ _ => fl6)
      refine' ext_pair F6 N6 (.head _) ?u hrl ?_
      case u => k_upd
      intro h7 F7 N7
      (repeat' ((fail_if_success (with_reducible first | refine sFor ?_)); walk_at "w1"))
      dsimp only
      refine wpC_any (wpAny_execs_nil ?_)
      refine hR _ _ ?_; exact cv_end F7 (fun q hq => N7 q (.tail _ hq)) T8 B8 D8 (hne _ (.head _)) (hne _ (.tail _ (.head _))) (fun p hp => hne p (.tail _ (.tail _ hp))) rfl hpc (by rw [hpd]; exact hrs.append (.cons (stage_look pc hpl fl6) (.cons (.str _ _) .nil)))
/-- the contract of _comparable_version on the names that the law makes -/
theorem version_ok (w : World) (news : List (Addr × Obj)) (cs : List Nat) (mark : Nat) (t : Tok) (hc : ∀ c ∈ cs, c < 14) (hlen : cs.length ≤ 100) (hm : mark < 5) :
    GivesC w 51 5 50 [.str (nameOf cs mark) t] news (fun all r => DatIn all r (.list (rowD cs))) := by
  obtain ⟨ps, h1, h2, h3⟩ := name_pieces cs mark hm hc
  have hl := (nameOf_length mark cs "1" hc (by decide +kernel)).2
  have h0 : (PySem.Str.ofString "1").length = 1 := by decide +kernel
  rw [h0] at hl
  have := cv_ok w news (nameOf cs mark) t ps (by show (nameOf cs mark).length ≤ 2000; unfold nameOf; omega) h1 h2
  rw [h3] at this
  exact this
end TCV
section TKas
open PySem PySem.W PySem.Calls PyProof.Rows
set_option maxRecDepth 100000
set_option maxHeartbeats 1000000
/-- a run of the sort's questions, answered by lt -/
noncomputable def KOk {α : Type} (lt : Nat → Nat → Bool) (n : Nat) : KasT α → (α → Prop) → Prop
  | .ret a, P => P a
  | .ask i j k, P => i < n ∧ j < n ∧ KOk lt n (k (lt i j)) P
theorem kok_bind {α β : Type} {lt : Nat → Nat → Bool} {n : Nat} {f : α → KasT β} {P : β → Prop} : ∀ {t : KasT α}, KOk lt n t (fun a => KOk lt n (f a) P) → KOk lt n (t.bind f) P
  | .ret _, h => h
  | .ask _ _ _, h => ⟨h.1, h.2.1, kok_bind h.2.2⟩
theorem kok_mono {α : Type} {lt : Nat → Nat → Bool} {n : Nat} {P P' : α → Prop} (hp : ∀ a, P a → P' a) : ∀ {t : KasT α}, KOk lt n t P → KOk lt n t P'
  | .ret _, h => hp _ h
  | .ask _ _ _, h => ⟨h.1, h.2.1, kok_mono hp h.2.2⟩
theorem kas_of_ok {α : Type} {lt : Nat → Nat → Bool} {n : Nat} {cmp : Nat → Nat → (Bool → Shared → Prop) → Shared → Prop} {P : α → Prop} {Q : α → Shared → Prop} (Inv : Shared → Prop)
    (hc : ∀ i j s C, i < n → j < n → Inv s → (∀ s', Inv s' → C (lt i j) s') → cmp i j C s) (hq : ∀ a s', P a → Inv s' → Q a s') : ∀ {t : KasT α} {s : Shared}, KOk lt n t P → Inv s → t.kasWp cmp Q s
  | .ret _, _, h, hi => hq _ _ h hi
  | .ask i j k, s, h, hi => hc i j s _ h.1 h.2.1 hi fun s' hi' => kas_of_ok Inv hc hq h.2.2 hi'
section
variable {lt : Nat → Nat → Bool} {n : Nat}
noncomputable abbrev gp (p : Array Nat) (i : Nat) : Nat := p.getD i 0
noncomputable def Sd (lt : Nat → Nat → Bool) (p : Array Nat) (k : Nat) : Prop := ∀ i j, i ≤ j → j < k → lt (gp p j) (gp p i) = false
noncomputable def Nd (lt : Nat → Nat → Bool) (p : Array Nat) (k : Nat) : Prop := ∀ i j, i ≤ j → j < k → lt (gp p i) (gp p j) = false
/-- a weak order -/
structure Wo (lt : Nat → Nat → Bool) : Prop where
  tr : ∀ a b c, lt b a = false → lt c b = false → lt c a = false
  as : ∀ a b, lt a b = true → lt b a = false
theorem Wo.irr (W : Wo lt) (a : Nat) : lt a a = false := by
  cases h : lt a a with
  | false => rfl
  | true => have := W.as a a h; rw [h] at this; cases this
structure Pm (n : Nat) (p : Array Nat) : Prop where
  sz : p.size = n
  lt : ∀ i, i < n → gp p i < n
  pm : p.toList.Perm (List.range n)
theorem pm_of {p : Array Nat} (h : p.toList.Perm (List.range n)) : Pm n p := by
  have hs : p.size = n := by have := h.length_eq; simpa using this
  refine ⟨hs, fun i hi => ?_, h⟩
  have hm : p[i]'(by lia) ∈ p.toList := by simp
  have := h.mem_iff.mp hm
  have e : gp p i = p[i]'(by lia) := by unfold gp Array.getD; rw [dif_pos (by lia)]; rfl
  rw [e]
  exact List.mem_range.mp this
theorem pm_perm {p q : Array Nat} (h : Pm n p) (k : q.Perm p) : Pm n q := pm_of ((Array.perm_iff_toList_perm.mp k).trans h.pm)
theorem gp_congr {p q : Array Nat} {i j : Nat} (h : p[i]? = q[j]?) : gp p i = gp q j := by
  unfold gp
  rw [Array.getD_eq_getD_getElem?, Array.getD_eq_getD_getElem?, h]
theorem gp_rev {p : Array Nat} {i j : Nat} (hj : j ≤ p.size) (k : Nat) : gp (kas_rev p i j) k = if i ≤ k ∧ k < j then gp p (i + j - 1 - k) else gp p k := by
  have e := getElem?_mirror_all (xs := p) (i := i) hj k
  by_cases h : i ≤ k ∧ k < j
  · rw [if_pos h] at e ⊢; exact gp_congr e
  · rw [if_neg h] at e ⊢; exact gp_congr e
theorem gp_bubble {p : Array Nat} {src d : Nat} (hs : src < p.size) (hd : d ≤ src) (k : Nat) :
    gp (bubble p src d) k = if k = src - d then gp p src else if src - d < k ∧ k ≤ src then gp p (k - 1) else gp p k := by
  have e := getElem?_bubble hs d hd k
  by_cases h1 : k = src - d
  · rw [if_pos h1] at e ⊢; exact gp_congr e
  · rw [if_neg h1] at e ⊢
    by_cases h2 : src - d < k ∧ k ≤ src
    · rw [if_pos h2] at e ⊢; exact gp_congr e
    · rw [if_neg h2] at e ⊢; exact gp_congr e
theorem pm_rev {p : Array Nat} (h : Pm n p) (i j : Nat) : Pm n (kas_rev p i j) := pm_perm h (mirror_perm _ _ _ _)
theorem sd_succ (W : Wo lt) {p : Array Nat} {k : Nat} (h1 : 1 ≤ k) (h : Sd lt p k) (hk : lt (gp p k) (gp p (k - 1)) = false) : Sd lt p (k + 1) := by
  intro i j hij hj
  by_cases e : j = k
  · subst e
    by_cases ei : i = j
    · subst ei; exact W.irr _
    · exact W.tr _ _ _ (h i (j - 1) (by lia) (by lia)) hk
  · exact h i j hij (by lia)
theorem nd_succ (W : Wo lt) {p : Array Nat} {k : Nat} (h1 : 1 ≤ k) (h : Nd lt p k) (hk : lt (gp p (k - 1)) (gp p k) = false) : Nd lt p (k + 1) := by
  intro i j hij hj
  by_cases e : j = k
  · subst e
    by_cases ei : i = j
    · subst ei; exact W.irr _
    · exact W.tr _ _ _ hk (h i (j - 1) (by lia) (by lia))
  · exact h i j hij (by lia)
theorem asc_ok (W : Wo lt) {p : Array Nat} (hp : Pm n p) : ∀ (f k : Nat), 1 ≤ k → k + f ≤ n → Sd lt p k → KOk lt n (kas_asc p f k) fun m => k ≤ m ∧ m ≤ k + f ∧ Sd lt p m ∧ (m < k + f → lt (gp p m) (gp p (m - 1)) = true)
  | 0, k, _, _, h => ⟨Nat.le_refl _, Nat.le_refl _, h, fun x => absurd x (by lia)⟩
  | f + 1, k, h1, h2, h => by
    refine ⟨hp.lt _ (by lia), hp.lt _ (by lia), ?_⟩
    cases c : lt (p.getD k 0) (p.getD (k - 1) 0) with
    | true =>
      dsimp only; rw [if_pos rfl]
      exact ⟨Nat.le_refl _, by lia, h, fun _ => c⟩
    | false =>
      dsimp only; rw [if_neg (by decide)]
      refine kok_mono (fun m hm => ?_) (asc_ok W hp f (k + 1) (by lia) (by lia) (sd_succ W h1 h c))
      exact ⟨by lia, by lia, hm.2.2.1, fun x => hm.2.2.2 (by lia)⟩
theorem desc_ok (W : Wo lt) : ∀ (f : Nat) (p : Array Nat) (k q : Nat), Pm n p → 1 ≤ k → q < k → k + f ≤ n → Nd lt p k → (∀ i, k - (q + 1) ≤ i → i < k → lt (gp p (k - 1)) (gp p i) = false ∧ lt (gp p i) (gp p (k - 1)) = false) →
    KOk lt n (kas_desc f p k q) fun r => Pm n r.1 ∧ k ≤ r.2.1 ∧ r.2.1 ≤ k + f ∧ r.2.2 < r.2.1 ∧ Nd lt r.1 r.2.1 ∧ (∀ i, r.2.1 - (r.2.2 + 1) ≤ i → i < r.2.1 → lt (gp r.1 (r.2.1 - 1)) (gp r.1 i) = false ∧ lt (gp r.1 i) (gp r.1 (r.2.1 - 1)) = false)
  | 0, p, k, q, hp, h1, hq, _, h, he => ⟨hp, Nat.le_refl _, Nat.le_refl _, hq, h, he⟩
  | f + 1, p, k, q, hp, h1, hq, h2, h, he => by
    refine ⟨hp.lt _ (by lia), hp.lt _ (by lia), ?_⟩
    cases c : lt (p.getD k 0) (p.getD (k - 1) 0) with
    | true =>
      dsimp only; rw [if_pos rfl]
      by_cases hq0 : q > 0
      · rw [if_pos hq0]
        have hsz : k ≤ p.size := by rw [hp.sz]; lia
        have g := fun i => gp_rev (i := k - (q + 1)) hsz i
        have eqv : ∀ i, i < k → lt (gp (kas_rev p (k - (q + 1)) k) i) (gp p i) = false ∧ lt (gp p i) (gp (kas_rev p (k - (q + 1)) k) i) = false := by
          intro i hi
          rw [g i]
          split
          · rename_i hc
            have a := he i hc.1 hi
            have b := he (k - (q + 1) + k - 1 - i) (by lia) (by lia)
            exact ⟨W.tr _ _ _ a.1 b.2, W.tr _ _ _ b.1 a.2⟩
          · exact ⟨W.irr _, W.irr _⟩
        have hn : Nd lt (kas_rev p (k - (q + 1)) k) (k + 1) := by
          refine nd_succ W h1 (fun i j hij hj => ?_) ?_
          · exact W.tr _ _ _ (W.tr _ _ _ (eqv j hj).2 (h i j hij hj)) (eqv i (by lia)).1
          · have e1 : gp (kas_rev p (k - (q + 1)) k) k = gp p k := by rw [g k, if_neg (by lia)]
            rw [e1]
            exact W.tr _ _ _ (W.as _ _ c) (eqv (k - 1) (by lia)).1
        refine kok_mono (fun r hr => ?_) (desc_ok W f _ (k + 1) 0 (pm_rev hp _ _) (by lia) (by lia) (by lia) hn fun i hi hi2 => ?_)
        · exact ⟨hr.1, by lia, by lia, hr.2.2.2⟩
        · have : i = k + 1 - 1 := by lia
          rw [this]; exact ⟨W.irr _, W.irr _⟩
      · rw [if_neg hq0]
        refine kok_mono (fun r hr => ?_) (desc_ok W f _ (k + 1) 0 hp (by lia) (by lia) (by lia) (nd_succ W h1 h (W.as _ _ c)) fun i hi hi2 => ?_)
        · exact ⟨hr.1, by lia, by lia, hr.2.2.2⟩
        · have : i = k + 1 - 1 := by lia
          rw [this]; exact ⟨W.irr _, W.irr _⟩
    | false =>
      dsimp only; rw [if_neg (by decide)]
      refine ⟨hp.lt _ (by lia), hp.lt _ (by lia), ?_⟩
      cases d : lt (p.getD (k - 1) 0) (p.getD k 0) with
      | true =>
        dsimp only; rw [if_pos rfl]
        exact ⟨hp, Nat.le_refl _, (by show k ≤ k + (f + 1); lia), hq, h, he⟩
      | false =>
        dsimp only; rw [if_neg (by decide)]
        refine kok_mono (fun r hr => ?_) (desc_ok W f _ (k + 1) (q + 1) hp (by lia) (by lia) (by lia) (nd_succ W h1 h d) fun i hi hi2 => ?_)
        · exact ⟨hr.1, by lia, by lia, hr.2.2.2⟩
        · by_cases e : i = k
          · subst e; exact ⟨W.irr _, W.irr _⟩
          · have a := he i (by lia) (by lia)
            exact ⟨W.tr _ _ _ a.1 c, W.tr _ _ _ d a.2⟩
theorem tail3_ok (W : Wo lt) {p : Array Nat} {k : Nat} (hp : Pm n p) (h1 : 1 ≤ k) (hk : k ≤ n) (h : Nd lt p k) : KOk lt n (kas_tail3 k n p) fun r => Pm n r.2 ∧ 1 ≤ r.1 ∧ r.1 ≤ n ∧ Sd lt r.2 r.1 := by
  have hsz : k ≤ p.size := by rw [hp.sz]; exact hk
  have g := fun i => gp_rev (i := 0) hsz i
  refine kok_bind (kok_mono (fun m hm => ?_) (asc_ok W (pm_rev hp 0 k) (n - k) k h1 (by lia) fun i j hij hj => ?_))
  · exact ⟨pm_rev hp _ _, by lia, by lia, hm.2.2.1⟩
  · rw [g i, g j, if_pos ⟨by lia, by lia⟩, if_pos ⟨by lia, by lia⟩]
    exact h _ _ (by lia) (by lia)
theorem descPart_ok (W : Wo lt) {p : Array Nat} {k : Nat} (hp : Pm n p) (h1 : 1 ≤ k) (hk : k + 1 ≤ n) (h : Nd lt p (k + 1)) : KOk lt n (kas_descPart k n p) fun r => Pm n r.2 ∧ 1 ≤ r.1 ∧ r.1 ≤ n ∧ Sd lt r.2 r.1 := by
  refine kok_bind (kok_mono (fun r hr => ?_) (desc_ok W (n - (k + 1)) p (k + 1) 0 hp (by lia) (by lia) (by lia) h fun i hi hi2 => ?_))
  · obtain ⟨a, b, c, d, e, f⟩ := hr
    by_cases hq : r.2.2 > 0
    · rw [if_pos hq]
      refine tail3_ok W (pm_rev a _ _) (by lia) (by lia) fun i j hij hj => ?_
      have hsz : r.2.1 ≤ r.1.size := by rw [a.sz]; lia
      have g := fun i => gp_rev (i := r.2.1 - (r.2.2 + 1)) hsz i
      have eqv : ∀ i, i < r.2.1 → lt (gp (kas_rev r.1 (r.2.1 - (r.2.2 + 1)) r.2.1) i) (gp r.1 i) = false ∧ lt (gp r.1 i) (gp (kas_rev r.1 (r.2.1 - (r.2.2 + 1)) r.2.1) i) = false := by
        intro i hi
        rw [g i]
        split
        · rename_i hc
          have a := f i hc.1 hi
          have b := f (r.2.1 - (r.2.2 + 1) + r.2.1 - 1 - i) (by lia) (by lia)
          exact ⟨W.tr _ _ _ a.1 b.2, W.tr _ _ _ b.1 a.2⟩
        · exact ⟨W.irr _, W.irr _⟩
      exact W.tr _ _ _ (W.tr _ _ _ (eqv j hj).2 (e i j hij hj)) (eqv i (by lia)).1
    · rw [if_neg hq]
      exact tail3_ok W a (by lia) (by lia) e
  · have : i = k + 1 - 1 := by lia
    rw [this]; exact ⟨W.irr _, W.irr _⟩
theorem count_ok (W : Wo lt) {p : Array Nat} (hp : Pm n p) (hn : 1 ≤ n) : KOk lt n (kas_count n p) fun r => Pm n r.2 ∧ 1 ≤ r.1 ∧ r.1 ≤ n ∧ Sd lt r.2 r.1 := by
  have one : Sd lt p 1 := fun i j hij hj => by
    have : i = j := by lia
    subst this; exact W.irr _
  refine kok_bind (kok_mono (fun m hm => ?_) (asc_ok W hp (n - 1) 1 (by lia) (by lia) one))
  obtain ⟨a, b, c, d⟩ := hm
  by_cases e : m = n
  · subst e
    rw [if_pos (by simp)]
    exact ⟨hp, by lia, by lia, c⟩
  · rw [if_neg (by simpa using e)]
    have d' := d (by lia)
    by_cases m1 : m > 1
    · rw [if_pos m1]
      refine ⟨hp.lt _ (by lia), hp.lt _ (by lia), ?_⟩
      cases q : lt (p.getD 0 0) (p.getD (m - 1) 0) with
      | true =>
        dsimp only; rw [if_pos rfl]
        exact ⟨hp, by lia, by lia, c⟩
      | false =>
        dsimp only; rw [if_neg (by decide)]
        have hsz : m ≤ p.size := by rw [hp.sz]; lia
        have g := fun i => gp_rev (i := 0) hsz i
        have eqv : ∀ i, i < m → lt (gp p i) (gp p (m - 1)) = false ∧ lt (gp p (m - 1)) (gp p i) = false := fun i hi =>
          ⟨W.tr _ _ _ q (c 0 i (by lia) hi), c i (m - 1) (by lia) (by lia)⟩
        refine descPart_ok W (pm_rev hp _ _) (by lia) (by lia) (nd_succ W (by lia) (fun i j hij hj => ?_) ?_)
        · rw [g i, g j, if_pos ⟨by lia, by lia⟩, if_pos ⟨by lia, by lia⟩]
          exact W.tr _ _ _ (eqv _ (by lia)).2 (eqv _ (by lia)).1
        · rw [g (m - 1), g m, if_pos ⟨by lia, by lia⟩, if_neg (by lia)]
          exact W.tr _ _ _ (W.as _ _ d') (eqv _ (by lia)).1
    · rw [if_neg m1]
      refine descPart_ok W hp (by lia) (by lia) (nd_succ W (by lia) (fun i j hij hj => ?_) (W.as _ _ d'))
      have : i = j := by lia
      subst this; exact W.irr _
theorem place_ok (W : Wo lt) {p : Array Nat} {k : Nat} (hp : Pm n p) (hk : k < n) (hs : Sd lt p k) : ∀ (f l r : Nat), r - l ≤ f → l ≤ r → r ≤ k → (∀ i, i < l → lt (gp p k) (gp p i) = false) → (∀ i, r ≤ i → i < k → lt (gp p i) (gp p k) = false) →
    KOk lt n (kas_place p k f l r) fun l' => l' ≤ k ∧ (∀ i, i < l' → lt (gp p k) (gp p i) = false) ∧ (∀ i, l' ≤ i → i < k → lt (gp p i) (gp p k) = false)
  | 0, l, r, hf, hl, hr, h1, h2 => ⟨by lia, h1, fun i hi => h2 i (by lia)⟩
  | f + 1, l, r, hf, hl, hr, h1, h2 => by
    unfold kas_place
    by_cases e : l ≥ r
    · rw [if_pos e]
      exact ⟨by lia, h1, fun i hi => h2 i (by lia)⟩
    · rw [if_neg e]
      refine ⟨hp.lt _ (by lia), hp.lt _ (by lia), ?_⟩
      cases c : lt (p.getD k 0) (p.getD ((l + r) / 2) 0) with
      | true =>
        dsimp only; rw [if_pos rfl]
        refine place_ok W hp hk hs f l _ (by lia) (by lia) (by lia) h1 fun i hi hik => ?_
        exact W.tr _ _ _ (W.as _ _ c) (hs _ _ hi hik)
      | false =>
        dsimp only; rw [if_neg (by decide)]
        refine place_ok W hp hk hs f _ r (by lia) (by lia) hr (fun i hi => ?_) h2
        exact W.tr _ _ _ (hs i _ (by lia) (by lia)) c
theorem bin_ok (W : Wo lt) : ∀ (f : Nat) (p : Array Nat) (k : Nat), Pm n p → 1 ≤ k → k + f ≤ n → Sd lt p k → KOk lt n (kas_bin f p k) fun r => Pm n r ∧ Sd lt r (k + f)
  | 0, p, k, hp, _, _, h => ⟨hp, h⟩
  | f + 1, p, k, hp, h1, h2, h => by
    refine kok_bind (kok_mono (fun l hl => ?_) (place_ok W hp (by lia) h k 0 k (by lia) (by lia) (by lia) (fun i hi => absurd hi (by lia)) fun i hi hik => absurd hi (by lia)))
    obtain ⟨a, b, c⟩ := hl
    have g := fun i => gp_bubble (p := p) (src := k) (d := k - l) (by rw [hp.sz]; lia) (by lia) i
    rw [show k - (k - l) = l by lia] at g
    refine kok_mono (fun r hr => ⟨hr.1, by rw [show k + (f + 1) = k + 1 + f by lia]; exact hr.2⟩) (bin_ok W f _ (k + 1) (pm_perm hp (bubble_perm _ _ _)) (by lia) (by lia) fun i j hij hj => ?_)
    rw [g i, g j]
    by_cases ei : i = l
    · rw [if_pos ei]
      by_cases ej : j = l
      · rw [if_pos ej]; exact W.irr _
      · rw [if_neg ej, if_pos ⟨by lia, by lia⟩]
        exact c _ (by lia) (by lia)
    · rw [if_neg ei]
      by_cases hi : l < i ∧ i ≤ k
      · rw [if_pos hi, if_neg (by lia), if_pos ⟨by lia, by lia⟩]
        exact h _ _ (by lia) (by lia)
      · rw [if_neg hi]
        by_cases ej : j = l
        · rw [if_pos ej]; exact b _ (by lia)
        · rw [if_neg ej]
          by_cases hj2 : l < j ∧ j ≤ k
          · rw [if_pos hj2]; exact h _ _ (by lia) (by lia)
          · rw [if_neg hj2]; exact h _ _ (by lia) (by lia)
theorem kas_sort_ok (W : Wo lt) (hn : 1 ≤ n) : KOk lt n (kas_sort n) fun p => Pm n p ∧ Sd lt p n := by
  have h0 : Pm n (List.toArray (List.range n)) := pm_of (by simp)
  refine kok_bind (kok_mono (fun r hr => ?_) (count_ok W h0 hn))
  obtain ⟨a, b, c, d⟩ := hr
  by_cases e : r.1 < n
  · rw [if_pos e]
    refine kok_mono (fun q hq => ⟨hq.1, ?_⟩) (bin_ok W (n - max r.1 1) r.2 (max r.1 1) a (by lia) (by lia) (by rw [show max r.1 1 = r.1 by lia]; exact d))
    have := hq.2
    rw [show max r.1 1 + (n - max r.1 1) = n by lia] at this
    exact this
  · rw [if_neg e]
    exact ⟨a, by rw [show n = r.1 by lia]; exact d⟩
end
end TKas
section TLex
open PySem PySem.W PySem.Calls PyProof.Rows PyProof.V PySem.Spec
open PySem.SeqAt PySem.MeetsSeq PySem.MeetsSeq3
set_option maxRecDepth 100000
set_option maxHeartbeats 1000000
noncomputable def fEq : Dat → Dat → Bool
  | .int a, .int b => a == b
  | .str x, .str y => x == y
  | _, _ => false
noncomputable def fLt : Dat → Dat → Bool
  | .int a, .int b => decide (a < b)
  | .str x, .str y => decide (x.cps.toList < y.cps.toList)
  | _, _ => false
noncomputable def fCmp : Dat → Dat → Bool
  | .int _, .int _ => true
  | .str _, .str _ => true
  | _, _ => false
noncomputable def fFlat : Dat → Bool
  | .int _ => true
  | .str _ => true
  | _ => false
noncomputable def lexOk : List Dat → List Dat → Bool
  | x :: xs, y :: ys => fFlat x && fFlat y && (if fEq x y then lexOk xs ys else fCmp x y)
  | _, _ => true
noncomputable def lexLt : List Dat → List Dat → Bool
  | x :: xs, y :: ys => if fEq x y then lexLt xs ys else fLt x y
  | [], _ :: _ => true
  | _, [] => false
theorem flat_eqAt {n n' : List (Addr × Obj)} {v v' : Value} {d d' : Dat} (A : Around) (s : Shared) (h : DatIn n v d) (h' : DatIn n' v' d') (f : fFlat d = true) (f' : fFlat d' = true) : EqAt A s v v' (fEq d d') := by
  cases h <;> first | cases f | skip
  all_goals (cases h' <;> first | cases f' | skip)
  · exact EqAt.int_int _ _ _ _
  · exact EqAt.int_str _ _ _ _
  · exact EqAt.str_int _ _ _ _
  · exact EqAt.str_str _ _ _ _
section
variable {prog : Program} {w : World} {A : Around} {E : Value → Shared → Prop} {s : Shared}
theorem cmp_inv {d d' : Dat} (f : fCmp d d' = true) : (∃ a b, d = .int a ∧ d' = .int b) ∨ ∃ a b, d = .str a ∧ d' = .str b := by
  cases d with
  | int a => cases d' with
    | int b => exact .inl ⟨a, b, rfl, rfl⟩
    | _ => cases f
  | str a => cases d' with
    | str b => exact .inr ⟨a, b, rfl, rfl⟩
    | _ => cases f
  | _ => cases f
theorem flat_lt {n n' : List (Addr × Obj)} {v v' : Value} {d d' : Dat} {Q : Value → Shared → Prop} (h : DatIn n v d) (h' : DatIn n' v' d') (f : fCmp d d' = true) (hq : Q (.bool (fLt d d')) s) : wpAny (model prog w) A (richCompare .Lt v v') Q E s := by
  rcases cmp_inv f with ⟨a, b, rfl, rfl⟩ | ⟨a, b, rfl, rfl⟩
  · obtain ⟨t, rfl⟩ := int_of_dat h
    obtain ⟨u, rfl⟩ := int_of_dat h'
    exact (show wpAny (model prog w) A (compareOp .Lt (.int a t) (.int b u)) Q E s from PyProof.Rows.lt_int hq)
  · obtain ⟨t, rfl⟩ := str_of_dat h
    obtain ⟨u, rfl⟩ := str_of_dat h'
    exact (show wpAny (model prog w) A (compareOp .Lt (.str a t) (.str b u)) Q E s from PyProof.Rows.lt_str hq)
theorem flat_gt {n n' : List (Addr × Obj)} {v v' : Value} {d d' : Dat} {Q : Value → Shared → Prop} (h : DatIn n v d) (h' : DatIn n' v' d') (f : fCmp d d' = true) (hq : Q (.bool (fLt d' d)) s) : wpAny (model prog w) A (richCompare .Gt v v') Q E s := by
  rcases cmp_inv f with ⟨a, b, rfl, rfl⟩ | ⟨a, b, rfl, rfl⟩
  · obtain ⟨t, rfl⟩ := int_of_dat h
    obtain ⟨u, rfl⟩ := int_of_dat h'
    exact (show wpAny (model prog w) A (compareOp .Gt (.int a t) (.int b u)) Q E s from PyProof.Rows.gt_int hq)
  · obtain ⟨t, rfl⟩ := str_of_dat h
    obtain ⟨u, rfl⟩ := str_of_dat h'
    exact (show wpAny (model prog w) A (compareOp .Gt (.str a t) (.str b u)) Q E s from PySem.P.gt_str hq)
end
theorem dat_nth {n : List (Addr × Obj)} {its : Array Value} {ds : List Dat} {i : Nat} (h : DatAll n its.toList ds) (hi : i < its.size) : ∃ d, ds.drop i = d :: ds.drop (i + 1) ∧ DatIn n its[i] d := by
  have hl := h.length
  have hi' : i < ds.length := by rw [← hl]; exact hi
  obtain ⟨v, hv, hd⟩ := h.get hi'
  have e : its.toList[i]? = some its[i] := by simp [hi]
  rw [e] at hv
  cases hv
  exact ⟨_, List.drop_eq_getElem_cons hi', hd⟩
theorem dat_end {n : List (Addr × Obj)} {its : Array Value} {ds : List Dat} {i : Nat} (h : DatAll n its.toList ds) (hi : its.size ≤ i) : ds.drop i = [] := by
  have hl := h.length
  have : its.toList.length = its.size := by simp
  exact List.drop_eq_nil_of_le (by omega)

theorem lt_loopAt (l b : Addr) (items items2 : Array Value) (n n2 : Nat) (dd dd2 : Option Addr) (sl sl2 : Array (Option Value)) {src src2 : List (Addr × Obj)} {ds ds2 : List Dat} (D1 : DatAll src items.toList ds) (D2 : DatAll src2 items2.toList ds2) (k : Nat) :
    ∀ i : Nat, items.size - i = k → i ≤ items.size → i ≤ items2.size → Meets (Builtin.«list.__eq__.loop» ⟨[.ref l, .ref b, rawInt i, rawInt 0], []⟩)
      (fun A R s => s.heap.get? l = some { cls := .type "list", dict := dd, data := .seq items n, slots := sl } ∧ s.heap.get? b = some { cls := .type "list", dict := dd2, data := .seq items2 n2, slots := sl2 } ∧
        lexOk (ds.drop i) (ds2.drop i) = true ∧ R (.ok (.ret (.bool (lexLt (ds.drop i) (ds2.drop i))))) s) := by
  induction k with
  | zero =>
    intro i hk hi hi' prog w A R s h
    obtain ⟨hp, g, d, tk, os⟩ := s; obtain ⟨hl, hb, he, h⟩ := h
    have hi1 : items[((i : Nat) : Int).toNat]? = none := by simp; omega
    rw [dat_end D1 (by omega)] at h
    wp_walk using AutoSeq1.wpAny_loadPart' hl, AutoSeq1.wpAny_loadPart' hb
    rw [hi1]
    wp_walk using AutoSeq1.wpAny_loadPart' hl, AutoSeq1.wpAny_loadPart' hb
    show R (.ok (.ret (.bool (decide (items.size < items2.size))))) _
    rcases Nat.lt_or_ge i items2.size with h3 | h3
    · obtain ⟨d2, e2, _⟩ := dat_nth D2 h3
      rw [e2] at h
      rw [decide_eq_true (by omega)]
      exact h
    · rw [dat_end D2 h3] at h
      rw [decide_eq_false (by omega)]
      exact h
  | succ k ih =>
    intro i hk hi hi' prog w A R s h
    obtain ⟨hp, g, d, tk, os⟩ := s; obtain ⟨hl, hb, he, h⟩ := h
    have hlt : i < items.size := by omega
    have hi1 : items[((i : Nat) : Int).toNat]? = some items[i] := by simp [hlt]
    obtain ⟨d1, e1, v1⟩ := dat_nth D1 hlt
    rcases Nat.lt_or_ge i items2.size with h3 | h3
    · have hi2 : items2[((i : Nat) : Int).toNat]? = some items2[i] := by simp [h3]
      obtain ⟨d2, e2, v2⟩ := dat_nth D2 h3
      rw [e1, e2] at he h
      have hc : ((i : Int) + 1) = ((i + 1 : Nat) : Int) := by push_cast; rfl
      obtain ⟨hf, he⟩ := Bool.and_eq_true_iff.mp he
      obtain ⟨hf1, hf2⟩ := Bool.and_eq_true_iff.mp hf
      wp_walk using AutoSeq1.wpAny_loadPart' hl, AutoSeq1.wpAny_loadPart' hb
      rw [hi1, hi2]
      refine wpAny_bind (flat_eqAt _ _ v1 v2 hf1 hf2 prog w _ _ ?_)
      have hsym : fEq d2 d1 = fEq d1 d2 := by
        cases d1 <;> cases d2 <;> first | rfl | exact Bool.beq_comm | cases hf1 | cases hf2
      unfold lexLt at h
      try rw [hsym] at h
      cases hb' : fEq d1 d2 with
      | true =>
        rw [hb'] at he h
        wp_walk
        rw [hc]
        exact ⟨plainId_quiet plain_eq_loop _, codeAny_builtin entry_eq_loop (by
          rw [Around.under_plainId plain_eq_loop _]
          exact ih (i + 1) (by omega) (by omega) (by omega) prog w A R _ ⟨hl, hb, by simpa using he, by simpa using h⟩)⟩
      | false =>
        rw [hb'] at he h
        wp_walk using AutoSeq1.wpAny_loadPart' hl, AutoSeq1.wpAny_loadPart' hb
        rw [hi1, hi2]
        refine wpAny_bind (flat_lt v1 v2 (by simpa using he) ?_)
        exact wpAny_pure (by simpa using h)
    · have hi2 : items2[((i : Nat) : Int).toNat]? = none := by simp; omega
      rw [dat_end D2 h3, e1] at h
      wp_walk using AutoSeq1.wpAny_loadPart' hl, AutoSeq1.wpAny_loadPart' hb
      rw [hi1, hi2]
      wp_walk using AutoSeq1.wpAny_loadPart' hl, AutoSeq1.wpAny_loadPart' hb
      show R (.ok (.ret (.bool (decide (items.size < items2.size))))) _
      rw [decide_eq_false (by omega)]
      exact h

theorem list_ltAt (l b : Addr) (items items2 : Array Value) (n n2 : Nat) (dd dd2 : Option Addr) (sl sl2 : Array (Option Value)) {src src2 : List (Addr × Obj)} {ds ds2 : List Dat} (D1 : DatAll src items.toList ds) (D2 : DatAll src2 items2.toList ds2) :
    Meets (Builtin.«list.__lt__» ⟨[.ref l, .ref b], []⟩)
      (fun A R s => s.heap.get? l = some { cls := .type "list", dict := dd, data := .seq items n, slots := sl } ∧ s.heap.get? b = some { cls := .type "list", dict := dd2, data := .seq items2 n2, slots := sl2 } ∧
        lexOk ds ds2 = true ∧ R (.ok (.ret (.bool (lexLt ds ds2)))) s) := by
  intro prog w A R s h
  obtain ⟨hp, g, d, tk, os⟩ := s; obtain ⟨hl, hb, he, h⟩ := h
  have f3 := AutoSeq1.sub_list_list
  wp_walk using AutoSeq1.wpAny_loadPart' hl, AutoSeq1.wpAny_loadPart' hb
  exact ⟨plainId_quiet plain_eq_loop _, codeAny_builtin entry_eq_loop (by
    rw [Around.under_plainId plain_eq_loop _]
    exact lt_loopAt l b items items2 n n2 dd dd2 sl sl2 D1 D2 _ 0 rfl (Nat.zero_le _) (Nat.zero_le _) prog w A R _ ⟨hl, hb, he, h⟩)⟩
theorem gt_loopAt (l b : Addr) (items items2 : Array Value) (n n2 : Nat) (dd dd2 : Option Addr) (sl sl2 : Array (Option Value)) {src src2 : List (Addr × Obj)} {ds ds2 : List Dat} (D1 : DatAll src items.toList ds) (D2 : DatAll src2 items2.toList ds2) (k : Nat) :
    ∀ i : Nat, items.size - i = k → i ≤ items.size → i ≤ items2.size → Meets (Builtin.«list.__eq__.loop» ⟨[.ref l, .ref b, rawInt i, rawInt 4], []⟩)
      (fun A R s => s.heap.get? l = some { cls := .type "list", dict := dd, data := .seq items n, slots := sl } ∧ s.heap.get? b = some { cls := .type "list", dict := dd2, data := .seq items2 n2, slots := sl2 } ∧
        lexOk (ds.drop i) (ds2.drop i) = true ∧ R (.ok (.ret (.bool (lexLt (ds2.drop i) (ds.drop i))))) s) := by
  induction k with
  | zero =>
    intro i hk hi hi' prog w A R s h
    obtain ⟨hp, g, d, tk, os⟩ := s; obtain ⟨hl, hb, he, h⟩ := h
    have hi1 : items[((i : Nat) : Int).toNat]? = none := by simp; omega
    rw [dat_end D1 (by omega)] at h
    wp_walk using AutoSeq1.wpAny_loadPart' hl, AutoSeq1.wpAny_loadPart' hb
    rw [hi1]
    wp_walk using AutoSeq1.wpAny_loadPart' hl, AutoSeq1.wpAny_loadPart' hb
    show R (.ok (.ret (.bool (decide (items.size > items2.size))))) _
    rcases Nat.lt_or_ge i items2.size with h3 | h3
    · obtain ⟨d2, e2, _⟩ := dat_nth D2 h3
      rw [e2] at h
      rw [decide_eq_false (by omega)]
      exact h
    · rw [dat_end D2 h3] at h
      rw [decide_eq_false (by omega)]
      exact h
  | succ k ih =>
    intro i hk hi hi' prog w A R s h
    obtain ⟨hp, g, d, tk, os⟩ := s; obtain ⟨hl, hb, he, h⟩ := h
    have hlt : i < items.size := by omega
    have hi1 : items[((i : Nat) : Int).toNat]? = some items[i] := by simp [hlt]
    obtain ⟨d1, e1, v1⟩ := dat_nth D1 hlt
    rcases Nat.lt_or_ge i items2.size with h3 | h3
    · have hi2 : items2[((i : Nat) : Int).toNat]? = some items2[i] := by simp [h3]
      obtain ⟨d2, e2, v2⟩ := dat_nth D2 h3
      rw [e1, e2] at he h
      have hc : ((i : Int) + 1) = ((i + 1 : Nat) : Int) := by push_cast; rfl
      obtain ⟨hf, he⟩ := Bool.and_eq_true_iff.mp he
      obtain ⟨hf1, hf2⟩ := Bool.and_eq_true_iff.mp hf
      wp_walk using AutoSeq1.wpAny_loadPart' hl, AutoSeq1.wpAny_loadPart' hb
      rw [hi1, hi2]
      refine wpAny_bind (flat_eqAt _ _ v1 v2 hf1 hf2 prog w _ _ ?_)
      have hsym : fEq d2 d1 = fEq d1 d2 := by
        cases d1 <;> cases d2 <;> first | rfl | exact Bool.beq_comm | cases hf1 | cases hf2
      unfold lexLt at h
      try rw [hsym] at h
      cases hb' : fEq d1 d2 with
      | true =>
        rw [hb'] at he h
        wp_walk
        rw [hc]
        exact ⟨plainId_quiet plain_eq_loop _, codeAny_builtin entry_eq_loop (by
          rw [Around.under_plainId plain_eq_loop _]
          exact ih (i + 1) (by omega) (by omega) (by omega) prog w A R _ ⟨hl, hb, by simpa using he, by simpa using h⟩)⟩
      | false =>
        rw [hb'] at he h
        wp_walk using AutoSeq1.wpAny_loadPart' hl, AutoSeq1.wpAny_loadPart' hb
        rw [hi1, hi2]
        refine wpAny_bind (flat_gt v1 v2 (by simpa using he) ?_)
        exact wpAny_pure (by simpa using h)
    · have hi2 : items2[((i : Nat) : Int).toNat]? = none := by simp; omega
      rw [dat_end D2 h3, e1] at h
      wp_walk using AutoSeq1.wpAny_loadPart' hl, AutoSeq1.wpAny_loadPart' hb
      rw [hi1, hi2]
      wp_walk using AutoSeq1.wpAny_loadPart' hl, AutoSeq1.wpAny_loadPart' hb
      show R (.ok (.ret (.bool (decide (items.size > items2.size))))) _
      rw [decide_eq_true (by omega)]
      exact h

theorem list_gtAt (l b : Addr) (items items2 : Array Value) (n n2 : Nat) (dd dd2 : Option Addr) (sl sl2 : Array (Option Value)) {src src2 : List (Addr × Obj)} {ds ds2 : List Dat} (D1 : DatAll src items.toList ds) (D2 : DatAll src2 items2.toList ds2) :
    Meets (Builtin.«list.__gt__» ⟨[.ref l, .ref b], []⟩)
      (fun A R s => s.heap.get? l = some { cls := .type "list", dict := dd, data := .seq items n, slots := sl } ∧ s.heap.get? b = some { cls := .type "list", dict := dd2, data := .seq items2 n2, slots := sl2 } ∧
        lexOk ds ds2 = true ∧ R (.ok (.ret (.bool (lexLt ds2 ds)))) s) := by
  intro prog w A R s h
  obtain ⟨hp, g, d, tk, os⟩ := s; obtain ⟨hl, hb, he, h⟩ := h
  have f3 := AutoSeq1.sub_list_list
  wp_walk using AutoSeq1.wpAny_loadPart' hl, AutoSeq1.wpAny_loadPart' hb
  exact ⟨plainId_quiet plain_eq_loop _, codeAny_builtin entry_eq_loop (by
    rw [Around.under_plainId plain_eq_loop _]
    exact gt_loopAt l b items items2 n n2 dd dd2 sl sl2 D1 D2 _ 0 rfl (Nat.zero_le _) (Nat.zero_le _) prog w A R _ ⟨hl, hb, he, h⟩)⟩
theorem gt_list {prog : Program} {w : World} {A : Around} {E : Value → Shared → Prop} {s : Shared} {l b : Addr} {items items2 : Array Value} {src src2 : List (Addr × Obj)} {ds ds2 : List Dat} {Q : Value → Shared → Prop} (hl : s.heap.IsList l items) (hb : s.heap.IsList b items2) (hu : A.units < cLine)
    (D1 : DatAll src items.toList ds) (D2 : DatAll src2 items2.toList ds2) (ok : lexOk ds ds2 = true) (h : Q (.bool (lexLt ds2 ds)) s) : wpAny (model prog w) A (compareOp .Gt (.ref l) (.ref b)) Q E s := by
  obtain ⟨⟨cls, dd, data, sl⟩, ho, hc, n, hd⟩ := id hl
  obtain ⟨⟨cls2, dd2, data2, sl2⟩, ho2, hc2, n2, hd2⟩ := id hb
  simp only at hc hd hc2 hd2
  subst hc hd hc2 hd2
  exact richCompare_meets_room (op := .Gt) ⟨_, ho, rfl⟩ ⟨_, ho2, rfl⟩ F.slot_list_gt F.entry_list_gt (F.args_list_gt_2 _ _) (list_gtAt l b items items2 n n2 dd dd2 sl sl2 D1 D2)
    ⟨ho, ho2, ok, show Value.bool (lexLt ds2 ds) ≠ Value.notImplemented ∧ Q (.bool (lexLt ds2 ds)) s from ⟨(fun x => nomatch x), h⟩⟩ hu

/-- the order of the codes' lists -/
noncomputable def cLt : List Nat → List Nat → Bool
  | x :: xs, y :: ys => if x = y then cLt xs ys else decide (x < y)
  | [], _ :: _ => true
  | _, [] => false
noncomputable def pairOk (c d : Nat) : Bool := fFlat (partOf c) && fEq (partOf c) (partOf c) && (if c = d then true else if rankOf c = rankOf d then !fEq (partOf c) (partOf d) && fCmp (partOf c) (partOf d) && (fLt (partOf c) (partOf d) == decide (c < d)) else (decide (rankOf c < rankOf d) == decide (c < d)))
theorem pair_ok : ∀ c, c < 14 → ∀ d, d < 14 → pairOk c d = true := by decide +kernel
theorem flat_lex : ∀ (a b : List Nat), (∀ c ∈ a, c < 14) → (∀ c ∈ b, c < 14) →
    lexOk (a.flatMap fun c => [.int (rankOf c), partOf c]) (b.flatMap fun c => [.int (rankOf c), partOf c]) = true ∧ lexLt (a.flatMap fun c => [.int (rankOf c), partOf c]) (b.flatMap fun c => [.int (rankOf c), partOf c]) = cLt a b
  | [], [], _, _ => ⟨rfl, rfl⟩
  | [], _ :: _, _, _ => ⟨rfl, rfl⟩
  | _ :: _, [], _, _ => ⟨rfl, rfl⟩
  | c :: a, d :: b, ha, hb => by
    have ih := flat_lex a b (fun x hx => ha x (.tail _ hx)) (fun x hx => hb x (.tail _ hx))
    have p := pair_ok c (ha c (.head _)) d (hb d (.head _))
    have q := pair_ok d (hb d (.head _)) c (ha c (.head _))
    unfold pairOk at p q
    simp only [Bool.and_eq_true] at p q
    obtain ⟨⟨p1, p2⟩, p3⟩ := p
    obtain ⟨⟨q1, _⟩, _⟩ := q
    simp only [List.flatMap_cons, List.cons_append, List.nil_append]
    unfold cLt
    by_cases e : c = d
    · subst e
      rw [if_pos rfl]
      have e1 : fEq (.int (rankOf c)) (.int (rankOf c)) = true := by simp [fEq]
      constructor
      · unfold lexOk; rw [e1, if_pos rfl]; unfold lexOk; rw [p1, p2, if_pos rfl, ih.1]; rfl
      · unfold lexLt; rw [e1, if_pos rfl]; unfold lexLt; rw [p2, if_pos rfl]; exact ih.2
    · rw [if_neg e] at p3 ⊢
      by_cases r : rankOf c = rankOf d
      · rw [if_pos r] at p3
        simp only [Bool.and_eq_true, Bool.not_eq_true', beq_iff_eq] at p3
        obtain ⟨⟨p4, p5⟩, p6⟩ := p3
        have e1 : fEq (.int (rankOf c)) (.int (rankOf d)) = true := by simp [fEq, r]
        constructor
        · unfold lexOk; rw [e1, if_pos rfl]; unfold lexOk; rw [p1, q1, p4, if_neg (by decide), p5]; rfl
        · unfold lexLt; rw [e1, if_pos rfl]; unfold lexLt; rw [p4, if_neg (by decide)]; exact p6
      · rw [if_neg r] at p3
        have e1 : fEq (.int (rankOf c)) (.int (rankOf d)) = false := by simp [fEq, r]
        constructor
        · unfold lexOk; rw [e1, if_neg (by decide)]; rfl
        · unfold lexLt; rw [e1, if_neg (by decide)]; exact beq_iff_eq.mp p3
theorem row_lex {a b : List Nat} (ha : ∀ c ∈ a, c < 14) (hb : ∀ c ∈ b, c < 14) : lexOk (rowD a) (rowD b) = true ∧ lexLt (rowD a) (rowD b) = cLt a b := by
  have h := flat_lex a b ha hb
  constructor
  · show lexOk (.int 100 :: .int 1 :: _) (.int 100 :: .int 1 :: _) = true
    unfold lexOk; rw [show fEq (.int 100) (.int 100) = true from rfl, if_pos rfl]; unfold lexOk; rw [show fEq (.int 1) (.int 1) = true from rfl, if_pos rfl]
    exact h.1
  · show lexLt (.int 100 :: .int 1 :: _) (.int 100 :: .int 1 :: _) = _
    unfold lexLt; rw [show fEq (.int 100) (.int 100) = true from rfl, if_pos rfl]; unfold lexLt; rw [show fEq (.int 1) (.int 1) = true from rfl, if_pos rfl]
    exact h.2
end TLex
section TSortP
open PySem PySem.W PySem.Calls PyProof.Rows PyProof.V PySem.Spec
set_option maxRecDepth 100000
set_option maxHeartbeats 1000000
theorem cLt_irr : ∀ a : List Nat, cLt a a = false
  | [] => rfl
  | x :: a => by unfold cLt; rw [if_pos rfl]; exact cLt_irr a
theorem cLt_asym : ∀ {a b : List Nat}, cLt a b = true → cLt b a = false
  | [], [], h => by cases h
  | [], _ :: _, _ => rfl
  | _ :: _, [], h => by cases h
  | x :: a, y :: b, h => by
    unfold cLt at h ⊢
    by_cases e : x = y
    · subst e; rw [if_pos rfl] at h ⊢; exact cLt_asym h
    · rw [if_neg e] at h; rw [if_neg (Ne.symm e)]
      have := of_decide_eq_true h
      exact decide_eq_false (by omega)
theorem cLt_tri : ∀ {a b : List Nat}, cLt a b = false → cLt b a = false → a = b
  | [], [], _, _ => rfl
  | [], _ :: _, h, _ => by cases h
  | _ :: _, [], _, h => by cases h
  | x :: a, y :: b, h, k => by
    unfold cLt at h k
    by_cases e : x = y
    · subst e; rw [if_pos rfl] at h k; rw [cLt_tri h k]
    · rw [if_neg e] at h; rw [if_neg (Ne.symm e)] at k
      have := of_decide_eq_false h
      have := of_decide_eq_false k
      omega
theorem cLt_trans : ∀ {a b c : List Nat}, cLt a b = true → cLt b c = true → cLt a c = true
  | [], _, [], _, k => by rename_i b _; cases b <;> cases k
  | [], _, _ :: _, _, _ => rfl
  | _ :: _, [], _, h, _ => by cases h
  | _ :: _, _ :: _, [], _, k => by cases k
  | x :: a, y :: b, z :: c, h, k => by
    unfold cLt at h k ⊢
    by_cases e : x = y
    · subst e
      rw [if_pos rfl] at h
      by_cases f : x = z
      · subst f; rw [if_pos rfl] at k ⊢; exact cLt_trans h k
      · rw [if_neg f] at k ⊢; exact k
    · rw [if_neg e] at h
      have h := of_decide_eq_true h
      by_cases f : y = z
      · subst f; rw [if_neg e]; exact decide_eq_true h
      · rw [if_neg f] at k
        have k := of_decide_eq_true k
        rw [if_neg (by omega)]
        exact decide_eq_true (by omega)
/-- an entry of the line: the stamp by its codes, the pair's number, on or off -/
noncomputable abbrev LE := List Nat × Nat × Bool
noncomputable def entryD (e : LE) : Dat := .tuple [.list (rowD e.1), .int (e.2.1 : Nat), .bool e.2.2]
noncomputable def leLt (x y : LE) : Bool := if x.1 = y.1 then (if x.2.1 = y.2.1 then (!x.2.2 && y.2.2) else decide (x.2.1 < y.2.1)) else cLt x.1 y.1
theorem leLt_irr (a : LE) : leLt a a = false := by unfold leLt; rw [if_pos rfl, if_pos rfl]; cases a.2.2 <;> rfl
theorem leLt_asym {a b : LE} (h : leLt a b = true) : leLt b a = false := by
  unfold leLt at h ⊢
  by_cases e : a.1 = b.1
  · rw [if_pos e] at h; rw [if_pos e.symm]
    by_cases f : a.2.1 = b.2.1
    · rw [if_pos f] at h; rw [if_pos f.symm]
      revert h; cases a.2.2 <;> cases b.2.2 <;> decide
    · rw [if_neg f] at h; rw [if_neg (Ne.symm f)]
      have := of_decide_eq_true h
      exact decide_eq_false (by omega)
  · rw [if_neg e] at h; rw [if_neg (Ne.symm e)]; exact cLt_asym h
theorem leLt_tri {a b : LE} (h : leLt a b = false) (k : leLt b a = false) : a = b := by
  unfold leLt at h k
  by_cases e : a.1 = b.1
  · rw [if_pos e] at h; rw [if_pos e.symm] at k
    by_cases f : a.2.1 = b.2.1
    · rw [if_pos f] at h; rw [if_pos f.symm] at k
      refine Prod.ext e (Prod.ext f ?_)
      revert h k; cases a.2.2 <;> cases b.2.2 <;> decide
    · rw [if_neg f] at h; rw [if_neg (Ne.symm f)] at k
      have := of_decide_eq_false h
      have := of_decide_eq_false k
      omega
  · rw [if_neg e] at h; rw [if_neg (Ne.symm e)] at k; exact absurd (cLt_tri h k) e
theorem leLt_trans {a b c : LE} (h : leLt a b = true) (k : leLt b c = true) : leLt a c = true := by
  unfold leLt at h k ⊢
  by_cases e : a.1 = b.1
  · rw [if_pos e] at h
    by_cases f : b.1 = c.1
    · rw [if_pos f] at k; rw [if_pos (e.trans f)]
      by_cases e2 : a.2.1 = b.2.1
      · rw [if_pos e2] at h
        by_cases f2 : b.2.1 = c.2.1
        · rw [if_pos f2] at k; rw [if_pos (e2.trans f2)]
          revert h k; cases a.2.2 <;> cases b.2.2 <;> cases c.2.2 <;> decide
        · rw [if_neg f2] at k; rw [if_neg (by omega)]
          have := of_decide_eq_true k
          exact decide_eq_true (by omega)
      · rw [if_neg e2] at h
        have h := of_decide_eq_true h
        by_cases f2 : b.2.1 = c.2.1
        · rw [if_neg (by omega)]; exact decide_eq_true (by omega)
        · rw [if_neg f2] at k
          have := of_decide_eq_true k
          rw [if_neg (by omega)]; exact decide_eq_true (by omega)
    · rw [if_neg f] at k; rw [if_neg (fun q => f (e.symm.trans q)), e]; exact k
  · rw [if_neg e] at h
    by_cases f : b.1 = c.1
    · rw [if_neg (fun q => e (q.trans f.symm)), ← f]; exact h
    · rw [if_neg f] at k
      have t := cLt_trans h k
      by_cases g : a.1 = c.1
      · rw [g, cLt_irr] at t; cases t
      · rw [if_neg g]; exact t
theorem leLt_ntr {a b c : LE} (h : leLt b a = false) (k : leLt c b = false) : leLt c a = false := by
  cases q : leLt c a with
  | false => rfl
  | true =>
    cases r : leLt b c with
    | true => rw [leLt_trans r q] at h; cases h
    | false => have := leLt_tri r k; subst this; rw [h] at q; cases q
theorem le_wo (es : List LE) : Wo fun i j => leLt (es.getD i default) (es.getD j default) := ⟨fun _ _ _ h k => leLt_ntr h k, fun _ _ h => leLt_asym h⟩

/-- the entries in their order -/
noncomputable def insE (x : LE) : List LE → List LE
  | [] => [x]
  | y :: l => if leLt y x then y :: insE x l else x :: y :: l
noncomputable def sortE (l : List LE) : List LE := l.foldr insE []
theorem insE_perm (x : LE) : ∀ l, (insE x l).Perm (x :: l)
  | [] => .refl _
  | y :: l => by
    unfold insE
    split
    · exact ((insE_perm x l).cons y).trans (.swap x y l)
    · exact .refl _
theorem sortE_perm : ∀ l, (sortE l).Perm l
  | [] => .refl _
  | x :: l => (insE_perm x _).trans ((sortE_perm l).cons x)
noncomputable abbrev Srt (l : List LE) : Prop := l.Pairwise fun a b => leLt b a = false
theorem insE_srt (x : LE) : ∀ {l}, Srt l → Srt (insE x l)
  | [], _ => List.pairwise_singleton _ _
  | y :: l, h => by
    unfold insE
    have h' := List.pairwise_cons.mp h
    split
    · rename_i c
      refine List.pairwise_cons.mpr ⟨fun z hz => ?_, insE_srt x h'.2⟩
      rcases List.mem_cons.mp ((insE_perm x l).mem_iff.mp hz) with rfl | hz
      · exact leLt_asym c
      · exact h'.1 z hz
    · rename_i c
      have c : leLt y x = false := by simpa using c
      refine List.pairwise_cons.mpr ⟨fun z hz => ?_, h⟩
      rcases List.mem_cons.mp hz with rfl | hz
      · exact c
      · exact leLt_ntr c (h'.1 z hz)
theorem sortE_srt : ∀ l, Srt (sortE l)
  | [] => List.Pairwise.nil
  | x :: l => insE_srt x (sortE_srt l)
theorem srt_uniq : ∀ {a b : List LE}, a.Perm b → Srt a → Srt b → a = b
  | [], b, p, _, _ => (List.Perm.nil_eq p)
  | x :: a, [], p, _, _ => absurd p.symm (by simp)
  | x :: a, y :: b, p, ha, hb => by
    have ha' := List.pairwise_cons.mp ha
    have hb' := List.pairwise_cons.mp hb
    have e : x = y := by
      have h1 : leLt x y = false := by
        rcases List.mem_cons.mp (p.mem_iff.mp (.head _)) with q | q
        · rw [q]; exact leLt_irr _
        · exact hb'.1 x q
      have h2 : leLt y x = false := by
        rcases List.mem_cons.mp (p.mem_iff.mpr (.head _)) with q | q
        · rw [q]; exact leLt_irr _
        · exact ha'.1 y q
      exact leLt_tri h1 h2
    subst e
    rw [srt_uniq (List.Perm.cons_inv p) ha'.2 hb'.2]
theorem sortE_eq {l s : List LE} (p : s.Perm l) (h : Srt s) : sortE l = s := srt_uniq ((sortE_perm l).trans p.symm) (sortE_srt l) h
end TSortP
section TSortL
open PySem PySem.W PySem.Calls PyProof.Rows PyProof.V PySem.Spec
open PySem.SeqAt PySem.MeetsSeq PySem.MeetsSeq3
set_option maxRecDepth 100000
set_option maxHeartbeats 1000000
theorem fEq_iff {a b : Dat} (fa : fFlat a = true) (fb : fFlat b = true) : fEq a b = true ↔ a = b := by
  cases a <;> first | cases fa | skip
  all_goals (cases b <;> first | cases fb | skip)
  all_goals simp [fEq]
theorem row_flat {a : List Nat} (ha : ∀ c ∈ a, c < 14) : ∀ d ∈ rowD a, fFlat d = true := by
  intro d hd
  unfold rowD at hd
  rcases List.mem_append.mp hd with h | h
  · rcases List.mem_cons.mp h with rfl | h
    · rfl
    · rcases List.mem_cons.mp h with rfl | h
      · rfl
      · cases h
  · obtain ⟨c, hc, h⟩ := List.mem_flatMap.mp h
    rcases List.mem_cons.mp h with rfl | h
    · rfl
    · rcases List.mem_cons.mp h with rfl | h
      · have := pair_ok c (ha c hc) c (ha c hc)
        unfold pairOk at this
        simp only [Bool.and_eq_true] at this
        exact this.1.1
      · cases h
theorem row_inj {a b : List Nat} (ha : ∀ c ∈ a, c < 14) (hb : ∀ c ∈ b, c < 14) (h : rowD a = rowD b) : a = b := by
  have h1 := (row_lex ha hb).2
  have h2 := (row_lex hb ha).2
  have h3 := (row_lex ha ha).2
  rw [cLt_irr] at h3
  rw [← h, h3] at h1
  rw [← h, h3] at h2
  exact cLt_tri h1.symm h2.symm
theorem row_rc {A : Around} {s : Shared} {l b : Addr} {xs ys : Array Value} {src src2 : List (Addr × Obj)} {c c' : List Nat} (hl : s.heap.IsList l xs) (hb : s.heap.IsList b ys) (hu : A.units < cLine)
    (D1 : DatAll src xs.toList (rowD c)) (D2 : DatAll src2 ys.toList (rowD c')) (hc : ∀ x ∈ c, x < 14) (hc' : ∀ x ∈ c', x < 14) : EqAt A s (.ref l) (.ref b) (decide (c = c')) := by
  have l1 := D1.length
  have l2 := D2.length
  rw [Array.length_toList] at l1 l2
  by_cases hlb : l = b
  · subst hlb
    have e : c = c' := by
      obtain ⟨o, ho, _, n, hd⟩ := hl
      obtain ⟨o2, ho2, _, n2, hd2⟩ := hb
      rw [ho] at ho2; cases ho2
      rw [hd] at hd2; cases hd2
      refine row_inj hc hc' (List.ext_getElem? fun i => ?_)
      rcases Nat.lt_or_ge i xs.size with hi | hi
      · obtain ⟨v, hv, d1⟩ := D1.get (k := i) (by omega)
        obtain ⟨v', hv', d2⟩ := D2.get (k := i) (by omega)
        rw [hv] at hv'; cases hv'
        have f1 := row_flat hc _ (List.getElem_mem (show i < (rowD c).length by omega))
        have f2 := row_flat hc' _ (List.getElem_mem (show i < (rowD c').length by omega))
        rw [List.getElem?_eq_getElem (by omega), List.getElem?_eq_getElem (by omega)]
        congr 1
        revert d1 d2 f1 f2
        generalize (rowD c)[i] = a
        generalize (rowD c')[i] = b
        intro d1 d2 f1 f2
        cases d1 <;> first | cases f1 | skip
        all_goals (cases d2; rfl)
      · rw [List.getElem?_eq_none (by omega), List.getElem?_eq_none (by omega)]
    subst e
    rw [decide_eq_true rfl]
    exact EqAt.same _
  · refine EqAt.of_refs hlb ?_
    by_cases hs : xs.size = ys.size
    · have := RcAt.lists (A := A) (s := s) (e := fun j => fEq ((rowD c).getD j .none) ((rowD c').getD j .none)) hl hb hs hu fun j h1 h2 => by
        obtain ⟨v, hv, d1⟩ := D1.get (k := j) (by omega)
        obtain ⟨v', hv', d2⟩ := D2.get (k := j) (by omega)
        have e1 : v = xs[j] := by simpa [h1] using hv.symm
        have e2 : v' = ys[j] := by simpa [h2] using hv'.symm
        subst e1 e2
        rw [List.getD_eq_getElem?_getD, List.getD_eq_getElem?_getD, List.getElem?_eq_getElem (by omega), List.getElem?_eq_getElem (by omega)]
        exact flat_eqAt _ _ d1 d2 (row_flat hc _ (List.getElem_mem _)) (row_flat hc' _ (List.getElem_mem _))
      have e : (List.range xs.size).all (fun j => fEq ((rowD c).getD j .none) ((rowD c').getD j .none)) = decide (c = c') := by
        by_cases ec : c = c'
        · subst ec
          rw [decide_eq_true rfl, List.all_eq_true]
          intro j hj
          have hj := List.mem_range.mp hj
          have : (rowD c).getD j .none ∈ rowD c := by
            rw [List.getD_eq_getElem?_getD, List.getElem?_eq_getElem (by omega)]
            exact List.getElem_mem _
          exact (fEq_iff (row_flat hc _ this) (row_flat hc _ this)).mpr rfl
        · rw [decide_eq_false ec]
          refine Bool.eq_false_iff.mpr fun h => ec (row_inj hc hc' (List.ext_getElem? fun i => ?_))
          rcases Nat.lt_or_ge i xs.size with hi | hi
          · have := List.all_eq_true.mp h i (List.mem_range.mpr hi)
            rw [List.getD_eq_getElem?_getD, List.getD_eq_getElem?_getD, List.getElem?_eq_getElem (by omega), List.getElem?_eq_getElem (by omega)] at this
            rw [List.getElem?_eq_getElem (by omega), List.getElem?_eq_getElem (by omega)]
            exact congrArg some ((fEq_iff (row_flat hc _ (List.getElem_mem _)) (row_flat hc' _ (List.getElem_mem _))).mp this)
          · rw [List.getElem?_eq_none (by omega), List.getElem?_eq_none (by omega)]
      rw [e] at this
      exact this
    · rw [decide_eq_false (fun ec => hs (by subst ec; omega))]
      exact RcAt.lists_lengths hl hb (by simpa using hs) hu
/-- what an entry of the line is on the heap -/
theorem entry_inv {news : List (Addr × Obj)} {v : Value} {e : LE} (h : DatIn news v (entryD e)) : ∃ a la xs n k t, v = .ref a ∧ (a, ({ cls := .type "tuple", data := .seq #[.ref la, .int (e.2.1 : Nat) t, .bool e.2.2] n } : Obj)) ∈ news ∧ (la, listOf xs.toArray k) ∈ news ∧ DatAll news xs (rowD e.1) := by
  unfold entryD at h
  obtain ⟨a, rfl⟩ := ref_of_tuple h
  obtain ⟨vs, n, hm, hd⟩ := dat_tuple_inv h
  cases hd with
  | cons h1 hd =>
    cases hd with
    | cons h2 hd =>
      cases hd with
      | cons h3 hd =>
        cases hd with
        | nil =>
          obtain ⟨la, rfl⟩ := ref_of_list h1
          obtain ⟨xs, k, hm1, hd1⟩ := dat_list_inv h1
          obtain ⟨t, rfl⟩ := int_of_dat h2
          have := bool_of_dat h3
          subst this
          exact ⟨a, la, xs, n, k, t, rfl, hm, hm1, hd1⟩
section
variable {prog : Program} {w : World} {A : Around} {E : Value → Shared → Prop} {s : Shared} {h₀ : Heap} {L l : Addr} {m : PySem.Str → Option Value} {news : List (Addr × Obj)}
theorem entry_lt (N : News h₀ L s.heap news) {v v' : Value} {x y : LE} {Q : Bool → Shared → Prop} (h : DatIn news v (entryD x)) (h' : DatIn news v' (entryD y)) (hx : ∀ c ∈ x.1, c < 14) (hy : ∀ c ∈ y.1, c < 14) (hu : A.units < cLine)
    (hq : Q (leLt x y) s) : wpAny (model prog w) A (keyLt' (tuples' true) v v') Q (fun _ _ => False) s := by
  obtain ⟨a, la, xs, n, k, t, rfl, hm, hml, hd⟩ := entry_inv h
  obtain ⟨a', la', xs', n', k', t', rfl, hm', hml', hd'⟩ := entry_inv h'
  have hl : s.heap.IsList la xs.toArray := ⟨_, (N _ hml).1, rfl, _, rfl⟩
  have hl' : s.heap.IsList la' xs'.toArray := ⟨_, (N _ hml').1, rfl, _, rfl⟩
  refine kat_lt (N _ hm).1 rfl (N _ hm').1 rfl ?_
  refine kat_cons (row_rc hl hl' hu (by simpa using hd) (by simpa using hd') hx hy prog w _ _ ?_)
  unfold leLt at hq
  by_cases e : x.1 = y.1
  · rw [if_pos e] at hq
    rw [decide_eq_true e]
    refine kat_yes (kat_cons (EqAt.int_int _ _ _ _ prog w _ _ ?_))
    by_cases f : x.2.1 = y.2.1
    · rw [if_pos f] at hq
      rw [f, beq_self_eq_true]
      refine kat_yes (kat_cons (EqAt.bool_bool _ _ prog w _ _ ?_))
      cases hb : (x.2.2 == y.2.2) with
      | true =>
        refine kat_yes (kat_nil ?_)
        rw [beq_iff_eq.mp hb] at hq
        have : (!y.2.2 && y.2.2) = false := by cases y.2.2 <;> rfl
        rw [this] at hq
        exact hq
      | false =>
        refine kat_no ?_
        show wpAny (model prog w) A (oneLt' false (.bool x.2.2) (.bool y.2.2)) Q _ s
        refine kat_one _ _ (PyProof.Rows.lt_bool ?_)
        show Q _ s
        have : decide (b2i x.2.2 < b2i y.2.2) = (!x.2.2 && y.2.2) := by cases x.2.2 <;> cases y.2.2 <;> decide
        rw [this]
        exact hq
    · rw [if_neg f] at hq
      have : ((x.2.1 : Nat) : Int) ≠ ((y.2.1 : Nat) : Int) := by omega
      rw [beq_eq_false_iff_ne.mpr this]
      refine kat_no ?_
      show wpAny (model prog w) A (oneLt' false (.int (x.2.1 : Nat) t) (.int (y.2.1 : Nat) t')) Q _ s
      refine kat_one _ _ (PyProof.Rows.lt_int ?_)
      show Q _ s
      rw [show decide (((x.2.1 : Nat) : Int) < ((y.2.1 : Nat) : Int)) = decide (x.2.1 < y.2.1) from by by_cases z : x.2.1 < y.2.1 <;> simp [z]]
      exact hq
  · rw [if_neg e] at hq
    rw [decide_eq_false e]
    refine kat_no ?_
    show wpAny (model prog w) A (oneLt' true (.ref la) (.ref la')) Q _ s
    rw [oneLt'_eq]
    simp only [if_true]
    refine wpAny_bind (wpAny_cRoomFor hu ?_)
    have ty : s.TypeIs (.ref la) "list" := ⟨_, (N _ hml).1, rfl⟩
    have rl := row_lex hx hy
    refine wpAny_bind (wpAny_callSpecialIfBound?_slot ty F.slot_list_lt (call_meets F.slot_list_lt ty F.entry_list_lt (F.args_list_lt_2 _ _) (list_ltAt la la' xs.toArray xs'.toArray _ _ _ _ _ _ (by simpa using hd) (by simpa using hd')) ⟨(N _ hml).1, (N _ hml').1, rl.1, ?_⟩))
    rw [rl.2]
    exact wpAny_truthy_bool hq
theorem dat_nth' {n : List (Addr × Obj)} {vs : List Value} {es : List LE} {i : Nat} (h : DatAll n vs (es.map entryD)) (hi : i < es.length) : DatIn n (vs.getD i .none) (entryD (es.getD i default)) := by
  obtain ⟨v, hv, hd⟩ := h.get (k := i) (by rw [List.length_map]; exact hi)
  rw [List.getD_eq_getElem?_getD, hv, List.getD_eq_getElem?_getD, List.getElem?_eq_getElem hi]
  rw [List.getElem_map] at hd
  exact hd
theorem dat_of_idx {n : List (Addr × Obj)} {vs : List Value} {es : List LE} (h : DatAll n vs (es.map entryD)) : ∀ {p : List Nat}, (∀ i ∈ p, i < es.length) → DatAll n (p.map fun i => vs.getD i .none) ((p.map fun i => es.getD i default).map entryD)
  | [], _ => .nil
  | i :: p, hp => .cons (dat_nth' h (hp i (.head _))) (dat_of_idx h fun j hj => hp j (.tail _ hj))
/-- sorted(line) -/
theorem line_sorted {n : Nat} {vs : List Value} {es : List LE} {Q : Value → Shared → Prop} (F : Fr h₀ L s.heap m) (N : News h₀ L s.heap news) (hm : (l, listOf vs.toArray n) ∈ news) (hd : DatAll news vs (es.map entryD)) (hc : ∀ e ∈ es, ∀ c ∈ e.1, c < 14)
    (h2 : 2 ≤ es.length) (h64 : es.length < 64) (hu : A.units + 2 < cLine)
    (h : ∀ D vs' c h', Fr h₀ L h' m → News h₀ L h' ((D, listOf vs'.toArray c) :: news) → (∀ q ∈ news, q.1 < D) → DatAll news vs' ((sortE es).map entryD) → Q (.ref D) { s with heap := h' }) :
    wpAny (model prog w) A (call (.builtin "sorted") [.ref l]) Q E s := by
  have hlen : vs.length = es.length := by rw [hd.length, List.length_map]
  refine kat_sorted F N ⟨_, (N _ hm).1, rfl, n, rfl⟩ (by omega) (by omega) fun D e1 h' F' N' lt => ?_
  have N'' : News h₀ L h' news := fun q hq => N' q (.tail _ hq)
  obtain ⟨fs, hfs, hfl, hlook⟩ : ∃ fs, KatTups h' vs fs ∧ fs.length = vs.length ∧ ∀ v ∈ fs, Looks (model prog w) h' (typeOf v) (.type "list") := by
    clear hlen h2 h64 h hc hm
    induction es generalizing vs with
    | nil => cases hd; exact ⟨[], .nil, rfl, fun v hv => by cases hv⟩
    | cons e es ih =>
      cases hd with
      | cons h1 hr =>
        obtain ⟨fs, a1, a2, a3⟩ := ih hr
        obtain ⟨a, la, xs, n', k, t, rfl, hm1, hml, hd1⟩ := entry_inv h1
        refine ⟨.ref la :: fs, .cons (N'' _ hm1).1 rfl rfl rfl a1, by simp [a2], fun v hv => ?_⟩
        rcases List.mem_cons.mp hv with rfl | hv
        · exact (Looks.ld (N'' _ hml).1).andThen .now
        · exact a3 v hv
  refine kat_kind (s := { s with heap := h' }) (T := .type "list") hfs (by omega) hlook (by decide) ?_
  rw [show ((Value.type "list") != Value.type "tuple") = true from by decide]
  rw [hlen]
  refine kas_of_ok (lt := fun i j => leLt (es.getD i default) (es.getD j default)) (n := es.length) (P := fun p => Pm es.length p ∧ Sd (fun i j => leLt (es.getD i default) (es.getD j default)) p es.length) (fun s' => s' = { s with heap := h' }) ?_ ?_ (kas_sort_ok (le_wo es) (by omega)) rfl
  · intro i j s' C hi hj hs hC
    subst hs
    have mem : ∀ i, i < es.length → es.getD i default ∈ es := fun i hi => by
      rw [List.getD_eq_getElem?_getD, List.getElem?_eq_getElem hi]; exact List.getElem_mem _
    exact entry_lt (s := { s with heap := h' }) N'' (dat_nth' hd hi) (dat_nth' hd hj) (hc _ (mem i hi)) (hc _ (mem j hj)) (by show A.units + 1 + 1 < cLine; omega) (hC _ rfl)
  · rintro p s' ⟨hp, hsd⟩ rfl
    have hidx : ∀ i ∈ p.toList, i < es.length := fun i hi => List.mem_range.mp (hp.pm.mem_iff.mp hi)
    have hout := dat_of_idx hd hidx
    have hperm : (p.toList.map fun i => es.getD i default).Perm es := by
      refine (hp.pm.map _).trans ?_
      refine .of_eq (List.ext_getElem? fun i => ?_)
      rw [List.getElem?_map]
      by_cases hi : i < es.length
      · rw [List.getElem?_range hi, List.getElem?_eq_getElem hi]
        show some (es.getD i default) = _
        rw [List.getD_eq_getElem?_getD, List.getElem?_eq_getElem hi]; rfl
      · rw [List.getElem?_eq_none (by omega : es.length ≤ i), List.getElem?_eq_none (by rw [List.length_range]; omega)]; rfl
    have hsrt : Srt (p.toList.map fun i => es.getD i default) := by
      refine List.pairwise_iff_getElem.mpr fun i j hi hj hij => ?_
      rw [List.getElem_map, List.getElem_map]
      have hjl : j < p.size := by simpa using hj
      have := hsd i j (by omega) (by rw [← hp.sz]; exact hjl)
      unfold gp at this
      rw [Array.getD_eq_getD_getElem?, Array.getD_eq_getD_getElem?, Array.getElem?_eq_getElem hjl, Array.getElem?_eq_getElem (by omega)] at this
      exact this
    rw [← sortE_eq hperm hsrt] at hout
    refine KasFin.intro F' N' (g := fun o => (D, o) :: news) ?_ fun h'' c F'' N3 => h D _ c h'' F'' N3 lt hout
    exact .head fun p hp => Nat.ne_of_lt (lt p hp)
end
end TSortL
section TLib2
open PySem PySem.W PySem.Calls PyProof.Rows PyProof.V PySem.Spec
open PyProof.Rows.LCt PyProof.Rows.LCg
set_option maxRecDepth 100000
set_option maxHeartbeats 1000000
/-- what a call of f upon vs gives back; what is new lies elsewhere than what stood -/
noncomputable def GivesN (w : World) (f : Addr) (dd uu : Nat) (vs : List Value) (news : List (Addr × Obj)) (Out : List (Addr × Obj) → Value → Prop) : Prop :=
  ∀ (p : Program) (loose : List PySem.Str) (mean : ExcName → Option Value) (mg mb : PySem.Str → Option Value)
    (dp un : Nat) (gd : Option (List Code)) (cn : PySem.Str) (cs : Scope) (a : Addr) (ccd : Value) (cl : List (PySem.Str × Addr)) (outer : List Env) (A₀ : Around) (base h₀ : Heap) (L : Addr) (m : PySem.Str → Option Value) (s : Shared) (Q E : Value → Shared → Prop),
    Below A₀ base outer h₀ → Fr h₀ L s.heap m → (KK w.params).In h₀ → News h₀ L s.heap news → Top p loose mean mg mb h₀ → cs.kind = .function → dp + dd < recursionLimit → un + uu < cLine →
    (∀ r tl h' tk', Fr h₀ L h' m → News h₀ L h' (tl ++ news) → (∀ q ∈ news, ∀ p ∈ tl, q.1 ≠ p.1) → Out tl r → Q r { s with heap := h', toks := tk' }) →
    wpAny (model PR w) (ktrTop dp un gd cn cs L a ccd cl outer) (call (.ref f) vs) Q E s
noncomputable def RetN (g : Heap) (L : Addr) (news : List (Addr × Obj)) (Out : List (Addr × Obj) → Value → Prop) (s : Shared) (v : Value) (s' : Shared) : Prop :=
  ∃ m' tl h' tk', s' = { s with heap := h', toks := tk' } ∧ Fr g L h' m' ∧ News g L h' (tl ++ news) ∧ (∀ q ∈ news, ∀ p ∈ tl, q.1 ≠ p.1) ∧ Out tl v
theorem RetN.intro {g : Heap} {L : Addr} {news : List (Addr × Obj)} {Out : List (Addr × Obj) → Value → Prop} {s : Shared} {v : Value} {m' : PySem.Str → Option Value} {h' : Heap} {tk' : Nat} (tl : List (Addr × Obj)) (F : Fr g L h' m') (N : News g L h' (tl ++ news))
    (o : ∀ q ∈ news, ∀ p ∈ tl, q.1 ≠ p.1) (h : Out tl v) : RetN g L news Out s v { s with heap := h', toks := tk' } := ⟨m', tl, h', tk', rfl, F, N, o, h⟩
/-- a def's body over a ledger, its cells in hand -/
noncomputable def BodyN (w : World) (f : Addr) (qual : PySem.Str) (scope : Scope) (cdv : Value) (body : List Stmt) (dd uu : Nat) (binds : List (PySem.Str × Value)) (news : List (Addr × Obj)) (Out : List (Addr × Obj) → Value → Prop) : Prop :=
  ∀ (p : Program) (loose : List PySem.Str) (mean : ExcName → Option Value) (mg mb : PySem.Str → Option Value) (dp un : Nat) (gd : Option (List Code)) (outer : List Env) (A₀ : Around) (base g : Heap) (L : Addr) (h₁ : Heap) (s : Shared) (tk : Nat) (cells : List (Addr × Obj)),
    Below A₀ base outer g → Fr g L h₁ (bindL (envOfC qual scope L f cdv).kindOf binds fun _ => none) → (KK w.params).In g → News g L h₁ (cells ++ news) →
    CellsAre (bindC (envOfC qual scope L f cdv).kindOf binds fun _ => none) (cellsFrom (L + 1) scope.names []) cells → Top p loose mean mg mb g → (∀ q ∈ news, q.1 < L) → dp + dd < recursionLimit → un + uu < cLine →
    wpAny (model PR w) (ktrTop dp un gd qual scope L f cdv (cellsFrom (L + 1) scope.names []) outer) (execs body (envX qual scope L f cdv (cellsFrom (L + 1) scope.names []))) (fun fl s' => RetN g L news Out s (match fl with | .ret v => v | _ => .none) s') (fun _ _ => False) { s with heap := h₁, toks := tk }
theorem gives_cells {w : World} {f : Addr} {name qual : PySem.Str} {params : Arguments} {body : List Stmt} {scope : Scope} {dV kV doc pm cdv ct oc : Value} {an od : Option Addr} {osl : Array (Option Value)} {dd uu : Nat} {vs : List Value} {news : List (Addr × Obj)} {Out : List (Addr × Obj) → Value → Prop}
    (binds : List (PySem.Str × Value)) (ho : ∀ P, (KK P).lookup f = some ⟨oc, od, .func (fnOf name qual params body scope dV kV doc pm an cdv ct), osl⟩) (hcd : ∀ P, codeIn (KK P) cdv qual = true)
    (hbind : ∀ (s : Shared), (KK w.params).In s.heap → BindsTo s (fnOf name qual params body scope dV kV doc pm an cdv ct) ⟨vs, []⟩ binds)
    (hkind : (binds.all fun y => scope.names.lookup y.1 == some .local || scope.names.lookup y.1 == some .cell) = true)
    (hnd : ((cellsFrom 0 scope.names []).map (·.1)).Nodup)
    (hco : scope.isCoroutine = false) (hgen : scope.isGenerator = false) (hk : scope.kind = .function)
    (h : BodyN w f qual scope cdv body dd uu binds news Out) : GivesN w f (dd + 1) (uu + 3) vs news Out := by
  unfold GivesN
  intro p loose mean mg mb dp un gd cn cs a ccd cl outer A₀ base h₀ L m s Q E B F X N T hkc hd hu ret
  refine wpAny_call (callX_cells (env := envX cn cs L a ccd cl) B F N T.nolimit rfl rfl hkc ((X.keeps F.keep) _ _ (ho _)) rfl (codeRec_of (X.keeps F.keep) (hcd _)) (by show dp < recursionLimit; omega)
    (hbind s (X.keeps F.keep)) (kindsX hkind) hnd (fun g L' h₁ tk cells FG F' N' Y B' st lt => ?_) hco hgen hk)
  refine wpAny_mono (h p loose mean mg mb (dp + 1) (un + 3) gd (envX cn cs L a ccd cl :: outer) _ base g L' h₁ s tk cells B' F' (X.keeps st) N' Y (T.keeps st) lt (by omega) (by omega)) (fun fl s' hr => ?_) fun _ _ x => x.elim
  obtain ⟨m', tl, h', tk', rfl, F3, N3, o, out⟩ := hr
  refine leaveK_ F3 N3 fun F4 N4 => ?_
  exact ret _ tl h' tk' F4 N4 o out
section
variable {prog : Program} {w : World} {K : Type} [DecidableEq K] {knd : KeyKind prog w K} {A : Around} {E : Value → Shared → Prop} {s : Shared} {h₀ : Heap} {L : Addr} {m : PySem.Str → Option Value} {env : Env}
/-- a comprehension with a test over the keys of a dict of the ledger -/
noncomputable def SrcDT {prog : Program} {w : World} {K : Type} [DecidableEq K] (knd : KeyKind prog w K) (A : Around) (h₀ : Heap) (L : Addr) (m : PySem.Str → Option Value) (env : Env) (ct elt : Expr) (x : PySem.Str) (scope : Scope) (cl : List (PySem.Str × Addr)) (Fin : Shared → List Value → List (Addr × Obj) → Prop) (xv : Value) (s₁ : Shared) : Prop :=
  ∃ d od kvs news, xv = .ref d ∧ A.handled = none ∧ (d == sysModules) = false ∧ Fr h₀ L s₁.heap m ∧ News h₀ L s₁.heap news ∧ (d, od) ∈ news ∧ Obj.IsDictOf knd od kvs ∧ kvs.length ≤ sizeLine ∧
    ∀ s₂ : Shared, (∃ h, s₂ = { s₁ with heap := h }) → CompRestT prog w A h₀ L m env ct elt x scope cl s₂ (fun nw => (d, od) ∈ nw) (fun i v => ∃ k y, kvs[i]? = some (k, y) ∧ knd.is k v = true) (Fin s₂) kvs.length 0 [] news
theorem ListComp_DT {ct elt iter : Expr} {x : PySem.Str} {px : Pos} {scope : Scope} {cl : List (PySem.Str × Addr)} {pos : Pos} {Q : Value → Shared → Prop}
    (hclos : closureFor scope env = pure cl) (hcell : ∀ y ∈ scope.names, y.2 ≠ .cell) (hkind : scope.kind = .function)
    (hnames : ∀ y ∈ scope.names, y.2 = .local → scope.names.lookup y.1 = some .local) (hx : scope.names.lookup x = some .local)
    (h : wpAny (model prog w) A (eval iter env) (SrcDT knd A h₀ L m env ct elt x scope cl (fun s₂ => FinE h₀ L m s₂ Q)) E s)
    (hs : ∀ x, foldedSetIterable iter env x = pure x := by intro _; rfl) :
    wpAny (model prog w) A (eval (.ListComp elt [⟨.Name x px, iter, [ct], 0⟩] scope pos) env) Q E s := by
  rw [eval_ListComp]
  refine wpAny_comprehension_free (use := none) rfl hs hclos hkind hnames (wpAny_mono h (fun xv s₁ h₁ => ?_) fun _ _ e => e)
  obtain ⟨d, od, kvs, news, rfl, hh, lo, F, N, hmem, hdo, hsz, R⟩ := h₁
  obtain ⟨es, ep, hx1, hx2, hx3, hx4, hx5⟩ := hdo
  have at_ : ∀ h' : Heap, h'.get? d = some od → h'.DictAt knd d kvs ep := fun h' e => ⟨od, es, e, hx1, hx2, hx3, hx4, hx5⟩
  have hat := at_ _ (N _ hmem).1
  have hlt : d < s₁.heap.objs.size := Heap.lt_size (N _ hmem).1
  refine wpAny_pyIter_dict lo hat ?_
  have up : ∀ b o, s₁.heap.get? b = some o → (s₁.heap.push { cls := .type "dict_keyiterator", data := .fields #[.ref d, .int 0 0, .int kvs.length 0, .int ep 0] }).get? b = some o := fun b o e => Heap.get?_push_of_some _ e
  refine block_T (Walks.dictKeys (knd := knd) hh s₁.heap.objs.size d (Nat.ne_of_lt hlt) kvs ep) hsz (fun i h st => by obtain ⟨o, e, _⟩ := st.1; exact ⟨o, e⟩)
    (fun i h h' o nw st e e' _ N' hm' => ⟨st.1.at fun o' e2 => by rw [e] at e2; cases e2; exact e', at_ _ (N' _ hm').1⟩) hcell hkind hx ⟨⟨_, Heap.get?_push_size _ rfl, rfl, rfl⟩, hat.push _⟩ (fun b hb => ?_)
    (F.keeps up) (N.grown up) (Nat.ne_of_lt F.ns.lt) (next_is_new F) (fun p hp => Nat.ne_of_lt (Heap.lt_size (N p hp).1)) hmem (R _ ⟨_, rfl⟩) ?_
  · show b < (s₁.heap.push _).objs.size
    rw [Heap.size_push]
    rcases List.mem_cons.mp hb with rfl | hb
    · exact Nat.lt_succ_self _
    · rw [List.mem_singleton.mp hb]; exact Nat.lt_succ_of_lt hlt
  · intro D C h tk m' ys news' F' N' o1 hn hC₀ hD₀ hCL hDL hCD offC fin
    refine ⟨m', hn, fun h'' hs'' => fin D h'' tk (F'.change hs'' hCL hC₀) (fun p hp => ?_) o1⟩
    refine ⟨hs''.extBut _ _ ?_ (N' p hp).1, (N' p hp).2⟩
    rcases List.mem_cons.mp hp with rfl | hp
    · exact Ne.symm hCD
    · exact offC p hp
end
/-- a comprehension with a test, by what holds between the turns -/
theorem compT_ind {prog : Program} {w : World} {A : Around} {h₀ : Heap} {L : Addr} {m : PySem.Str → Option Value} {env : Env} {ct elt : Expr} {x : PySem.Str} {scope : Scope} {cl : List (PySem.Str × Addr)} {s : Shared} {S : List (Addr × Obj) → Prop} {P : Nat → Value → Prop} {Fin : List Value → List (Addr × Obj) → Prop} {n : Nat} {news : List (Addr × Obj)}
    (J : Nat → List Value → Prop) (j0 : J 0 []) (zero : ∀ ys, J n ys → Fin ys news)
    (succ : ∀ i ys v I oI C oC D m₂ h tk (E' : Value → Shared → Prop), i < n → J i ys → P i v → NsObj oC m₂ → m₂ x = some v → Fr h₀ L h m → News h₀ L h ((I, oI) :: (C, oC) :: (D, lst ys) :: news) → (∀ p ∈ news, p.1 ≠ I ∧ p.1 ≠ C ∧ p.1 ≠ D) → ((@Ne Nat I C) ∧ (@Ne Nat I D) ∧ (@Ne Nat C D)) →
      wpAny (model prog w) A (isTrue ct (compEnvC scope cl C env) (eval ct (compEnvC scope cl C env))) (fun ok s' => if ok = true then
        wpAny (model prog w) A (eval elt (compEnvC scope cl C env)) (CompEnd h₀ L m { s with heap := h, toks := tk } I oI C oC D (lst ys) S (fun y news' => news' = news ∧ J (i + 1) (ys ++ [y]))) E' s'
        else CompEnd h₀ L m { s with heap := h, toks := tk } I oI C oC D (lst ys) S (fun _ news' => news' = news ∧ J (i + 1) ys) Value.none s') E' { s with heap := h, toks := tk }) :
    CompRestT prog w A h₀ L m env ct elt x scope cl s S P Fin n 0 [] news := by
  have key : ∀ (k i : Nat) (ys : List Value), i + k = n → J i ys → CompRestT prog w A h₀ L m env ct elt x scope cl s S P Fin k i ys news := by
    intro k
    induction k with
    | zero =>
      intro i ys hi hj
      have : i = n := by omega
      subst this
      exact CompRestT.zero (zero ys hj)
    | succ k ih =>
      intro i ys hi hj
      refine CompRestT.succ fun v I oI C oC D m₂ h tk E' hv hC hx F N off ne => ?_
      refine wpAny_mono (succ i ys v I oI C oC D m₂ h tk E' (by omega) hj hv hC hx F N off.mem ne) (fun ok s' hk => ?_) fun _ _ e => e
      cases ok with
      | true =>
        rw [if_pos rfl] at hk ⊢
        refine wpAny_mono hk (fun y s2 hy => ?_) fun _ _ e => e
        obtain ⟨h', tk', news', a, b, c, d, e, f, g⟩ := hy
        subst f
        exact ⟨h', tk', news', a, b, c, d, e, ih (i + 1) _ (by omega) g⟩
      | false =>
        rw [if_neg (by decide)] at hk ⊢
        obtain ⟨h', tk', news', a, b, c, d, e, f, g⟩ := hk
        subst f
        exact ⟨h', tk', news', a, b, c, d, e, ih (i + 1) _ (by omega) g⟩
  exact key n 0 [] (Nat.zero_add _) j0
/-- an element's end that leaves the ledger as it was -/
theorem comp_end {h₀ : Heap} {L I C D : Addr} {m : PySem.Str → Option Value} {s₁ : Shared} {oI oC oD : Obj} {S : List (Addr × Obj) → Prop} {J : Value → Prop} {y : Value} {h' : Heap} {tk : Nat} {news : List (Addr × Obj)}
    (F : Fr h₀ L h' m) (N : News h₀ L h' ((I, oI) :: (C, oC) :: (D, oD) :: news)) (off : ∀ p ∈ news, p.1 ≠ I ∧ p.1 ≠ C ∧ p.1 ≠ D) (hS : S news) (j : J y) :
    CompEnd h₀ L m s₁ I oI C oC D oD S (fun y news' => news' = news ∧ J y) y { s₁ with heap := h', toks := tk } := ⟨h', tk, news, rfl, F, N, Off3.of off, hS, rfl, j⟩
theorem off1_ne {D : Addr} : ∀ {l : List (Addr × Obj)}, Off1 D l → ∀ p ∈ l, p.1 ≠ D
  | [], _, p, hp => by cases hp
  | q :: l, h, p, hp => by
    rcases List.mem_cons.mp hp with rfl | hp
    · exact h.1
    · exact off1_ne h.2 p hp
end TLib2
section TTold
open PySem PySem.W PySem.Calls PyProof.Rows PyProof.V PySem.Spec
open PyProof.Rows.LCt PyProof.Rows.LCg
set_option maxRecDepth 100000
set_option maxHeartbeats 1500000
set_option pp.maxSteps 12000
noncomputable def toldStep (D : List (Nat × Bool)) (w : Nat) (b : Bool) : List (Nat × Bool) := if D.any (fun p => p.1 = w) then D.map (fun p => if p.1 = w then (p.1, b) else p) else D ++ [(w, b)]
noncomputable def toldD : List LE → List Nat → List (Nat × Bool) → List (Nat × Bool)
  | [], _, D => D
  | e :: es, pc, D => if cLt pc e.1 then D else toldD es pc (toldStep D e.2.1 e.2.2)
theorem toldD_cons (e : LE) (es : List LE) (pc : List Nat) (D : List (Nat × Bool)) : toldD (e :: es) pc D = if cLt pc e.1 then D else toldD es pc (toldStep D e.2.1 e.2.2) := rfl
noncomputable def toldP (es : List LE) (pc : List Nat) : List Nat := ((toldD es pc []).filter (·.2)).map (·.1)
noncomputable def dictV (D : List (Nat × Bool)) : List (Int × Value) := D.map fun p => ((p.1 : Int), Value.bool p.2)
theorem dictV_stored (D : List (Nat × Bool)) (w : Nat) (b : Bool) : stored (dictV D) (w : Int) (.bool b) = dictV (toldStep D w b) := by
  unfold stored toldStep dictV
  have e : (List.map (fun p : Nat × Bool => ((p.1 : Int), Value.bool p.2)) D).any (fun kv => decide (kv.1 = (w : Int))) = D.any fun p => decide (p.1 = w) := by
    rw [List.any_map]
    congr 1
    funext p
    show decide (((p.1 : Nat) : Int) = (w : Int)) = decide (p.1 = w)
    by_cases h : p.1 = w
    · rw [decide_eq_true h, decide_eq_true (by omega)]
    · rw [decide_eq_false h, decide_eq_false (by omega)]
  rw [e]
  split
  · rw [List.map_map, List.map_map]
    refine List.map_congr_left fun p _ => ?_
    show (if ((p.1 : Nat) : Int) = (w : Int) then _ else _) = _
    by_cases h : p.1 = w
    · rw [if_pos (by omega)]; simp [h]
    · rw [if_neg (by omega)]; simp [h]
  · rw [List.map_append]; rfl


theorem valueAt_of {kvs : List (Int × Value)} {i : Nat} {k : Int} {v : Value} (hnd : (kvs.map (·.1)).Nodup) (h : kvs[i]? = some (k, v)) : valueAt kvs k = some v := by
  unfold valueAt
  induction kvs generalizing i with
  | nil => simp at h
  | cons p l ih =>
    rw [List.map_cons, List.nodup_cons] at hnd
    rw [List.find?_cons]
    cases i with
    | zero =>
      have : p = (k, v) := by simpa using h
      subst this
      simp
    | succ i =>
      have h' : l[i]? = some (k, v) := by simpa using h
      have hm : k ∈ l.map (·.1) := List.mem_map.mpr ⟨_, List.mem_of_getElem? h', rfl⟩
      have : p.1 ≠ k := fun e => hnd.1 (e ▸ hm)
      rw [decide_eq_false this]
      exact ih hnd.2 h'
noncomputable def ToldMid (w : World) (g : Heap) (L d : Addr) (oc' : Obj) (news : List (Addr × Obj)) (D : List (Nat × Bool)) (s : Shared) (f : Flow) (s' : Shared) : Prop :=
  f = .next ∧ ∃ h tk m od, s' = { s with heap := h, toks := tk } ∧ Fr g L h m ∧ News g L h ((d, od) :: (L + 1, oc') :: news) ∧ Obj.IsDictOf (intKind PR w) od (dictV D) ∧ D.length ≤ 1000
theorem told_ok (w : World) (news : List (Addr × Obj)) (l pl : Addr) (es : List LE) (pc : List Nat) (hc : ∀ e ∈ es, ∀ c ∈ e.1, c < 14) (hpc : ∀ c ∈ pc, c < 14) (hlen : es.length ≤ 1000)
    (hl : DatIn news (.ref l) (.list (es.map entryD))) (hp : DatIn news (.ref pl) (.list (rowD pc))) :
    GivesN w 220 5 50 [.ref l, .ref pl] news (fun tl r => ∃ D vs k, r = .ref D ∧ tl = [(D, listOf vs.toArray k)] ∧ DatAll [] vs ((toldP es pc).map fun n : Nat => .int n)) := by
  refine' gives_cells (dd := 4) (uu := 47) [("line", .ref l), ("place", .ref pl)] ?ho ?hcd ?hbind ?hkind ?hnd ?hco ?hgen ?hk ?_
  case ho => (intro P; k_is)
  case hcd => (intro P; k_is)
  case hbind => (intro s X; exact BindsTo.of_eq rfl)
  case hkind => exact rfl
  case hnd => exact of_decide_eq_true rfl
  case hco => exact rfl
  case hgen => exact rfl
  case hk => exact rfl
  intro p loose mean mg mb dp un gd outer A₀ base g L h₁ s tk cells B F X N Y T lt hd hu
  change Fr g L h₁ (fun y => if y = "place" then some (Value.ref pl) else if y = "line" then some (Value.ref l) else none) at F
  change CellsAre _ [("stands", L + 1)] cells at Y
  k_cells Y
  rename_i oc dc
  replace dc : oc.data = .cell none := dc
  simp only [List.cons_append, List.nil_append] at N
  show wpAny _ (ktrTop dp un gd _ sc15 L 220 (.ref 219) [("stands", L + 1)] outer) (execs bd15 (envX _ sc15 L 220 (.ref 219) [("stands", L + 1)])) _ _ _
  have lt1 : AllLt (L + 1) news := allLt_of fun q hq => Nat.lt_succ_of_lt (lt q hq)
  refine opaqueU ?_
  intro QQ hQ AA ee
  (repeat' ((fail_if_success (with_reducible first | refine sFor ?_)); walk_at "w1"))
  (rename Fr _ _ _ _ => F1); (rename News _ _ _ _ => N1); (rename Heap => h2)
  obtain ⟨d, od, oc', F2, N2, hd0, lo, dc', ld⟩ : ∃ (d : Nat) (od oc' : Obj), Fr g L h2 (fun y => if y = "place" then some (Value.ref pl) else if y = "line" then some (Value.ref l) else none) ∧
      News g L h2 ((d, od) :: (L + 1, oc') :: news) ∧ od.IsDictOf (intKind PR w) (dictV []) ∧ (d == sysModules) = false ∧ oc'.data = .cell (some (.ref d)) ∧ L + 1 < d ∧ AllLt d news := by
    refine ⟨_, _, _, F1, N1, ?_, ?_, ?_, ?_⟩ <;> assumption
  clear F1 N1
  obtain ⟨cv, cn, hcm, hcv⟩ := dat_list_inv hl
  obtain ⟨pv, pn, hpm, hpv⟩ := dat_list_inv hp
  refine wpAny_mono (Q := ToldMid w g L d oc' news (toldD es pc []) s) (For_turns F2 ?_) ?fin (fun _ _ x => x)
  · walk1
    refine for_led (fun i m nx => ∃ u od D, m = fixM [("place", .ref pl)] u ∧ nx = (d, od) :: (L + 1, oc') :: news ∧ od.IsDictOf (intKind PR w) (dictV D) ∧ D.length ≤ i ∧ toldD es pc [] = toldD (es.drop i) pc D) rfl F2 N2 (.tail _ (.tail _ hcm))
      ⟨_, _, [], fix_of _ (List.forall_mem_cons.mpr ⟨rfl, List.forall_mem_nil _⟩), rfl, hd0, Nat.le_refl _, rfl⟩ ?_ ?_
    · intro I oI i v m nx h tk hv hJ hax hI hne F N
      refine opaqueT ?_
      intro RR hR
      obtain ⟨u, od, D, rfl, rfl, hdo, hDl, htd⟩ := hJ
      obtain ⟨e', hd', hvd⟩ := dat_at hcv hv
      obtain ⟨e, hei, rfl⟩ : ∃ e, es[i]? = some e ∧ e' = entryD e := by
        rw [List.getElem?_map] at hd'
        obtain ⟨c, a, b⟩ := Option.map_eq_some_iff.mp hd'
        exact ⟨c, a, b.symm⟩
      have hem := List.mem_of_getElem? hei
      have hil : i < es.length := (List.getElem?_eq_some_iff.mp hei).1
      have hdrop : es.drop i = e :: es.drop (i + 1) := by
        rw [List.drop_eq_getElem_cons hil]
        congr 1
        exact (List.getElem?_eq_some_iff.mp hei).2
      rw [hdrop] at htd
      obtain ⟨a, la, xs, n', k', t, rfl, hm1, hml, hd1⟩ := entry_inv hvd
      have i1 : d < I := hI (d, _) (.head _)
      have i2 : L + 1 < I := hI (L + 1, _) (.tail _ (.head _))
      have i4 : AllLt I news := allLt_of fun p hp => hI p (.tail _ (.tail _ hp))
      refine unpackN_ F N (News.isTup N (.tail _ (.tail _ (.tail _ hm1)))) rfl rfl rfl fun h3 F3 N3 => ?_
      clear F N F2 N2 hI
      (repeat' ((fail_if_success (with_reducible first | refine sFor ?_)); walk_at "w1"))
      (rename Fr _ _ _ _ => F4); (rename News _ _ _ _ => N4)
      have rl := row_lex hpc (hc e hem)
      refine gt_list ⟨_, (N4 _ (.tail _ (.tail _ (.tail _ hml)))).1, rfl, _, rfl⟩ ⟨_, (N4 _ (.tail _ (.tail _ (.tail _ hpm)))).1, rfl, _, rfl⟩ (by show un < cLine; omega) (by simpa using hd1) (by simpa using hpv) (row_lex (hc e hem) hpc).1 ?_
      rw [rl.2]
      cases hcl : cLt pc e.1 with
      | true =>
        rw [toldD_cons] at htd
        rw [hcl, if_pos rfl] at htd
        (repeat' ((fail_if_success (with_reducible first | refine sFor ?_)); walk_at "w1"))
        (rename Fr _ _ _ _ => F5); (rename News _ _ _ _ => N5)
        refine hR _ _ ?_; exact ⟨rfl, _, _, _, _, rfl, F5, fun q hq => N5 q (.tail _ hq), by rw [htd]; exact hdo, by rw [htd]; omega⟩
      | false =>
        rw [toldD_cons] at htd
        rw [hcl, if_neg (by decide)] at htd
        (repeat' ((fail_if_success (with_reducible first | refine sFor ?_)); walk_at "w1"))
        (rename Fr _ _ _ _ => F5); (rename News _ _ _ _ => N5)
        refine' kda_set F5 N5 ?U hdo (intKind_is _ _ _ _) ?z ?_
        case U => exact .tail (Nat.ne_of_gt i1) (.head (List.forall_mem_cons.mpr ⟨Nat.ne_of_lt ld.1, allLt_ne ld.2⟩))
        case z => rw [sizeLine_eq]; show (dictV D).length ≤ _; unfold dictV; rw [List.length_map]; omega
        intro h6 o6 F6 N6 hd6
        rw [dictV_stored] at hd6
        (repeat' ((fail_if_success (with_reducible first | refine sFor ?_)); walk_at "w1"))
        refine hR _ _ ?_; refine unr_end _ F6 N6 (List.forall_mem_cons.mpr ⟨Nat.ne_of_lt i1, List.forall_mem_cons.mpr ⟨Nat.ne_of_lt i2, allLt_ne i4⟩⟩) ⟨.tail _ (.tail _ hcm), _, _, _, fix_of _ (List.forall_mem_cons.mpr ⟨rfl, List.forall_mem_nil _⟩), rfl, hd6, ?_, htd⟩
        unfold toldStep
        split
        · rw [List.length_map]; omega
        · rw [List.length_append]; show D.length + 1 ≤ _; omega
    · intro m nx h tk hJ F N
      obtain ⟨u, od, D, rfl, rfl, hdo, hDl, htd⟩ := hJ
      rw [hcv.length, List.length_map, List.drop_length] at htd
      exact ⟨rfl, _, _, _, _, rfl, F, N, by rw [htd]; exact hdo, by rw [htd]; show D.length ≤ 1000; rw [hcv.length, List.length_map] at hDl; omega⟩
  case fin =>
    rintro f s' ⟨rfl, h, tk, m, od, rfl, F, N, hdo, hDl⟩
    clear F2 N2
    dsimp only
    (repeat' ((fail_if_success (with_reducible first | refine sLc ?_)); walk_at "w1"))
    refine ListComp_DT (knd := intKind PR w) (m := m) (h₀ := g) (L := L) (cl := [("stands", L + 1)]) ?h1 ?h2 rfl ?h4 rfl ?_
    case h1 => with_unfolding_all rfl
    case h2 => decide
    case h4 => decide
    (repeat' ((fail_if_success (with_reducible first | refine sLc ?_)); walk_at "w1"))
    refine ⟨d, od, dictV (toldD es pc []), (d, od) :: (L + 1, oc') :: news, rfl, rfl, lo, F, N, .head _, hdo, by rw [sizeLine_eq]; unfold dictV; rw [List.length_map]; omega, ?_⟩
    rintro s₂ ⟨hs₂, rfl⟩
    have hnd : ((dictV (toldD es pc [])).map (·.1)).Nodup := by obtain ⟨_, _, _, _, _, _, q⟩ := hdo; exact q
    rw [show (dictV (toldD es pc [])).length = (toldD es pc []).length from List.length_map ..]
    refine compT_ind (fun i ys => DatAll [] ys ((((toldD es pc []).take i).filter (·.2)).map fun p : Nat × Bool => Dat.int (p.1 : Nat))) .nil ?_ ?_
    · intro ys hys
      rw [List.take_length] at hys
      intro D h3 tk3 F3 N3 off3
      refine hQ _ _ ?_; refine RetN.intro [(D, lst ys)] F3 (fun q hq => ?_) ?_ ⟨D, ys, _, rfl, rfl, ?_⟩
      · rcases List.mem_cons.mp hq with rfl | hq
        · exact N3 _ (.head _)
        · exact N3 _ (.tail _ (.tail _ (.tail _ hq)))
      · intro q hq p hp
        rw [List.mem_singleton.mp hp]
        exact off1_ne off3 q (.tail _ (.tail _ hq))
      · unfold toldP
        rw [List.map_map]
        exact hys
    · intro i ys v I oI C oC Dn m₂ h' tk' E' hi hys hv hC hx F' N' off ne
      refine opaqueI ?_
      intro R1 R2 hR1 hR2
      clear F N
      obtain ⟨kk, y, hkv, hv⟩ := hv
      obtain ⟨⟨n, b⟩, hnb, e1⟩ : ∃ p, (toldD es pc [])[i]? = some p ∧ ((p.1 : Int), Value.bool p.2) = (kk, y) := by
        unfold dictV at hkv
        rw [List.getElem?_map] at hkv
        obtain ⟨c, a, b⟩ := Option.map_eq_some_iff.mp hkv
        exact ⟨c, a, b⟩
      cases e1
      obtain ⟨t, rfl⟩ := Value.isInt_shape hv
      (repeat' ((fail_if_success (with_reducible first | refine sLc ?_)); walk_at "w1"))
      refine kda_item (knd := intKind PR w) N' (.tail _ (.tail _ (.tail _ (.head _)))) hdo (intKind_is _ _ _ _) (valueAt_of hnd hkv) ?_
      have e2 := take_snoc hnb
      cases b with
      | true =>
        (repeat' ((fail_if_success (with_reducible first | refine sLc ?_)); walk_at "w1"))
        (rename Fr _ _ _ _ => F6); (rename News _ _ _ _ => N6)
        refine hR1 _ _ ?_; refine comp_end (J := fun y => DatAll [] (ys ++ [y]) _) F6 N6 off (.head _) ?_
        rw [e2, List.filter_append, List.map_append]
        exact hys.append (.cons (.int _ _) .nil)
      | false =>
        (repeat' ((fail_if_success (with_reducible first | refine sLc ?_)); walk_at "w1"))
        (rename Fr _ _ _ _ => F6); (rename News _ _ _ _ => N6)
        refine hR2 _ ?_; refine comp_end (J := fun y => DatAll [] ys _) F6 N6 off (.head _) ?_
        rw [e2, List.filter_append, List.map_append]
        simpa using hys
end TTold
section TLib3
open PySem PySem.W PySem.Calls PyProof.Rows PyProof.V PySem.Spec
open PyProof.Rows.LCt PyProof.Rows.LCg
set_option maxRecDepth 100000
set_option maxHeartbeats 1000000
noncomputable abbrev arX (dp un : Nat) (gd : Option (List Code)) (env : Env) (outer : List Env) : Around := { handled := none, depth := dp, frames := some (env :: outer), guards := gd, units := un }
noncomputable def refusedS : PySem.Str := "Control characters not allowed in headers"
/-- a call of f: what comes back, and the ledger behind it -/
noncomputable def GivesU (w : World) (f : Addr) (dd uu : Nat) (pos : List Value) (kw : List (PySem.Str × Value)) (news : List (Addr × Obj)) (Out : List (Addr × Obj) → Value → Prop) : Prop :=
  ∀ (p : Program) (loose : List PySem.Str) (mean : ExcName → Option Value) (mg mb : PySem.Str → Option Value)
    (dp un : Nat) (gd : Option (List Code)) (env : Env) (outer : List Env) (A₀ : Around) (base h₀ : Heap) (L : Addr) (m : PySem.Str → Option Value) (s : Shared) (R : Result → Shared → Prop),
    Below A₀ base outer h₀ → Fr h₀ L s.heap m → (KK w.params).In h₀ → News h₀ L s.heap news → Top p loose mean mg mb h₀ → env.frame = some L → env.scope.kind = .function → dp + dd < recursionLimit → un + uu < cLine →
    (∀ r all h' tk', Fr h₀ L h' m → News h₀ L h' all → Out all r → R (.ok (.ret r)) { s with heap := h', toks := tk' }) →
    codeAny (model PR w) (arX dp un gd env outer) (.call (.ref f) ⟨pos, kw⟩) R s
noncomputable def RetU (g : Heap) (L : Addr) (Out : List (Addr × Obj) → Value → Prop) (s : Shared) (v : Value) (s' : Shared) : Prop :=
  ∃ m' all h' tk', s' = { s with heap := h', toks := tk' } ∧ Fr g L h' m' ∧ News g L h' all ∧ Out all v
theorem RetU.intro {g : Heap} {L : Addr} {Out : List (Addr × Obj) → Value → Prop} {s : Shared} {v : Value} {m' : PySem.Str → Option Value} {h' : Heap} {tk' : Nat} (all : List (Addr × Obj)) (F : Fr g L h' m') (N : News g L h' all)
    (h : Out all v) : RetU g L Out s v { s with heap := h', toks := tk' } := ⟨m', all, h', tk', rfl, F, N, h⟩
noncomputable def BodyU (w : World) (f : Addr) (qual : PySem.Str) (scope : Scope) (cdv : Value) (body : List Stmt) (dd uu : Nat) (binds : List (PySem.Str × Value)) (news : List (Addr × Obj)) (Out : List (Addr × Obj) → Value → Prop) : Prop :=
  ∀ (p : Program) (loose : List PySem.Str) (mean : ExcName → Option Value) (mg mb : PySem.Str → Option Value) (dp un : Nat) (gd : Option (List Code)) (outer : List Env) (A₀ : Around) (base g : Heap) (L : Addr) (h₁ : Heap) (s : Shared) (tk : Nat) (cells : List (Addr × Obj)),
    Below A₀ base outer g → Fr g L h₁ (bindL (envOfC qual scope L f cdv).kindOf binds fun _ => none) → (KK w.params).In g → News g L h₁ (cells ++ news) →
    CellsAre (bindC (envOfC qual scope L f cdv).kindOf binds fun _ => none) (cellsFrom (L + 1) scope.names []) cells → Top p loose mean mg mb g → (∀ q ∈ news, q.1 < L) → dp + dd < recursionLimit → un + uu < cLine →
    wpAny (model PR w) (ktrTop dp un gd qual scope L f cdv (cellsFrom (L + 1) scope.names []) outer) (execs body (envX qual scope L f cdv (cellsFrom (L + 1) scope.names []))) (fun fl s' => RetU g L Out s (match fl with | .ret v => v | _ => .none) s') (fun _ _ => False) { s with heap := h₁, toks := tk }
theorem givesU {w : World} {f : Addr} {name qual : PySem.Str} {params : Arguments} {body : List Stmt} {scope : Scope} {dV kV doc pm cdv ct oc : Value} {an od : Option Addr} {osl : Array (Option Value)} {dd uu : Nat} {pos : List Value} {kw : List (PySem.Str × Value)} {news : List (Addr × Obj)} {Out : List (Addr × Obj) → Value → Prop}
    (binds : List (PySem.Str × Value)) (ho : ∀ P, (KK P).lookup f = some ⟨oc, od, .func (fnOf name qual params body scope dV kV doc pm an cdv ct), osl⟩) (hcd : ∀ P, codeIn (KK P) cdv qual = true)
    (hbind : ∀ (s : Shared), (KK w.params).In s.heap → BindsTo s (fnOf name qual params body scope dV kV doc pm an cdv ct) ⟨pos, kw⟩ binds)
    (hkind : (binds.all fun y => scope.names.lookup y.1 == some .local || scope.names.lookup y.1 == some .cell) = true)
    (hnd : ((cellsFrom 0 scope.names []).map (·.1)).Nodup)
    (hco : scope.isCoroutine = false) (hgen : scope.isGenerator = false) (hk : scope.kind = .function)
    (h : BodyU w f qual scope cdv body dd uu binds news Out) : GivesU w f (dd + 1) (uu + 3) pos kw news Out := by
  unfold GivesU
  intro p loose mean mg mb dp un gd env outer A₀ base h₀ L m s R B F X N T hf hkc hd hu ret
  refine callX_cells (env := env) B F N T.nolimit rfl hf hkc ((X.keeps F.keep) _ _ (ho _)) rfl (codeRec_of (X.keeps F.keep) (hcd _)) (by show dp < recursionLimit; omega)
    (hbind s (X.keeps F.keep)) (kindsX hkind) hnd (fun g L' h₁ tk cells FG F' N' Y B' st lt => ?_) hco hgen hk
  refine wpAny_mono (h p loose mean mg mb (dp + 1) (un + 3) gd (env :: outer) _ base g L' h₁ s tk cells B' F' (X.keeps st) N' Y (T.keeps st) lt (by omega) (by omega)) (fun fl s' hr => ?_) fun _ _ x => x.elim
  obtain ⟨m', all, h', tk', rfl, F3, N3, out⟩ := hr
  refine leaveK_ F3 N3 fun F4 N4 => ?_
  exact ret _ all h' tk' F4 N4 out
/-- a call of f that is refused -/
noncomputable def FailsU (w : World) (f : Addr) (dd uu : Nat) (pos : List Value) (kw : List (PySem.Str × Value)) (news : List (Addr × Obj)) (Out : List (Addr × Obj) → Prop) : Prop :=
  ∀ (p : Program) (loose : List PySem.Str) (mean : ExcName → Option Value) (mg mb : PySem.Str → Option Value)
    (dp un : Nat) (gd : Option (List Code)) (env : Env) (outer : List Env) (A₀ : Around) (base h₀ : Heap) (L : Addr) (m : PySem.Str → Option Value) (s : Shared) (R : Result → Shared → Prop),
    Below A₀ base outer h₀ → Fr h₀ L s.heap m → (KK w.params).In h₀ → News h₀ L s.heap news → Top p loose mean mg mb h₀ → env.frame = some L → env.scope.kind = .function → dp + dd < recursionLimit → un + uu < cLine →
    (∀ e t tv G all h' tk', Fr h₀ L G m → RaisedS base G (env :: outer) e (.type "ValueError") t [.str refusedS tv] all h' → G.UpToSlots h' → Out all → R (.error (.ref e)) { s with heap := h', toks := tk' }) →
    codeAny (model PR w) (arX dp un gd env outer) (.call (.ref f) ⟨pos, kw⟩) R s
/-- an end of a frame that is left by the fault -/
noncomputable def leaveE (M : Model) (A : Around) (env : Env) (R : Value → Shared → Prop) : Value → Shared → Prop :=
  fun e s' => wpAny M A (leaving env e) (fun _ s'' => R e s'') (fun e' s'' => R e' s'') s'
noncomputable def BodyF (w : World) (f : Addr) (qual : PySem.Str) (scope : Scope) (cdv : Value) (body : List Stmt) (dd uu : Nat) (binds : List (PySem.Str × Value)) (news : List (Addr × Obj)) (Out : List (Addr × Obj) → Prop) : Prop :=
  ∀ (p : Program) (loose : List PySem.Str) (mean : ExcName → Option Value) (mg mb : PySem.Str → Option Value) (dp un : Nat) (gd : Option (List Code)) (outer : List Env) (A₀ : Around) (base g : Heap) (L : Addr) (h₁ : Heap) (s : Shared) (tk : Nat) (cells : List (Addr × Obj)) (R : Value → Shared → Prop),
    Below A₀ base outer g → A₀.deeper (envX qual scope L f cdv (cellsFrom (L + 1) scope.names [])) = ktrTop dp un gd qual scope L f cdv (cellsFrom (L + 1) scope.names []) outer →
    Fr g L h₁ (bindL (envOfC qual scope L f cdv).kindOf binds fun _ => none) → (KK w.params).In g → News g L h₁ (cells ++ news) →
    CellsAre (bindC (envOfC qual scope L f cdv).kindOf binds fun _ => none) (cellsFrom (L + 1) scope.names []) cells → Top p loose mean mg mb g → (∀ q ∈ news, q.1 < L) → dp + dd < recursionLimit → un + uu < cLine →
    (∀ e t tv all h' tk', RaisedS base g outer e (.type "ValueError") t [.str refusedS tv] all h' → g.UpToSlots h' → Out all → R (.ref e) { s with heap := h', toks := tk' }) →
    wpAny (model PR w) (ktrTop dp un gd qual scope L f cdv (cellsFrom (L + 1) scope.names []) outer) (execs body (envX qual scope L f cdv (cellsFrom (L + 1) scope.names []))) (fun _ _ => False)
      (leaveE (model PR w) (ktrTop dp un gd qual scope L f cdv (cellsFrom (L + 1) scope.names []) outer) (envX qual scope L f cdv (cellsFrom (L + 1) scope.names [])) R) { s with heap := h₁, toks := tk }
theorem failsU {w : World} {f : Addr} {name qual : PySem.Str} {params : Arguments} {body : List Stmt} {scope : Scope} {dV kV doc pm cdv ct oc : Value} {an od : Option Addr} {osl : Array (Option Value)} {dd uu : Nat} {pos : List Value} {kw : List (PySem.Str × Value)} {news : List (Addr × Obj)} {Out : List (Addr × Obj) → Prop}
    (binds : List (PySem.Str × Value)) (ho : ∀ P, (KK P).lookup f = some ⟨oc, od, .func (fnOf name qual params body scope dV kV doc pm an cdv ct), osl⟩) (hcd : ∀ P, codeIn (KK P) cdv qual = true)
    (hbind : ∀ (s : Shared), (KK w.params).In s.heap → BindsTo s (fnOf name qual params body scope dV kV doc pm an cdv ct) ⟨pos, kw⟩ binds)
    (hkind : (binds.all fun y => scope.names.lookup y.1 == some .local || scope.names.lookup y.1 == some .cell) = true)
    (hnd : ((cellsFrom 0 scope.names []).map (·.1)).Nodup)
    (hco : scope.isCoroutine = false) (hgen : scope.isGenerator = false) (hk : scope.kind = .function)
    (h : BodyF w f qual scope cdv body dd uu binds news Out) : FailsU w f (dd + 1) (uu + 3) pos kw news Out := by
  unfold FailsU
  intro p loose mean mg mb dp un gd env outer A₀ base h₀ L m s R B F X N T hf hkc hd hu ret
  refine callX_cells (env := env) B F N T.nolimit rfl hf hkc ((X.keeps F.keep) _ _ (ho _)) rfl (codeRec_of (X.keeps F.keep) (hcd _)) (by show dp < recursionLimit; omega)
    (hbind s (X.keeps F.keep)) (kindsX hkind) hnd (fun g L' h₁ tk cells FG F' N' Y B' st lt => ?_) hco hgen hk
  refine wpAny_mono (h p loose mean mg mb (dp + 1) (un + 3) gd (env :: outer) (arX dp un gd env outer) base g L' h₁ s tk cells (fun e s'' => R (.error e) s'') B' rfl F' (X.keeps st) N' Y (T.keeps st) lt (by omega) (by omega)
    fun e t tv all h' tk' r up out => ret e t tv g all h' tk' FG r up out) (fun fl s' hr => hr.elim) fun e s' x => x
section
variable {M : Model} {A : Around} {R : Value → Shared → Prop} {s' : Shared} {base g g₂ h : Heap} {outer : List Env} {L a e t : Addr} {m : PySem.Str → Option Value} {name : PySem.Str} {scope : Scope} {cd : Value} {news : List (Addr × Obj)} {cls : Value} {vs : List Value} {env : Env}
theorem leave_onX (K : Below A base outer g) (F : Fr g L g₂ m) (hf : env.frame = some L) (R' : RaisedS base g₂ (env :: outer) e cls t vs news s'.heap) (hsm : g₂.UpToSlots s'.heap)
    (hQ : ∀ h', RaisedS base g outer e cls t vs news h' → g.UpToSlots h' → R (.ref e) { s' with heap := h' }) : leaveE M (A.deeper env) env R (.ref e) s' := by
  obtain ⟨⟨B, hB, hBG, hl, hfl, hnew⟩, htup⟩ := R'
  unfold leaveE
  exact wpAny_leaves_onW (Around.frames_deeper K.stack) hf hfl fun h' x1 x2 =>
    hQ h' ⟨⟨B, hB, fun b o q nm => hBG b o (F.keep b o q) (fun hm => by
      rcases mem_frs (env := env) hf hm with z | z
      · rw [z, kts_self F] at q
        cases q
      · exact nm z), fun q hq => ⟨(hl q hq).1, kts_none F.keep (hl q hq).2.1, (hl q hq).2.2⟩, x1, hnew⟩, htup.of_slots x2⟩ ((Heap.UpToSlots.of_keeps F.keep).trans (hsm.trans x2))
theorem leave_hereX (K : Below A base outer g) (hx : Heap.MadeExcOf h s'.heap e cls vs) (F : Fr g L h m) (N : News g L h news)
    (hQ : ∀ h' t, RaisedS base g outer e cls t vs news h' → g.UpToSlots h' → R (.ref e) { s' with heap := h' }) (hk : scope.kind = .function) : leaveE M (A.deeper (envOf name scope L a cd)) (envOf name scope L a cd) R (.ref e) s' := by
  unfold leaveE
  exact leave_raiseS K hx F N (fun h' t r _ up => hQ h' t r up) hk
end
/-- what a call does in the one way or the other -/
noncomputable def AnyU (w : World) (f : Addr) (dd uu : Nat) (pos : List Value) (kw : List (PySem.Str × Value)) (news : List (Addr × Obj)) (Out : List (Addr × Obj) → Value → Prop) (OutE : List (Addr × Obj) → Prop) : Prop :=
  ∀ (p : Program) (loose : List PySem.Str) (mean : ExcName → Option Value) (mg mb : PySem.Str → Option Value)
    (dp un : Nat) (gd : Option (List Code)) (env : Env) (outer : List Env) (A₀ : Around) (base h₀ : Heap) (L : Addr) (m : PySem.Str → Option Value) (s : Shared) (R : Result → Shared → Prop),
    Below A₀ base outer h₀ → Fr h₀ L s.heap m → (KK w.params).In h₀ → News h₀ L s.heap news → Top p loose mean mg mb h₀ → env.frame = some L → env.scope.kind = .function → dp + dd < recursionLimit → un + uu < cLine →
    (∀ r all h' tk', Fr h₀ L h' m → News h₀ L h' all → Out all r → R (.ok (.ret r)) { s with heap := h', toks := tk' }) →
    (∀ e t tv G all h' tk', Fr h₀ L G m → RaisedS base G (env :: outer) e (.type "ValueError") t [.str refusedS tv] all h' → G.UpToSlots h' → OutE all → R (.error (.ref e)) { s with heap := h', toks := tk' }) →
    codeAny (model PR w) (arX dp un gd env outer) (.call (.ref f) ⟨pos, kw⟩) R s
theorem GivesU.any {w : World} {f : Addr} {dd uu : Nat} {pos : List Value} {kw : List (PySem.Str × Value)} {news : List (Addr × Obj)} {Out : List (Addr × Obj) → Value → Prop} (h : GivesU w f dd uu pos kw news Out) : AnyU w f dd uu pos kw news Out fun _ => False :=
  fun p loose mean mg mb dp un gd env outer A₀ base h₀ L m s R B F X N T hf hk hd hu ret _ => h p loose mean mg mb dp un gd env outer A₀ base h₀ L m s R B F X N T hf hk hd hu ret
theorem FailsU.any {w : World} {f : Addr} {dd uu : Nat} {pos : List Value} {kw : List (PySem.Str × Value)} {news : List (Addr × Obj)} {OutE : List (Addr × Obj) → Prop} (h : FailsU w f dd uu pos kw news OutE) : AnyU w f dd uu pos kw news (fun _ _ => False) OutE :=
  fun p loose mean mg mb dp un gd env outer A₀ base h₀ L m s R B F X N T hf hk hd hu _ ret => h p loose mean mg mb dp un gd env outer A₀ base h₀ L m s R B F X N T hf hk hd hu ret
end TLib3
section TSrch
open PySem PySem.W PySem.Calls PyProof.Rows PyProof.V PySem.Spec
open PySem.Sre (M)
open Builtin.Re
set_option maxRecDepth 100000
set_option maxHeartbeats 400000
noncomputable def badN (c : Nat) : Bool := Nat.ble c 31 || c == 127
noncomputable def badV (c : Nat) : Bool := Nat.ble c 8 || (Nat.ble 10 c && Nat.ble c 31) || c == 127
noncomputable def nameC : Array Nat := #[14, 10, 4, 1, 1, 22, 0, 31, 16, 127, 0, 13, 7, 22, 0, 31, 16, 127, 0, 1]
noncomputable def valC : Array Nat := #[14, 14, 4, 1, 1, 9, 4294966783, 0, 0, 2147483648, 0, 0, 0, 0, 0, 13, 11, 9, 4294966783, 0, 0, 2147483648, 0, 0, 0, 0, 0, 1]
theorem set_N (c i : Nat) (hi : i = 5 ∨ i = 13) (sn : Sre.Seen) : ∃ sn', Sre.inSet nameC c 20 i true sn = .ok (badN c, sn') := by
  have e1 : (decide (0 ≤ c) && decide (c ≤ 31)) = Nat.ble c 31 := by
    by_cases h : c ≤ 31
    · simp [h]
    · have : Nat.ble c 31 = false := by rw [← Bool.not_eq_true, Nat.ble_eq]; exact h
      rw [this]; simp [h]
  cases h1 : Nat.ble c 31 with
  | true =>
    rw [h1] at e1
    refine ⟨sn.add 22, ?_⟩
    have : badN c = true := by unfold badN; rw [h1]; rfl
    rw [this]
    rcases hi with rfl | rfl
    · show (if (decide (0 ≤ c) && decide (c ≤ 31)) = true then (Except.ok (true, _) : Except String (Bool × Sre.Seen)) else _) = _
      rw [if_pos e1]; rfl
    · show (if (decide (0 ≤ c) && decide (c ≤ 31)) = true then (Except.ok (true, _) : Except String (Bool × Sre.Seen)) else _) = _
      rw [if_pos e1]; rfl
  | false =>
    rw [h1] at e1
    cases h2 : (c == 127) with
    | true =>
      refine ⟨(sn.add 22).add 16, ?_⟩
      have : badN c = true := by unfold badN; rw [h1, h2]; rfl
      rw [this]
      rcases hi with rfl | rfl
      · show (if (decide (0 ≤ c) && decide (c ≤ 31)) = true then (Except.ok (true, _) : Except String (Bool × Sre.Seen)) else (if (c == 127) = true then Except.ok (true, _) else _)) = _
        rw [if_neg (by rw [e1]; decide), if_pos h2]; rfl
      · show (if (decide (0 ≤ c) && decide (c ≤ 31)) = true then (Except.ok (true, _) : Except String (Bool × Sre.Seen)) else (if (c == 127) = true then Except.ok (true, _) else _)) = _
        rw [if_neg (by rw [e1]; decide), if_pos h2]; rfl
    | false =>
      refine ⟨((sn.add 22).add 16).add 0, ?_⟩
      have : badN c = false := by unfold badN; rw [h1, h2]; rfl
      rw [this]
      rcases hi with rfl | rfl
      · show (if (decide (0 ≤ c) && decide (c ≤ 31)) = true then (Except.ok (true, _) : Except String (Bool × Sre.Seen)) else (if (c == 127) = true then Except.ok (true, _) else _)) = _
        rw [if_neg (by rw [e1]; decide), if_neg (by rw [h2]; decide)]; rfl
      · show (if (decide (0 ≤ c) && decide (c ≤ 31)) = true then (Except.ok (true, _) : Except String (Bool × Sre.Seen)) else (if (c == 127) = true then Except.ok (true, _) else _)) = _
        rw [if_neg (by rw [e1]; decide), if_neg (by rw [h2]; decide)]; rfl
theorem val_table : ∀ c, c < 256 → (valC.getD (5 + (1 + c / 32)) 0).testBit (c % 32) = badV c ∧ (valC.getD (17 + (1 + c / 32)) 0).testBit (c % 32) = badV c := by decide +kernel
theorem set_V (c i : Nat) (hi : i = 5 ∨ i = 17) (sn : Sre.Seen) : ∃ sn', Sre.inSet valC c 28 i true sn = .ok (badV c, sn') := by
  have big : ¬ c < 256 → badV c = false := by
    intro h
    unfold badV
    have h1 : Nat.ble c 8 = false := by rw [← Bool.not_eq_true, Nat.ble_eq]; lia
    have h2 : Nat.ble c 31 = false := by rw [← Bool.not_eq_true, Nat.ble_eq]; lia
    have h3 : (c == 127) = false := by rw [beq_eq_false_iff_ne]; lia
    rw [h1, h2, h3]; simp
  rcases hi with rfl | rfl
  · have e : (decide (c < 256) && (valC.getD (5 + (1 + c / 32)) 0).testBit (c % 32)) = badV c := by
      by_cases h : c < 256
      · rw [(val_table c h).1]; simp [h]
      · rw [big h]; simp [h]
    cases h : badV c with
    | true =>
      rw [h] at e
      refine ⟨sn.add 9, ?_⟩
      show (if (decide (c < 256) && (valC.getD (5 + (1 + c / 32)) 0).testBit (c % 32)) = true then (Except.ok (true, _) : Except String (Bool × Sre.Seen)) else _) = _
      rw [if_pos e]; rfl
    | false =>
      rw [h] at e
      refine ⟨(sn.add 9).add 0, ?_⟩
      show (if (decide (c < 256) && (valC.getD (5 + (1 + c / 32)) 0).testBit (c % 32)) = true then (Except.ok (true, _) : Except String (Bool × Sre.Seen)) else _) = _
      rw [if_neg (by rw [e]; decide)]; rfl
  · have e : (decide (c < 256) && (valC.getD (17 + (1 + c / 32)) 0).testBit (c % 32)) = badV c := by
      by_cases h : c < 256
      · rw [(val_table c h).2]; simp [h]
      · rw [big h]; simp [h]
    cases h : badV c with
    | true =>
      rw [h] at e
      refine ⟨sn.add 9, ?_⟩
      show (if (decide (c < 256) && (valC.getD (17 + (1 + c / 32)) 0).testBit (c % 32)) = true then (Except.ok (true, _) : Except String (Bool × Sre.Seen)) else _) = _
      rw [if_pos e]; rfl
    | false =>
      rw [h] at e
      refine ⟨(sn.add 9).add 0, ?_⟩
      show (if (decide (c < 256) && (valC.getD (17 + (1 + c / 32)) 0).testBit (c % 32)) = true then (Except.ok (true, _) : Except String (Bool × Sre.Seen)) else _) = _
      rw [if_neg (by rw [e]; decide)]; rfl
/-- the scan for the first sign of the set -/
theorem adm_none {bad : Nat → Bool} {m : M} (hs : ∀ c sn, ∃ sn', Sre.inSet m.code c m.code.size 5 true sn = .ok (bad c, sn')) : ∀ (fuel s : Nat) (sn : Sre.Seen), (∀ i, s ≤ i → i < m.lim → bad (m.text.getD i 0) = false) → ∃ sn', M.admitted m fuel s sn = .ok (none, sn')
  | 0, s, sn, _ => ⟨sn, rfl⟩
  | fuel + 1, s, sn, h => by
    unfold M.admitted
    by_cases hl : s ≥ m.lim
    · rw [if_pos hl]; exact ⟨sn, rfl⟩
    · rw [if_neg hl]
      obtain ⟨s1, e1⟩ := hs (m.text.getD s 0) sn
      rw [e1, h s (Nat.le_refl _) (by lia)]
      exact adm_none hs fuel (s + 1) s1 fun i h1 h2 => h i (by lia) h2
theorem adm_hit {bad : Nat → Bool} {m : M} (hs : ∀ c sn, ∃ sn', Sre.inSet m.code c m.code.size 5 true sn = .ok (bad c, sn')) {q : Nat} (hq : q < m.lim) (hb : bad (m.text.getD q 0) = true) : ∀ (k fuel s : Nat) (sn : Sre.Seen), s + k = q → k < fuel → (∀ i, s ≤ i → i < q → bad (m.text.getD i 0) = false) →
    ∃ sn', M.admitted m fuel s sn = .ok (some q, sn')
  | _, 0, _, _, _, hf, _ => absurd hf (Nat.not_lt_zero _)
  | 0, fuel + 1, s, sn, e, _, _ => by
    obtain rfl : s = q := by lia
    unfold M.admitted
    rw [if_neg (by lia)]
    obtain ⟨s1, e1⟩ := hs (m.text.getD s 0) sn
    rw [e1, hb]
    exact ⟨s1, rfl⟩
  | k + 1, fuel + 1, s, sn, e, hf, h => by
    unfold M.admitted
    rw [if_neg (by lia)]
    obtain ⟨s1, e1⟩ := hs (m.text.getD s 0) sn
    rw [e1, h s (Nat.le_refl _) (by lia)]
    exact adm_hit hs hq hb k fuel (s + 1) s1 (by lia) (by lia) fun i h1 h2 => h i (by lia) h2

noncomputable def stN (text : Array Nat) (lim s : Nat) (sn : Sre.Seen) : M :=
  { code := nameC, text, lim, start := s, lastStart := lim, pc := 11, pos := s, handed := s, marks := #[], frames := [{ wait := .nextStart, pc := 11, pos := s, outermost := true }], weight := 1, seen := sn }
theorem hit_N {text : Array Nat} {lim q : Nat} (hq : q < lim) (hb : badN (text.getD q 0) = true) (h : ∀ i, i < q → badN (text.getD i 0) = false) : ∃ sn, Sre.forSearch nameC text 0 0 lim false = stN text lim q sn := by
  obtain ⟨sn, e⟩ := adm_hit (bad := badN) (m := { code := nameC, text, lim, start := 0, lastStart := lim, pc := 11, pos := 0, handed := 0, marks := #[], seen := ({} : Sre.Seen).add 14 }) (fun c sn => set_N c 5 (.inl rfl) sn) hq hb q (lim + 1 - 0) 0 (({} : Sre.Seen).add 14) (Nat.zero_add _) (by lia) fun i _ h2 => h i h2
  refine ⟨sn, ?_⟩
  show (if (decide (0 > lim) || decide (lim - 0 < 1)) = true then _ else _) = _
  rw [if_neg (by simp only [Bool.or_eq_true, decide_eq_true_eq]; lia)]
  show (match M.admitted { code := nameC, text, lim, start := 0, lastStart := lim, pc := 11, pos := 0, handed := 0, marks := #[], seen := ({} : Sre.Seen).add 14 } (lim + 1 - 0) 0 (({} : Sre.Seen).add 14) with | .ok (some s, seen) => _ | .ok (none, seen) => _ | .error why => _) = _
  rw [e]
  rfl
theorem miss_N {text : Array Nat} {lim : Nat} (h : ∀ i, i < lim → badN (text.getD i 0) = false) : (M.runFor 1 (Sre.forSearch nameC text 0 0 lim false)).outcome = some .failed := by
  by_cases hl : 0 < lim
  · obtain ⟨sn, e⟩ := adm_none (bad := badN) (m := { code := nameC, text, lim, start := 0, lastStart := lim, pc := 11, pos := 0, handed := 0, marks := #[], seen := ({} : Sre.Seen).add 14 }) (fun c sn => set_N c 5 (.inl rfl) sn) (lim + 1 - 0) 0 (({} : Sre.Seen).add 14) fun i _ h2 => h i h2
    have e2 : Sre.forSearch nameC text 0 0 lim false = { code := nameC, text, lim, start := 0, lastStart := lim, pc := 11, pos := 0, handed := 0, marks := #[], seen := sn, answer := some false } := by
      show (if (decide (0 > lim) || decide (lim - 0 < 1)) = true then _ else _) = _
      rw [if_neg (by simp only [Bool.or_eq_true, decide_eq_true_eq]; lia)]
      show (match M.admitted { code := nameC, text, lim, start := 0, lastStart := lim, pc := 11, pos := 0, handed := 0, marks := #[], seen := ({} : Sre.Seen).add 14 } (lim + 1 - 0) 0 (({} : Sre.Seen).add 14) with | .ok (some s, seen) => _ | .ok (none, seen) => _ | .error why => _) = _
      rw [e]
      rfl
    rw [e2, runFor_one _ rfl]
    rfl
  · obtain rfl : lim = 0 := by lia
    have e2 : Sre.forSearch nameC text 0 0 0 false = { code := nameC, text, lim := 0, start := 0, pc := 11, pos := 0, handed := 0, marks := #[], seen := ({} : Sre.Seen).add 14, answer := some false } := by rfl
    rw [e2, runFor_one _ rfl]
    rfl
theorem in_N {text : Array Nat} {lim s : Nat} {sn : Sre.Seen} (hs : s < lim) (hb : badN (text.getD s 0) = true) : ∃ sn', (stN text lim s sn).step = { stN text lim s sn' with pc := 19, pos := s + 1 } := by
  obtain ⟨sn', e⟩ := set_N (text.getD s 0) 13 (.inr rfl) (sn.add 13)
  have e' : Sre.accepts nameC 11 (text.getD s 0) (sn.add 13) = .ok (true, sn') := by rw [← hb]; exact e
  refine ⟨sn', ?_⟩
  show (if s ≥ lim then _ else match Sre.accepts nameC 11 (text.getD s 0) (sn.add 13) with | .error why => _ | .ok (false, seen) => _ | .ok (true, seen) => _) = _
  rw [if_neg (by lia), e']
  rfl
theorem found_N {text : Array Nat} {lim q : Nat} (hq : q < lim) (hb : badN (text.getD q 0) = true) (h : ∀ i, i < q → badN (text.getD i 0) = false) :
    ∃ m, M.runFor 4 (Sre.forSearch nameC text 0 0 lim false) = m ∧ m.outcome = some .matched := by
  obtain ⟨sn, e⟩ := hit_N hq hb h
  obtain ⟨sn', e'⟩ := in_N (sn := sn) hq hb
  refine ⟨_, rfl, ?_⟩
  rw [e, runFor_step 3 _ _ rfl e']
  rfl

noncomputable def stV (text : Array Nat) (lim s : Nat) (sn : Sre.Seen) : M :=
  { code := valC, text, lim, start := s, lastStart := lim, pc := 15, pos := s, handed := s, marks := #[], frames := [{ wait := .nextStart, pc := 15, pos := s, outermost := true }], weight := 1, seen := sn }
theorem hit_V {text : Array Nat} {lim q : Nat} (hq : q < lim) (hb : badV (text.getD q 0) = true) (h : ∀ i, i < q → badV (text.getD i 0) = false) : ∃ sn, Sre.forSearch valC text 0 0 lim false = stV text lim q sn := by
  obtain ⟨sn, e⟩ := adm_hit (bad := badV) (m := { code := valC, text, lim, start := 0, lastStart := lim, pc := 15, pos := 0, handed := 0, marks := #[], seen := ({} : Sre.Seen).add 14 }) (fun c sn => set_V c 5 (.inl rfl) sn) hq hb q (lim + 1 - 0) 0 (({} : Sre.Seen).add 14) (Nat.zero_add _) (by lia) fun i _ h2 => h i h2
  refine ⟨sn, ?_⟩
  show (if (decide (0 > lim) || decide (lim - 0 < 1)) = true then _ else _) = _
  rw [if_neg (by simp only [Bool.or_eq_true, decide_eq_true_eq]; lia)]
  show (match M.admitted { code := valC, text, lim, start := 0, lastStart := lim, pc := 15, pos := 0, handed := 0, marks := #[], seen := ({} : Sre.Seen).add 14 } (lim + 1 - 0) 0 (({} : Sre.Seen).add 14) with | .ok (some s, seen) => _ | .ok (none, seen) => _ | .error why => _) = _
  rw [e]
  rfl
theorem miss_V {text : Array Nat} {lim : Nat} (h : ∀ i, i < lim → badV (text.getD i 0) = false) : (M.runFor 1 (Sre.forSearch valC text 0 0 lim false)).outcome = some .failed := by
  by_cases hl : 0 < lim
  · obtain ⟨sn, e⟩ := adm_none (bad := badV) (m := { code := valC, text, lim, start := 0, lastStart := lim, pc := 15, pos := 0, handed := 0, marks := #[], seen := ({} : Sre.Seen).add 14 }) (fun c sn => set_V c 5 (.inl rfl) sn) (lim + 1 - 0) 0 (({} : Sre.Seen).add 14) fun i _ h2 => h i h2
    have e2 : Sre.forSearch valC text 0 0 lim false = { code := valC, text, lim, start := 0, lastStart := lim, pc := 15, pos := 0, handed := 0, marks := #[], seen := sn, answer := some false } := by
      show (if (decide (0 > lim) || decide (lim - 0 < 1)) = true then _ else _) = _
      rw [if_neg (by simp only [Bool.or_eq_true, decide_eq_true_eq]; lia)]
      show (match M.admitted { code := valC, text, lim, start := 0, lastStart := lim, pc := 15, pos := 0, handed := 0, marks := #[], seen := ({} : Sre.Seen).add 14 } (lim + 1 - 0) 0 (({} : Sre.Seen).add 14) with | .ok (some s, seen) => _ | .ok (none, seen) => _ | .error why => _) = _
      rw [e]
      rfl
    rw [e2, runFor_one _ rfl]
    rfl
  · obtain rfl : lim = 0 := by lia
    have e2 : Sre.forSearch valC text 0 0 0 false = { code := valC, text, lim := 0, start := 0, pc := 15, pos := 0, handed := 0, marks := #[], seen := ({} : Sre.Seen).add 14, answer := some false } := by rfl
    rw [e2, runFor_one _ rfl]
    rfl
theorem in_V {text : Array Nat} {lim s : Nat} {sn : Sre.Seen} (hs : s < lim) (hb : badV (text.getD s 0) = true) : ∃ sn', (stV text lim s sn).step = { stV text lim s sn' with pc := 27, pos := s + 1 } := by
  obtain ⟨sn', e⟩ := set_V (text.getD s 0) 17 (.inr rfl) (sn.add 13)
  have e' : Sre.accepts valC 15 (text.getD s 0) (sn.add 13) = .ok (true, sn') := by rw [← hb]; exact e
  refine ⟨sn', ?_⟩
  show (if s ≥ lim then _ else match Sre.accepts valC 15 (text.getD s 0) (sn.add 13) with | .error why => _ | .ok (false, seen) => _ | .ok (true, seen) => _) = _
  rw [if_neg (by lia), e']
  rfl
theorem found_V {text : Array Nat} {lim q : Nat} (hq : q < lim) (hb : badV (text.getD q 0) = true) (h : ∀ i, i < q → badV (text.getD i 0) = false) :
    ∃ m, M.runFor 4 (Sre.forSearch valC text 0 0 lim false) = m ∧ m.outcome = some .matched := by
  obtain ⟨sn, e⟩ := hit_V hq hb h
  obtain ⟨sn', e'⟩ := in_V (sn := sn) hq hb
  refine ⟨_, rfl, ?_⟩
  rw [e, runFor_step 3 _ _ rfl e']
  rfl

section
variable {Mo : Model} {A : Around} {E : Value → Shared → Prop} {s : Shared}
theorem target_ok {pat : Addr} {x : PySem.Str} {t : Tok} {code : Array Nat} {groups : Nat} {Q : ReTarget → Shared → Prop} (hp : PatAt s.heap pat code groups) (hx : x.cps.size ≤ 100000)
    (h : Q { pattern := .ref pat, string := .str x t, code, text := x.cps, kind := 0, groups, pos := 0, lim := x.cps.size } s) : wpAny Mo A (reTarget "re.Pattern.search" "search" ⟨[.ref pat, .str x t], []⟩) Q E s := by
  obtain ⟨tup, v0, v1, v3, v4, g0, g1, cv, h1, h2, h3⟩ := hp.ex
  unfold reTarget
  obtain ⟨hh, g, d, tk, os⟩ := s
  wp_walk using wpAny_loadPart' h1, wpAny_loadPart' h2
  subst h3
  have e1 : min (Int.toNat (0 : Int)) x.cps.size = 0 := Nat.zero_min _
  have e2 : min (Int.toNat (2 ^ 63 - 1 : Int)) x.cps.size = x.cps.size := by
    have : Int.toNat (2 ^ 63 - 1 : Int) = 9223372036854775807 := by decide
    rw [this]; lia
  have key : ∀ a b, a = 0 → b = x.cps.size → Q { pattern := .ref pat, string := .str x t, code := (cv.map reRawOf).map (·.toNat), text := x.cps, kind := 0, groups, pos := a, lim := b } { heap := hh, gens := g, drawn := d, toks := tk, os := os } := by
    rintro _ _ rfl rfl
    exact h
  exact key _ _ e1 e2
theorem newMatch_ok {pat : Addr} {x : PySem.Str} {t : Tok} {m : M} {Q : Value → Shared → Prop} (h : ∀ o1 o2, (o2 : Obj).cls = .type "re.Match" → ((s.heap.push o1).push o2).get? (s.heap.objs.size + 1) = some o2 → Q (.ref (s.heap.objs.size + 1)) { s with heap := (s.heap.push o1).push o2 }) :
    wpAny Mo A (reNewMatch (.ref pat) (.str x t) 0 0 x.cps.size m) Q E s := by
  unfold reNewMatch
  refine wpAny_bind (wpAny_newTuple ?_ (by show 2 ≤ _; rw [sizeLine_eq]; decide))
  show wpAny Mo A (newFields "re.Match" _) Q E _
  refine wpAny_newObj_type ?_
  dsimp only
  rw [Heap.size_push]
  refine h _ _ rfl ?_
  rw [← Heap.size_push]
  exact Heap.get?_push_size _ rfl
end
section
variable {prog : Program} {w : World} {A : Around} {E : Value → Shared → Prop} {s : Shared}
theorem search_miss {C : Array Nat} {pat : Addr} {x : PySem.Str} {t : Tok} {Q : Value → Shared → Prop} (hp : PatAt s.heap pat C 0) (hx : x.cps.size ≤ 100000) (hm : (M.runFor 1 (Sre.forSearch C x.cps 0 0 x.cps.size false)).outcome = some .failed)
    (ty : s.TypeIs (.ref pat) "re.Pattern") (h : Q .none s) : wpAny (model prog w) A (call (.builtin "re.Pattern.search") [.ref pat, .str x t]) Q E s := by
  refine call_meetsIn (S := fun _ R s' => s' = s ∧ R (.ok (.ret .none)) s) slot_search ty entry_search (args_search _ _) (fun A R s' hh => ?_) ⟨rfl, h⟩
  obtain ⟨e, k⟩ := hh
  subst e
  unfold Builtin.«re.Pattern.search»
  refine wpAny_bind (target_ok hp hx ?_)
  unfold reAnswer
  refine wpAny_bind (runToEnd (n := 1) (by decide) (.inr ⟨hm, ?_⟩))
  exact wpAny_pure k
theorem search_hit {C : Array Nat} {pat : Addr} {x : PySem.Str} {t : Tok} {Q : Value → Shared → Prop} (hp : PatAt s.heap pat C 0) (hx : x.cps.size ≤ 100000) (hm : (M.runFor 4 (Sre.forSearch C x.cps 0 0 x.cps.size false)).outcome = some .matched)
    (ty : s.TypeIs (.ref pat) "re.Pattern") (h : ∀ o1 o2, (o2 : Obj).cls = .type "re.Match" → ((s.heap.push o1).push o2).get? (s.heap.objs.size + 1) = some o2 → Q (.ref (s.heap.objs.size + 1)) { s with heap := (s.heap.push o1).push o2 }) :
    wpAny (model prog w) A (call (.builtin "re.Pattern.search") [.ref pat, .str x t]) Q E s := by
  refine call_meetsIn (S := fun _ R s' => s' = s ∧ ∀ o1 o2, (o2 : Obj).cls = .type "re.Match" → ((s.heap.push o1).push o2).get? (s.heap.objs.size + 1) = some o2 → R (.ok (.ret (.ref (s.heap.objs.size + 1)))) { s with heap := (s.heap.push o1).push o2 }) slot_search ty entry_search (args_search _ _) (fun A R s' hh => ?_) ⟨rfl, h⟩
  obtain ⟨e, k⟩ := hh
  subst e
  unfold Builtin.«re.Pattern.search»
  refine wpAny_bind (target_ok hp hx ?_)
  unfold reAnswer
  refine wpAny_bind (runToEnd (n := 4) (by decide) (.inl ⟨hm, ?_⟩))
  refine wpAny_bind (newMatch_ok fun o1 o2 c2 d2 => ?_)
  exact wpAny_pure (k o1 o2 c2 d2)
theorem noBool_match : typeLookup (.type "re.Match") "__bool__" = pure none := by rw [typeLookup_type, builtinLookup_eq_fast]; kernel_rfl
theorem noLen_match : typeLookup (.type "re.Match") "__len__" = pure none := by rw [typeLookup_type, builtinLookup_eq_fast]; kernel_rfl
theorem truthy_match {M : Model} {a : Addr} {o : Obj} {Q : Bool → Shared → Prop} (ho : s.heap.get? a = some o) (hc : o.cls = .type "re.Match") (h : Q true s) : wpAny M A (truthy (.ref a)) Q E s := by
  have ty : s.TypeIs (.ref a) "re.Match" := ⟨o, ho, hc⟩
  unfold truthy
  first
    | refine wpAny_bind (wpAny_callSpecial?_none (name := Str.ofString "__bool__") ty noBool_match ?_)
    | refine wpAny_bind (wpAny_pure (wpAny_bind (wpAny_callSpecial?_none (name := Str.ofString "__bool__") ty noBool_match ?_)))
  first
    | refine wpAny_bind (wpAny_specialOf (name := Str.ofString "__len__") ty noLen_match ?_)
    | refine wpAny_bind (wpAny_pure (wpAny_bind (wpAny_specialOf (name := Str.ofString "__len__") ty noLen_match ?_)))
  exact wpAny_pure h
end
end TSrch
section TConv
open PySem PySem.W PySem.Calls PyProof.Rows PyProof.V PySem.Spec
open Builtin.Re
set_option maxRecDepth 100000
set_option maxHeartbeats 1500000
set_option pp.maxSteps 12000


theorem pat61 {P : Params} {h : Heap} (X : (KK P).In h) : PatAt h 61 nameC 0 := ⟨⟨60, _, _, _, _, _, _, _, X 61 _ rfl, X 60 _ rfl, by decide +kernel⟩⟩
theorem pat66 {P : Params} {h : Heap} (X : (KK P).In h) : PatAt h 66 valC 0 := ⟨⟨65, _, _, _, _, _, _, _, X 66 _ rfl, X 65 _ rfl, by decide +kernel⟩⟩
theorem getMethod_search {prog : Program} {w : World} {A : Around} {E : Value → Shared → Prop} {s : Shared} {pat : Addr} {pl : Sem Bool} {Q : Value × List Value → Shared → Prop} {code : Array Nat} {n : Nat} (hp : PatAt s.heap pat code n) (h : Q (.builtin "re.Pattern.search", [.ref pat]) s) : wpAny (model prog w) A (getMethod (.ref pat) "search" pl) Q E s :=
  getMethod_builtin (typeIs_pat hp) plainAttrs_pat slot_search type_search (noDict_pat hp) h
/-- the text is let through as a name | as a value -/
noncomputable def cleanB (b : Bool) (x : PySem.Str) : Prop := ∀ i, i < x.cps.size → (if b then badN else badV) (x.cps.getD i 0) = false
noncomputable def badAtB (b : Bool) (x : PySem.Str) : Prop := ∃ q, q < x.cps.size ∧ (if b then badN else badV) (x.cps.getD q 0) = true ∧ ∀ i, i < q → (if b then badN else badV) (x.cps.getD i 0) = false
theorem conv_ok (w : World) (news : List (Addr × Obj)) (a : Addr) (x : PySem.Str) (t : Tok) (b : Bool) (hx : x.cps.size ≤ 1000) (hc : cleanB b x) :
    GivesU w 96 5 50 [.ref a, .str x t] [("name", .bool b)] news (fun all r => all = news ∧ r = .str x t) := by
  refine' givesU (dd := 4) (uu := 47) [("self", .ref a), ("value", .str x t), ("name", .bool b)] ?ho ?hcd ?hbind ?hkind ?hnd ?hco ?hgen ?hk ?_
  case ho => (intro P; k_is)
  case hcd => (intro P; k_is)
  case hbind => (intro s X; exact BindsTo.of_eq rfl)
  case hkind => exact rfl
  case hnd => exact of_decide_eq_true rfl
  case hco => exact rfl
  case hgen => exact rfl
  case hk => exact rfl
  intro p loose mean mg mb dp un gd outer A₀ base g L h₁ s tk cells B F X N Y T lt hd hu
  change Fr g L h₁ (fun y => if y = "name" then some (Value.bool b) else if y = "value" then some (Value.str x t) else if y = "self" then some (Value.ref a) else none) at F
  cases Y
  simp only [List.nil_append] at N
  show wpAny _ (ktrTop dp un gd _ msc1 L 96 (.ref 95) [] outer) (execs mbd1 (envX _ msc1 L 96 (.ref 95) [])) _ _ _
  refine opaqueU ?_
  intro QQ hQ AA ee
  cases b with
  | true =>
    repeat' ((fail_if_success (with_reducible first | refine sGm ?_)); walk_at "w1")
    (rename Fr _ _ _ _ => F1)
    have P1 := pat61 (X.keeps F1.keep)
    refine getMethod_search P1 ?_
    (repeat' ((fail_if_success (with_reducible first | refine sFor ?_)); walk_at "w1"))
    refine search_miss P1 (by omega) (miss_N hc) (typeIs_pat P1) ?_
    (repeat' ((fail_if_success (with_reducible first | refine sFor ?_)); walk_at "w1"))
    (rename Fr _ _ _ _ => F2); (rename News _ _ _ _ => N2)
    refine hQ _ _ ?_; exact RetU.intro _ F2 N2 ⟨rfl, rfl⟩
  | false =>
    repeat' ((fail_if_success (with_reducible first | refine sGm ?_)); walk_at "w1")
    (rename Fr _ _ _ _ => F1)
    have P1 := pat66 (X.keeps F1.keep)
    refine getMethod_search P1 ?_
    (repeat' ((fail_if_success (with_reducible first | refine sFor ?_)); walk_at "w1"))
    refine search_miss P1 (by omega) (miss_V hc) (typeIs_pat P1) ?_
    (repeat' ((fail_if_success (with_reducible first | refine sFor ?_)); walk_at "w1"))
    (rename Fr _ _ _ _ => F2); (rename News _ _ _ _ => N2)
    refine hQ _ _ ?_; exact RetU.intro _ F2 N2 ⟨rfl, rfl⟩
theorem conv_fails (w : World) (news : List (Addr × Obj)) (a : Addr) (x : PySem.Str) (t : Tok) (b : Bool) (hx : x.cps.size ≤ 1000) (hc : badAtB b x) :
    FailsU w 96 5 50 [.ref a, .str x t] [("name", .bool b)] news (fun all => all = news) := by
  refine' failsU (dd := 4) (uu := 47) [("self", .ref a), ("value", .str x t), ("name", .bool b)] ?ho ?hcd ?hbind ?hkind ?hnd ?hco ?hgen ?hk ?_
  case ho => (intro P; k_is)
  case hcd => (intro P; k_is)
  case hbind => (intro s X; exact BindsTo.of_eq rfl)
  case hkind => exact rfl
  case hnd => exact of_decide_eq_true rfl
  case hco => exact rfl
  case hgen => exact rfl
  case hk => exact rfl
  intro p loose mean mg mb dp un gd outer A₀ base g L h₁ s tk cells R B eA F X N Y T lt hd hu ret
  change Fr g L h₁ (fun y => if y = "name" then some (Value.bool b) else if y = "value" then some (Value.str x t) else if y = "self" then some (Value.ref a) else none) at F
  cases Y
  simp only [List.nil_append] at N
  show wpAny _ (ktrTop dp un gd _ msc1 L 96 (.ref 95) [] outer) (execs mbd1 (envX _ msc1 L 96 (.ref 95) [])) _ (leaveE _ (ktrTop dp un gd _ msc1 L 96 (.ref 95) [] outer) (envX _ msc1 L 96 (.ref 95) []) R) _
  cases b with
  | true =>
    repeat' ((fail_if_success (with_reducible first | refine sGm ?_)); walk_at "w1")
    (rename Fr _ _ _ _ => F1)
    have P1 := pat61 (X.keeps F1.keep)
    refine getMethod_search P1 ?_
    (repeat' ((fail_if_success (with_reducible first | refine sFor ?_)); walk_at "w1"))
    obtain ⟨q, hq1, hq2, hq3⟩ := hc
    obtain ⟨mm, hm1, hm2⟩ := found_N hq1 hq2 hq3
    (rename Fr _ _ _ _ => F1); (rename News _ _ _ _ => N1)
    refine search_hit P1 (by omega) (by rw [hm1]; exact hm2) (typeIs_pat P1) fun o1 o2 c2 hg2 => ?_
    have F2 := (F1.push o1).push o2
    have N2 : News g L ((Heap.push _ o1).push o2) news := (N1.grown fun b o e => Heap.get?_push_of_some _ (Heap.get?_push_of_some _ e))
    clear N1 F1
    dsimp only
    refine truthy_match (o := o2) hg2 c2 ?_
    (repeat' ((fail_if_success (with_reducible first | refine sRai ?_)); walk_at "w1"))
    refine wpAny_Raise_call PySem.F.excCall_ValueError PySem.F.excRaise_ValueError rfl rfl ?_
    (repeat' ((fail_if_success (with_reducible first | refine sRai ?_)); walk_at "w1"))
    refine evalArgs_plain (spliced_more (Calls.Constant_str (Calls.spliced_nil ⟨rfl, by rw [sizeLine_eq]; exact Nat.le_of_ble_eq_true rfl, fun h' e hX0 => ?_⟩)))
    have hX := Heap.MadeExc.of hX0
    have eA' : A₀.deeper (envOf "Headers._convert_string_type" msc1 L 96 (.ref 95)) = ktrTop dp un gd "Headers._convert_string_type" msc1 L 96 (.ref 95) [] outer := eA
    rw [← eA']
    exact leave_hereX B hX F2 N2 (fun h' t r up => ret _ t _ _ h' _ r up rfl) rfl
  | false =>
    repeat' ((fail_if_success (with_reducible first | refine sGm ?_)); walk_at "w1")
    (rename Fr _ _ _ _ => F1)
    have P1 := pat66 (X.keeps F1.keep)
    refine getMethod_search P1 ?_
    (repeat' ((fail_if_success (with_reducible first | refine sFor ?_)); walk_at "w1"))
    obtain ⟨q, hq1, hq2, hq3⟩ := hc
    obtain ⟨mm, hm1, hm2⟩ := found_V hq1 hq2 hq3
    (rename Fr _ _ _ _ => F1); (rename News _ _ _ _ => N1)
    refine search_hit P1 (by omega) (by rw [hm1]; exact hm2) (typeIs_pat P1) fun o1 o2 c2 hg2 => ?_
    have F2 := (F1.push o1).push o2
    have N2 : News g L ((Heap.push _ o1).push o2) news := (N1.grown fun b o e => Heap.get?_push_of_some _ (Heap.get?_push_of_some _ e))
    clear N1 F1
    dsimp only
    refine truthy_match (o := o2) hg2 c2 ?_
    (repeat' ((fail_if_success (with_reducible first | refine sRai ?_)); walk_at "w1"))
    refine wpAny_Raise_call PySem.F.excCall_ValueError PySem.F.excRaise_ValueError rfl rfl ?_
    (repeat' ((fail_if_success (with_reducible first | refine sRai ?_)); walk_at "w1"))
    refine evalArgs_plain (spliced_more (Calls.Constant_str (Calls.spliced_nil ⟨rfl, by rw [sizeLine_eq]; exact Nat.le_of_ble_eq_true rfl, fun h' e hX0 => ?_⟩)))
    have hX := Heap.MadeExc.of hX0
    have eA' : A₀.deeper (envOf "Headers._convert_string_type" msc1 L 96 (.ref 95)) = ktrTop dp un gd "Headers._convert_string_type" msc1 L 96 (.ref 95) [] outer := eA
    rw [← eA']
    exact leave_hereX B hX F2 N2 (fun h' t r up => ret _ t _ _ h' _ r up rfl) rfl
end TConv
section THInit
open PySem PySem.W PySem.Calls PyProof.Rows PyProof.V PySem.Spec
set_option maxRecDepth 100000
set_option maxHeartbeats 1500000
set_option pp.maxSteps 12000


/-- the header's dict behind its making -/
noncomputable abbrev hdrD (w : World) (l : Addr) (k : Tok) : Obj := dictOf [{ hash := PyData.keyHash w.params "_headers", key := .str "_headers" k, val := .ref l }] 1
noncomputable abbrev Row := PySem.Str × PySem.Str
noncomputable def pairD (r : Row) : Dat := .tuple [.str r.1, .str r.2]
/-- rows that the checks let through -/
noncomputable def Clean (r : Row) : Prop := cleanB true r.1 ∧ cleanB false r.2 ∧ r.1.cps.size ≤ 100 ∧ r.2.cps.size ≤ 100
theorem pair_inv {news : List (Addr × Obj)} {v : Value} {r : Row} (h : DatIn news v (pairD r)) : ∃ a n t u, v = .ref a ∧ (a, ({ cls := .type "tuple", data := .seq #[.str r.1 t, .str r.2 u] n } : Obj)) ∈ news := by
  unfold pairD at h
  obtain ⟨a, rfl⟩ := ref_of_tuple h
  obtain ⟨vs, n, hm, hd⟩ := dat_tuple_inv h
  cases hd with
  | cons h1 hd =>
    cases hd with
    | cons h2 hd =>
      cases hd with
      | nil =>
        obtain ⟨t, rfl⟩ := str_of_dat h1
        obtain ⟨u, rfl⟩ := str_of_dat h2
        exact ⟨a, n, t, u, rfl, hm⟩
theorem init_ok (w : World) (x dx l : Nat) (news : List (Addr × Obj)) (rows : List Row) (hxd : dx < x) (hlt : AllLt dx news) (hrow : DatIn news (.ref l) (.list (rows.map pairD))) (hcl : ∀ r ∈ rows, Clean r) :
    GivesU w 89 18 180 [.ref x, .ref l] [] ((x, instObj 197 dx) :: (dx, emptyDict) :: news) (fun all r => r = .none ∧ ∃ k, all = (x, instObj 197 dx) :: (dx, hdrD w l k) :: news) := by
  refine' givesU (dd := 17) (uu := 177) [("self", .ref x), ("headers", .ref l)] ?ho ?hcd ?hbind ?hkind ?hnd ?hco ?hgen ?hk ?_
  case ho => (intro P; k_is)
  case hcd => (intro P; k_is)
  case hbind => (intro s X; exact binds_K X rfl (by k_is) rfl rfl rfl)
  case hkind => exact rfl
  case hnd => exact of_decide_eq_true rfl
  case hco => exact rfl
  case hgen => exact rfl
  case hk => exact rfl
  intro p loose mean mg mb dp un gd outer A₀ base g L h₁ s tk cells B F X N Y T lt hd hu
  change Fr g L h₁ (fun y => if y = "headers" then some (Value.ref l) else if y = "self" then some (Value.ref x) else none) at F
  cases Y
  simp only [List.nil_append] at N
  show wpAny _ (ktrTop dp un gd _ msc0 L 89 (.ref 88) [] outer) (execs mbd0 (envX _ msc0 L 89 (.ref 88) [])) _ _ _
  have lx : x < L := lt _ (.head _)
  have ldx : dx < L := lt _ (.tail _ (.head _))
  have ln : AllLt L news := allLt_of fun q hq => lt q (.tail _ (.tail _ hq))
  have lnx : AllLt x news := allLt_trans hlt (Nat.le_of_lt hxd)
  obtain ⟨cv, cn, hcm, hcv⟩ := dat_list_inv hrow
  refine opaqueU ?_
  intro QQ hQ AA ee
  (repeat' ((fail_if_success (with_reducible first | refine sFor ?_ | refine sCal ?_)); walk_at "w1"))
  (rename News _ _ _ _ => N1)
  refine kto_cont (T := "list") ⟨_, (N1 _ (.tail _ (.tail _ hcm))).1, rfl⟩ (by decide +kernel) ?_
  (repeat' ((fail_if_success (with_reducible first | refine sFor ?_ | refine sCal ?_)); walk_at "w1"))
  (rename Fr _ _ _ _ => F1); (rename News _ _ _ _ => N1); (rename Heap => h2)
  obtain ⟨kt, F2, N2⟩ : ∃ kt, Fr g L h2 (fun y => if y = "headers" then some (Value.ref l) else if y = "headers" then some (Value.ref l) else if y = "self" then some (Value.ref x) else none) ∧
      News g L h2 ((x, instObj 197 dx) :: (dx, hdrD w l kt) :: news) := ⟨_, F1, N1⟩
  clear F1 N1
  refine For_turns F2 ?_
  walk1
  refine for_led (fun i m nx => ∃ u, m = fixM [("self", .ref x)] u ∧ nx = (x, instObj 197 dx) :: (dx, hdrD w l kt) :: news) rfl F2 N2 (.tail _ (.tail _ hcm))
      ⟨_, fix_of _ (List.forall_mem_cons.mpr ⟨rfl, List.forall_mem_nil _⟩), rfl⟩ ?_ ?_
  · intro I oI i v m nx h tk hv hJ hax hI hne F N
    refine opaqueT ?_
    intro RR hR
    obtain ⟨u, rfl, rfl⟩ := hJ
    obtain ⟨e', hd', hvd⟩ := dat_at hcv hv
    obtain ⟨e, hei, rfl⟩ : ∃ e, rows[i]? = some e ∧ e' = pairD e := by
      rw [List.getElem?_map] at hd'
      obtain ⟨c, a, b⟩ := Option.map_eq_some_iff.mp hd'
      exact ⟨c, a, b.symm⟩
    have hce := hcl e (List.mem_of_getElem? hei)
    obtain ⟨a, n', t1, t2, rfl, hm1⟩ := pair_inv hvd
    have i1 : x < I := hI (x, _) (.head _)
    have i2 : dx < I := hI (dx, _) (.tail _ (.head _))
    have i4 : AllLt I news := allLt_of fun p hp => hI p (.tail _ (.tail _ hp))
    refine unpackN_ F N (News.isTup N (.tail _ (.tail _ (.tail _ hm1)))) rfl rfl rfl fun h3 F3 N3 => ?_
    clear F N F2 N2 hI
    (repeat' ((fail_if_success (with_reducible first | refine sFor ?_ | refine sCal ?_)); walk_at "w1"))
    (rename Fr _ _ _ _ => F4); (rename News _ _ _ _ => N4)
    refine wpAny_call (conv_ok w _ x e.1 t1 true (by have := hce.2.2.1; omega) hce.1 p loose mean mg mb dp un gd _ outer A₀ base g L _ _ _ B F4 X N4 T rfl rfl (by omega) (by omega) fun r all h' tk' F' N' ho => ?_)
    obtain ⟨rfl, rfl⟩ := ho
    clear F4 N4 F3 N3
    dsimp only
    (repeat' ((fail_if_success (with_reducible first | refine sFor ?_ | refine sCal ?_)); walk_at "w1"))
    (rename Fr _ _ _ _ => F4); (rename News _ _ _ _ => N4)
    refine wpAny_call (conv_ok w _ x e.2 t2 false (by have := hce.2.2.2; omega) hce.2.1 p loose mean mg mb dp un gd _ outer A₀ base g L _ _ _ B F4 X N4 T rfl rfl (by omega) (by omega) fun r all h' tk' F' N' ho => ?_)
    obtain ⟨rfl, rfl⟩ := ho
    clear F4 N4
    dsimp only
    (repeat' ((fail_if_success (with_reducible first | refine sFor ?_ | refine sCal ?_)); walk_at "w1"))
    (rename Fr _ _ _ _ => F5); (rename News _ _ _ _ => N5)
    refine hR _ _ ?_; exact unr_end _ F5 N5 (List.forall_mem_cons.mpr ⟨Nat.ne_of_lt i1, List.forall_mem_cons.mpr ⟨Nat.ne_of_lt i2, allLt_ne i4⟩⟩) ⟨.tail _ (.tail _ hcm), _, fix_of _ (List.forall_mem_cons.mpr ⟨rfl, List.forall_mem_nil _⟩), rfl⟩
  · intro m nx h tk hJ F N
    obtain ⟨u, rfl, rfl⟩ := hJ
    dsimp only
    (repeat' ((fail_if_success (with_reducible first | refine sFor ?_ | refine sCal ?_)); walk_at "w1"))
    refine hQ _ _ ?_; exact RetU.intro _ F N ⟨rfl, kt, rfl⟩
theorem init0_ok (w : World) (x dx : Nat) (news : List (Addr × Obj)) (hxd : dx < x) (hlt : AllLt dx news) :
    GivesU w 89 18 180 [.ref x] [] ((x, instObj 197 dx) :: (dx, emptyDict) :: news) (fun all r => r = .none ∧ ∃ (l : Nat) (k : Tok), all = (l, listOf [].toArray 0) :: (x, instObj 197 dx) :: (dx, hdrD w l k) :: news ∧ x < l ∧ AllLt l news) := by
  refine' givesU (dd := 17) (uu := 177) [("self", .ref x), ("headers", .none)] ?ho ?hcd ?hbind ?hkind ?hnd ?hco ?hgen ?hk ?_
  case ho => (intro P; k_is)
  case hcd => (intro P; k_is)
  case hbind => (intro s X; exact binds_K X rfl (by k_is) rfl rfl rfl)
  case hkind => exact rfl
  case hnd => exact of_decide_eq_true rfl
  case hco => exact rfl
  case hgen => exact rfl
  case hk => exact rfl
  intro p loose mean mg mb dp un gd outer A₀ base g L h₁ s tk cells B F X N Y T lt hd hu
  change Fr g L h₁ (fun y => if y = "headers" then some (Value.none) else if y = "self" then some (Value.ref x) else none) at F
  cases Y
  simp only [List.nil_append] at N
  show wpAny _ (ktrTop dp un gd _ msc0 L 89 (.ref 88) [] outer) (execs mbd0 (envX _ msc0 L 89 (.ref 88) [])) _ _ _
  have lx : x < L := lt _ (.head _)
  have ldx : dx < L := lt _ (.tail _ (.head _))
  have ln : AllLt L news := allLt_of fun q hq => lt q (.tail _ (.tail _ hq))
  have lnx : AllLt x news := allLt_trans hlt (Nat.le_of_lt hxd)
  refine opaqueU ?_
  intro QQ hQ AA ee
  (repeat' ((fail_if_success (with_reducible first | refine sFor ?_ | refine sCal ?_)); walk_at "w1"))
  (rename Fr _ _ _ _ => F1); (rename News _ _ _ _ => N1); (rename Heap => h2)
  obtain ⟨l, kt, F2, N2, l1, l2⟩ : ∃ (l : Nat) (kt : Tok), Fr g L h2 (fun y => if y = "headers" then some (Value.ref l) else if y = "headers" then some Value.none else if y = "self" then some (Value.ref x) else none) ∧
      News g L h2 ((l, listOf [].toArray 0) :: (x, instObj 197 dx) :: (dx, hdrD w l kt) :: news) ∧ x < l ∧ AllLt l news := by
    refine ⟨_, _, F1, N1, ?_, ?_⟩
    · omega
    · (rename _ ∧ _ ∧ AllLt _ _ => l9); exact l9.2.2
  clear F1 N1
  refine For_turns F2 ?_
  walk1
  refine for_led (fun i m nx => nx = (l, listOf [].toArray 0) :: (x, instObj 197 dx) :: (dx, hdrD w l kt) :: news) rfl F2 N2 (.head _) rfl ?_ ?_
  · intro I oI i v m nx h tk hv
    simp at hv
  · intro m nx h tk hJ F N
    subst hJ
    dsimp only
    (repeat' ((fail_if_success (with_reducible first | refine sFor ?_ | refine sCal ?_)); walk_at "w1"))
    refine hQ _ _ ?_; exact RetU.intro _ F N ⟨rfl, l, kt, rfl, l1, l2⟩
end THInit
section TItems
open PySem PySem.W PySem.Calls PyProof.Rows PyProof.V PySem.Spec
set_option maxRecDepth 100000
set_option maxHeartbeats 1500000
set_option pp.maxSteps 12000


theorem items_ok (w : World) (x dx l n : Nat) (k : Tok) (vs : List Value) (rest : List (Addr × Obj)) (hvs : vs.length ≤ 1000) :
    GivesU w 161 8 80 [.ref x] [] ((x, instObj 197 dx) :: (dx, hdrD w l k) :: (l, listOf vs.toArray n) :: rest)
      (fun all r => ∃ l' : Nat, r = .ref l' ∧ all = (l', listOf vs.toArray 0) :: (x, instObj 197 dx) :: (dx, hdrD w l k) :: (l, listOf vs.toArray n) :: rest ∧ AllLt l' ((x, instObj 197 dx) :: (dx, hdrD w l k) :: (l, listOf vs.toArray n) :: rest)) := by
  refine' givesU (dd := 7) (uu := 77) [("self", .ref x)] ?ho ?hcd ?hbind ?hkind ?hnd ?hco ?hgen ?hk ?_
  case ho => (intro P; k_is)
  case hcd => (intro P; k_is)
  case hbind => (intro s X; exact BindsTo.of_eq rfl)
  case hkind => exact rfl
  case hnd => exact of_decide_eq_true rfl
  case hco => exact rfl
  case hgen => exact rfl
  case hk => exact rfl
  intro p loose mean mg mb dp un gd outer A₀ base g L h₁ s tk cells B F X N Y T lt hd hu
  change Fr g L h₁ (fun y => if y = "self" then some (Value.ref x) else none) at F
  cases Y
  simp only [List.nil_append] at N
  show wpAny _ (ktrTop dp un gd _ msc11 L 161 (.ref 160) [] outer) (execs mbd11 (envX _ msc11 L 161 (.ref 160) [])) _ _ _
  refine opaqueU ?_
  intro QQ hQ AA ee
  (repeat' ((fail_if_success (with_reducible first | refine sFor ?_ | refine sCal ?_ | refine sSubR ?_)); walk_at "w1"))
  refine kba_turn (value' := .Name "_" ⟨0, 0, 0, 0⟩) (fun _ => rfl) ?_
  refine kmk_slice (lo := none) (hi := none) F N ⟨_, (N _ (.tail _ (.tail _ (.head _)))).1, rfl, _, rfl⟩ IsPart.none IsPart.none (fun D h' F' N' l1 => ?_) (by with_unfolding_all rfl) (by intro _; with_unfolding_all rfl) (by rw [sizeLine_eq, List.size_toArray]; omega)
  rw [slicePick_all] at N'
  (repeat' ((fail_if_success (with_reducible first | refine sFor ?_ | refine sCal ?_ | refine sSubR ?_)); walk_at "w1"))
  refine hQ _ _ ?_; exact RetU.intro _ F' N' ⟨D, rfl, rfl, allLt_of l1⟩
end TItems
section THGet
open PySem PySem.W PySem.Calls PyProof.Rows PyProof.V PySem.Spec
set_option maxRecDepth 100000
set_option maxHeartbeats 1500000
set_option pp.maxSteps 12000


/-- the row that a name is found at -/
noncomputable def findRow (rows : List Row) (nm : PySem.Str) : Option Row := rows.find? fun r => Txt.lower r.1 == Txt.lower nm
noncomputable def GotRow (o : Option Row) (r : Value) : Prop := match o with
  | some row => ∃ t, r = .str row.2 t
  | none => r = .none
theorem find_none_snoc {rows : List Row} {nm : PySem.Str} {i : Nat} {e : Row} (h : findRow (rows.take i) nm = none) (he : rows[i]? = some e) (hn : (Txt.lower e.1 == Txt.lower nm) = false) : findRow (rows.take (i + 1)) nm = none := by
  unfold findRow at *
  rw [take_snoc he, List.find?_append, h, List.find?_cons, hn]; rfl
theorem find_some_here {rows : List Row} {nm : PySem.Str} {i : Nat} {e : Row} (h : findRow (rows.take i) nm = none) (he : rows[i]? = some e) (hn : (Txt.lower e.1 == Txt.lower nm) = true) : findRow rows nm = some e := by
  have hi := (List.getElem?_eq_some_iff.mp he).1
  have e1 : rows = rows.take i ++ e :: rows.drop (i + 1) := by
    have h2 : rows.drop i = e :: rows.drop (i + 1) := by
      rw [List.drop_eq_getElem_cons hi]
      congr 1
      exact (List.getElem?_eq_some_iff.mp he).2
    rw [← h2, List.take_append_drop]
  unfold findRow at *
  rw [e1, List.find?_append, h, List.find?_cons, hn]; rfl
theorem get_ok (w : World) (x dx l n : Nat) (k : Tok) (vs : List Value) (rest : List (Addr × Obj)) (rows : List Row) (nm : PySem.Str) (t : Tok) (hvs : DatAll rest vs (rows.map pairD)) (hcl : ∀ r ∈ rows, Clean r)
    (hn : nm.cps.size ≤ 100) (hc : cleanB true (Txt.lower nm)) :
    GivesU w 144 18 180 [.ref x, .str nm t] [] ((x, instObj 197 dx) :: (dx, hdrD w l k) :: (l, listOf vs.toArray n) :: rest)
      (fun all r => all = (x, instObj 197 dx) :: (dx, hdrD w l k) :: (l, listOf vs.toArray n) :: rest ∧ GotRow (findRow rows nm) r) := by
  refine' givesU (dd := 17) (uu := 177) [("self", .ref x), ("name", .str nm t), ("default", .none)] ?ho ?hcd ?hbind ?hkind ?hnd ?hco ?hgen ?hk ?_
  case ho => (intro P; k_is)
  case hcd => (intro P; k_is)
  case hbind => (intro s X; exact binds_K X rfl (by k_is) rfl rfl rfl)
  case hkind => exact rfl
  case hnd => exact of_decide_eq_true rfl
  case hco => exact rfl
  case hgen => exact rfl
  case hk => exact rfl
  intro p loose mean mg mb dp un gd outer A₀ base g L h₁ s tk cells B F X N Y T lt hd hu
  change Fr g L h₁ (fun y => if y = "default" then some Value.none else if y = "name" then some (Value.str nm t) else if y = "self" then some (Value.ref x) else none) at F
  cases Y
  simp only [List.nil_append] at N
  show wpAny _ (ktrTop dp un gd _ msc8 L 144 (.ref 143) [] outer) (execs mbd8 (envX _ msc8 L 144 (.ref 143) [])) _ _ _
  refine opaqueU ?_
  intro QQ hQ AA ee
  (repeat' ((fail_if_success (with_reducible first | refine sFor ?_ | refine sCal ?_ | refine sLow ?_ | refine sIte ?_)); walk_at "w1"))
  refine SCL.lower (by show nm.cps.size ≤ _; omega) fun hlow => ?_
  (repeat' ((fail_if_success (with_reducible first | refine sFor ?_ | refine sCal ?_ | refine sLow ?_ | refine sIte ?_)); walk_at "w1"))
  (rename Fr _ _ _ _ => F1); (rename News _ _ _ _ => N1)
  refine wpAny_call (conv_ok w _ x _ _ true (by show (Txt.lower nm).length ≤ _; have : nm.length ≤ 100 := hn; omega) hc p loose mean mg mb dp un gd _ outer A₀ base g L _ _ _ B F1 X N1 T rfl rfl (by omega) (by omega) fun r all h' tk' F' N' ho => ?_)
  obtain ⟨rfl, rfl⟩ := ho
  clear F1 N1
  dsimp only
  (repeat' ((fail_if_success (with_reducible first | refine sFor ?_ | refine sCal ?_ | refine sLow ?_ | refine sIte ?_)); walk_at "w1"))
  (rename Fr _ _ _ _ => F1); (rename News _ _ _ _ => N1); (rename Heap => h2)
  obtain ⟨F2, N2⟩ : Fr g L h2 (fun y => if y = "name" then some (Value.str (Txt.lower nm) _) else if y = "default" then some Value.none else if y = "name" then some (Value.str nm t) else if y = "self" then some (Value.ref x) else none) ∧
      News g L h2 ((x, instObj 197 dx) :: (dx, hdrD w l k) :: (l, listOf vs.toArray n) :: rest) := ⟨F1, N1⟩
  clear F1 N1
  refine For_turns F2 ?_
  (repeat' ((fail_if_success (with_reducible first | refine sFor ?_ | refine sCal ?_ | refine sLow ?_ | refine sIte ?_)); walk_at "w1"))
  refine for_led (fun i m nx => findRow (rows.take i) nm = none ∧ ∃ u t2, m = fixM [("name", .str (Txt.lower nm) t2), ("default", .none)] u ∧ nx = (x, instObj 197 dx) :: (dx, hdrD w l k) :: (l, listOf vs.toArray n) :: rest) rfl F2 N2 (.tail _ (.tail _ (.head _)))
      ⟨rfl, _, _, fix_of _ (List.forall_mem_cons.mpr ⟨rfl, List.forall_mem_cons.mpr ⟨rfl, List.forall_mem_nil _⟩⟩), rfl⟩ ?_ ?_
  · intro I oI i v m nx h tk hv hJ hax hI hne F N
    refine opaqueT ?_
    intro RR hR
    obtain ⟨hfn, u, t2, rfl, rfl⟩ := hJ
    obtain ⟨e', hd', hvd⟩ := dat_at hvs hv
    obtain ⟨e, hei, rfl⟩ : ∃ e, rows[i]? = some e ∧ e' = pairD e := by
      rw [List.getElem?_map] at hd'
      obtain ⟨c, a, b⟩ := Option.map_eq_some_iff.mp hd'
      exact ⟨c, a, b.symm⟩
    have hce := hcl e (List.mem_of_getElem? hei)
    obtain ⟨a, n', t3, t4, rfl, hm1⟩ := pair_inv hvd
    refine unpackN_ F N (News.isTup N (.tail _ (.tail _ (.tail _ (.tail _ hm1))))) rfl rfl rfl fun h3 F3 N3 => ?_
    clear F N F2 N2 hI
    (repeat' ((fail_if_success (with_reducible first | refine sFor ?_ | refine sCal ?_ | refine sLow ?_ | refine sIte ?_)); walk_at "w1"))
    refine SCL.lower (by show e.1.cps.size ≤ _; have := hce.2.2.1; omega) fun hlow2 => ?_
    (repeat' ((fail_if_success (with_reducible first | refine sFor ?_ | refine sCal ?_ | refine sLow ?_ | refine sIte ?_)); walk_at "w1"))
    · (rename Fr _ _ _ _ => F5); (rename News _ _ _ _ => N5); (rename (_ == _) = true => hq)
      refine hR _ _ ?_; refine hQ _ _ ?_; exact RetU.intro _ F5 (fun q hq => N5 q (.tail _ hq)) ⟨rfl, by rw [find_some_here hfn hei hq]; exact ⟨_, rfl⟩⟩
    · (rename Fr _ _ _ _ => F5); (rename News _ _ _ _ => N5); (rename (_ == _) = false => hq)
      refine hR _ _ ?_; exact unr_end _ F5 N5 hne ⟨.tail _ (.tail _ (.head _)), find_none_snoc hfn hei hq, _, _, fix_of _ (List.forall_mem_cons.mpr ⟨rfl, List.forall_mem_cons.mpr ⟨rfl, List.forall_mem_nil _⟩⟩), rfl⟩
  · intro m nx h tk hJ F N
    obtain ⟨hfn, u, t2, rfl, rfl⟩ := hJ
    rw [hvs.length, List.length_map, List.take_length] at hfn
    dsimp only
    (repeat' ((fail_if_success (with_reducible first | refine sFor ?_ | refine sCal ?_ | refine sLow ?_ | refine sIte ?_)); walk_at "w1"))
    (rename Fr _ _ _ _ => F5); (rename News _ _ _ _ => N5)
    refine hQ _ _ ?_; exact RetU.intro _ F5 N5 ⟨rfl, by rw [hfn]; rfl⟩
theorem get_fails (w : World) (x dx l n : Nat) (k : Tok) (vs : List Value) (rest : List (Addr × Obj)) (nm : PySem.Str) (t : Tok)
    (hn : nm.cps.size ≤ 100) (hc : badAtB true (Txt.lower nm)) :
    FailsU w 144 18 180 [.ref x, .str nm t] [] ((x, instObj 197 dx) :: (dx, hdrD w l k) :: (l, listOf vs.toArray n) :: rest)
      (fun all => all = (x, instObj 197 dx) :: (dx, hdrD w l k) :: (l, listOf vs.toArray n) :: rest) := by
  refine' failsU (dd := 17) (uu := 177) [("self", .ref x), ("name", .str nm t), ("default", .none)] ?ho ?hcd ?hbind ?hkind ?hnd ?hco ?hgen ?hk ?_
  case ho => (intro P; k_is)
  case hcd => (intro P; k_is)
  case hbind => (intro s X; exact binds_K X rfl (by k_is) rfl rfl rfl)
  case hkind => exact rfl
  case hnd => exact of_decide_eq_true rfl
  case hco => exact rfl
  case hgen => exact rfl
  case hk => exact rfl
  intro p loose mean mg mb dp un gd outer A₀ base g L h₁ s tk cells R B eA F X N Y T lt hd hu ret
  change Fr g L h₁ (fun y => if y = "default" then some Value.none else if y = "name" then some (Value.str nm t) else if y = "self" then some (Value.ref x) else none) at F
  cases Y
  simp only [List.nil_append] at N
  show wpAny _ (ktrTop dp un gd _ msc8 L 144 (.ref 143) [] outer) (execs mbd8 (envX _ msc8 L 144 (.ref 143) [])) _ (leaveE _ (ktrTop dp un gd _ msc8 L 144 (.ref 143) [] outer) (envX _ msc8 L 144 (.ref 143) []) R) _
  (repeat' ((fail_if_success (with_reducible first | refine sFor ?_ | refine sCal ?_ | refine sLow ?_ | refine sIte ?_)); walk_at "w1"))
  refine SCL.lower (by show nm.cps.size ≤ _; omega) fun hlow => ?_
  (repeat' ((fail_if_success (with_reducible first | refine sFor ?_ | refine sCal ?_ | refine sLow ?_ | refine sIte ?_)); walk_at "w1"))
  (rename Fr _ _ _ _ => F1); (rename News _ _ _ _ => N1)
  refine wpAny_call (conv_fails w _ x _ _ true (by show (Txt.lower nm).length ≤ _; have : nm.length ≤ 100 := hn; omega) hc p loose mean mg mb dp un gd _ outer A₀ base g L _ _ _ B F1 X N1 T rfl rfl (by omega) (by omega) fun e t tv G all h' tk' F' rd up ho => ?_)
  subst ho
  have eA' : A₀.deeper (envX "Headers.get" msc8 L 144 (.ref 143) []) = ktrTop dp un gd "Headers.get" msc8 L 144 (.ref 143) [] outer := eA
  dsimp only
  rw [← eA']
  exact leave_onX B F' rfl rd up fun h'' r2 up2 => ret _ t tv _ h'' _ r2 up2 rfl
end THGet
section TSlSet
open PySem PySem.W PySem.Calls PyProof.Rows PyProof.V PySem.Spec
set_option maxRecDepth 100000
set_option maxHeartbeats 400000
/-- l[:] = b, of two lists -/
theorem set_slice_all {prog : Program} {w : World} {A : Around} {E : Value → Shared → Prop} {s : Shared} {l b sl : Addr} {xs ys : Array Value} {n n2 : Nat} {Q : Unit → Shared → Prop} (hl : s.heap.get? l = some (listOf xs n)) (hb : s.heap.get? b = some (listOf ys n2)) (hne : l ≠ b)
    (hs : s.heap.IsSliceOf sl .none .none .none) (hsz : xs.size + ys.size ≤ 100000)
    (h : ∀ h', Heap.SameBut l s.heap h' → (∃ n', h'.get? l = some (listOf ys n')) → Q () { s with heap := h' }) : wpAny (model prog w) A (setItem (.ref l) (.ref sl) (.ref b)) Q E s := by
  obtain ⟨os, hos, hcs, hds⟩ := id hs
  have hTs : s.TypeIs (.ref sl) "slice" := ⟨os, hos, hcs⟩
  have hTl : s.TypeIs (.ref l) "list" := ⟨_, hl, rfl⟩
  have hTb : s.TypeIs (.ref b) "list" := ⟨_, hb, rfl⟩
  unfold setItem
  try with_reducible refine wpAny_holding ?_
  first | refine wpAny_bind (wpAny_pure ?_) | skip
  refine wpAny_bind (wpAny_sequenceKey hTl (by decide) ?_)
  refine wpAny_bind (wpAny_callSpecial?_slot (name := Str.ofString "__setitem__") hTl slot_list_setitem
    (wpAny_call_entry slot_list_setitem hTl entry_list_setitem ?_ (args_list_setitem _ _ _)))
  show wpAny _ _ (Builtin.List.listSubscript? (.ref sl) >>= _) _ _ s
  refine wpAny_bind ?_
  unfold Builtin.List.listSubscript?
  refine wpAny_bind (wpAny_specialOf hTs slice_no_index ?_)
  simp only [Option.isNone_none, if_true]
  refine wpAny_pure ?_
  show wpAny _ _ (typeOf (.ref sl) >>= _) _ _ s
  refine wpAny_bind (wpAny_typeOf hTs ?_)
  rw [if_neg (by decide)]
  rw [listSliceParts_eq]
  refine wpAny_bind (wpAny_bind (wpAny_field hos hds (x := .none) rfl (wpAny_bind (wpAny_listPart IsPart.none ?_))))
  rw [if_neg (by decide)]
  refine wpAny_bind (wpAny_field hos hds (x := .none) rfl (wpAny_bind (wpAny_listPart IsPart.none ?_)))
  refine wpAny_bind (wpAny_field hos hds (x := .none) rfl (wpAny_bind (wpAny_listPart IsPart.none (wpAny_pure ?_))))
  have hsr : Builtin.List.listSameRef (.ref l) (.ref b) = false := by
    show (l == b) = false
    exact beq_eq_false_iff_ne.mpr hne
  rw [hsr, if_neg (by decide)]
  refine wpAny_bind ?_
  unfold Builtin.List.listAllItems
  refine wpAny_bind (wpAny_typeOf hTb ?_)
  rw [if_pos (by decide)]
  refine wpAny_bind ?_
  refine wpAny_seqItems hb rfl (wpAny_pure ?_)
  refine wpAny_bind (listItems_at hl rfl ?_)
  have e0 : sliceBounds none none none xs.size = ((0 : Int), (xs.size : Int), 1) := kms_bounds none none xs.size
  refine wpAny_bind (wpAny_of_eq (sliceIndices_raw none none none xs.size (by decide)) ?_)
  rw [e0]
  dsimp only
  rw [if_pos (by decide)]
  refine wpAny_bind (wpAny_rule ?_)
  have hdoor : Builtin.List.listTooLong (xs.size + ys.size) = false := by
    unfold Builtin.List.listTooLong sizeLine
    exact decide_eq_false (by omega)
  rw [hdoor, if_neg (by decide)]
  have hm : max (0 : Int) (xs.size : Int) = (xs.size : Int) := by omega
  have hf : ∀ zs : Array Value, zs.size = xs.size → (zs.extract 0 (Int.toNat 0) ++ ys ++ zs.extract (max (0 : Int) (xs.size : Int)).toNat) = ys := by
    intro zs hz
    rw [hm, Int.toNat_natCast]
    apply Array.toList_inj.mp
    simp [hz]
  refine wpAny_bind (listUpdate_at hl rfl ?_ ?_ ?_)
  · refine wpAny_bind (wpAny_letGo ?_)
    refine wpAny_pure ⟨.none, rfl, wpAny_pure (h _ (Heap.SameBut.update ..) ?_)⟩
    have := get?_update_seq (h := s.heap) (a := l) (c := "list") (xs := xs) (n := n) hl (fun zs => zs.extract 0 (Int.toNat 0) ++ ys ++ zs.extract (max (0 : Int) (xs.size : Int)).toNat)
    rw [hf xs rfl] at this
    exact ⟨_, this⟩
  · show xs.size ≤ _
    rw [sizeLine_eq]; omega
  · show (_ : Array Value).size ≤ _
    rw [hf xs rfl, sizeLine_eq]; omega
end TSlSet
section THDel
open PySem PySem.W PySem.Calls PyProof.Rows PyProof.V PySem.Spec
set_option maxRecDepth 100000
set_option maxHeartbeats 1500000
set_option pp.maxSteps 12000


theorem del_ok (w : World) (x dx l n : Nat) (k : Tok) (vs : List Value) (rest : List (Addr × Obj)) (rows : List Row) (nm : PySem.Str) (t : Tok) (hvs : DatAll rest vs (rows.map pairD)) (hcl : ∀ r ∈ rows, Clean r) (hlen : rows.length ≤ 1000)
    (hn : nm.cps.size ≤ 100) (hc : cleanB true (Txt.lower nm)) (hxl : x ≠ l) (hdl : dx ≠ l) (hrl : ∀ q ∈ rest, q.1 ≠ l) :
    GivesU w 115 18 180 [.ref x, .str nm t] [] ((x, instObj 197 dx) :: (dx, hdrD w l k) :: (l, listOf vs.toArray n) :: rest)
      (fun all r => r = .none ∧ ∃ vs' n', all = (x, instObj 197 dx) :: (dx, hdrD w l k) :: (l, listOf vs'.toArray n') :: rest ∧ DatAll rest vs' ((rows.filter fun r => Txt.lower r.1 != Txt.lower nm).map pairD)) := by
  refine' givesU (dd := 17) (uu := 177) [("self", .ref x), ("name", .str nm t)] ?ho ?hcd ?hbind ?hkind ?hnd ?hco ?hgen ?hk ?_
  case ho => (intro P; k_is)
  case hcd => (intro P; k_is)
  case hbind => (intro s X; exact BindsTo.of_eq rfl)
  case hkind => exact rfl
  case hnd => exact of_decide_eq_true rfl
  case hco => exact rfl
  case hgen => exact rfl
  case hk => exact rfl
  intro p loose mean mg mb dp un gd outer A₀ base g L h₁ s tk cells B F X N Y T lt hd hu
  change Fr g L h₁ (fun y => if y = "self" then some (Value.ref x) else none) at F
  change CellsAre _ [("name", L + 1)] cells at Y
  k_cells Y
  rename_i oc dc
  replace dc : oc.data = .cell (some (.str nm t)) := dc
  simp only [List.cons_append, List.nil_append] at N
  show wpAny _ (ktrTop dp un gd _ msc4 L 115 (.ref 114) [("name", L + 1)] outer) (execs mbd4 (envX _ msc4 L 115 (.ref 114) [("name", L + 1)])) _ _ _
  have lx : x < L := lt _ (.head _)
  have ldx : dx < L := lt _ (.tail _ (.head _))
  have ll : l < L := lt _ (.tail _ (.tail _ (.head _)))
  have ln : AllLt L rest := allLt_of fun q hq => lt q (.tail _ (.tail _ (.tail _ hq)))
  have ln1 : AllLt (L + 1) rest := allLt_trans ln (Nat.le_succ _)
  refine opaqueU ?_
  intro QQ hQ AA ee
  (repeat' ((fail_if_success (with_reducible first | refine sFor ?_ | refine sCal ?_ | refine sLow ?_ | refine sIte ?_ | refine sLc ?_ | refine sSet ?_)); walk_at "w1"))
  refine SCL.lower (by show nm.cps.size ≤ _; omega) fun hlow => ?_
  (repeat' ((fail_if_success (with_reducible first | refine sFor ?_ | refine sCal ?_ | refine sLow ?_ | refine sIte ?_ | refine sLc ?_ | refine sSet ?_)); walk_at "w1"))
  (rename Fr _ _ _ _ => F1); (rename News _ _ _ _ => N1)
  refine wpAny_call (conv_ok w _ x _ _ true (by show (Txt.lower nm).length ≤ _; have : nm.length ≤ 100 := hn; omega) hc p loose mean mg mb dp un gd _ outer A₀ base g L _ _ _ B F1 X N1 T rfl rfl (by omega) (by omega) fun r all h' tk' F' N' ho => ?_)
  obtain ⟨rfl, rfl⟩ := ho
  clear F1 N1
  dsimp only
  (repeat' ((fail_if_success (with_reducible first | refine sFor ?_ | refine sCal ?_ | refine sLow ?_ | refine sIte ?_ | refine sLc ?_ | refine sSet ?_)); walk_at "w1"))
  (rename Fr _ _ _ _ => F1); (rename News _ _ _ _ => N1); (rename Obj => oc'); (rename _ = Data.cell _ => dc9)
  refine LCt.ListComp_T (F₀ := F1) (cl := [("name", L + 1)]) ?h1 ?h2 rfl ?h4 rfl ?_
  case h1 => with_unfolding_all rfl
  case h2 => decide
  case h4 => decide
  (repeat' ((fail_if_success (with_reducible first | refine sFor ?_ | refine sCal ?_ | refine sLow ?_ | refine sIte ?_ | refine sLc ?_ | refine sSet ?_)); walk_at "w1"))
  refine LCt.CompSrcT.ledger rfl F1 N1 (.tail _ (.tail _ (.tail _ (.head _)))) (by rw [sizeLine_eq, List.size_toArray, hvs.length, List.length_map]; omega) fun g' => ?_
  refine compT_ind (fun i ys => DatAll rest ys (((rows.take i).filter fun r => Txt.lower r.1 != Txt.lower nm).map pairD)) .nil ?_ ?_
  · intro ys hys D h3 tk3 F3 N3 off3
    rw [List.size_toArray, hvs.length, List.length_map, List.take_length] at hys
    clear F1 N1
    dsimp only
    (repeat' ((fail_if_success (with_reducible first | refine sFor ?_ | refine sCal ?_ | refine sLow ?_ | refine sIte ?_ | refine sLc ?_ | refine sSet ?_)); walk_at "w1"))
    have mx := N3 (x, instObj 197 dx) (.tail _ (.tail _ (.head _)))
    have md := N3 (dx, hdrD w l k) (.tail _ (.tail _ (.tail _ (.head _))))
    have ml := N3 (l, listOf vs.toArray n) (.tail _ (.tail _ (.tail _ (.tail _ (.head _)))))
    have mD := N3 (D, LCg.lst ys) (.head _)
    have lD : l ≠ D := off1_ne off3 _ (.tail _ (.tail _ (.tail _ (.head _))))
    refine set_slice_all (xs := vs.toArray) (ys := ys.toArray) (Heap.get?_push_of_some _ ml.1) (Heap.get?_push_of_some _ mD.1) lD (Heap.IsSliceOf.new ..) ?_ fun h6 sb hg => ?_
    · have h1 := hys.length
      have h2 := List.length_filter_le (fun r : Row => Txt.lower r.1 != Txt.lower nm) rows
      have h3 := hvs.length
      simp only [List.length_map] at h1 h3
      simp only [List.size_toArray]
      omega
    obtain ⟨n6, hg⟩ := hg
    have F6 := (F3.push { cls := .type "slice", data := .fields #[.none, .none, .none] }).change sb ml.2.1 ml.2.2
    have N6 : News g L h6 ((x, instObj 197 dx) :: (dx, hdrD w l k) :: (l, listOf ys.toArray n6) :: rest) := by
      intro q hq
      rcases List.mem_cons.mp hq with rfl | hq
      · exact ⟨(sb.2 _ hxl).trans (Heap.get?_push_of_some _ mx.1), mx.2⟩
      rcases List.mem_cons.mp hq with rfl | hq
      · exact ⟨(sb.2 _ hdl).trans (Heap.get?_push_of_some _ md.1), md.2⟩
      rcases List.mem_cons.mp hq with rfl | hq
      · exact ⟨hg, ml.2⟩
      · have mq := N3 q (.tail _ (.tail _ (.tail _ (.tail _ (.tail _ hq)))))
        exact ⟨(sb.2 _ (hrl q hq)).trans (Heap.get?_push_of_some _ mq.1), mq.2⟩
    clear F3 N3
    dsimp only
    (repeat' ((fail_if_success (with_reducible first | refine sFor ?_ | refine sCal ?_ | refine sLow ?_ | refine sIte ?_ | refine sLc ?_ | refine sSet ?_)); walk_at "w1"))
    refine hQ _ _ ?_; exact RetU.intro _ F6 N6 ⟨rfl, ys, n6, rfl, hys⟩
  · intro i ys v I oI C oC Dn m₂ h' tk' E' hi hys hv hC hx F' N' off ne
    refine opaqueI ?_
    intro R1 R2 hR1 hR2
    clear F1 N1
    have hv' : vs[i]? = some v := by simpa using hv
    obtain ⟨e', hd', hvd⟩ := dat_at hvs hv'
    obtain ⟨e, hei, rfl⟩ : ∃ e, rows[i]? = some e ∧ e' = pairD e := by
      rw [List.getElem?_map] at hd'
      obtain ⟨c, a, b⟩ := Option.map_eq_some_iff.mp hd'
      exact ⟨c, a, b.symm⟩
    have hce := hcl e (List.mem_of_getElem? hei)
    obtain ⟨a, n', t3, t4, rfl, hm1⟩ := pair_inv hvd
    (repeat' ((fail_if_success (with_reducible first | refine sFor ?_ | refine sCal ?_ | refine sLow ?_ | refine sIte ?_ | refine sLc ?_ | refine sSet ?_)); walk_at "w1"))
    refine item_tuple (items := #[.str e.1 t3, .str e.2 t4]) (j := 0) (x := .str e.1 t3) (News.isTup N' (.tail _ (.tail _ (.tail _ (.tail _ (.tail _ (.tail _ (.tail _ hm1)))))))) (by decide) (by decide) rfl rfl ?_
    (repeat' ((fail_if_success (with_reducible first | refine sFor ?_ | refine sCal ?_ | refine sLow ?_ | refine sIte ?_ | refine sLc ?_ | refine sSet ?_)); walk_at "w1"))
    refine SCL.lower (by show e.1.cps.size ≤ _; have := hce.2.2.1; omega) fun hlow2 => ?_
    (repeat' ((fail_if_success (with_reducible first | refine sFor ?_ | refine sCal ?_ | refine sLow ?_ | refine sIte ?_ | refine sLc ?_ | refine sSet ?_)); walk_at "w1"))
    · (rename (_ != _) = true => hq)
      refine hR1 _ _ ?_; refine comp_end (J := fun y => DatAll rest (ys ++ [y]) _) F' N' off (.inr ⟨_, .tail _ (.tail _ (.tail _ (.head _))), rfl, _, rfl⟩) ?_
      rw [take_snoc hei, List.filter_append, List.map_append]
      refine hys.append ?_
      rw [List.filter_cons, if_pos hq]
      exact .cons hvd .nil
    · (rename (_ != _) = false => hq)
      refine hR2 _ ?_; refine comp_end (J := fun y => DatAll rest ys _) F' N' off (.inr ⟨_, .tail _ (.tail _ (.tail _ (.head _))), rfl, _, rfl⟩) ?_
      rw [take_snoc hei, List.filter_append, List.filter_cons, if_neg (by rw [hq]; decide), List.filter_nil, List.append_nil]
      exact hys
theorem raised_less {base G : Heap} {l : List Env} {e t : Addr} {cls : Value} {vs : List Value} {news news' : List (Addr × Obj)} {h : Heap} (R : RaisedS base G l e cls t vs news h) (k : ∀ q ∈ news', q ∈ news) : RaisedS base G l e cls t vs news' h := by
  obtain ⟨⟨B, hB, hBG, hl, hfl, hnew⟩, htup⟩ := R
  exact ⟨⟨B, hB, hBG, fun q hq => hl q (k q hq), hfl, hnew⟩, htup⟩
theorem del_fails (w : World) (x dx l n : Nat) (k : Tok) (vs : List Value) (rest : List (Addr × Obj)) (nm : PySem.Str) (t : Tok)
    (hn : nm.cps.size ≤ 100) (hc : badAtB true (Txt.lower nm)) :
    FailsU w 115 18 180 [.ref x, .str nm t] [] ((x, instObj 197 dx) :: (dx, hdrD w l k) :: (l, listOf vs.toArray n) :: rest)
      (fun all => all = (x, instObj 197 dx) :: (dx, hdrD w l k) :: (l, listOf vs.toArray n) :: rest) := by
  refine' failsU (dd := 17) (uu := 177) [("self", .ref x), ("name", .str nm t)] ?ho ?hcd ?hbind ?hkind ?hnd ?hco ?hgen ?hk ?_
  case ho => (intro P; k_is)
  case hcd => (intro P; k_is)
  case hbind => (intro s X; exact BindsTo.of_eq rfl)
  case hkind => exact rfl
  case hnd => exact of_decide_eq_true rfl
  case hco => exact rfl
  case hgen => exact rfl
  case hk => exact rfl
  intro p loose mean mg mb dp un gd outer A₀ base g L h₁ s tk cells R B eA F X N Y T lt hd hu ret
  change Fr g L h₁ (fun y => if y = "self" then some (Value.ref x) else none) at F
  change CellsAre _ [("name", L + 1)] cells at Y
  k_cells Y
  rename_i oc dc
  replace dc : oc.data = .cell (some (.str nm t)) := dc
  simp only [List.cons_append, List.nil_append] at N
  show wpAny _ (ktrTop dp un gd _ msc4 L 115 (.ref 114) [("name", L + 1)] outer) (execs mbd4 (envX _ msc4 L 115 (.ref 114) [("name", L + 1)])) _ (leaveE _ (ktrTop dp un gd _ msc4 L 115 (.ref 114) [("name", L + 1)] outer) (envX _ msc4 L 115 (.ref 114) [("name", L + 1)]) R) _
  have lx : x < L := lt _ (.head _)
  have ldx : dx < L := lt _ (.tail _ (.head _))
  have ll : l < L := lt _ (.tail _ (.tail _ (.head _)))
  have ln : AllLt L rest := allLt_of fun q hq => lt q (.tail _ (.tail _ (.tail _ hq)))
  have ln1 : AllLt (L + 1) rest := allLt_trans ln (Nat.le_succ _)
  (repeat' ((fail_if_success (with_reducible first | refine sFor ?_ | refine sCal ?_ | refine sLow ?_ | refine sIte ?_ | refine sLc ?_ | refine sSet ?_)); walk_at "w1"))
  refine SCL.lower (by show nm.cps.size ≤ _; omega) fun hlow => ?_
  (repeat' ((fail_if_success (with_reducible first | refine sFor ?_ | refine sCal ?_ | refine sLow ?_ | refine sIte ?_ | refine sLc ?_ | refine sSet ?_)); walk_at "w1"))
  (rename Fr _ _ _ _ => F1); (rename News _ _ _ _ => N1)
  refine wpAny_call (conv_fails w _ x _ _ true (by show (Txt.lower nm).length ≤ _; have : nm.length ≤ 100 := hn; omega) hc p loose mean mg mb dp un gd _ outer A₀ base g L _ _ _ B F1 X N1 T rfl rfl (by omega) (by omega) fun e t tv G all h' tk' F' rd up ho => ?_)
  subst ho
  have eA' : A₀.deeper (envX "Headers.__delitem__" msc4 L 115 (.ref 114) [("name", L + 1)]) = ktrTop dp un gd "Headers.__delitem__" msc4 L 115 (.ref 114) [("name", L + 1)] outer := eA
  dsimp only
  rw [← eA']
  exact leave_onX B F' rfl rd up fun h'' r2 up2 => ret _ t tv _ h'' _ (raised_less r2 fun q hq => .tail _ hq) up2 rfl
end THDel
section THSet
open PySem PySem.W PySem.Calls PyProof.Rows PyProof.V PySem.Spec
set_option maxRecDepth 100000
set_option maxHeartbeats 1500000
set_option pp.maxSteps 12000


theorem del_own {M : Model} {A : Around} {E : Value → Shared → Prop} {s : Shared} {K : Frag} {x C L f : Addr} {h₀ : Heap} {m : PySem.Str → Option Value} {ox : Obj} {od : Option Obj} {i : Value} {Q : Unit → Shared → Prop} (F : Fr h₀ L s.heap m) (X₀ : K.In h₀) (I : InstAt s.heap x ox C od) (hq : noSeq K C = true) (hs : findIn K (.ref C) "__delitem__" = some (some (.ref f))) (hf : isFn K (.ref f) = true)
    (h : wpAny M A (call (.ref f) [.ref x, i]) (fun _ s' => Q () s') E s) : wpAny M A (delItem (.ref x) i) Q E s := by
  have X := X₀.keeps F.keep
  unfold delItem sequenceKey
  refine wpAny_holding (wpAny_bind (wpAny_bind (I.type.here ?_)))
  refine wpAny_bind ((anyM_none X hq).here ?_)
  rw [if_pos (show (!false) = true from rfl)]
  exact wpAny_pure (wpAny_bind (special_fn X I hs (beq_iff_eq.mp hf) (wpAny_mono h (fun _ _ z => wpAny_pure z) fun _ _ z => z)))
theorem inst_at {g h : Heap} {L x dx : Addr} {od : Obj} {news : List (Addr × Obj)} (N : News g L h news) (h1 : (x, instObj 197 dx) ∈ news) (h2 : (dx, od) ∈ news) : InstAt h x (instObj 197 dx) 197 (some od) := ⟨(N _ h1).1, rfl, rfl, (N _ h2).1⟩
theorem set_ok (w : World) (x dx l n : Nat) (k : Tok) (vs : List Value) (rest : List (Addr × Obj)) (rows : List Row) (nm vl : PySem.Str) (t tv : Tok) (hvs : DatAll rest vs (rows.map pairD)) (hcl : ∀ r ∈ rows, Clean r) (hlen : rows.length ≤ 1000)
    (hn : nm.cps.size ≤ 100) (hc : cleanB true (Txt.lower nm)) (hc1 : cleanB true nm) (hvl : vl.cps.size ≤ 100) (hc2 : cleanB false vl) (hxl : x ≠ l) (hdl : dx ≠ l) (hrl : ∀ q ∈ rest, q.1 ≠ l) :
    GivesU w 110 28 280 [.ref x, .str nm t, .str vl tv] [] ((x, instObj 197 dx) :: (dx, hdrD w l k) :: (l, listOf vs.toArray n) :: rest)
      (fun all r => r = .none ∧ ∃ p : Nat, ∃ vs' n' np, all = (p, ({ cls := .type "tuple", data := .seq #[.str nm t, .str vl tv] np } : Obj)) :: (x, instObj 197 dx) :: (dx, hdrD w l k) :: (l, listOf (vs' ++ [.ref p]).toArray n') :: rest ∧ DatAll rest vs' ((rows.filter fun r => Txt.lower r.1 != Txt.lower nm).map pairD)
        ∧ p ≠ x ∧ p ≠ dx ∧ p ≠ l ∧ ∀ q ∈ rest, q.1 ≠ p) := by
  refine' givesU (dd := 27) (uu := 277) [("self", .ref x), ("name", .str nm t), ("val", .str vl tv)] ?ho ?hcd ?hbind ?hkind ?hnd ?hco ?hgen ?hk ?_
  case ho => (intro P; k_is)
  case hcd => (intro P; k_is)
  case hbind => (intro s X; exact BindsTo.of_eq rfl)
  case hkind => exact rfl
  case hnd => exact of_decide_eq_true rfl
  case hco => exact rfl
  case hgen => exact rfl
  case hk => exact rfl
  intro p loose mean mg mb dp un gd outer A₀ base g L h₁ s tk cells B F X N Y T lt hd hu
  change Fr g L h₁ (fun y => if y = "val" then some (Value.str vl tv) else if y = "name" then some (Value.str nm t) else if y = "self" then some (Value.ref x) else none) at F
  cases Y
  simp only [List.nil_append] at N
  show wpAny _ (ktrTop dp un gd _ msc3 L 110 (.ref 109) [] outer) (execs mbd3 (envX _ msc3 L 110 (.ref 109) [])) _ _ _
  have lx : x < L := lt _ (.head _)
  have ldx : dx < L := lt _ (.tail _ (.head _))
  have ll : l < L := lt _ (.tail _ (.tail _ (.head _)))
  have ln : AllLt L rest := allLt_of fun q hq => lt q (.tail _ (.tail _ (.tail _ hq)))
  refine opaqueU ?_
  intro QQ hQ AA ee
  (repeat' ((fail_if_success (with_reducible first | refine sFor ?_ | refine sCal ?_ | refine sLow ?_ | refine sIte ?_ | refine sLc ?_ | refine sSet ?_)); walk_at "w1"))
  (rename Fr _ _ _ _ => F1); (rename News _ _ _ _ => N1)
  refine' del_own (f := 115) F1 X (inst_at N1 (.head _) (.tail _ (.head _))) ?d1 ?d2 ?d3 ?_
  case d1 => k_is
  case d2 => k_is
  case d3 => k_is
  refine wpAny_call (del_ok w x dx l n k vs rest rows nm t hvs hcl hlen hn hc hxl hdl hrl p loose mean mg mb dp un gd _ outer A₀ base g L _ _ _ B F1 X N1 T rfl rfl (by omega) (by omega) fun r all h' tk' F' N' ho => ?_)
  obtain ⟨rfl, vs', n', rfl, hvs'⟩ := ho
  clear F1 N1
  dsimp only
  have hl' : vs'.length ≤ 1000 := by
    have h1 := hvs'.length
    have h2 := List.length_filter_le (fun r : Row => Txt.lower r.1 != Txt.lower nm) rows
    simp only [List.length_map] at h1
    omega
  (repeat' ((fail_if_success (with_reducible first | refine sFor ?_ | refine sCal ?_ | refine sLow ?_ | refine sIte ?_ | refine sLc ?_ | refine sSet ?_)); walk_at "w1"))
  refine wpAny_call (conv_ok w _ x _ _ true (by omega) hc1 p loose mean mg mb dp un gd _ outer A₀ base g L _ _ _ B F' X N' T rfl rfl (by omega) (by omega) fun r all h' tk' F' N' ho => ?_)
  obtain ⟨rfl, rfl⟩ := ho
  dsimp only
  (repeat' ((fail_if_success (with_reducible first | refine sFor ?_ | refine sCal ?_ | refine sLow ?_ | refine sIte ?_ | refine sLc ?_ | refine sSet ?_)); walk_at "w1"))
  refine wpAny_call (conv_ok w _ x _ _ false (by omega) hc2 p loose mean mg mb dp un gd _ outer A₀ base g L _ _ _ B F' X N' T rfl rfl (by omega) (by omega) fun r all h' tk' F' N' ho => ?_)
  obtain ⟨rfl, rfl⟩ := ho
  dsimp only
  (repeat' ((fail_if_success (with_reducible first | refine sFor ?_ | refine sCal ?_ | refine sLow ?_ | refine sIte ?_ | refine sLc ?_ | refine sSet ?_)); walk_at "w1"))
  (rename Fr _ _ _ _ => F5); (rename News _ _ _ _ => N5); (rename Addr => D5); (rename _ ∧ _ ∧ _ ∧ AllLt _ _ => l5)
  obtain ⟨l51, l52, l53, l54⟩ := l5
  refine append_K F5 N5 (.tail (Nat.ne_of_gt l53) (.tail hxl (.tail hdl (.head hrl)))) (fun h6 F6 N6 => ?_) (by rw [List.size_toArray, sizeLine_eq]; omega)
  clear F5 N5
  (repeat' ((fail_if_success (with_reducible first | refine sFor ?_ | refine sCal ?_ | refine sLow ?_ | refine sIte ?_ | refine sLc ?_ | refine sSet ?_)); walk_at "w1"))
  rw [show vs'.toArray.push (Value.ref D5) = (vs' ++ [Value.ref D5]).toArray from by simp] at N6
  refine hQ _ _ ?_; exact RetU.intro _ F6 N6 ⟨rfl, D5, vs', _, _, rfl, hvs', Nat.ne_of_gt l51, Nat.ne_of_gt l52, Nat.ne_of_gt l53, allLt_ne l54⟩
theorem set_fails (w : World) (x dx l n : Nat) (k : Tok) (vs : List Value) (rest : List (Addr × Obj)) (nm vl : PySem.Str) (t tv : Tok) (hn : nm.cps.size ≤ 100) (hc : badAtB true (Txt.lower nm)) :
    FailsU w 110 28 280 [.ref x, .str nm t, .str vl tv] [] ((x, instObj 197 dx) :: (dx, hdrD w l k) :: (l, listOf vs.toArray n) :: rest)
      (fun all => all = (x, instObj 197 dx) :: (dx, hdrD w l k) :: (l, listOf vs.toArray n) :: rest) := by
  refine' failsU (dd := 27) (uu := 277) [("self", .ref x), ("name", .str nm t), ("val", .str vl tv)] ?ho ?hcd ?hbind ?hkind ?hnd ?hco ?hgen ?hk ?_
  case ho => (intro P; k_is)
  case hcd => (intro P; k_is)
  case hbind => (intro s X; exact BindsTo.of_eq rfl)
  case hkind => exact rfl
  case hnd => exact of_decide_eq_true rfl
  case hco => exact rfl
  case hgen => exact rfl
  case hk => exact rfl
  intro p loose mean mg mb dp un gd outer A₀ base g L h₁ s tk cells R B eA F X N Y T lt hd hu ret
  change Fr g L h₁ (fun y => if y = "val" then some (Value.str vl tv) else if y = "name" then some (Value.str nm t) else if y = "self" then some (Value.ref x) else none) at F
  cases Y
  simp only [List.nil_append] at N
  show wpAny _ (ktrTop dp un gd _ msc3 L 110 (.ref 109) [] outer) (execs mbd3 (envX _ msc3 L 110 (.ref 109) [])) _ (leaveE _ (ktrTop dp un gd _ msc3 L 110 (.ref 109) [] outer) (envX _ msc3 L 110 (.ref 109) []) R) _
  have lx : x < L := lt _ (.head _)
  have ldx : dx < L := lt _ (.tail _ (.head _))
  have ll : l < L := lt _ (.tail _ (.tail _ (.head _)))
  have ln : AllLt L rest := allLt_of fun q hq => lt q (.tail _ (.tail _ (.tail _ hq)))
  (repeat' ((fail_if_success (with_reducible first | refine sFor ?_ | refine sCal ?_ | refine sLow ?_ | refine sIte ?_ | refine sLc ?_ | refine sSet ?_)); walk_at "w1"))
  (rename Fr _ _ _ _ => F1); (rename News _ _ _ _ => N1)
  refine' del_own (f := 115) F1 X (inst_at N1 (.head _) (.tail _ (.head _))) ?d1 ?d2 ?d3 ?_
  case d1 => k_is
  case d2 => k_is
  case d3 => k_is
  refine wpAny_call (del_fails w x dx l n k vs rest nm t hn hc p loose mean mg mb dp un gd _ outer A₀ base g L _ _ _ B F1 X N1 T rfl rfl (by omega) (by omega) fun e t tv G all h' tk' F' rd up ho => ?_)
  subst ho
  have eA' : A₀.deeper (envX "Headers.__setitem__" msc3 L 110 (.ref 109) []) = ktrTop dp un gd "Headers.__setitem__" msc3 L 110 (.ref 109) [] outer := eA
  dsimp only
  rw [← eA']
  exact leave_onX B F' rfl rd up fun h'' r2 up2 => ret _ t tv _ h'' _ r2 up2 rfl
theorem set_failsV (w : World) (x dx l n : Nat) (k : Tok) (vs : List Value) (rest : List (Addr × Obj)) (rows : List Row) (nm vl : PySem.Str) (t tv : Tok) (hvs : DatAll rest vs (rows.map pairD)) (hcl : ∀ r ∈ rows, Clean r) (hlen : rows.length ≤ 1000)
    (hn : nm.cps.size ≤ 100) (hc : cleanB true (Txt.lower nm)) (hc1 : cleanB true nm) (hvl : vl.cps.size ≤ 100) (hc2 : badAtB false vl) (hxl : x ≠ l) (hdl : dx ≠ l) (hrl : ∀ q ∈ rest, q.1 ≠ l) :
    FailsU w 110 28 280 [.ref x, .str nm t, .str vl tv] [] ((x, instObj 197 dx) :: (dx, hdrD w l k) :: (l, listOf vs.toArray n) :: rest)
      (fun all => ∃ vs' n', all = (x, instObj 197 dx) :: (dx, hdrD w l k) :: (l, listOf vs'.toArray n') :: rest ∧ DatAll rest vs' ((rows.filter fun r => Txt.lower r.1 != Txt.lower nm).map pairD)) := by
  refine' failsU (dd := 27) (uu := 277) [("self", .ref x), ("name", .str nm t), ("val", .str vl tv)] ?ho ?hcd ?hbind ?hkind ?hnd ?hco ?hgen ?hk ?_
  case ho => (intro P; k_is)
  case hcd => (intro P; k_is)
  case hbind => (intro s X; exact BindsTo.of_eq rfl)
  case hkind => exact rfl
  case hnd => exact of_decide_eq_true rfl
  case hco => exact rfl
  case hgen => exact rfl
  case hk => exact rfl
  intro p loose mean mg mb dp un gd outer A₀ base g L h₁ s tk cells R B eA F X N Y T lt hd hu ret
  change Fr g L h₁ (fun y => if y = "val" then some (Value.str vl tv) else if y = "name" then some (Value.str nm t) else if y = "self" then some (Value.ref x) else none) at F
  cases Y
  simp only [List.nil_append] at N
  show wpAny _ (ktrTop dp un gd _ msc3 L 110 (.ref 109) [] outer) (execs mbd3 (envX _ msc3 L 110 (.ref 109) [])) _ (leaveE _ (ktrTop dp un gd _ msc3 L 110 (.ref 109) [] outer) (envX _ msc3 L 110 (.ref 109) []) R) _
  have lx : x < L := lt _ (.head _)
  have ldx : dx < L := lt _ (.tail _ (.head _))
  have ll : l < L := lt _ (.tail _ (.tail _ (.head _)))
  have ln : AllLt L rest := allLt_of fun q hq => lt q (.tail _ (.tail _ (.tail _ hq)))
  (repeat' ((fail_if_success (with_reducible first | refine sFor ?_ | refine sCal ?_ | refine sLow ?_ | refine sIte ?_ | refine sLc ?_ | refine sSet ?_)); walk_at "w1"))
  (rename Fr _ _ _ _ => F1); (rename News _ _ _ _ => N1)
  refine' del_own (f := 115) F1 X (inst_at N1 (.head _) (.tail _ (.head _))) ?d1 ?d2 ?d3 ?_
  case d1 => k_is
  case d2 => k_is
  case d3 => k_is
  refine wpAny_call (del_ok w x dx l n k vs rest rows nm t hvs hcl hlen hn hc hxl hdl hrl p loose mean mg mb dp un gd _ outer A₀ base g L _ _ _ B F1 X N1 T rfl rfl (by omega) (by omega) fun r all h' tk' F' N' ho => ?_)
  obtain ⟨rfl, vs', n', rfl, hvs'⟩ := ho
  clear F1 N1
  dsimp only
  have hl' : vs'.length ≤ 1000 := by
    have h1 := hvs'.length
    have h2 := List.length_filter_le (fun r : Row => Txt.lower r.1 != Txt.lower nm) rows
    simp only [List.length_map] at h1
    omega
  (repeat' ((fail_if_success (with_reducible first | refine sFor ?_ | refine sCal ?_ | refine sLow ?_ | refine sIte ?_ | refine sLc ?_ | refine sSet ?_)); walk_at "w1"))
  refine wpAny_call (conv_ok w _ x _ _ true (by omega) hc1 p loose mean mg mb dp un gd _ outer A₀ base g L _ _ _ B F' X N' T rfl rfl (by omega) (by omega) fun r all h' tk' F' N' ho => ?_)
  obtain ⟨rfl, rfl⟩ := ho
  dsimp only
  (repeat' ((fail_if_success (with_reducible first | refine sFor ?_ | refine sCal ?_ | refine sLow ?_ | refine sIte ?_ | refine sLc ?_ | refine sSet ?_)); walk_at "w1"))
  refine wpAny_call (conv_fails w _ x _ _ false (by omega) hc2 p loose mean mg mb dp un gd _ outer A₀ base g L _ _ _ B F' X N' T rfl rfl (by omega) (by omega) fun e t tv G all h' tk' F' rd up ho => ?_)
  subst ho
  have eA' : A₀.deeper (envX "Headers.__setitem__" msc3 L 110 (.ref 109) []) = ktrTop dp un gd "Headers.__setitem__" msc3 L 110 (.ref 109) [] outer := eA
  dsimp only
  rw [← eA']
  exact leave_onX B F' rfl rd up fun h'' r2 up2 => ret _ t tv _ h'' _ r2 up2 ⟨vs', n', rfl, hvs'⟩
end THSet
section THSdef
open PySem PySem.W PySem.Calls PyProof.Rows PyProof.V PySem.Spec
set_option maxRecDepth 100000
set_option maxHeartbeats 1500000
set_option pp.maxSteps 12000


theorem sdef_found (w : World) (x dx l n : Nat) (k : Tok) (vs : List Value) (rest : List (Addr × Obj)) (rows : List Row) (nm vl : PySem.Str) (t tv : Tok) (hvs : DatAll rest vs (rows.map pairD)) (hcl : ∀ r ∈ rows, Clean r) (hlen : rows.length ≤ 1000)
    (hn : nm.cps.size ≤ 100) (hvl : vl.cps.size ≤ 100) (row : Row) (hc : cleanB true (Txt.lower nm)) (hf : findRow rows nm = some row) (hxl : x ≠ l) (hdl : dx ≠ l) (hrl : ∀ q ∈ rest, q.1 ≠ l) :
    GivesU w 187 28 280 [.ref x, .str nm t, .str vl tv] [] ((x, instObj 197 dx) :: (dx, hdrD w l k) :: (l, listOf vs.toArray n) :: rest)
      (fun all r => all = (x, instObj 197 dx) :: (dx, hdrD w l k) :: (l, listOf vs.toArray n) :: rest ∧ ∃ t, r = .str row.2 t) := by
  refine' givesU (dd := 27) (uu := 277) [("self", .ref x), ("name", .str nm t), ("value", .str vl tv)] ?ho ?hcd ?hbind ?hkind ?hnd ?hco ?hgen ?hk ?_
  case ho => (intro P; k_is)
  case hcd => (intro P; k_is)
  case hbind => (intro s X; exact BindsTo.of_eq rfl)
  case hkind => exact rfl
  case hnd => exact of_decide_eq_true rfl
  case hco => exact rfl
  case hgen => exact rfl
  case hk => exact rfl
  intro p loose mean mg mb dp un gd outer A₀ base g L h₁ s tk cells B F X N Y T lt hd hu
  change Fr g L h₁ (fun y => if y = "value" then some (Value.str vl tv) else if y = "name" then some (Value.str nm t) else if y = "self" then some (Value.ref x) else none) at F
  cases Y
  simp only [List.nil_append] at N
  show wpAny _ (ktrTop dp un gd _ msc15 L 187 (.ref 186) [] outer) (execs mbd15 (envX _ msc15 L 187 (.ref 186) [])) _ _ _
  have lx : x < L := lt _ (.head _)
  have ldx : dx < L := lt _ (.tail _ (.head _))
  have ll : l < L := lt _ (.tail _ (.tail _ (.head _)))
  have ln : AllLt L rest := allLt_of fun q hq => lt q (.tail _ (.tail _ (.tail _ hq)))
  refine opaqueU ?_
  intro QQ hQ AA ee
  (repeat' ((fail_if_success (with_reducible first | refine sFor ?_ | refine sCal ?_ | refine sLow ?_ | refine sIte ?_ | refine sLc ?_ | refine sSet ?_)); walk_at "w1"))
  (rename Fr _ _ _ _ => F1); (rename News _ _ _ _ => N1)
  refine wpAny_call (get_ok w x dx l n k vs rest rows nm t hvs hcl hn hc p loose mean mg mb dp un gd _ outer A₀ base g L _ _ _ B F1 X N1 T rfl rfl (by omega) (by omega) fun r all h' tk' F' N' ho => ?_)
  obtain ⟨rfl, hr⟩ := ho
  clear F1 N1
  rw [hf] at hr
  obtain ⟨t5, rfl⟩ := hr
  dsimp only
  (repeat' ((fail_if_success (with_reducible first | refine sFor ?_ | refine sCal ?_ | refine sLow ?_ | refine sIte ?_ | refine sLc ?_ | refine sSet ?_)); walk_at "w1"))
  (rename Fr _ _ _ _ => F6); (rename News _ _ _ _ => N6)
  refine hQ _ _ ?_; exact RetU.intro _ F6 N6 ⟨rfl, _, rfl⟩
theorem sdef_new (w : World) (x dx l n : Nat) (k : Tok) (vs : List Value) (rest : List (Addr × Obj)) (rows : List Row) (nm vl : PySem.Str) (t tv : Tok) (hvs : DatAll rest vs (rows.map pairD)) (hcl : ∀ r ∈ rows, Clean r) (hlen : rows.length ≤ 1000)
    (hn : nm.cps.size ≤ 100) (hvl : vl.cps.size ≤ 100) (hc : cleanB true (Txt.lower nm)) (hf : findRow rows nm = none) (hc1 : cleanB true nm) (hc2 : cleanB false vl) (hxl : x ≠ l) (hdl : dx ≠ l) (hrl : ∀ q ∈ rest, q.1 ≠ l) :
    GivesU w 187 28 280 [.ref x, .str nm t, .str vl tv] [] ((x, instObj 197 dx) :: (dx, hdrD w l k) :: (l, listOf vs.toArray n) :: rest)
      (fun all r => r = .str vl tv ∧ ∃ p : Nat, ∃ n' np, all = (p, ({ cls := .type "tuple", data := .seq #[.str nm t, .str vl tv] np } : Obj)) :: (x, instObj 197 dx) :: (dx, hdrD w l k) :: (l, listOf (vs ++ [Value.ref p]).toArray n') :: rest
        ∧ p ≠ x ∧ p ≠ dx ∧ p ≠ l ∧ ∀ q ∈ rest, q.1 ≠ p) := by
  refine' givesU (dd := 27) (uu := 277) [("self", .ref x), ("name", .str nm t), ("value", .str vl tv)] ?ho ?hcd ?hbind ?hkind ?hnd ?hco ?hgen ?hk ?_
  case ho => (intro P; k_is)
  case hcd => (intro P; k_is)
  case hbind => (intro s X; exact BindsTo.of_eq rfl)
  case hkind => exact rfl
  case hnd => exact of_decide_eq_true rfl
  case hco => exact rfl
  case hgen => exact rfl
  case hk => exact rfl
  intro p loose mean mg mb dp un gd outer A₀ base g L h₁ s tk cells B F X N Y T lt hd hu
  change Fr g L h₁ (fun y => if y = "value" then some (Value.str vl tv) else if y = "name" then some (Value.str nm t) else if y = "self" then some (Value.ref x) else none) at F
  cases Y
  simp only [List.nil_append] at N
  show wpAny _ (ktrTop dp un gd _ msc15 L 187 (.ref 186) [] outer) (execs mbd15 (envX _ msc15 L 187 (.ref 186) [])) _ _ _
  have lx : x < L := lt _ (.head _)
  have ldx : dx < L := lt _ (.tail _ (.head _))
  have ll : l < L := lt _ (.tail _ (.tail _ (.head _)))
  have ln : AllLt L rest := allLt_of fun q hq => lt q (.tail _ (.tail _ (.tail _ hq)))
  refine opaqueU ?_
  intro QQ hQ AA ee
  (repeat' ((fail_if_success (with_reducible first | refine sFor ?_ | refine sCal ?_ | refine sLow ?_ | refine sIte ?_ | refine sLc ?_ | refine sSet ?_)); walk_at "w1"))
  (rename Fr _ _ _ _ => F1); (rename News _ _ _ _ => N1)
  refine wpAny_call (get_ok w x dx l n k vs rest rows nm t hvs hcl hn hc p loose mean mg mb dp un gd _ outer A₀ base g L _ _ _ B F1 X N1 T rfl rfl (by omega) (by omega) fun r all h' tk' F' N' ho => ?_)
  obtain ⟨rfl, hr⟩ := ho
  clear F1 N1
  rw [hf] at hr
  subst hr
  dsimp only
  (repeat' ((fail_if_success (with_reducible first | refine sFor ?_ | refine sCal ?_ | refine sLow ?_ | refine sIte ?_ | refine sLc ?_ | refine sSet ?_)); walk_at "w1"))
  (rename Fr _ _ _ _ => F4); (rename News _ _ _ _ => N4)
  refine wpAny_call (conv_ok w _ x _ _ true (by omega) hc1 p loose mean mg mb dp un gd _ outer A₀ base g L _ _ _ B F4 X N4 T rfl rfl (by omega) (by omega) fun r all h' tk' F' N' ho => ?_)
  obtain ⟨rfl, rfl⟩ := ho
  clear F4 N4
  dsimp only
  (repeat' ((fail_if_success (with_reducible first | refine sFor ?_ | refine sCal ?_ | refine sLow ?_ | refine sIte ?_ | refine sLc ?_ | refine sSet ?_)); walk_at "w1"))
  refine wpAny_call (conv_ok w _ x _ _ false (by omega) hc2 p loose mean mg mb dp un gd _ outer A₀ base g L _ _ _ B F' X N' T rfl rfl (by omega) (by omega) fun r all h' tk' F' N' ho => ?_)
  obtain ⟨rfl, rfl⟩ := ho
  dsimp only
  (repeat' ((fail_if_success (with_reducible first | refine sFor ?_ | refine sCal ?_ | refine sLow ?_ | refine sIte ?_ | refine sLc ?_ | refine sSet ?_)); walk_at "w1"))
  (rename Fr _ _ _ _ => F5); (rename News _ _ _ _ => N5); (rename Addr => D5); (rename _ ∧ _ ∧ _ ∧ AllLt _ _ => l5)
  obtain ⟨l51, l52, l53, l54⟩ := l5
  refine append_K F5 N5 (.tail (Nat.ne_of_gt l53) (.tail hxl (.tail hdl (.head hrl)))) (fun h6 F6 N6 => ?_) (by have := hvs.length; rw [List.length_map] at this; rw [List.size_toArray, sizeLine_eq]; omega)
  clear F5 N5
  (repeat' ((fail_if_success (with_reducible first | refine sFor ?_ | refine sCal ?_ | refine sLow ?_ | refine sIte ?_ | refine sLc ?_ | refine sSet ?_)); walk_at "w1"))
  rw [show vs.toArray.push (Value.ref D5) = (vs ++ [Value.ref D5]).toArray from by simp] at N6
  refine hQ _ _ ?_; exact RetU.intro _ F6 N6 ⟨rfl, D5, _, _, rfl, Nat.ne_of_gt l51, Nat.ne_of_gt l52, Nat.ne_of_gt l53, allLt_ne l54⟩
theorem sdef_fails (w : World) (x dx l n : Nat) (k : Tok) (vs : List Value) (rest : List (Addr × Obj)) (rows : List Row) (nm vl : PySem.Str) (t tv : Tok) (hvs : DatAll rest vs (rows.map pairD)) (hcl : ∀ r ∈ rows, Clean r) (hlen : rows.length ≤ 1000)
    (hn : nm.cps.size ≤ 100) (hvl : vl.cps.size ≤ 100) (hc : badAtB true (Txt.lower nm)) (hxl : x ≠ l) (hdl : dx ≠ l) (hrl : ∀ q ∈ rest, q.1 ≠ l) :
    FailsU w 187 28 280 [.ref x, .str nm t, .str vl tv] [] ((x, instObj 197 dx) :: (dx, hdrD w l k) :: (l, listOf vs.toArray n) :: rest)
      (fun all => all = (x, instObj 197 dx) :: (dx, hdrD w l k) :: (l, listOf vs.toArray n) :: rest) := by
  refine' failsU (dd := 27) (uu := 277) [("self", .ref x), ("name", .str nm t), ("value", .str vl tv)] ?ho ?hcd ?hbind ?hkind ?hnd ?hco ?hgen ?hk ?_
  case ho => (intro P; k_is)
  case hcd => (intro P; k_is)
  case hbind => (intro s X; exact BindsTo.of_eq rfl)
  case hkind => exact rfl
  case hnd => exact of_decide_eq_true rfl
  case hco => exact rfl
  case hgen => exact rfl
  case hk => exact rfl
  intro p loose mean mg mb dp un gd outer A₀ base g L h₁ s tk cells R B eA F X N Y T lt hd hu ret
  change Fr g L h₁ (fun y => if y = "value" then some (Value.str vl tv) else if y = "name" then some (Value.str nm t) else if y = "self" then some (Value.ref x) else none) at F
  cases Y
  simp only [List.nil_append] at N
  show wpAny _ (ktrTop dp un gd _ msc15 L 187 (.ref 186) [] outer) (execs mbd15 (envX _ msc15 L 187 (.ref 186) [])) _ (leaveE _ (ktrTop dp un gd _ msc15 L 187 (.ref 186) [] outer) (envX _ msc15 L 187 (.ref 186) []) R) _
  have lx : x < L := lt _ (.head _)
  have ldx : dx < L := lt _ (.tail _ (.head _))
  have ll : l < L := lt _ (.tail _ (.tail _ (.head _)))
  have ln : AllLt L rest := allLt_of fun q hq => lt q (.tail _ (.tail _ (.tail _ hq)))
  (repeat' ((fail_if_success (with_reducible first | refine sFor ?_ | refine sCal ?_ | refine sLow ?_ | refine sIte ?_ | refine sLc ?_ | refine sSet ?_)); walk_at "w1"))
  (rename Fr _ _ _ _ => F1); (rename News _ _ _ _ => N1)
  refine wpAny_call (get_fails w x dx l n k vs rest nm t hn hc p loose mean mg mb dp un gd _ outer A₀ base g L _ _ _ B F1 X N1 T rfl rfl (by omega) (by omega) fun e t tv G all h' tk' F' rd up ho => ?_)
  subst ho
  have eA' : A₀.deeper (envX "Headers.setdefault" msc15 L 187 (.ref 186) []) = ktrTop dp un gd "Headers.setdefault" msc15 L 187 (.ref 186) [] outer := eA
  dsimp only
  rw [← eA']
  exact leave_onX B F' rfl rd up fun h'' r2 up2 => ret _ t tv _ h'' _ r2 up2 rfl
theorem sdef_failsV (w : World) (x dx l n : Nat) (k : Tok) (vs : List Value) (rest : List (Addr × Obj)) (rows : List Row) (nm vl : PySem.Str) (t tv : Tok) (hvs : DatAll rest vs (rows.map pairD)) (hcl : ∀ r ∈ rows, Clean r) (hlen : rows.length ≤ 1000)
    (hn : nm.cps.size ≤ 100) (hvl : vl.cps.size ≤ 100) (hc : cleanB true (Txt.lower nm)) (hf : findRow rows nm = none) (hc1 : cleanB true nm) (hc2 : badAtB false vl) (hxl : x ≠ l) (hdl : dx ≠ l) (hrl : ∀ q ∈ rest, q.1 ≠ l) :
    FailsU w 187 28 280 [.ref x, .str nm t, .str vl tv] [] ((x, instObj 197 dx) :: (dx, hdrD w l k) :: (l, listOf vs.toArray n) :: rest)
      (fun all => all = (x, instObj 197 dx) :: (dx, hdrD w l k) :: (l, listOf vs.toArray n) :: rest) := by
  refine' failsU (dd := 27) (uu := 277) [("self", .ref x), ("name", .str nm t), ("value", .str vl tv)] ?ho ?hcd ?hbind ?hkind ?hnd ?hco ?hgen ?hk ?_
  case ho => (intro P; k_is)
  case hcd => (intro P; k_is)
  case hbind => (intro s X; exact BindsTo.of_eq rfl)
  case hkind => exact rfl
  case hnd => exact of_decide_eq_true rfl
  case hco => exact rfl
  case hgen => exact rfl
  case hk => exact rfl
  intro p loose mean mg mb dp un gd outer A₀ base g L h₁ s tk cells R B eA F X N Y T lt hd hu ret
  change Fr g L h₁ (fun y => if y = "value" then some (Value.str vl tv) else if y = "name" then some (Value.str nm t) else if y = "self" then some (Value.ref x) else none) at F
  cases Y
  simp only [List.nil_append] at N
  show wpAny _ (ktrTop dp un gd _ msc15 L 187 (.ref 186) [] outer) (execs mbd15 (envX _ msc15 L 187 (.ref 186) [])) _ (leaveE _ (ktrTop dp un gd _ msc15 L 187 (.ref 186) [] outer) (envX _ msc15 L 187 (.ref 186) []) R) _
  have lx : x < L := lt _ (.head _)
  have ldx : dx < L := lt _ (.tail _ (.head _))
  have ll : l < L := lt _ (.tail _ (.tail _ (.head _)))
  have ln : AllLt L rest := allLt_of fun q hq => lt q (.tail _ (.tail _ (.tail _ hq)))
  (repeat' ((fail_if_success (with_reducible first | refine sFor ?_ | refine sCal ?_ | refine sLow ?_ | refine sIte ?_ | refine sLc ?_ | refine sSet ?_)); walk_at "w1"))
  (rename Fr _ _ _ _ => F1); (rename News _ _ _ _ => N1)
  refine wpAny_call (get_ok w x dx l n k vs rest rows nm t hvs hcl hn hc p loose mean mg mb dp un gd _ outer A₀ base g L _ _ _ B F1 X N1 T rfl rfl (by omega) (by omega) fun r all h' tk' F' N' ho => ?_)
  obtain ⟨rfl, hr⟩ := ho
  clear F1 N1
  rw [hf] at hr
  subst hr
  dsimp only
  (repeat' ((fail_if_success (with_reducible first | refine sFor ?_ | refine sCal ?_ | refine sLow ?_ | refine sIte ?_ | refine sLc ?_ | refine sSet ?_)); walk_at "w1"))
  (rename Fr _ _ _ _ => F4); (rename News _ _ _ _ => N4)
  refine wpAny_call (conv_ok w _ x _ _ true (by omega) hc1 p loose mean mg mb dp un gd _ outer A₀ base g L _ _ _ B F4 X N4 T rfl rfl (by omega) (by omega) fun r all h' tk' F' N' ho => ?_)
  obtain ⟨rfl, rfl⟩ := ho
  clear F4 N4
  dsimp only
  (repeat' ((fail_if_success (with_reducible first | refine sFor ?_ | refine sCal ?_ | refine sLow ?_ | refine sIte ?_ | refine sLc ?_ | refine sSet ?_)); walk_at "w1"))
  refine wpAny_call (conv_fails w _ x _ _ false (by omega) hc2 p loose mean mg mb dp un gd _ outer A₀ base g L _ _ _ B F' X N' T rfl rfl (by omega) (by omega) fun e t tv G all h' tk' F' rd up ho => ?_)
  subst ho
  have eA' : A₀.deeper (envX "Headers.setdefault" msc15 L 187 (.ref 186) []) = ktrTop dp un gd "Headers.setdefault" msc15 L 187 (.ref 186) [] outer := eA
  dsimp only
  rw [← eA']
  exact leave_onX B F' rfl rd up fun h'' r2 up2 => ret _ t tv _ h'' _ r2 up2 rfl
end THSdef
section THFmt
open PySem PySem.W PySem.Calls PyProof.Rows PyProof.V PySem.Spec
set_option maxRecDepth 100000
set_option maxHeartbeats 1500000
set_option pp.maxSteps 12000


local macro_rules | `(tactic| walk_at "execs cons") => `(tactic| (k_here; refine wpAny_execs_cons ?_))
theorem replaceT {prog : Program} {w : World} {A : Around} {E : Value → Shared → Prop} {s : Shared} {x y z : PySem.Str} {t : Tok} {u v : Nat} {Q : Value → Shared → Prop} (hu : 1 ≤ u) (huv : u < v) (hyz : (y == z) = false) (hb : x.length + (x.length + 1) * z.length ≤ 16777216)
    (hq : ∀ (t' : Tok) (k : Nat), @LE.le Nat instLENat s.toks k → Q (.str (Txt.replace x y z) t') { s with toks := k }) : wpAny (model prog w) A (call (.builtin "str.replace") [.str x t, .str y u, .str z v]) Q E s := by
  have hu0 : u ≠ 0 := by omega
  have hv0 : v ≠ 0 := by omega
  have huv0 : u ≠ v := Nat.ne_of_lt huv
  have hl : Builtin.Str.tooLong (x.length + (Builtin.Str.occurrences x y 0 x.length (x.length + 1)).length * z.length) = false := by
    have h1 := StrLaws.occ_length_le x y 0 x.length (x.length + 1)
    have h2 := Nat.mul_le_mul_right z.length h1
    unfold Builtin.Str.tooLong
    rw [sizeLine_eq]
    exact decide_eq_false (by omega)
  refine call_gives PySem.F.slot_str_replace (typeIs_str _ _ _) PySem.F.entry_str_replace (PySem.F.args_str_replace_3 _ _ _)
    (gives_str_replace x y z t u v fun _ => ⟨by simp [hu0, hv0], by simpa using huv0, hyz, hl⟩) ?_
  unfold Txt.replace at hq
  cases hc : ((Builtin.Str.occurrences x y 0 x.length (x.length + 1)).isEmpty || (y.length == 0 && z.length == 0)) with
  | true =>
    rw [hc] at hq
    simp only [if_true] at hq ⊢
    exact hq t s.toks (Nat.le_refl _)
  | false =>
    rw [hc] at hq
    simp only [Bool.false_eq_true, if_false] at hq ⊢
    exact ⟨fits_replaced y hb, hq _ _ (Nat.le_succ _)⟩
/-- a def without cells, the count of tokens above none -/
theorem givesP {w : World} {f : Addr} {name qual : PySem.Str} {params : Arguments} {body : List Stmt} {scope : Scope} {dV kV doc pm cdv ct oc : Value} {an od : Option Addr} {osl : Array (Option Value)} {dd uu : Nat} {pos : List Value} {kw : List (PySem.Str × Value)} {news : List (Addr × Obj)} {Out : List (Addr × Obj) → Value → Prop}
    (binds : List (PySem.Str × Value)) (ho : ∀ P, (KK P).lookup f = some ⟨oc, od, .func (fnOf name qual params body scope dV kV doc pm an cdv ct), osl⟩) (hcd : ∀ P, codeIn (KK P) cdv qual = true)
    (hbind : ∀ (s : Shared), (KK w.params).In s.heap → BindsTo s (fnOf name qual params body scope dV kV doc pm an cdv ct) ⟨pos, kw⟩ binds) (hloc : (binds.all fun x => decide (scope.names.lookup x.1 = some .local)) = true)
    (hco : scope.isCoroutine = false) (hgen : scope.isGenerator = false) (hk : scope.kind = .function) (hcell : (scope.names.all fun x => decide (x.2 ≠ .cell)) = true) (hb : 1 ≤ binds.length)
    (h : ∀ (p : Program) (loose : List PySem.Str) (mean : ExcName → Option Value) (mg mb : PySem.Str → Option Value) (dp un : Nat) (gd : Option (List Code)) (outer : List Env) (A₀ : Around) (base g : Heap) (L : Addr) (h₁ : Heap) (s : Shared) (tk : Nat), 1 ≤ tk →
      Below A₀ base outer g → Fr g L h₁ (fun y => binds.reverse.lookup y) → (KK w.params).In g → News g L h₁ news → Top p loose mean mg mb g → (∀ q ∈ news, q.1 < L) → dp + dd < recursionLimit → un + uu < cLine →
      wpAny (model PR w) (ktrTop dp un gd qual scope L f cdv [] outer) (execs body (envX qual scope L f cdv [])) (fun fl s' => RetU g L Out s (match fl with | .ret v => v | _ => .none) s') (fun _ _ => False) { s with heap := h₁, toks := tk }) : GivesU w f (dd + 1) (uu + 3) pos kw news Out := by
  unfold GivesU
  intro p loose mean mg mb dp un gd env outer A₀ base h₀ L m s R B F X N T hf hkc hd hu ret
  refine callX_plain (cl := []) (env := env) B F N T.nolimit rfl hf hkc ((X.keeps F.keep) _ _ (ho _)) rfl (codeRec_of (X.keeps F.keep) (hcd _)) (by show dp < recursionLimit; omega)
    (hbind s (X.keeps F.keep)) (locs hloc) (fun g L' h₁ FG F' N' B' st lt => ?_) (fun x hx => of_decide_eq_true (List.all_eq_true.mp hcell x hx)) hco hgen hk
  refine wpAny_mono (h p loose mean mg mb (dp + 1) (un + 3) gd (env :: outer) _ base g L' h₁ s _ (by omega) B' F' (X.keeps st) N' (T.keeps st) lt (by omega) (by omega)) (fun fl s' hr => ?_) fun _ _ x => x.elim
  obtain ⟨m', all, h', tk', rfl, F3, N3, out⟩ := hr
  refine leaveK_ F3 N3 fun F4 N4 => ?_
  exact ret _ all h' tk' F4 N4 out
noncomputable def wordX : List PySem.Str := ["", "\"", "\\", "\n", "\t"]
noncomputable def fmtX : List PySem.Str := ["by-1", "by-1=\"\\\"\"", "by-1=\"\\\\\"", "by-1", "by-1=\"\t\""]
theorem fmt_ok (w : World) (news : List (Addr × Obj)) (i : Nat) (hi : i = 0 ∨ i = 1 ∨ i = 2 ∨ i = 4) (t tw : Tok) :
    GivesU w 74 8 80 [.str "by-1" t, .str (wordX.getD i "") tw] [] news (fun all r => all = news ∧ ∃ t', r = .str (fmtX.getD i "") t') := by
  refine' givesP (dd := 7) (uu := 77) [("param", .str "by-1" t), ("value", .str (wordX.getD i "") tw), ("quote", .int 1 476)] ?ho ?hcd ?hbind ?hloc ?hco ?hgen ?hk ?hcell ?hb ?_
  case ho => (intro P; k_is)
  case hcd => (intro P; k_is)
  case hbind => (intro s X; exact binds_K X rfl (by k_is) rfl rfl rfl)
  case hloc => exact rfl
  case hco => exact rfl
  case hgen => exact rfl
  case hk => exact rfl
  case hcell => exact rfl
  case hb => exact Nat.le_of_ble_eq_true rfl
  intro p loose mean mg mb dp un gd outer A₀ base g L h₁ s tk htk B F X N T lt hd hu
  simp only [List.reverse_cons, List.reverse_nil, List.nil_append, List.cons_append] at F
  refine opaqueU ?_
  intro QQ hQ AA ee
  rcases hi with rfl | rfl | rfl | rfl
  · change Fr g L h₁ (fun y => List.lookup y [("quote", Value.int 1 476), ("value", .str "" tw), ("param", .str "by-1" t)]) at F
    (repeat' ((fail_if_success (with_reducible first | refine sFor ?_ | refine sCal ?_ | refine sRep ?_ | refine sIte ?_ | refine sLc ?_ | refine sSet ?_)); walk_at "w1"))
    (rename Fr _ _ _ _ => F2)
    refine hQ _ _ ?_; exact RetU.intro _ F2 N ⟨rfl, _, rfl⟩
  · change Fr g L h₁ (fun y => List.lookup y [("quote", Value.int 1 476), ("value", .str "\"" tw), ("param", .str "by-1" t)]) at F
    (repeat' ((fail_if_success (with_reducible first | refine sFor ?_ | refine sCal ?_ | refine sRep ?_ | refine sIte ?_ | refine sLc ?_ | refine sSet ?_)); walk_at "w1"))
    refine' replaceT ?r1 ?r2 ?r3 ?r4 fun t1 k1 hk1 => ?_
    case r1 => ((try dsimp only); omega)
    case r2 => ((try dsimp only); omega)
    case r3 => decide +kernel
    case r4 => exact Nat.le_of_ble_eq_true (by decide +kernel)
    rw [show Txt.replace (PySem.Str.ofString "\"") (PySem.Str.ofString "\\") (PySem.Str.ofString "\\\\") = PySem.Str.ofString "\"" from by decide +kernel]
    replace hk1 : 1 ≤ k1 := Nat.le_trans (by (try dsimp only); omega) hk1
    (repeat' ((fail_if_success (with_reducible first | refine sFor ?_ | refine sCal ?_ | refine sRep ?_ | refine sIte ?_ | refine sLc ?_ | refine sSet ?_)); walk_at "w1"))
    refine' replaceT ?r1 ?r2 ?r3 ?r4 fun t2 k2 hk2 => ?_
    case r1 => ((try dsimp only); omega)
    case r2 => ((try dsimp only); omega)
    case r3 => decide +kernel
    case r4 => exact Nat.le_of_ble_eq_true (by decide +kernel)
    rw [show Txt.replace (PySem.Str.ofString "\"") (PySem.Str.ofString "\"") (PySem.Str.ofString "\\\"") = PySem.Str.ofString "\\\"" from by decide +kernel]
    (repeat' ((fail_if_success (with_reducible first | refine sFor ?_ | refine sCal ?_ | refine sRep ?_ | refine sIte ?_ | refine sLc ?_ | refine sSet ?_)); walk_at "w1"))
    (rename Fr _ _ _ _ => F2)
    refine hQ _ _ ?_; refine RetU.intro _ F2 (by (rename News _ _ _ _ => N2); exact N2) ⟨rfl, _, congrArg (fun y => Value.str y _) (?e : _ = fmtX.getD 1 "")⟩
    case e => decide +kernel
  · change Fr g L h₁ (fun y => List.lookup y [("quote", Value.int 1 476), ("value", .str "\\" tw), ("param", .str "by-1" t)]) at F
    (repeat' ((fail_if_success (with_reducible first | refine sFor ?_ | refine sCal ?_ | refine sRep ?_ | refine sIte ?_ | refine sLc ?_ | refine sSet ?_)); walk_at "w1"))
    refine' replaceT ?r1 ?r2 ?r3 ?r4 fun t1 k1 hk1 => ?_
    case r1 => ((try dsimp only); omega)
    case r2 => ((try dsimp only); omega)
    case r3 => decide +kernel
    case r4 => exact Nat.le_of_ble_eq_true (by decide +kernel)
    rw [show Txt.replace (PySem.Str.ofString "\\") (PySem.Str.ofString "\\") (PySem.Str.ofString "\\\\") = PySem.Str.ofString "\\\\" from by decide +kernel]
    replace hk1 : 1 ≤ k1 := Nat.le_trans (by (try dsimp only); omega) hk1
    (repeat' ((fail_if_success (with_reducible first | refine sFor ?_ | refine sCal ?_ | refine sRep ?_ | refine sIte ?_ | refine sLc ?_ | refine sSet ?_)); walk_at "w1"))
    refine' replaceT ?r1 ?r2 ?r3 ?r4 fun t2 k2 hk2 => ?_
    case r1 => ((try dsimp only); omega)
    case r2 => ((try dsimp only); omega)
    case r3 => decide +kernel
    case r4 => exact Nat.le_of_ble_eq_true (by decide +kernel)
    rw [show Txt.replace (PySem.Str.ofString "\\\\") (PySem.Str.ofString "\"") (PySem.Str.ofString "\\\"") = PySem.Str.ofString "\\\\" from by decide +kernel]
    (repeat' ((fail_if_success (with_reducible first | refine sFor ?_ | refine sCal ?_ | refine sRep ?_ | refine sIte ?_ | refine sLc ?_ | refine sSet ?_)); walk_at "w1"))
    (rename Fr _ _ _ _ => F2)
    refine hQ _ _ ?_; refine RetU.intro _ F2 (by (rename News _ _ _ _ => N2); exact N2) ⟨rfl, _, congrArg (fun y => Value.str y _) (?e : _ = fmtX.getD 2 "")⟩
    case e => decide +kernel
  · change Fr g L h₁ (fun y => List.lookup y [("quote", Value.int 1 476), ("value", .str "\t" tw), ("param", .str "by-1" t)]) at F
    (repeat' ((fail_if_success (with_reducible first | refine sFor ?_ | refine sCal ?_ | refine sRep ?_ | refine sIte ?_ | refine sLc ?_ | refine sSet ?_)); walk_at "w1"))
    refine' replaceT ?r1 ?r2 ?r3 ?r4 fun t1 k1 hk1 => ?_
    case r1 => ((try dsimp only); omega)
    case r2 => ((try dsimp only); omega)
    case r3 => decide +kernel
    case r4 => exact Nat.le_of_ble_eq_true (by decide +kernel)
    rw [show Txt.replace (PySem.Str.ofString "\t") (PySem.Str.ofString "\\") (PySem.Str.ofString "\\\\") = PySem.Str.ofString "\t" from by decide +kernel]
    replace hk1 : 1 ≤ k1 := Nat.le_trans (by (try dsimp only); omega) hk1
    (repeat' ((fail_if_success (with_reducible first | refine sFor ?_ | refine sCal ?_ | refine sRep ?_ | refine sIte ?_ | refine sLc ?_ | refine sSet ?_)); walk_at "w1"))
    refine' replaceT ?r1 ?r2 ?r3 ?r4 fun t2 k2 hk2 => ?_
    case r1 => ((try dsimp only); omega)
    case r2 => ((try dsimp only); omega)
    case r3 => decide +kernel
    case r4 => exact Nat.le_of_ble_eq_true (by decide +kernel)
    rw [show Txt.replace (PySem.Str.ofString "\t") (PySem.Str.ofString "\"") (PySem.Str.ofString "\\\"") = PySem.Str.ofString "\t" from by decide +kernel]
    (repeat' ((fail_if_success (with_reducible first | refine sFor ?_ | refine sCal ?_ | refine sRep ?_ | refine sIte ?_ | refine sLc ?_ | refine sSet ?_)); walk_at "w1"))
    (rename Fr _ _ _ _ => F2)
    refine hQ _ _ ?_; refine RetU.intro _ F2 (by (rename News _ _ _ _ => N2); exact N2) ⟨rfl, _, congrArg (fun y => Value.str y _) (?e : _ = fmtX.getD 4 "")⟩
    case e => decide +kernel

end THFmt
section THAdd
open PySem PySem.W PySem.Calls PyProof.Rows PyProof.V PySem.Spec
set_option maxRecDepth 100000
set_option maxHeartbeats 1500000
set_option pp.maxSteps 12000


local macro_rules | `(tactic| walk_at "execs cons") => `(tactic| (k_here; refine wpAny_execs_cons ?_))
local macro_rules | `(tactic| walk_at "execs nil") => `(tactic| (k_here; refine wpAny_execs_nil ?_))
theorem word_clean {i : Nat} (hi : i = 0 ∨ i = 1 ∨ i = 2 ∨ i = 4) : cleanB false (wordX.getD i "") := by
  have key : ∀ i, (i = 0 ∨ i = 1 ∨ i = 2 ∨ i = 4) → ∀ j, j < (wordX.getD i "").cps.size → badV ((wordX.getD i "").cps.getD j 0) = false := by
    rintro i (rfl | rfl | rfl | rfl) <;> decide +kernel
  exact key i hi
theorem anyAdd (w : World) (x : Nat) (news : List (Addr × Obj)) (nm tx wd : PySem.Str) (t tt tw : Tok) (Out : List (Addr × Obj) → Value → Prop) (OutE : List (Addr × Obj) → Prop)
    (h : ∀ (p : Program) (loose : List PySem.Str) (mean : ExcName → Option Value) (mg mb : PySem.Str → Option Value) (dp un : Nat) (gd : Option (List Code)) (outer : List Env) (A₀ : Around) (base g : Heap) (L : Addr) (h₁ : Heap) (s : Shared) (tk : Nat) (d : Nat) (o : Obj) (R QQ : Value → Shared → Prop),
      Below A₀ base outer g → A₀.deeper (envX "Headers.add_header" msc16 L 194 (.ref 193) []) = ktrTop dp un gd "Headers.add_header" msc16 L 194 (.ref 193) [] outer → Fr g L h₁ (fun y => List.lookup y [("_params", Value.ref d), ("_value", .str tx tt), ("_name", .str nm t), ("self", .ref x)]) → (KK w.params).In g → News g L h₁ ((d, o) :: news) →
      Top p loose mean mg mb g → (∀ q ∈ news, q.1 < d) → o.IsDictOf (PySem.strKind PR w) [("by_1", .str wd tw)] → FlatPairs PyData.str [("by_1", .str wd tw)] [(.str "by_1", .str wd)] → (d == sysModules) = false → dp + 26 < recursionLimit → un + 270 < cLine →
      (∀ v s', RetU g L Out s v s' → QQ v s') →
      (∀ e t tv all h' tk', RaisedS base g outer e (.type "ValueError") t [.str refusedS tv] all h' → g.UpToSlots h' → OutE all → R (.ref e) { s with heap := h', toks := tk' }) →
      wpAny (model PR w) (ktrTop dp un gd "Headers.add_header" msc16 L 194 (.ref 193) [] outer) (execs mbd16 (envX "Headers.add_header" msc16 L 194 (.ref 193) [])) (fun fl s' => QQ (match fl with | .ret v => v | _ => .none) s') (leaveE (model PR w) (ktrTop dp un gd "Headers.add_header" msc16 L 194 (.ref 193) [] outer) (envX "Headers.add_header" msc16 L 194 (.ref 193) []) R) { s with heap := h₁, toks := tk }) :
    AnyU w 194 27 280 [.ref x, .str nm t, .str tx tt] [("by_1", .str wd tw)] news Out OutE := by
  unfold AnyU
  intro p loose mean mg mb dp un gd env outer A₀ base h₀ Lf m s R B F X N T hf hkc hd hu ret retE
  refine' kp_more (env := env) (K := KK w.params) (front := [("self", .ref x), ("_name", .str nm t), ("_value", .str tx tt)]) (nm := "_params") (ex := [("by_1", .str wd tw)]) (DD := [(.str "by_1", .str wd)]) B F X N T rfl hf hkc ?k6 ?k7 ?k8 ?kX ?kM ?kN ?kD ?kR ?kP ?kT ?kB ?_ ?c2 ?c3 ?c4 ?c5
  case k6 => k_is
  case k7 => k_is
  case k8 => (show dp < recursionLimit; omega)
  case kX => exact rfl
  case kM => exact rfl
  case kN => exact rfl
  case kD => exact .cons (.str _ _) .nil
  case kR => exact rfl
  case kP => exact rfl
  case kT => exact fun _ => rfl
  case kB => exact fun _ => locs rfl
  case c5 => decide
  case c2 => exact rfl
  case c3 => exact rfl
  case c4 => exact rfl
  intro d o g L h₁ tk l1 lo hsd hfp FG F N B X T
  refine wpAny_mono (h p loose mean mg mb (dp + 1) (un + 3) gd (env :: outer) (arX dp un gd env outer) base g L h₁ s tk d o (fun e s'' => R (.error e) s'') (fun v s' => RetU g L Out s v s') B rfl F X N T l1 hsd hfp lo (by omega) (by omega) (fun _ _ x => x)
    fun e t tv all h' tk' r up out => retE e t tv g all h' tk' FG r up out) (fun fl s' hr => ?_) fun e s' x => x
  obtain ⟨m', all, h', tk', rfl, F3, N3, out⟩ := hr
  exact leaveK_ F3 N3 fun F4 N4 => ret _ all h' tk' F4 N4 out
theorem badW : badAtB false (wordX.getD 3 "") := ⟨0, by decide +kernel, by decide +kernel, fun i h => absurd h (Nat.not_lt_zero _)⟩
theorem passE (M : Model) (A : Around) (env : Env) (R : Value → Shared → Prop) : PassesOwn M A env (leaveE M A env R) := by
  unfold leaveE
  exact PassesOwn.leaving
theorem bad_clean {b : Bool} {x : PySem.Str} (h : badAtB b x) (c : cleanB b x) : False := by
  obtain ⟨q, hq, e, _⟩ := h
  rw [c q hq] at e; cases e
theorem clean_or_bad (b : Bool) (x : PySem.Str) : cleanB b x ∨ badAtB b x := by
  by_cases h : cleanB b x
  · exact .inl h
  · refine .inr ?_
    have key : ∀ n : Nat, (∀ i, i < n → (if b then badN else badV) (x.cps.getD i 0) = false) ∨ ∃ q, q < n ∧ (if b then badN else badV) (x.cps.getD q 0) = true ∧ ∀ i, i < q → (if b then badN else badV) (x.cps.getD i 0) = false := by
      intro n
      induction n with
      | zero => exact .inl fun i hi => (Nat.not_lt_zero _ hi).elim
      | succ n ih =>
        rcases ih with ih | ⟨q, hq, e, r⟩
        · cases e : (if b then badN else badV) (x.cps.getD n 0) with
          | true => exact .inr ⟨n, Nat.lt_succ_self n, e, ih⟩
          | false => exact .inl fun i hi => (Nat.lt_or_eq_of_le (Nat.le_of_lt_succ hi)).elim (ih i) fun q => q ▸ e
        · exact .inr ⟨q, Nat.lt_succ_of_lt hq, e, r⟩
    exact (key x.cps.size).resolve_left h
theorem add_all (w : World) (x dx l n : Nat) (k : Tok) (vs : List Value) (rest : List (Addr × Obj)) (nm tx : PySem.Str) (i : Nat) (t tt tw : Tok) (hlen : (i = 3 ∨ badAtB true nm) ∨ vs.length ≤ 1000)
    (hn : nm.cps.size ≤ 100) (htx : tx.cps.size ≤ 50) (hct : cleanB false tx) (hi : (i = 0 ∨ i = 1 ∨ i = 2 ∨ i = 4) ∨ i = 3) (hc1 : cleanB true nm ∨ badAtB true nm) (hxl : x ≠ l) (hdl : dx ≠ l) (hrl : ∀ q ∈ rest, q.1 ≠ l) :
    AnyU w 194 27 280 [.ref x, .str nm t, .str tx tt] [("by_1", .str (wordX.getD i "") tw)] ((x, instObj 197 dx) :: (dx, hdrD w l k) :: (l, listOf vs.toArray n) :: rest)
      (fun all r => (i ≠ 3 ∧ cleanB true nm) ∧ r = .none ∧ ∃ p : Nat, ∃ n' np t', all = (p, ({ cls := .type "tuple", data := .seq #[.str nm t, .str (Txt.join "; " [tx, fmtX.getD i ""]) t'] np } : Obj)) :: (x, instObj 197 dx) :: (dx, hdrD w l k) :: (l, listOf (vs ++ [Value.ref p]).toArray n') :: rest
        ∧ p ≠ x ∧ p ≠ dx ∧ p ≠ l ∧ ∀ q ∈ rest, q.1 ≠ p)
      (fun all => (i = 3 ∨ badAtB true nm) ∧ all = (x, instObj 197 dx) :: (dx, hdrD w l k) :: (l, listOf vs.toArray n) :: rest) := by
  refine anyAdd w x _ nm tx _ t tt tw _ _ ?_
  intro p loose mean mg mb dp un gd outer A₀ base g L h₁ s tk d o R QQ B eA F X N T l1 hsd hfp lo hd hu hQ ret
  have lx : x < d := l1 _ (.head _)
  have ldx : dx < d := l1 _ (.tail _ (.head _))
  have ll : l < d := l1 _ (.tail _ (.tail _ (.head _)))
  have ln : AllLt d rest := allLt_of fun q hq => l1 q (.tail _ (.tail _ (.tail _ hq)))
  have eA' : A₀.deeper (envX "Headers.add_header" msc16 L 194 (.ref 193) []) = ktrTop dp un gd "Headers.add_header" msc16 L 194 (.ref 193) [] outer := eA
  with_reducible refine ctx_execs ?_
  intro AA ee
  (repeat' ((fail_if_success (with_reducible first | refine sFor ?_ | refine sCal ?_ | refine sLow ?_ | refine sIte ?_ | refine sLc ?_ | refine sSet ?_ | refine sRep ?_ | refine sJoi ?_)); (fail_if_success (with_reducible show ItemsRest _ _ _ _ _ _ _ _ _ _ _ _ _ _ _)); walk_at "w1"))
  (rename Fr _ _ _ _ => F1); (rename News _ _ _ _ => N1)
  refine wpAny_call (conv_ok w _ x _ _ false (by omega) hct p loose mean mg mb dp un gd _ outer A₀ base g L _ _ _ B F1 X N1 T rfl rfl (by omega) (by omega) fun r all h' tk1 F' N' ho => ?_)
  obtain ⟨rfl, rfl⟩ := ho
  clear F1 N1
  dsimp only
  (repeat' ((fail_if_success (with_reducible first | refine sFor ?_ | refine sCal ?_ | refine sLow ?_ | refine sIte ?_ | refine sLc ?_ | refine sSet ?_ | refine sRep ?_ | refine sJoi ?_)); (fail_if_success (with_reducible show ItemsRest _ _ _ _ _ _ _ _ _ _ _ _ _ _ _)); walk_at "w1"))
  (rename Fr _ _ _ _ => lF'); (rename News _ _ _ _ => lN')
  with_unfolding_all (((with_reducible refine' open_stmt ?oe ?_); (case oe => exact (rfl : _ = Stmt.For _ _ _ _ _))); (refine' For_turns (hE := passE _ _ _ _) lF' ?_); k_whole; (refine MethodCall_ ?_); (refine ld lF' (by rfl) ?_); (refine getMethod_tab (knd := PySem.strKind _ _) (enc := PyData.str) PySem.F.slot_dict_items PySem.F.type_dict_items (by k_tabat) ?_); (refine callWith_method0 ?_); (refine call_items_tab (knd := PySem.strKind _ _) (enc := PyData.str) (by k_tabat) lF' lN' ?_); intro h' o' hv' F' N'; (replace N' := kti_tail N'); (refine kti_items (knd := PySem.strKind _ _) (enc := PyData.str) (xs := [Itm.pairF (fun t => Value.str "by_1" t) (.str (wordX.getD i ""))]) (by rfl) F' N' hv' (by k_tabat) (by k_mem) (fun _ _ h => Value.isStrOf_shape h) (by rfl) ?_))
  clear lF' lN'; intro i' l2; (try k_lt l2)
  walk1
  (repeat' ((fail_if_success (with_reducible first | refine sFor ?_ | refine sCal ?_ | refine sLow ?_ | refine sIte ?_ | refine sLc ?_ | refine sSet ?_ | refine sRep ?_ | refine sJoi ?_)); (fail_if_success (with_reducible show ItemsRest _ _ _ _ _ _ _ _ _ _ _ _ _ _ _)); walk_at "w1"))
  (rename Fr _ _ _ _ => F1); (rename News _ _ _ _ => N1)
  refine wpAny_call (conv_ok w _ x _ _ true (by decide +kernel) ?cb p loose mean mg mb dp un gd _ outer A₀ base g L _ _ _ B F1 X N1 T rfl rfl (by omega) (by omega) fun r all h' tk2 F' N' ho => ?_)
  case cb => (show ∀ i, i < 4 → badN (Array.getD _ i 0) = false); decide +kernel
  obtain ⟨rfl, rfl⟩ := ho
  clear F1 N1
  dsimp only
  (repeat' ((fail_if_success (with_reducible first | refine sFor ?_ | refine sCal ?_ | refine sLow ?_ | refine sIte ?_ | refine sLc ?_ | refine sSet ?_ | refine sRep ?_ | refine sJoi ?_)); (fail_if_success (with_reducible show ItemsRest _ _ _ _ _ _ _ _ _ _ _ _ _ _ _)); walk_at "w1"))
  (rename Fr _ _ _ _ => F1); (rename News _ _ _ _ => N1)
  rcases hi.symm with rfl | hi
  · refine wpAny_call (conv_fails w _ x _ _ false (by decide +kernel) badW p loose mean mg mb dp un gd _ outer A₀ base g L _ _ _ B F1 X N1 T rfl rfl (by omega) (by omega) fun e t tv G all h' tk' F' rd up ho => ?_)
    subst ho
    dsimp only
    rw [← eA']
    exact leave_onX B F' rfl rd up fun h'' r2 up2 => ret _ t tv _ h'' _ (raised_less r2 fun q hq => by (repeat (first | exact hq | apply List.Mem.tail))) up2 ⟨.inl rfl, rfl⟩
  refine wpAny_call (conv_ok w _ x _ _ false ?cz ?cw p loose mean mg mb dp un gd _ outer A₀ base g L _ _ _ B F1 X N1 T rfl rfl (by omega) (by omega) fun r all h' tk3 F' N' ho => ?_)
  case cz => rcases hi with rfl | rfl | rfl | rfl <;> decide +kernel
  case cw => exact word_clean hi
  obtain ⟨rfl, rfl⟩ := ho
  clear F1 N1
  dsimp only
  (repeat' ((fail_if_success (with_reducible first | refine sFor ?_ | refine sCal ?_ | refine sLow ?_ | refine sIte ?_ | refine sLc ?_ | refine sSet ?_ | refine sRep ?_ | refine sJoi ?_)); (fail_if_success (with_reducible show ItemsRest _ _ _ _ _ _ _ _ _ _ _ _ _ _ _)); walk_at "w1"))
  refine' replaceT ?r1 ?r2 ?r3 ?r4 fun t1 k1 hk1 => ?_
  case r1 => ((try dsimp only); omega)
  case r2 => ((try dsimp only); omega)
  case r3 => decide +kernel
  case r4 => exact Nat.le_of_ble_eq_true (by decide +kernel)
  rw [show Txt.replace (PySem.Str.ofString "by_1") (PySem.Str.ofString "_") (PySem.Str.ofString "-") = PySem.Str.ofString "by-1" from by decide +kernel]
  (repeat' ((fail_if_success (with_reducible first | refine sFor ?_ | refine sCal ?_ | refine sLow ?_ | refine sIte ?_ | refine sLc ?_ | refine sSet ?_ | refine sRep ?_ | refine sJoi ?_)); (fail_if_success (with_reducible show ItemsRest _ _ _ _ _ _ _ _ _ _ _ _ _ _ _)); walk_at "w1"))
  (rename Fr _ _ _ _ => F1); (rename News _ _ _ _ => N1)
  refine wpAny_call (fmt_ok w _ i hi _ _ p loose mean mg mb dp un gd _ outer A₀ base g L _ _ _ B F1 X N1 T rfl rfl (by omega) (by omega) fun r all h' tk4 F' N' ho => ?_)
  obtain ⟨rfl, t7, rfl⟩ := ho
  clear F1 N1
  dsimp only
  (repeat' ((fail_if_success (with_reducible first | refine sFor ?_ | refine sCal ?_ | refine sLow ?_ | refine sIte ?_ | refine sLc ?_ | refine sSet ?_ | refine sRep ?_ | refine sJoi ?_)); (fail_if_success (with_reducible show ItemsRest _ _ _ _ _ _ _ _ _ _ _ _ _ _ _)); walk_at "w1"))
  (rename Fr _ _ _ _ => F1); (rename News _ _ _ _ => N1)
  refine ⟨_, _, _, _, rfl, F1, N1, ?off, ⟨?sub, ?rst⟩⟩
  case off =>
    obtain ⟨e1, e2, e3, e4, e5, e6⟩ := l2
    have key := ktn_ltOf e6
    intro p hp q hq
    cases List.mem_singleton.mp hq
    rcases List.mem_cons.mp hp with rfl | hp
    · exact Nat.ne_of_lt e1
    rcases List.mem_cons.mp hp with rfl | hp
    · exact Nat.ne_of_lt e2
    rcases List.mem_cons.mp hp with rfl | hp
    · exact Nat.ne_of_lt e3
    rcases List.mem_cons.mp hp with rfl | hp
    · exact Nat.ne_of_lt e4
    rcases List.mem_cons.mp hp with rfl | hp
    · exact Nat.ne_of_lt e5
    · exact Nat.ne_of_lt (key p hp)
  case sub => k_subL
  clear F1 N1
  walk1
  (repeat' ((fail_if_success (with_reducible first | refine sFor ?_ | refine sCal ?_ | refine sLow ?_ | refine sIte ?_ | refine sLc ?_ | refine sSet ?_ | refine sRep ?_ | refine sJoi ?_)); (fail_if_success (with_reducible show ItemsRest _ _ _ _ _ _ _ _ _ _ _ _ _ _ _)); walk_at "w1"))
  (rename Fr _ _ _ _ => F1); (rename News _ _ _ _ => N1)
  rcases hc1.symm with hc1 | hc1
  · refine wpAny_call (conv_fails w _ x _ _ true (by omega) hc1 p loose mean mg mb dp un gd _ outer A₀ base g L _ _ _ B F1 X N1 T rfl rfl (by omega) (by omega) fun e t tv G all h' tk' F' rd up ho => ?_)
    subst ho
    dsimp only
    rw [← eA']
    exact leave_onX B F' rfl rd up fun h'' r2 up2 => ret _ t tv _ h'' _ (raised_less r2 fun q hq => by (repeat (first | exact hq | apply List.Mem.tail))) up2 ⟨.inr hc1, rfl⟩
  replace hlen : vs.length ≤ 1000 := hlen.resolve_left (by
    rintro (rfl | h)
    · simp at hi
    · exact bad_clean h hc1)
  refine wpAny_call (conv_ok w _ x _ _ true (by omega) hc1 p loose mean mg mb dp un gd _ outer A₀ base g L _ _ _ B F1 X N1 T rfl rfl (by omega) (by omega) fun r all h' tk5 F' N' ho => ?_)
  obtain ⟨rfl, rfl⟩ := ho
  clear F1 N1
  dsimp only
  (repeat' ((fail_if_success (with_reducible first | refine sFor ?_ | refine sCal ?_ | refine sLow ?_ | refine sIte ?_ | refine sLc ?_ | refine sSet ?_ | refine sRep ?_ | refine sJoi ?_)); (fail_if_success (with_reducible show ItemsRest _ _ _ _ _ _ _ _ _ _ _ _ _ _ _)); walk_at "w1"))
  clear l2
  (rename Fr _ _ _ _ => F1); (rename News _ _ _ _ => N1)
  refine join_listW (ys := [tx, fmtX.getD i ""]) ⟨_, (N1 _ (.head _)).1, rfl, _, rfl⟩ (by kct_strs) (by decide +kernel) ?hw fun t9 k9 => ?_
  case hw =>
    have h5 : (fmtX.getD i "").length ≤ 100 := by rcases hi with rfl | rfl | rfl | rfl <;> decide +kernel
    have h6 : tx.length ≤ 50 := htx
    simp only [List.map_cons, List.map_nil, List.sum_cons, List.sum_nil, List.length_cons, List.length_nil]
    omega
  (repeat' ((fail_if_success (with_reducible first | refine sFor ?_ | refine sCal ?_ | refine sLow ?_ | refine sIte ?_ | refine sLc ?_ | refine sSet ?_ | refine sRep ?_ | refine sJoi ?_)); (fail_if_success (with_reducible show ItemsRest _ _ _ _ _ _ _ _ _ _ _ _ _ _ _)); walk_at "w1"))
  (rename Fr _ _ _ _ => F5); (rename News _ _ _ _ => N5); (rename Addr => D5); (rename _ ∧ _ ∧ _ ∧ _ ∧ _ ∧ AllLt _ _ => l5)
  obtain ⟨_, _, a1, a2, a3, a4⟩ := l5
  have N6 : News g L _ ((D5, ({ cls := .type "tuple", data := .seq #[.str nm t, .str (Txt.join "; " [tx, fmtX.getD i ""]) t9] } : Obj)) :: (x, instObj 197 dx) :: (dx, hdrD w l k) :: (l, listOf vs.toArray n) :: rest) := fun q hq => N5 q (by
    rcases List.mem_cons.mp hq with rfl | hq
    · exact .head _
    · exact .tail _ (.tail _ (.tail _ hq)))
  refine append_K F5 N6 (.tail (Nat.ne_of_gt a3) (.tail hxl (.tail hdl (.head hrl)))) (fun h6 F6 N6 => ?_) (by rw [List.size_toArray, sizeLine_eq]; omega)
  clear F5 N5
  (repeat' ((fail_if_success (with_reducible first | refine sFor ?_ | refine sCal ?_ | refine sLow ?_ | refine sIte ?_ | refine sLc ?_ | refine sSet ?_ | refine sRep ?_ | refine sJoi ?_)); (fail_if_success (with_reducible show ItemsRest _ _ _ _ _ _ _ _ _ _ _ _ _ _ _)); walk_at "w1"))
  rw [show vs.toArray.push (Value.ref D5) = (vs ++ [Value.ref D5]).toArray from by simp] at N6
  refine hQ _ _ ?_; exact RetU.intro _ F6 N6 ⟨⟨by rintro rfl; simp at hi, hc1⟩, rfl, D5, _, _, _, rfl, Nat.ne_of_gt a1, Nat.ne_of_gt a2, Nat.ne_of_gt a3, allLt_ne a4⟩
theorem add_ok (w : World) (x dx l n : Nat) (k : Tok) (vs : List Value) (rest : List (Addr × Obj)) (nm tx : PySem.Str) (i : Nat) (t tt tw : Tok) (hlen : vs.length ≤ 1000)
    (hn : nm.cps.size ≤ 100) (htx : tx.cps.size ≤ 50) (hct : cleanB false tx) (hi : i = 0 ∨ i = 1 ∨ i = 2 ∨ i = 4) (hc1 : cleanB true nm) (hxl : x ≠ l) (hdl : dx ≠ l) (hrl : ∀ q ∈ rest, q.1 ≠ l) :
    GivesU w 194 27 280 [.ref x, .str nm t, .str tx tt] [("by_1", .str (wordX.getD i "") tw)] ((x, instObj 197 dx) :: (dx, hdrD w l k) :: (l, listOf vs.toArray n) :: rest)
      (fun all r => r = .none ∧ ∃ p : Nat, ∃ n' np t', all = (p, ({ cls := .type "tuple", data := .seq #[.str nm t, .str (Txt.join "; " [tx, fmtX.getD i ""]) t'] np } : Obj)) :: (x, instObj 197 dx) :: (dx, hdrD w l k) :: (l, listOf (vs ++ [Value.ref p]).toArray n') :: rest
        ∧ p ≠ x ∧ p ≠ dx ∧ p ≠ l ∧ ∀ q ∈ rest, q.1 ≠ p) := by
  unfold GivesU
  intro p loose mean mg mb dp un gd env outer A₀ base h₀ L m s R B F X N T hf hk hd hu ret
  exact add_all w x dx l n k vs rest nm tx i t tt tw (.inr hlen) hn htx hct (.inl hi) (.inl hc1) hxl hdl hrl p loose mean mg mb dp un gd env outer A₀ base h₀ L m s R B F X N T hf hk hd hu (fun r all h' tk' a b ho => ret r all h' tk' a b ho.2) fun e t tv G all h' tk' _ _ _ ho => False.elim (by
    rcases ho.1 with rfl | h
    · simp at hi
    · exact bad_clean h hc1)
theorem add_failsN (w : World) (x dx l n : Nat) (k : Tok) (vs : List Value) (rest : List (Addr × Obj)) (nm tx : PySem.Str) (i : Nat) (t tt tw : Tok)
    (hn : nm.cps.size ≤ 100) (htx : tx.cps.size ≤ 50) (hct : cleanB false tx) (hi : i = 0 ∨ i = 1 ∨ i = 2 ∨ i = 4) (hc1 : badAtB true nm) (hxl : x ≠ l) (hdl : dx ≠ l) (hrl : ∀ q ∈ rest, q.1 ≠ l) :
    FailsU w 194 27 280 [.ref x, .str nm t, .str tx tt] [("by_1", .str (wordX.getD i "") tw)] ((x, instObj 197 dx) :: (dx, hdrD w l k) :: (l, listOf vs.toArray n) :: rest)
      (fun all => all = (x, instObj 197 dx) :: (dx, hdrD w l k) :: (l, listOf vs.toArray n) :: rest) := by
  unfold FailsU
  intro p loose mean mg mb dp un gd env outer A₀ base h₀ L m s R B F X N T hf hk hd hu ret
  exact add_all w x dx l n k vs rest nm tx i t tt tw (.inl (.inr hc1)) hn htx hct (.inl hi) (.inr hc1) hxl hdl hrl p loose mean mg mb dp un gd env outer A₀ base h₀ L m s R B F X N T hf hk hd hu (fun r all h' tk' _ _ ho => (bad_clean hc1 ho.1.2).elim) fun e t tv G all h' tk' a b c ho => ret e t tv G all h' tk' a b c ho.2
theorem add_failsW (w : World) (x dx l n : Nat) (k : Tok) (vs : List Value) (rest : List (Addr × Obj)) (nm tx : PySem.Str) (t tt tw : Tok)
    (hn : nm.cps.size ≤ 100) (htx : tx.cps.size ≤ 50) (hct : cleanB false tx) (hxl : x ≠ l) (hdl : dx ≠ l) (hrl : ∀ q ∈ rest, q.1 ≠ l) :
    FailsU w 194 27 280 [.ref x, .str nm t, .str tx tt] [("by_1", .str (wordX.getD 3 "") tw)] ((x, instObj 197 dx) :: (dx, hdrD w l k) :: (l, listOf vs.toArray n) :: rest)
      (fun all => all = (x, instObj 197 dx) :: (dx, hdrD w l k) :: (l, listOf vs.toArray n) :: rest) := by
  unfold FailsU
  intro p loose mean mg mb dp un gd env outer A₀ base h₀ L m s R B F X N T hf hk hd hu ret
  exact add_all w x dx l n k vs rest nm tx 3 t tt tw (.inl (.inl rfl)) hn htx hct (.inr rfl) (clean_or_bad true nm) hxl hdl hrl p loose mean mg mb dp un gd env outer A₀ base h₀ L m s R B F X N T hf hk hd hu (fun r all h' tk' _ _ ho => (ho.1.1 rfl).elim) fun e t tv G all h' tk' a b c ho => ret e t tv G all h' tk' a b c ho.2
end THAdd
section TCall
open PySem PySem.W PySem.Calls PyProof.Rows PyProof.V PySem.Spec
set_option maxRecDepth 100000
set_option maxHeartbeats 1500000
set_option pp.maxSteps 12000


local macro_rules | `(tactic| walk_at "execs cons") => `(tactic| (k_here; refine wpAny_execs_cons ?_))
local macro_rules | `(tactic| walk_at "execs nil") => `(tactic| (k_here; refine wpAny_execs_nil ?_))
/-- what a call of f upon vs gives back, when a fault may have been caught on the way: the frames below may be turned -/
noncomputable def GivesV (w : World) (f : Addr) (dd uu : Nat) (vs : List Value) (news : List (Addr × Obj)) (Out : List (Addr × Obj) → Value → Prop) : Prop :=
  ∀ (p : Program) (loose : List PySem.Str) (mean : ExcName → Option Value) (mg mb : PySem.Str → Option Value)
    (dp un : Nat) (gd : Option (List Code)) (cn : PySem.Str) (cs : Scope) (a : Addr) (ccd : Value) (cl : List (PySem.Str × Addr)) (outer : List Env) (A₀ : Around) (base h₀ : Heap) (L : Addr) (m : PySem.Str → Option Value) (s : Shared) (Q E : Value → Shared → Prop),
    Below A₀ base outer h₀ → Fr h₀ L s.heap m → (KK w.params).In base → News h₀ L s.heap news → Top p loose mean mg mb base → KtsDicts (frs outer) h₀ → cs.kind = .function → dp + dd < recursionLimit → un + uu < cLine →
    (∀ r all g' h' tk', KtsTurn (frs outer) h₀ g' → Below A₀ base outer g' → KtsDicts (frs outer) g' → Fr g' L h' m → News g' L h' all → Out all r → Q r { s with heap := h', toks := tk' }) →
    wpAny (model PR w) (ktrTop dp un gd cn cs L a ccd cl outer) (call (.ref f) vs) Q E s

noncomputable def RetV (outer : List Env) (g : Heap) (L : Addr) (Out : List (Addr × Obj) → Value → Prop) (s : Shared) (v : Value) (s' : Shared) : Prop :=
  ∃ g' m' all h' tk', s' = { s with heap := h', toks := tk' } ∧ KtsTurn (frs outer) g g' ∧ Fr g' L h' m' ∧ News g' L h' all ∧ Out all v
theorem RetV.intro {outer : List Env} {g g' : Heap} {L : Addr} {Out : List (Addr × Obj) → Value → Prop} {s : Shared} {v : Value} {m' : PySem.Str → Option Value} {h' : Heap} {tk' : Nat} (all : List (Addr × Obj)) (T : KtsTurn (frs outer) g g') (F : Fr g' L h' m') (N : News g' L h' all)
    (h : Out all v) : RetV outer g L Out s v { s with heap := h', toks := tk' } := ⟨g', m', all, h', tk', rfl, T, F, N, h⟩

noncomputable def BodyV (w : World) (f : Addr) (qual : PySem.Str) (scope : Scope) (cdv : Value) (body : List Stmt) (dd uu : Nat) (binds : List (PySem.Str × Value)) (news : List (Addr × Obj)) (Out : List (Addr × Obj) → Value → Prop) : Prop :=
  ∀ (p : Program) (loose : List PySem.Str) (mean : ExcName → Option Value) (mg mb : PySem.Str → Option Value) (dp un : Nat) (gd : Option (List Code)) (outer : List Env) (base g : Heap) (L : Addr) (h₁ : Heap) (s : Shared) (tk : Nat),
    Below (aro dp un gd outer) base outer g → Fr g L h₁ (fun y => binds.reverse.lookup y) → (KK w.params).In base → News g L h₁ news → Top p loose mean mg mb base → KtsDicts (frs outer) g → (∀ q ∈ news, q.1 < L) → dp + 1 + dd < recursionLimit → un + 3 + uu < cLine →
    wpAny (model PR w) (ktrTop (dp + 1) (un + 3) gd qual scope L f cdv [] outer) (execs body (envX qual scope L f cdv [])) (fun fl s' => RetV outer g L Out s (match fl with | .ret v => v | _ => .none) s') (fun _ _ => False) { s with heap := h₁, toks := tk }

theorem gives_whole {w : World} {f : Addr} {name qual : PySem.Str} {params : Arguments} {body : List Stmt} {scope : Scope} {dV kV doc pm cdv ct oc : Value} {an od : Option Addr} {osl : Array (Option Value)} {dd uu : Nat} {vs : List Value} {news : List (Addr × Obj)} {Out : List (Addr × Obj) → Value → Prop}
    (binds : List (PySem.Str × Value)) (ho : ∀ P, (KK P).lookup f = some ⟨oc, od, .func (fnOf name qual params body scope dV kV doc pm an cdv ct), osl⟩) (hcd : ∀ P, codeIn (KK P) cdv qual = true)
    (hbind : ∀ (s : Shared), (KK w.params).In s.heap → BindsTo s (fnOf name qual params body scope dV kV doc pm an cdv ct) ⟨vs, []⟩ binds) (hloc : (binds.all fun x => decide (scope.names.lookup x.1 = some .local)) = true)
    (hco : scope.isCoroutine = false) (hgen : scope.isGenerator = false) (hk : scope.kind = .function) (hcell : (scope.names.all fun x => decide (x.2 ≠ .cell)) = true)
    (h : BodyV w f qual scope cdv body dd uu binds news Out) : GivesV w f (dd + 1) (uu + 3) vs news Out := by
  unfold GivesV
  intro p loose mean mg mb dp un gd cn cs a ccd cl outer A₀ base h₀ L m s Q E B F XB N TB D hkc hd hu ret
  have X₀ : (KK w.params).In h₀ := XB.keeps B.stays
  have T₀ := TB.keeps B.stays
  have hke : (envX cn cs L a ccd cl).scope.kind = .function := hkc
  obtain ⟨FG, BG, st, _⟩ := groundX (R := fun _ _ => True) (A := ktrTop dp un gd cn cs L a ccd cl outer) (env := envX cn cs L a ccd cl) B F N rfl rfl hke
  obtain ⟨oL, es, ep, hL, hLd, hLk, hLf⟩ := FG.ns
  refine wpAny_call (codeAny_call_def (fd := fnOf name qual params body scope dV kV doc pm an cdv ct) (body := body) (binds := binds) (by show dp < recursionLimit; omega) ((X₀.keeps F.keep) _ _ (ho _)) rfl (T₀.nolimit.keeps F.keep) (codeRec_of (X₀.keeps F.keep) (hcd _)) rfl
    (hbind s (X₀.keeps F.keep)) (fun x hx => of_decide_eq_true (List.all_eq_true.mp hcell x hx)) (locs hloc) (fun h₁ hns hk₁ => ?_) hco hgen hk)
  have DG : KtsDicts (frs (envX cn cs L a ccd cl :: outer)) (hideAll s.heap (news.map (·.1))) := fun b hb => by
    rcases mem_frs (env := envX cn cs L a ccd cl) rfl hb with rfl | hb
    · exact ⟨oL, es, ep, hL, hLd⟩
    · obtain ⟨o, es', n', ho', hd'⟩ := D b hb
      exact ⟨o, es', n', st b o ho', hd'⟩
  refine wpAny_mono (h p loose mean mg mb dp un gd (envX cn cs L a ccd cl :: outer) base _ s.heap.objs.size h₁ s _ ⟨rfl, BG.stays, BG.frames⟩ ⟨hns, fun b o e => hk₁ b o (of_hideAll _ e), Nat.le_of_eq (hideAll_size _ _)⟩ XB
    (fun p hp => ⟨hk₁ _ _ (N p hp).1, Nat.ne_of_lt (Heap.lt_size (N p hp).1), hideAll_none _ (List.mem_map_of_mem hp)⟩) TB DG (fun p hp => Heap.lt_size (N p hp).1) (by omega) (by omega)) (fun fl s' hr => ?_) fun _ _ x => x.elim
  obtain ⟨g', m', all, h', tk', rfl, T', F', N', out⟩ := hr
  have nL₀ : h₀.get? L = none := kts_self F
  obtain ⟨sl, hs⟩ := T'.up hL
  obtain ⟨T₁, S₁⟩ := kts_turn_at (h := h') (fs := frs outer) (g := h₀)
    (fun b hb => by
      obtain ⟨_, o, ho', _⟩ := B.frames.mem hb
      exact ⟨o, ho'⟩)
    (fun b o e nmem => F'.keep b o (T'.other b o (st b o e) (fun q => by
      rcases mem_frs (env := envX cn cs L a ccd cl) rfl q with z | z
      · rw [z, nL₀] at e
        cases e
      · exact nmem z)))
    (fun b o e hm => by
      obtain ⟨sl', hs'⟩ := T'.up (st b o e)
      exact ⟨sl', F'.keep _ _ hs'⟩)
  have B₃ : Below A₀ base outer (ktsHeap h' (frs outer) h₀) := ⟨B.stack, fun b o e => T₁.other b o (B.stays b o e) (fun hm => by
    rw [(B.frames.mem hm).1] at e
    cases e), B.frames.of_keeps fun b o e _ => by
    obtain ⟨sl', hs'⟩ := T₁.up e
    exact ⟨_, hs', rfl⟩⟩
  refine ret _ all _ h' tk' T₁ B₃ (D.turn T₁) ⟨⟨_, es, ep, F'.keep _ _ hs, hLd, hLk, hLf⟩, S₁, by rw [T₁.size]; exact F.above⟩ (fun p hp => ⟨(N' p hp).1, fun q => ?_, ?_⟩) out
  · have := (N' p hp).2.2; rw [q, hs] at this; cases this
  · refine T₁.none_ _ ?_
    cases q : h₀.get? p.1 with
    | none => rfl
    | some o =>
      obtain ⟨sl', hs'⟩ := T'.up (st _ _ q)
      have := (N' p hp).2.2
      rw [hs'] at this
      cases this
theorem GivesV.turn {w : World} {f : Addr} {dd uu : Nat} {vs : List Value} {news : List (Addr × Obj)} {Out Out' : List (Addr × Obj) → Value → Prop} (h : GivesV w f dd uu vs news Out) (k : ∀ l r, Out l r → Out' l r) : GivesV w f dd uu vs news Out' := by
  unfold GivesV at *
  intro p loose mean mg mb dp un gd cn cs a ccd cl outer A₀ base h₀ L m s Q E B F X N T D hk hd hu ret
  exact h p loose mean mg mb dp un gd cn cs a ccd cl outer A₀ base h₀ L m s Q E B F X N T D hk hd hu fun r all g' h' tk' a b c d e o => ret r all g' h' tk' a b c d e (k _ _ o)
theorem call0_any (w : World) (x dx l : Nat) (kk : Tok) (rest : List (Addr × Obj)) (nm tx wd : PySem.Str) (t0 t tt tw : Tok) (OutM : List (Addr × Obj) → Value → Prop) (OutE : List (Addr × Obj) → Prop)
    (h1 : tx.cps.size ≤ 50) (h2 : wd.cps.size ≤ 10) (hm : ∀ tv, AnyU w 110 28 280 [.ref x, .str nm t, .str (tx ++ wd) tv] [] ((x, instObj 197 dx) :: (dx, hdrD w l kk) :: rest) OutM OutE) :
    GivesV w 227 30 290 [.ref x, .int 0 t0, .str nm t, .str tx tt, .str wd tw] ((x, instObj 197 dx) :: (dx, hdrD w l kk) :: rest) (fun all r => (∃ r0, OutM all r0 ∧ r = .none) ∨ ∃ D : Nat, ∃ k1 tq, ∃ all', r = .ref D ∧ all = (D, listOf #[.str refusedS tq] k1) :: all' ∧ OutE all') := by
  refine' gives_whole (dd := 29) (uu := 287) [("table", .ref x), ("kind", .int 0 t0), ("name", .str nm t), ("text", .str tx tt), ("word", .str wd tw)] ?ho ?hcd ?hbind ?hloc ?hco ?hgen ?hk ?hcell ?_
  case ho => (intro P; k_is)
  case hcd => (intro P; k_is)
  case hbind => (intro s X; exact BindsTo.of_eq rfl)
  case hloc => exact rfl
  case hco => exact rfl
  case hgen => exact rfl
  case hk => exact rfl
  case hcell => exact rfl
  intro p loose mean mg mb dp un gd outer base g L h₁ s tk B F XB N TB D lt hd hu
  change Fr g L h₁ (fun y => List.lookup y [("word", Value.str wd tw), ("text", .str tx tt), ("name", .str nm t), ("kind", .int 0 t0), ("table", .ref x)]) at F
  show wpAny _ (ktrTop (dp + 1) (un + 3) gd _ sc16 L 227 (.ref 226) [] outer) (execs bd16 (envX _ sc16 L 227 (.ref 226) [])) _ _ _
  have X : (KK w.params).In g := XB.keeps B.stays
  have T := TB.keeps B.stays
  have lx : x < L := lt _ (.head _)
  have ldx : dx < L := lt _ (.tail _ (.head _))
  have ln : AllLt L rest := allLt_of fun q hq => lt q (.tail _ (.tail _ hq))
  refine opaqueU ?_
  intro QQ hQ AA ee
  (repeat' ((fail_if_success (with_reducible first | refine sFor ?_ | refine sCal ?_ | refine sLow ?_ | refine sIte ?_ | refine sLc ?_ | refine sSet ?_ | refine sTry ?_ | refine sNot ?_ | refine sSetA ?_ | refine sDel ?_ | refine sRep ?_ | refine sJoi ?_)); (fail_if_success (with_reducible show ItemsRest _ _ _ _ _ _ _ _ _ _ _ _ _ _ _)); walk_at "w1"))
  refine wpAny_Try_except ?_
  (repeat' ((fail_if_success (with_reducible first | refine sFor ?_ | refine sCal ?_ | refine sLow ?_ | refine sIte ?_ | refine sLc ?_ | refine sSet ?_ | refine sTry ?_ | refine sNot ?_ | refine sSetA ?_ | refine sDel ?_ | refine sRep ?_ | refine sJoi ?_)); (fail_if_success (with_reducible show ItemsRest _ _ _ _ _ _ _ _ _ _ _ _ _ _ _)); walk_at "w1"))
  refine' ksp_setItem (f := 110) F X (inst_at N (.head _) (.tail _ (.head _))) ?d1 ?d2 ?d3 ?_
  case d1 => k_is
  case d2 => k_is
  case d3 => k_is
  refine wpAny_call (hm _ p loose mean mg mb (dp + 1) (un + 3) gd _ outer _ base g L _ _ _ B F X N T rfl rfl (by omega) (by omega) (fun r all h' tk' F' N' ho => ?_) fun e t tv G all h' tk' F' rd up ho => ?_)
  · clear F N
    dsimp only
    (repeat' ((fail_if_success (with_reducible first | refine sFor ?_ | refine sCal ?_ | refine sLow ?_ | refine sIte ?_ | refine sLc ?_ | refine sSet ?_ | refine sTry ?_ | refine sNot ?_ | refine sSetA ?_ | refine sDel ?_ | refine sRep ?_ | refine sJoi ?_)); (fail_if_success (with_reducible show ItemsRest _ _ _ _ _ _ _ _ _ _ _ _ _ _ _)); walk_at "w1"))
    refine hQ _ _ ?_; exact RetV.intro _ .refl F' N' (.inl ⟨_, ho, rfl⟩)
  · dsimp only
    refine kts_lookS rd F' B up D fun h2 rd2 up2 => ?_
    refine hit_SB (A₀ := aro dp un gd outer) rd2 F' B up2 XB TB D .refl ?kt ?_
    case kt => kts_test
    intro h8 g8 n8 tk8 T8 F8 N8 G8 N9 B8 X8 TB8 D8
    clear F F' N
    (repeat' ((fail_if_success (with_reducible first | refine sFor ?_ | refine sCal ?_ | refine sLow ?_ | refine sIte ?_ | refine sLc ?_ | refine sSet ?_ | refine sTry ?_ | refine sNot ?_ | refine sSetA ?_ | refine sDel ?_ | refine sRep ?_ | refine sJoi ?_)); (fail_if_success (with_reducible show ItemsRest _ _ _ _ _ _ _ _ _ _ _ _ _ _ _)); walk_at "w1"))
    (rename Fr _ _ _ _ => F7); (rename News _ _ _ _ => N7)
    refine hQ _ _ ?_; exact RetV.intro _ T8 F7 N7 (.inr ⟨_, _, _, _, rfl, rfl, ho⟩)
theorem call0_ok (w : World) (x dx l : Nat) (kk : Tok) (rest : List (Addr × Obj)) (nm tx wd : PySem.Str) (t0 t tt tw : Tok) (OutM : List (Addr × Obj) → Value → Prop)
    (h1 : tx.cps.size ≤ 50) (h2 : wd.cps.size ≤ 10) (hm : ∀ tv, GivesU w 110 28 280 [.ref x, .str nm t, .str (tx ++ wd) tv] [] ((x, instObj 197 dx) :: (dx, hdrD w l kk) :: rest) OutM) :
    GivesV w 227 30 290 [.ref x, .int 0 t0, .str nm t, .str tx tt, .str wd tw] ((x, instObj 197 dx) :: (dx, hdrD w l kk) :: rest) (fun all r => ∃ r0, OutM all r0 ∧ r = .none) :=
  (call0_any w x dx l kk rest nm tx wd t0 t tt tw OutM _ h1 h2 (fun tv => (hm tv).any)).turn fun _ _ h => h.elim id fun ⟨_, _, _, _, _, _, o⟩ => o.elim
theorem call0_no (w : World) (x dx l : Nat) (kk : Tok) (rest : List (Addr × Obj)) (nm tx wd : PySem.Str) (t0 t tt tw : Tok) (OutM : List (Addr × Obj) → Prop)
    (h1 : tx.cps.size ≤ 50) (h2 : wd.cps.size ≤ 10) (hm : ∀ tv, FailsU w 110 28 280 [.ref x, .str nm t, .str (tx ++ wd) tv] [] ((x, instObj 197 dx) :: (dx, hdrD w l kk) :: rest) OutM) :
    GivesV w 227 30 290 [.ref x, .int 0 t0, .str nm t, .str tx tt, .str wd tw] ((x, instObj 197 dx) :: (dx, hdrD w l kk) :: rest) (fun all r => ∃ D : Nat, ∃ k1 tq, ∃ all', r = .ref D ∧ all = (D, listOf #[.str refusedS tq] k1) :: all' ∧ OutM all') :=
  (call0_any w x dx l kk rest nm tx wd t0 t tt tw _ OutM h1 h2 (fun tv => (hm tv).any)).turn fun _ _ h => h.elim (fun ⟨_, o, _⟩ => o.elim) id
theorem call1_any (w : World) (x dx l : Nat) (kk : Tok) (rest : List (Addr × Obj)) (nm tx wd : PySem.Str) (t0 t tt tw : Tok) (OutM : List (Addr × Obj) → Value → Prop) (OutE : List (Addr × Obj) → Prop)
    (h1 : tx.cps.size ≤ 50) (h2 : wd.cps.size ≤ 10) (hm : AnyU w 194 27 280 [.ref x, .str nm t, .str tx tt] [("by_1", .str wd tw)] ((x, instObj 197 dx) :: (dx, hdrD w l kk) :: rest) OutM OutE) :
    GivesV w 227 30 290 [.ref x, .int 1 t0, .str nm t, .str tx tt, .str wd tw] ((x, instObj 197 dx) :: (dx, hdrD w l kk) :: rest) (fun all r => (∃ r0, OutM all r0 ∧ r = r0) ∨ ∃ D : Nat, ∃ k1 tq, ∃ all', r = .ref D ∧ all = (D, listOf #[.str refusedS tq] k1) :: all' ∧ OutE all') := by
  refine' gives_whole (dd := 29) (uu := 287) [("table", .ref x), ("kind", .int 1 t0), ("name", .str nm t), ("text", .str tx tt), ("word", .str wd tw)] ?ho ?hcd ?hbind ?hloc ?hco ?hgen ?hk ?hcell ?_
  case ho => (intro P; k_is)
  case hcd => (intro P; k_is)
  case hbind => (intro s X; exact BindsTo.of_eq rfl)
  case hloc => exact rfl
  case hco => exact rfl
  case hgen => exact rfl
  case hk => exact rfl
  case hcell => exact rfl
  intro p loose mean mg mb dp un gd outer base g L h₁ s tk B F XB N TB D lt hd hu
  change Fr g L h₁ (fun y => List.lookup y [("word", Value.str wd tw), ("text", .str tx tt), ("name", .str nm t), ("kind", .int 1 t0), ("table", .ref x)]) at F
  show wpAny _ (ktrTop (dp + 1) (un + 3) gd _ sc16 L 227 (.ref 226) [] outer) (execs bd16 (envX _ sc16 L 227 (.ref 226) [])) _ _ _
  have X : (KK w.params).In g := XB.keeps B.stays
  have T := TB.keeps B.stays
  have lx : x < L := lt _ (.head _)
  have ldx : dx < L := lt _ (.tail _ (.head _))
  have ln : AllLt L rest := allLt_of fun q hq => lt q (.tail _ (.tail _ hq))
  refine opaqueU ?_
  intro QQ hQ AA ee
  (repeat' ((fail_if_success (with_reducible first | refine sFor ?_ | refine sCal ?_ | refine sLow ?_ | refine sIte ?_ | refine sLc ?_ | refine sSet ?_ | refine sTry ?_ | refine sNot ?_ | refine sSetA ?_ | refine sDel ?_ | refine sRep ?_ | refine sJoi ?_)); (fail_if_success (with_reducible show ItemsRest _ _ _ _ _ _ _ _ _ _ _ _ _ _ _)); walk_at "w1"))
  refine wpAny_Try_except ?_
  (repeat' ((fail_if_success (with_reducible first | refine sFor ?_ | refine sCal ?_ | refine sLow ?_ | refine sIte ?_ | refine sLc ?_ | refine sSet ?_ | refine sTry ?_ | refine sNot ?_ | refine sSetA ?_ | refine sDel ?_ | refine sRep ?_ | refine sJoi ?_)); (fail_if_success (with_reducible show ItemsRest _ _ _ _ _ _ _ _ _ _ _ _ _ _ _)); walk_at "w1"))
  refine wpAny_call (hm p loose mean mg mb (dp + 1) (un + 3) gd _ outer _ base g L _ _ _ B F X N T rfl rfl (by omega) (by omega) (fun r all h' tk' F' N' ho => ?_) fun e t tv G all h' tk' F' rd up ho => ?_)
  · clear F N
    dsimp only
    (repeat' ((fail_if_success (with_reducible first | refine sFor ?_ | refine sCal ?_ | refine sLow ?_ | refine sIte ?_ | refine sLc ?_ | refine sSet ?_ | refine sTry ?_ | refine sNot ?_ | refine sSetA ?_ | refine sDel ?_ | refine sRep ?_ | refine sJoi ?_)); (fail_if_success (with_reducible show ItemsRest _ _ _ _ _ _ _ _ _ _ _ _ _ _ _)); walk_at "w1"))
    refine hQ _ _ ?_; exact RetV.intro _ .refl F' N' (.inl ⟨_, ho, rfl⟩)
  · dsimp only
    refine kts_lookS rd F' B up D fun h2 rd2 up2 => ?_
    refine hit_SB (A₀ := aro dp un gd outer) rd2 F' B up2 XB TB D .refl ?kt ?_
    case kt => kts_test
    intro h8 g8 n8 tk8 T8 F8 N8 G8 N9 B8 X8 TB8 D8
    clear F F' N
    (repeat' ((fail_if_success (with_reducible first | refine sFor ?_ | refine sCal ?_ | refine sLow ?_ | refine sIte ?_ | refine sLc ?_ | refine sSet ?_ | refine sTry ?_ | refine sNot ?_ | refine sSetA ?_ | refine sDel ?_ | refine sRep ?_ | refine sJoi ?_)); (fail_if_success (with_reducible show ItemsRest _ _ _ _ _ _ _ _ _ _ _ _ _ _ _)); walk_at "w1"))
    (rename Fr _ _ _ _ => F7); (rename News _ _ _ _ => N7)
    refine hQ _ _ ?_; exact RetV.intro _ T8 F7 N7 (.inr ⟨_, _, _, _, rfl, rfl, ho⟩)
theorem call1_ok (w : World) (x dx l : Nat) (kk : Tok) (rest : List (Addr × Obj)) (nm tx wd : PySem.Str) (t0 t tt tw : Tok) (OutM : List (Addr × Obj) → Value → Prop)
    (h1 : tx.cps.size ≤ 50) (h2 : wd.cps.size ≤ 10) (hm : GivesU w 194 27 280 [.ref x, .str nm t, .str tx tt] [("by_1", .str wd tw)] ((x, instObj 197 dx) :: (dx, hdrD w l kk) :: rest) OutM) :
    GivesV w 227 30 290 [.ref x, .int 1 t0, .str nm t, .str tx tt, .str wd tw] ((x, instObj 197 dx) :: (dx, hdrD w l kk) :: rest) (fun all r => ∃ r0, OutM all r0 ∧ r = r0) :=
  (call1_any w x dx l kk rest nm tx wd t0 t tt tw OutM _ h1 h2 hm.any).turn fun _ _ h => h.elim id fun ⟨_, _, _, _, _, _, o⟩ => o.elim
theorem call1_no (w : World) (x dx l : Nat) (kk : Tok) (rest : List (Addr × Obj)) (nm tx wd : PySem.Str) (t0 t tt tw : Tok) (OutM : List (Addr × Obj) → Prop)
    (h1 : tx.cps.size ≤ 50) (h2 : wd.cps.size ≤ 10) (hm : FailsU w 194 27 280 [.ref x, .str nm t, .str tx tt] [("by_1", .str wd tw)] ((x, instObj 197 dx) :: (dx, hdrD w l kk) :: rest) OutM) :
    GivesV w 227 30 290 [.ref x, .int 1 t0, .str nm t, .str tx tt, .str wd tw] ((x, instObj 197 dx) :: (dx, hdrD w l kk) :: rest) (fun all r => ∃ D : Nat, ∃ k1 tq, ∃ all', r = .ref D ∧ all = (D, listOf #[.str refusedS tq] k1) :: all' ∧ OutM all') :=
  (call1_any w x dx l kk rest nm tx wd t0 t tt tw _ OutM h1 h2 hm.any).turn fun _ _ h => h.elim (fun ⟨_, o, _⟩ => o.elim) id
theorem call2_any (w : World) (x dx l : Nat) (kk : Tok) (rest : List (Addr × Obj)) (nm tx wd : PySem.Str) (t0 t tt tw : Tok) (OutM : List (Addr × Obj) → Value → Prop) (OutE : List (Addr × Obj) → Prop)
    (h1 : tx.cps.size ≤ 50) (h2 : wd.cps.size ≤ 10) (hm : ∀ tv, AnyU w 187 28 280 [.ref x, .str nm t, .str (tx ++ wd) tv] [] ((x, instObj 197 dx) :: (dx, hdrD w l kk) :: rest) OutM OutE) :
    GivesV w 227 30 290 [.ref x, .int 2 t0, .str nm t, .str tx tt, .str wd tw] ((x, instObj 197 dx) :: (dx, hdrD w l kk) :: rest) (fun all r => (∃ r0, OutM all r0 ∧ r = r0) ∨ ∃ D : Nat, ∃ k1 tq, ∃ all', r = .ref D ∧ all = (D, listOf #[.str refusedS tq] k1) :: all' ∧ OutE all') := by
  refine' gives_whole (dd := 29) (uu := 287) [("table", .ref x), ("kind", .int 2 t0), ("name", .str nm t), ("text", .str tx tt), ("word", .str wd tw)] ?ho ?hcd ?hbind ?hloc ?hco ?hgen ?hk ?hcell ?_
  case ho => (intro P; k_is)
  case hcd => (intro P; k_is)
  case hbind => (intro s X; exact BindsTo.of_eq rfl)
  case hloc => exact rfl
  case hco => exact rfl
  case hgen => exact rfl
  case hk => exact rfl
  case hcell => exact rfl
  intro p loose mean mg mb dp un gd outer base g L h₁ s tk B F XB N TB D lt hd hu
  change Fr g L h₁ (fun y => List.lookup y [("word", Value.str wd tw), ("text", .str tx tt), ("name", .str nm t), ("kind", .int 2 t0), ("table", .ref x)]) at F
  show wpAny _ (ktrTop (dp + 1) (un + 3) gd _ sc16 L 227 (.ref 226) [] outer) (execs bd16 (envX _ sc16 L 227 (.ref 226) [])) _ _ _
  have X : (KK w.params).In g := XB.keeps B.stays
  have T := TB.keeps B.stays
  have lx : x < L := lt _ (.head _)
  have ldx : dx < L := lt _ (.tail _ (.head _))
  have ln : AllLt L rest := allLt_of fun q hq => lt q (.tail _ (.tail _ hq))
  refine opaqueU ?_
  intro QQ hQ AA ee
  (repeat' ((fail_if_success (with_reducible first | refine sFor ?_ | refine sCal ?_ | refine sLow ?_ | refine sIte ?_ | refine sLc ?_ | refine sSet ?_ | refine sTry ?_ | refine sNot ?_ | refine sSetA ?_ | refine sDel ?_ | refine sRep ?_ | refine sJoi ?_)); (fail_if_success (with_reducible show ItemsRest _ _ _ _ _ _ _ _ _ _ _ _ _ _ _)); walk_at "w1"))
  refine wpAny_Try_except ?_
  (repeat' ((fail_if_success (with_reducible first | refine sFor ?_ | refine sCal ?_ | refine sLow ?_ | refine sIte ?_ | refine sLc ?_ | refine sSet ?_ | refine sTry ?_ | refine sNot ?_ | refine sSetA ?_ | refine sDel ?_ | refine sRep ?_ | refine sJoi ?_)); (fail_if_success (with_reducible show ItemsRest _ _ _ _ _ _ _ _ _ _ _ _ _ _ _)); walk_at "w1"))
  refine wpAny_call (hm _ p loose mean mg mb (dp + 1) (un + 3) gd _ outer _ base g L _ _ _ B F X N T rfl rfl (by omega) (by omega) (fun r all h' tk' F' N' ho => ?_) fun e t tv G all h' tk' F' rd up ho => ?_)
  · clear F N
    dsimp only
    (repeat' ((fail_if_success (with_reducible first | refine sFor ?_ | refine sCal ?_ | refine sLow ?_ | refine sIte ?_ | refine sLc ?_ | refine sSet ?_ | refine sTry ?_ | refine sNot ?_ | refine sSetA ?_ | refine sDel ?_ | refine sRep ?_ | refine sJoi ?_)); (fail_if_success (with_reducible show ItemsRest _ _ _ _ _ _ _ _ _ _ _ _ _ _ _)); walk_at "w1"))
    refine hQ _ _ ?_; exact RetV.intro _ .refl F' N' (.inl ⟨_, ho, rfl⟩)
  · dsimp only
    refine kts_lookS rd F' B up D fun h2 rd2 up2 => ?_
    refine hit_SB (A₀ := aro dp un gd outer) rd2 F' B up2 XB TB D .refl ?kt ?_
    case kt => kts_test
    intro h8 g8 n8 tk8 T8 F8 N8 G8 N9 B8 X8 TB8 D8
    clear F F' N
    (repeat' ((fail_if_success (with_reducible first | refine sFor ?_ | refine sCal ?_ | refine sLow ?_ | refine sIte ?_ | refine sLc ?_ | refine sSet ?_ | refine sTry ?_ | refine sNot ?_ | refine sSetA ?_ | refine sDel ?_ | refine sRep ?_ | refine sJoi ?_)); (fail_if_success (with_reducible show ItemsRest _ _ _ _ _ _ _ _ _ _ _ _ _ _ _)); walk_at "w1"))
    (rename Fr _ _ _ _ => F7); (rename News _ _ _ _ => N7)
    refine hQ _ _ ?_; exact RetV.intro _ T8 F7 N7 (.inr ⟨_, _, _, _, rfl, rfl, ho⟩)
theorem call2_ok (w : World) (x dx l : Nat) (kk : Tok) (rest : List (Addr × Obj)) (nm tx wd : PySem.Str) (t0 t tt tw : Tok) (OutM : List (Addr × Obj) → Value → Prop)
    (h1 : tx.cps.size ≤ 50) (h2 : wd.cps.size ≤ 10) (hm : ∀ tv, GivesU w 187 28 280 [.ref x, .str nm t, .str (tx ++ wd) tv] [] ((x, instObj 197 dx) :: (dx, hdrD w l kk) :: rest) OutM) :
    GivesV w 227 30 290 [.ref x, .int 2 t0, .str nm t, .str tx tt, .str wd tw] ((x, instObj 197 dx) :: (dx, hdrD w l kk) :: rest) (fun all r => ∃ r0, OutM all r0 ∧ r = r0) :=
  (call2_any w x dx l kk rest nm tx wd t0 t tt tw OutM _ h1 h2 (fun tv => (hm tv).any)).turn fun _ _ h => h.elim id fun ⟨_, _, _, _, _, _, o⟩ => o.elim
theorem call2_no (w : World) (x dx l : Nat) (kk : Tok) (rest : List (Addr × Obj)) (nm tx wd : PySem.Str) (t0 t tt tw : Tok) (OutM : List (Addr × Obj) → Prop)
    (h1 : tx.cps.size ≤ 50) (h2 : wd.cps.size ≤ 10) (hm : ∀ tv, FailsU w 187 28 280 [.ref x, .str nm t, .str (tx ++ wd) tv] [] ((x, instObj 197 dx) :: (dx, hdrD w l kk) :: rest) OutM) :
    GivesV w 227 30 290 [.ref x, .int 2 t0, .str nm t, .str tx tt, .str wd tw] ((x, instObj 197 dx) :: (dx, hdrD w l kk) :: rest) (fun all r => ∃ D : Nat, ∃ k1 tq, ∃ all', r = .ref D ∧ all = (D, listOf #[.str refusedS tq] k1) :: all' ∧ OutM all') :=
  (call2_any w x dx l kk rest nm tx wd t0 t tt tw _ OutM h1 h2 (fun tv => (hm tv).any)).turn fun _ _ h => h.elim (fun ⟨_, o, _⟩ => o.elim) id
theorem call3_any (w : World) (x dx l : Nat) (kk : Tok) (rest : List (Addr × Obj)) (nm tx wd : PySem.Str) (t0 t tt tw : Tok) (OutM : List (Addr × Obj) → Value → Prop) (OutE : List (Addr × Obj) → Prop)
    (h1 : tx.cps.size ≤ 50) (h2 : wd.cps.size ≤ 10) (hm : AnyU w 115 18 180 [.ref x, .str nm t] [] ((x, instObj 197 dx) :: (dx, hdrD w l kk) :: rest) OutM OutE) :
    GivesV w 227 30 290 [.ref x, .int 3 t0, .str nm t, .str tx tt, .str wd tw] ((x, instObj 197 dx) :: (dx, hdrD w l kk) :: rest) (fun all r => (∃ r0, OutM all r0 ∧ r = .none) ∨ ∃ D : Nat, ∃ k1 tq, ∃ all', r = .ref D ∧ all = (D, listOf #[.str refusedS tq] k1) :: all' ∧ OutE all') := by
  refine' gives_whole (dd := 29) (uu := 287) [("table", .ref x), ("kind", .int 3 t0), ("name", .str nm t), ("text", .str tx tt), ("word", .str wd tw)] ?ho ?hcd ?hbind ?hloc ?hco ?hgen ?hk ?hcell ?_
  case ho => (intro P; k_is)
  case hcd => (intro P; k_is)
  case hbind => (intro s X; exact BindsTo.of_eq rfl)
  case hloc => exact rfl
  case hco => exact rfl
  case hgen => exact rfl
  case hk => exact rfl
  case hcell => exact rfl
  intro p loose mean mg mb dp un gd outer base g L h₁ s tk B F XB N TB D lt hd hu
  change Fr g L h₁ (fun y => List.lookup y [("word", Value.str wd tw), ("text", .str tx tt), ("name", .str nm t), ("kind", .int 3 t0), ("table", .ref x)]) at F
  show wpAny _ (ktrTop (dp + 1) (un + 3) gd _ sc16 L 227 (.ref 226) [] outer) (execs bd16 (envX _ sc16 L 227 (.ref 226) [])) _ _ _
  have X : (KK w.params).In g := XB.keeps B.stays
  have T := TB.keeps B.stays
  have lx : x < L := lt _ (.head _)
  have ldx : dx < L := lt _ (.tail _ (.head _))
  have ln : AllLt L rest := allLt_of fun q hq => lt q (.tail _ (.tail _ hq))
  refine opaqueU ?_
  intro QQ hQ AA ee
  (repeat' ((fail_if_success (with_reducible first | refine sFor ?_ | refine sCal ?_ | refine sLow ?_ | refine sIte ?_ | refine sLc ?_ | refine sSet ?_ | refine sTry ?_ | refine sNot ?_ | refine sSetA ?_ | refine sDel ?_ | refine sRep ?_ | refine sJoi ?_)); (fail_if_success (with_reducible show ItemsRest _ _ _ _ _ _ _ _ _ _ _ _ _ _ _)); walk_at "w1"))
  refine wpAny_Try_except ?_
  (repeat' ((fail_if_success (with_reducible first | refine sFor ?_ | refine sCal ?_ | refine sLow ?_ | refine sIte ?_ | refine sLc ?_ | refine sSet ?_ | refine sTry ?_ | refine sNot ?_ | refine sSetA ?_ | refine sDel ?_ | refine sRep ?_ | refine sJoi ?_)); (fail_if_success (with_reducible show ItemsRest _ _ _ _ _ _ _ _ _ _ _ _ _ _ _)); walk_at "w1"))
  refine' del_own (f := 115) F X (inst_at N (.head _) (.tail _ (.head _))) ?d1 ?d2 ?d3 ?_
  case d1 => k_is
  case d2 => k_is
  case d3 => k_is
  refine wpAny_call (hm p loose mean mg mb (dp + 1) (un + 3) gd _ outer _ base g L _ _ _ B F X N T rfl rfl (by omega) (by omega) (fun r all h' tk' F' N' ho => ?_) fun e t tv G all h' tk' F' rd up ho => ?_)
  · clear F N
    dsimp only
    (repeat' ((fail_if_success (with_reducible first | refine sFor ?_ | refine sCal ?_ | refine sLow ?_ | refine sIte ?_ | refine sLc ?_ | refine sSet ?_ | refine sTry ?_ | refine sNot ?_ | refine sSetA ?_ | refine sDel ?_ | refine sRep ?_ | refine sJoi ?_)); (fail_if_success (with_reducible show ItemsRest _ _ _ _ _ _ _ _ _ _ _ _ _ _ _)); walk_at "w1"))
    refine hQ _ _ ?_; exact RetV.intro _ .refl F' N' (.inl ⟨_, ho, rfl⟩)
  · dsimp only
    refine kts_lookS rd F' B up D fun h2 rd2 up2 => ?_
    refine hit_SB (A₀ := aro dp un gd outer) rd2 F' B up2 XB TB D .refl ?kt ?_
    case kt => kts_test
    intro h8 g8 n8 tk8 T8 F8 N8 G8 N9 B8 X8 TB8 D8
    clear F F' N
    (repeat' ((fail_if_success (with_reducible first | refine sFor ?_ | refine sCal ?_ | refine sLow ?_ | refine sIte ?_ | refine sLc ?_ | refine sSet ?_ | refine sTry ?_ | refine sNot ?_ | refine sSetA ?_ | refine sDel ?_ | refine sRep ?_ | refine sJoi ?_)); (fail_if_success (with_reducible show ItemsRest _ _ _ _ _ _ _ _ _ _ _ _ _ _ _)); walk_at "w1"))
    (rename Fr _ _ _ _ => F7); (rename News _ _ _ _ => N7)
    refine hQ _ _ ?_; exact RetV.intro _ T8 F7 N7 (.inr ⟨_, _, _, _, rfl, rfl, ho⟩)
theorem call3_ok (w : World) (x dx l : Nat) (kk : Tok) (rest : List (Addr × Obj)) (nm tx wd : PySem.Str) (t0 t tt tw : Tok) (OutM : List (Addr × Obj) → Value → Prop)
    (h1 : tx.cps.size ≤ 50) (h2 : wd.cps.size ≤ 10) (hm : GivesU w 115 18 180 [.ref x, .str nm t] [] ((x, instObj 197 dx) :: (dx, hdrD w l kk) :: rest) OutM) :
    GivesV w 227 30 290 [.ref x, .int 3 t0, .str nm t, .str tx tt, .str wd tw] ((x, instObj 197 dx) :: (dx, hdrD w l kk) :: rest) (fun all r => ∃ r0, OutM all r0 ∧ r = .none) :=
  (call3_any w x dx l kk rest nm tx wd t0 t tt tw OutM _ h1 h2 hm.any).turn fun _ _ h => h.elim id fun ⟨_, _, _, _, _, _, o⟩ => o.elim
theorem call3_no (w : World) (x dx l : Nat) (kk : Tok) (rest : List (Addr × Obj)) (nm tx wd : PySem.Str) (t0 t tt tw : Tok) (OutM : List (Addr × Obj) → Prop)
    (h1 : tx.cps.size ≤ 50) (h2 : wd.cps.size ≤ 10) (hm : FailsU w 115 18 180 [.ref x, .str nm t] [] ((x, instObj 197 dx) :: (dx, hdrD w l kk) :: rest) OutM) :
    GivesV w 227 30 290 [.ref x, .int 3 t0, .str nm t, .str tx tt, .str wd tw] ((x, instObj 197 dx) :: (dx, hdrD w l kk) :: rest) (fun all r => ∃ D : Nat, ∃ k1 tq, ∃ all', r = .ref D ∧ all = (D, listOf #[.str refusedS tq] k1) :: all' ∧ OutM all') :=
  (call3_any w x dx l kk rest nm tx wd t0 t tt tw _ OutM h1 h2 hm.any).turn fun _ _ h => h.elim (fun ⟨_, o, _⟩ => o.elim) id
end TCall
section TDue
open PySem PySem.W PySem.Calls PyProof.Rows PyProof.V PySem.Spec
open PyProof.Rows.LCt PyProof.Rows.LCg
set_option maxRecDepth 100000
set_option maxHeartbeats 1500000
set_option pp.maxSteps 12000
noncomputable def refD : Dat := .list [.str refusedS]
noncomputable def alikeP (pairs : List Row) (there : List Nat) (nm : PySem.Str) : List Nat := there.filter fun q => (pairs.getD q ("", "")).1.length == nm.length
noncomputable def byP (wd : PySem.Str) : PySem.Str := if wd == "" then wd else "=\"" ++ (if isInB "\"\\" wd then "\\" else "") ++ wd ++ "\""
noncomputable def dueP (pairs : List Row) (there : List Nat) (kd : Nat) (nm tx wd : PySem.Str) : Dat × List Nat × List Row :=
  if nm == "b\t" then (refD, [], [])
  else if kd = 3 then (.none, alikeP pairs there nm, [])
  else if kd = 2 ∧ alikeP pairs there nm ≠ [] then (.str (pairs.getD ((alikeP pairs there nm).headD 0) ("", "")).2, [], [])
  else if wd == "\n" then (refD, if kd = 0 then alikeP pairs there nm else [], [])
  else if kd = 1 then (.none, [], [(nm, tx ++ "; by-1" ++ byP wd)])
  else (if kd = 2 then .str (tx ++ wd) else .none, if kd = 0 then alikeP pairs there nm else [], [(nm, tx ++ wd)])
noncomputable def DueOut (d : Dat × List Nat × List Row) (news tl : List (Addr × Obj)) (r : Value) : Prop :=
  ∃ (T G D : Nat) (v : Value) (vs ws : List Value) (n k1 k2 : Nat), r = .ref T ∧ (T, ({ cls := .type "tuple", data := .seq #[v, .ref G, .ref D] n } : Obj)) ∈ tl ∧ (G, listOf vs.toArray k1) ∈ tl ∧ (D, listOf ws.toArray k2) ∈ tl ∧
    DatIn (tl ++ news) v d.1 ∧ DatAll [] vs (d.2.1.map fun n : Nat => .int n) ∧ DatAll tl ws (d.2.2.map pairD)
theorem mem_skip2 {q a b : Addr × Obj} {tl news : List (Addr × Obj)} (h : q ∈ tl ++ news) : q ∈ tl ++ (a :: b :: news) := by
  rcases List.mem_append.mp h with h | h
  · exact List.mem_append.mpr (.inl h)
  · exact List.mem_append.mpr (.inr (.tail _ (.tail _ h)))
theorem off_nil {news : List (Addr × Obj)} : ∀ q ∈ news, ∀ p ∈ ([] : List (Addr × Obj)), q.1 ≠ p.1 := fun _ _ _ h => nomatch h
theorem off_cons {news tl : List (Addr × Obj)} {a : Addr} {o : Obj} (h : ∀ q ∈ news, q.1 ≠ a) (k : ∀ q ∈ news, ∀ p ∈ tl, q.1 ≠ p.1) : ∀ q ∈ news, ∀ p ∈ (a, o) :: tl, q.1 ≠ p.1 := fun q hq p hp => by
  rcases List.mem_cons.mp hp with rfl | hp
  · exact h q hq
  · exact k q hq p hp
theorem ldX {M : Model} {A : Around} {E : Value → Shared → Prop} {s : Shared} {h₀ : Heap} {L a : Addr} {m : PySem.Str → Option Value} {cn x : PySem.Str} {cs : Scope} {ccd v : Value} {cl : List (PySem.Str × Addr)} {Q : Value → Shared → Prop} (F : Fr h₀ L s.heap m) (hv : m x = some v) (hk : cs.kind = .function)
    (hx : (envX cn cs L a ccd cl).kindOf x = some .local) (h : Q v s) : wpAny M A (loadName (envX cn cs L a ccd cl) x) Q E s := wpAny_loadName_local hk hx F.ns hv h


local macro_rules | `(tactic| walk_at "loadName") => `(tactic| (k_here; k_dflt (refine' ldX ?F ?v ?k ?x ?_; (case F => k_asm); (case v => rfl); (case k => rfl); (case x => rfl))))
local macro_rules | `(tactic| walk_at "execs cons") => `(tactic| (k_here; refine wpAny_execs_cons ?_))
local macro_rules | `(tactic| walk_at "execs nil") => `(tactic| (k_here; refine wpAny_execs_nil ?_))
theorem due_pre {w : World} {news : List (Addr × Obj)} {pl th : Addr} {rows : List Row} {ths : List Nat} {nm tx wd : PySem.Str} {kd : Int} {t0 t tt tw : Tok} {p : Program} {loose : List PySem.Str} {mean : ExcName → Option Value} {mg mb : PySem.Str → Option Value} {dp un : Nat} {gd : Option (List Code)} {outer : List Env} {A₀ : Around} {base g : Heap} {L : Addr} {h₁ : Heap} {s : Shared} {tk : Nat} {oc1 oc2 : Obj} {QQ : Value → Shared → Prop}
    (hq : ∀ q ∈ ths, q < rows.length) (hlen : rows.length ≤ 1000) (hrn : ∀ r ∈ rows, r.1.cps.size ≤ 10 ∧ r.2.cps.size ≤ 100) (htl : ths.length ≤ 1000) (hn : nm.cps.size ≤ 10) (hp : DatIn news (.ref pl) (.list (rows.map pairD))) (ht : DatIn news (.ref th) (.list (ths.map fun n : Nat => .int n)))
    (B : Below A₀ base outer g) (F : Fr g L h₁ (fun y => if y = "word" then some (Value.str wd tw) else if y = "text" then some (Value.str tx tt) else if y = "kind" then some (Value.int kd t0) else if y = "there" then some (Value.ref th) else none)) (X : (KK w.params).In g) (T : Top p loose mean mg mb g) (N : News g L h₁ ((L + 1 + 1, oc1) :: (L + 1, oc2) :: news)) (dc1 : oc1.data = .cell (some (.str nm t))) (dc2 : oc2.data = .cell (some (.ref pl))) (lt : ∀ q ∈ news, q.1 < L) (hd : dp + 4 < recursionLimit) (hu : un + 107 < cLine)
    (hQ : (nm == "b\t") = true → ∀ v s', RetN g L news (DueOut (refD, [], []) news) s v s' → QQ v s')
    (cont : (nm == "b\t") = false → ∀ (ys : List Value) (D0 RL : Nat) (tr : Tok) h9 tk9, Fr g L h9 (fun y => if y = "alike" then some (.ref D0) else if y = "refused" then some (.ref RL) else if y = "word" then some (Value.str wd tw) else if y = "text" then some (Value.str tx tt) else if y = "kind" then some (Value.int kd t0) else if y = "there" then some (Value.ref th) else none) → News g L h9 ((D0, LCg.lst ys) :: (RL, listOf #[.str refusedS tr] 0) :: (L + 1 + 1, oc1) :: (L + 1, oc2) :: news) → (∀ q ∈ news, q.1 ≠ D0) → AllLt RL news → DatAll [] ys ((alikeP rows ths nm).map fun n : Nat => .int n) →
      wpAny (model PR w) (ktrTop dp un gd "_law_due" sc17 L 232 (.ref 231) [("name", L + 1 + 1), ("pairs", L + 1)] outer) (execs [s17_3, s17_4, s17_5, s17_6, s17_7, s17_8, s17_9] (envX "_law_due" sc17 L 232 (.ref 231) [("name", L + 1 + 1), ("pairs", L + 1)])) (fun fl s' => QQ (match fl with | .ret v => v | _ => .none) s') (fun _ _ => False) { s with heap := h9, toks := tk9 }) :
    wpAny (model PR w) (ktrTop dp un gd "_law_due" sc17 L 232 (.ref 231) [("name", L + 1 + 1), ("pairs", L + 1)] outer) (execs bd17 (envX "_law_due" sc17 L 232 (.ref 231) [("name", L + 1 + 1), ("pairs", L + 1)])) (fun fl s' => QQ (match fl with | .ret v => v | _ => .none) s') (fun _ _ => False) { s with heap := h₁, toks := tk } := by
  with_reducible refine ctx_execs ?_
  intro AA ee
  have lt1 : AllLt (L + 1) news := allLt_of fun q hq => Nat.lt_succ_of_lt (lt q hq)
  have lt2 : AllLt (L + 2) news := allLt_of fun q hq => Nat.lt_succ_of_lt (Nat.lt_succ_of_lt (lt q hq))
  (repeat' ((fail_if_success (with_reducible first | refine sFor ?_ | refine sCal ?_ | refine sLow ?_ | refine sIte ?_ | refine sLc ?_ | refine sSet ?_ | refine sAlc ?_ | refine sNe ?_ | refine sSub ?_ | refine sRep ?_ | refine sJoi ?_)); (fail_if_success (with_reducible show ItemsRest _ _ _ _ _ _ _ _ _ _ _ _ _ _ _)); walk_at "w1"))
  · (rename Fr _ _ _ _ => F1); (rename News _ _ _ _ => N1); (rename _ = true => hb)
    (rename _ ∧ _ ∧ _ ∧ _ ∧ _ ∧ AllLt _ _ => l5); (rename _ ∧ _ ∧ _ ∧ _ ∧ AllLt _ _ => l4); (rename _ ∧ _ ∧ _ ∧ AllLt _ _ => l3); (rename _ ∧ _ ∧ AllLt _ _ => l2)
    refine hQ hb _ _ ?_; refine RetN.intro [(_, _), (_, _), (_, _), (_, _)] F1 (fun q hq => N1 q (mem_skip2 (tl := [(_, _), (_, _), (_, _), (_, _)]) hq)) (off_cons (allLt_ne l5.2.2.2.2.2) (off_cons (allLt_ne l4.2.2.2.2) (off_cons (allLt_ne l3.2.2.2) (off_cons (allLt_ne l2.2.2) off_nil)))) ?_
    exact ⟨_, _, _, _, [], [], _, _, _, rfl, .head _, .tail _ (.tail _ (.head _)), .tail _ (.head _), .list (.tail _ (.tail _ (.tail _ (.head _)))) (.cons (.str _ _) .nil), .nil, .nil⟩
  (rename Fr _ _ _ _ => F1); (rename News _ _ _ _ => N1); (rename _ = false => hb); (rename _ ∧ _ ∧ AllLt _ _ => l2)
  refine LCt.Assign_ListComp_T (F₀ := F1) (by rfl) (by with_unfolding_all rfl) (by with_unfolding_all rfl) (by decide) (by rfl) (by decide) (by rfl) (by rfl) (by rfl) ?_
  (repeat' ((fail_if_success (with_reducible first | refine sFor ?_ | refine sCal ?_ | refine sLow ?_ | refine sIte ?_ | refine sLc ?_ | refine sSet ?_ | refine sAlc ?_ | refine sNe ?_ | refine sSub ?_ | refine sRep ?_ | refine sJoi ?_)); (fail_if_success (with_reducible show ItemsRest _ _ _ _ _ _ _ _ _ _ _ _ _ _ _)); walk_at "w1"))
  obtain ⟨pvs, pn, hpm, hpv⟩ := dat_list_inv hp
  obtain ⟨tvs, tn, htm, htv⟩ := dat_list_inv ht
  have htn := htv.length
  rw [List.length_map] at htn
  refine CompSrcT.ledger rfl F1 N1 (.tail _ (.tail _ (.tail _ htm))) (by rw [sizeLine_eq, List.size_toArray]; omega) fun g' => ?_
  rw [List.size_toArray, htn]
  refine compT_ind (fun i ys => DatAll [] ys (((ths.take i).filter fun q => (rows.getD q ("", "")).1.length == nm.length).map fun n : Nat => .int n)) .nil ?_ ?_
  case refine_2 =>
    intro i ys v I oI C oC Dn m₂ h' tk' E' hi hys hv hC hx F' N' off ne
    refine opaqueI ?_
    intro R1 R2 hR1 hR2
    clear F1 N1
    simp only [List.getElem?_toArray] at hv
    obtain ⟨d, hd', hvd⟩ := dat_at htv hv
    obtain ⟨q, hnb, rfl⟩ : ∃ c, ths[i]? = some c ∧ d = .int (c : Nat) := by
      rw [List.getElem?_map] at hd'
      obtain ⟨c, a, b⟩ := Option.map_eq_some_iff.mp hd'
      exact ⟨c, a, b.symm⟩
    obtain ⟨tq, rfl⟩ := int_of_dat hvd
    have hql := hq q (List.mem_of_getElem? hnb)
    (repeat' ((fail_if_success (with_reducible first | refine sFor ?_ | refine sCal ?_ | refine sLow ?_ | refine sIte ?_ | refine sLc ?_ | refine sSet ?_ | refine sAlc ?_ | refine sNe ?_ | refine sSub ?_ | refine sRep ?_ | refine sJoi ?_)); (fail_if_success (with_reducible show ItemsRest _ _ _ _ _ _ _ _ _ _ _ _ _ _ _)); walk_at "w1"))
    refine item_dat N' (.tail _ (.tail _ (.tail _ (.tail _ (.tail _ (.tail _ hpm)))))) hpv (by omega) (by rw [List.length_map]; omega) (by rw [List.length_map]; omega) fun v' d' hd9 hv9 _ => ?_
    obtain ⟨r9, hr9, rfl⟩ : ∃ c, rows[q]? = some c ∧ d' = pairD c := by
      rw [Int.toNat_natCast, List.getElem?_map] at hd9
      obtain ⟨c, a, b⟩ := Option.map_eq_some_iff.mp hd9
      exact ⟨c, a, b.symm⟩
    obtain ⟨pa, pk, pt, pu, rfl, hpa⟩ := pair_inv hv9
    have hrow : rows.getD q ("", "") = r9 := by rw [List.getD_eq_getElem?_getD, hr9]; rfl
    (repeat' ((fail_if_success (with_reducible first | refine sFor ?_ | refine sCal ?_ | refine sLow ?_ | refine sIte ?_ | refine sLc ?_ | refine sSet ?_ | refine sAlc ?_ | refine sNe ?_ | refine sSub ?_ | refine sRep ?_ | refine sJoi ?_)); (fail_if_success (with_reducible show ItemsRest _ _ _ _ _ _ _ _ _ _ _ _ _ _ _)); walk_at "w1"))
    refine item_tupleT (l := [.str r9.1 pt, .str r9.2 pu]) (j := 0) (News.isTup N' (.tail _ (.tail _ (.tail _ (.tail _ (.tail _ (.tail _ hpa))))))) (by decide) (by decide) rfl rfl ?_
    have hr1 : r9.1.length ≤ 10 := (hrn r9 (List.mem_of_getElem? hr9)).1
    have hn1 : nm.length ≤ 10 := hn
    have z1 : ¬ ((r9.1.length : Nat) : Int) ≥ 2 ^ 63 := by omega
    have z2 : ¬ ((nm.length : Nat) : Int) ≥ 2 ^ 63 := by omega
    (repeat' ((fail_if_success (with_reducible first | refine sFor ?_ | refine sCal ?_ | refine sLow ?_ | refine sIte ?_ | refine sLc ?_ | refine sSet ?_ | refine sAlc ?_ | refine sNe ?_ | refine sSub ?_ | refine sRep ?_ | refine sJoi ?_)); (fail_if_success (with_reducible show ItemsRest _ _ _ _ _ _ _ _ _ _ _ _ _ _ _)); walk_at "w1"))
    all_goals (have e2 := take_snoc hnb; (rename Fr _ _ _ _ => F6); (rename News _ _ _ _ => N6))
    · (rename ((_ : Int) = _) => hc9)
      refine hR1 _ _ ?_; refine comp_end (J := fun y => DatAll [] (ys ++ [y]) _) F6 N6 off (.inr ⟨_, .tail _ (.tail _ (.tail _ htm)), rfl, _, rfl⟩) ?_
      rw [e2, List.filter_append, List.map_append, List.filter_cons_of_pos (by rw [hrow]; exact beq_iff_eq.mpr (by omega))]
      exact hys.append (.cons (.int _ _) .nil)
    · (rename ((_ : Int) ≠ _) => hc9)
      refine hR2 _ ?_; refine comp_end (J := fun y => DatAll [] ys _) F6 N6 off (.inr ⟨_, .tail _ (.tail _ (.tail _ htm)), rfl, _, rfl⟩) ?_
      rw [e2, List.filter_append, List.map_append, List.filter_cons_of_neg (by rw [hrow]; exact fun z => hc9 (by rw [beq_iff_eq.mp z]))]
      simpa using hys
  intro ys hys
  rw [List.take_length] at hys
  intro D0 h9 tk9 F9 N9 off9
  have off8 := off1_ne off9
  have off7 : ∀ q ∈ news, q.1 ≠ D0 := fun q hq => off8 q (.tail _ (.tail _ (.tail _ hq)))
  clear F1 N1
  change DatAll [] ys ((alikeP rows ths nm).map fun n : Nat => .int n) at hys
  exact cont hb ys D0 _ _ h9 tk9 F9 N9 off7 l2.2.2 hys
theorem due0 (w : World) (news : List (Addr × Obj)) (pl th : Addr) (rows : List Row) (ths : List Nat) (nm tx wd : PySem.Str) (t0 t tt tw : Tok) (hq : ∀ q ∈ ths, q < rows.length) (hlen : rows.length ≤ 1000) (hrn : ∀ r ∈ rows, r.1.cps.size ≤ 10 ∧ r.2.cps.size ≤ 100) (htl : ths.length ≤ 1000)
    (hn : nm.cps.size ≤ 10) (h1 : tx.cps.size ≤ 50) (h2 : wd.cps.size ≤ 10) (hp : DatIn news (.ref pl) (.list (rows.map pairD))) (ht : DatIn news (.ref th) (.list (ths.map fun n : Nat => .int n))) :
    GivesN w 232 5 110 [.ref pl, .ref th, .int 0 t0, .str nm t, .str tx tt, .str wd tw] news (DueOut (dueP rows ths 0 nm tx wd) news) := by
  refine' gives_cells (dd := 4) (uu := 107) [("pairs", .ref pl), ("there", .ref th), ("kind", .int 0 t0), ("name", .str nm t), ("text", .str tx tt), ("word", .str wd tw)] ?ho ?hcd ?hbind ?hkind ?hnd ?hco ?hgen ?hk ?_
  case ho => (intro P; k_is)
  case hcd => (intro P; k_is)
  case hbind => (intro s X; exact BindsTo.of_eq rfl)
  case hkind => exact rfl
  case hnd => exact of_decide_eq_true rfl
  case hco => exact rfl
  case hgen => exact rfl
  case hk => exact rfl
  intro p loose mean mg mb dp un gd outer A₀ base g L h₁ s tk cells B F X N Y T lt hd hu
  change Fr g L h₁ (fun y => if y = "word" then some (Value.str wd tw) else if y = "text" then some (Value.str tx tt) else if y = "kind" then some (Value.int 0 t0) else if y = "there" then some (Value.ref th) else none) at F
  change CellsAre _ [("name", L + 1 + 1), ("pairs", L + 1)] cells at Y
  k_cells Y
  rename_i oc1 oc2 dc1 dc2
  replace dc1 : oc1.data = .cell (some (.str nm t)) := dc1
  replace dc2 : oc2.data = .cell (some (.ref pl)) := dc2
  simp only [List.cons_append, List.nil_append] at N
  show wpAny _ (ktrTop dp un gd _ sc17 L 232 (.ref 231) [("name", L + 1 + 1), ("pairs", L + 1)] outer) (execs bd17 (envX _ sc17 L 232 (.ref 231) [("name", L + 1 + 1), ("pairs", L + 1)])) _ _ _
  refine opaqueU ?_
  intro QQ hQ AA ee
  refine due_pre (kd := 0) hq hlen hrn htl hn hp ht B F X T N dc1 dc2 lt hd hu (fun hb v s' hr => hQ v s' (by
    have e : dueP rows ths 0 nm tx wd = (refD, [], []) := by unfold dueP; rw [hb, if_pos rfl]
    rw [e]; exact hr)) fun hb ys D0 RL tr h9 tk9 F9 N9 off7 lRL hys => ?_
  clear F N AA ee
  with_reducible refine ctx_execs ?_
  intro AA ee
  have dY : ys.length = (alikeP rows ths nm).length := by rw [hys.length, List.length_map]
  have h1' : tx.length ≤ 50 := h1
  have h2' : wd.length ≤ 10 := h2
  have k1 : (PySem.Str.ofString "; by-1").length = 6 := by decide +kernel
  have k2 : (PySem.Str.ofString "=\"").length = 2 := by decide +kernel
  have k3 : (PySem.Str.ofString "\\").length = 1 := by decide +kernel
  have k4 : (PySem.Str.ofString "\"").length = 1 := by decide +kernel
  have k5 : (PySem.Str.ofString "").length = 0 := by decide +kernel
  (repeat' ((fail_if_success (with_reducible first | refine sFor ?_ | refine sCal ?_ | refine sLow ?_ | refine sIte ?_ | refine sLc ?_ | refine sSet ?_ | refine sAlc ?_ | refine sNe ?_ | refine sSub ?_ | refine sRep ?_ | refine sJoi ?_)); (fail_if_success (with_reducible show ItemsRest _ _ _ _ _ _ _ _ _ _ _ _ _ _ _)); walk_at "w2"))
  · (rename Fr _ _ _ _ => F8); (rename News _ _ _ _ => N8)
    (rename (wd == _) = true => hw)
    have e : dueP rows ths 0 nm tx wd = (refD, alikeP rows ths nm, []) := by simp [dueP, hb , hw]
    repeat ((rename _ ∧ _ => hh); obtain ⟨_, _⟩ := hh)
    refine hQ _ _ ?_; refine RetN.intro [(_, _), (_, _), (_, _), (_, _)] F8 (fun q hq => N8 q (mem_skip2 (tl := [(_, _), (_, _), (_, _), (_, _)]) hq)) (by ((repeat' (first | exact off_nil | refine off_cons ?_ ?_)) <;> (first | exact allLt_ne (by assumption) | assumption))) ?_
    rw [e]
    exact ⟨_, _, _, _, ys, [], _, _, _, rfl, by ((repeat (first | exact List.Mem.head _ | apply List.Mem.tail))), by ((repeat (first | exact List.Mem.head _ | apply List.Mem.tail))), by ((repeat (first | exact List.Mem.head _ | apply List.Mem.tail))), .list (by ((repeat (first | exact List.Mem.head _ | apply List.Mem.tail)))) (.cons (.str _ _) .nil), hys, .nil⟩
  · (rename Fr _ _ _ _ => F8); (rename News _ _ _ _ => N8)
    (rename (wd == _) = false => hw)
    have e : dueP rows ths 0 nm tx wd = (.none, alikeP rows ths nm, [(nm, tx ++ wd)]) := by simp [dueP, hb , hw]
    repeat ((rename _ ∧ _ => hh); obtain ⟨_, _⟩ := hh)
    refine hQ _ _ ?_; refine RetN.intro [(_, _), (_, _), (_, _), (_, _), (_, _)] F8 (fun q hq => N8 q (mem_skip2 (tl := [(_, _), (_, _), (_, _), (_, _), (_, _)]) hq)) (by ((repeat' (first | exact off_nil | refine off_cons ?_ ?_)) <;> (first | exact allLt_ne (by assumption) | assumption))) ?_
    rw [e]
    exact ⟨_, _, _, _, ys, [_], _, _, _, rfl, by ((repeat (first | exact List.Mem.head _ | apply List.Mem.tail))), by ((repeat (first | exact List.Mem.head _ | apply List.Mem.tail))), by ((repeat (first | exact List.Mem.head _ | apply List.Mem.tail))), .none, hys, .cons (.tuple (by ((repeat (first | exact List.Mem.head _ | apply List.Mem.tail)))) (.cons (.str _ _) (.cons (.str _ _) .nil))) .nil⟩
theorem due1 (w : World) (news : List (Addr × Obj)) (pl th : Addr) (rows : List Row) (ths : List Nat) (nm tx wd : PySem.Str) (t0 t tt tw : Tok) (hq : ∀ q ∈ ths, q < rows.length) (hlen : rows.length ≤ 1000) (hrn : ∀ r ∈ rows, r.1.cps.size ≤ 10 ∧ r.2.cps.size ≤ 100) (htl : ths.length ≤ 1000)
    (hn : nm.cps.size ≤ 10) (h1 : tx.cps.size ≤ 50) (h2 : wd.cps.size ≤ 10) (hp : DatIn news (.ref pl) (.list (rows.map pairD))) (ht : DatIn news (.ref th) (.list (ths.map fun n : Nat => .int n))) :
    GivesN w 232 5 110 [.ref pl, .ref th, .int 1 t0, .str nm t, .str tx tt, .str wd tw] news (DueOut (dueP rows ths 1 nm tx wd) news) := by
  refine' gives_cells (dd := 4) (uu := 107) [("pairs", .ref pl), ("there", .ref th), ("kind", .int 1 t0), ("name", .str nm t), ("text", .str tx tt), ("word", .str wd tw)] ?ho ?hcd ?hbind ?hkind ?hnd ?hco ?hgen ?hk ?_
  case ho => (intro P; k_is)
  case hcd => (intro P; k_is)
  case hbind => (intro s X; exact BindsTo.of_eq rfl)
  case hkind => exact rfl
  case hnd => exact of_decide_eq_true rfl
  case hco => exact rfl
  case hgen => exact rfl
  case hk => exact rfl
  intro p loose mean mg mb dp un gd outer A₀ base g L h₁ s tk cells B F X N Y T lt hd hu
  change Fr g L h₁ (fun y => if y = "word" then some (Value.str wd tw) else if y = "text" then some (Value.str tx tt) else if y = "kind" then some (Value.int 1 t0) else if y = "there" then some (Value.ref th) else none) at F
  change CellsAre _ [("name", L + 1 + 1), ("pairs", L + 1)] cells at Y
  k_cells Y
  rename_i oc1 oc2 dc1 dc2
  replace dc1 : oc1.data = .cell (some (.str nm t)) := dc1
  replace dc2 : oc2.data = .cell (some (.ref pl)) := dc2
  simp only [List.cons_append, List.nil_append] at N
  show wpAny _ (ktrTop dp un gd _ sc17 L 232 (.ref 231) [("name", L + 1 + 1), ("pairs", L + 1)] outer) (execs bd17 (envX _ sc17 L 232 (.ref 231) [("name", L + 1 + 1), ("pairs", L + 1)])) _ _ _
  refine opaqueU ?_
  intro QQ hQ AA ee
  refine due_pre (kd := 1) hq hlen hrn htl hn hp ht B F X T N dc1 dc2 lt hd hu (fun hb v s' hr => hQ v s' (by
    have e : dueP rows ths 1 nm tx wd = (refD, [], []) := by unfold dueP; rw [hb, if_pos rfl]
    rw [e]; exact hr)) fun hb ys D0 RL tr h9 tk9 F9 N9 off7 lRL hys => ?_
  clear F N AA ee
  with_reducible refine ctx_execs ?_
  intro AA ee
  have dY : ys.length = (alikeP rows ths nm).length := by rw [hys.length, List.length_map]
  have h1' : tx.length ≤ 50 := h1
  have h2' : wd.length ≤ 10 := h2
  have k1 : (PySem.Str.ofString "; by-1").length = 6 := by decide +kernel
  have k2 : (PySem.Str.ofString "=\"").length = 2 := by decide +kernel
  have k3 : (PySem.Str.ofString "\\").length = 1 := by decide +kernel
  have k4 : (PySem.Str.ofString "\"").length = 1 := by decide +kernel
  have k5 : (PySem.Str.ofString "").length = 0 := by decide +kernel
  (repeat' ((fail_if_success (with_reducible first | refine sFor ?_ | refine sCal ?_ | refine sLow ?_ | refine sIte ?_ | refine sLc ?_ | refine sSet ?_ | refine sAlc ?_ | refine sNe ?_ | refine sSub ?_ | refine sRep ?_ | refine sJoi ?_)); (fail_if_success (with_reducible show ItemsRest _ _ _ _ _ _ _ _ _ _ _ _ _ _ _)); walk_at "w2"))
  · (rename Fr _ _ _ _ => F8); (rename News _ _ _ _ => N8)
    (rename (wd == _) = true => hw)
    have e : dueP rows ths 1 nm tx wd = (refD, [], []) := by simp [dueP, hb , hw]
    repeat ((rename _ ∧ _ => hh); obtain ⟨_, _⟩ := hh)
    refine hQ _ _ ?_; refine RetN.intro [(_, _), (_, _), (_, _), (_, _), (_, _)] F8 (fun q hq => N8 q (mem_skip2 (tl := [(_, _), (_, _), (_, _), (_, _), (_, _)]) hq)) (by ((repeat' (first | exact off_nil | refine off_cons ?_ ?_)) <;> (first | exact allLt_ne (by assumption) | assumption))) ?_
    rw [e]
    exact ⟨_, _, _, _, [], [], _, _, _, rfl, by ((repeat (first | exact List.Mem.head _ | apply List.Mem.tail))), by ((repeat (first | exact List.Mem.head _ | apply List.Mem.tail))), by ((repeat (first | exact List.Mem.head _ | apply List.Mem.tail))), .list (by ((repeat (first | exact List.Mem.head _ | apply List.Mem.tail)))) (.cons (.str _ _) .nil), .nil, .nil⟩
  · (rename Fr _ _ _ _ => F8); (rename News _ _ _ _ => N8)
    (rename (wd == _) = false => hw)
    (rename (wd != _) = true => hn)
    (rename isInB _ _ = true => hi)
    have hn : (wd == "") = false := by revert hn; show (!(wd == "")) = true → _; cases (wd == "") <;> simp
    have e : dueP rows ths 1 nm tx wd = (.none, [], [(nm, tx ++ "; by-1" ++ ("=\"" ++ "\\" ++ wd ++ "\""))]) := by simp [dueP, hb , hw, hn, hi, byP]
    repeat ((rename _ ∧ _ => hh); obtain ⟨_, _⟩ := hh)
    refine hQ _ _ ?_; refine RetN.intro [(_, _), (_, _), (_, _), (_, _), (_, _), (_, _)] F8 (fun q hq => N8 q (mem_skip2 (tl := [(_, _), (_, _), (_, _), (_, _), (_, _), (_, _)]) hq)) (by ((repeat' (first | exact off_nil | refine off_cons ?_ ?_)) <;> (first | exact allLt_ne (by assumption) | assumption))) ?_
    rw [e]
    exact ⟨_, _, _, _, [], [_], _, _, _, rfl, by ((repeat (first | exact List.Mem.head _ | apply List.Mem.tail))), by ((repeat (first | exact List.Mem.head _ | apply List.Mem.tail))), by ((repeat (first | exact List.Mem.head _ | apply List.Mem.tail))), .none, .nil, .cons (.tuple (by ((repeat (first | exact List.Mem.head _ | apply List.Mem.tail)))) (.cons (.str _ _) (.cons (.str _ _) .nil))) .nil⟩
  · (rename Fr _ _ _ _ => F8); (rename News _ _ _ _ => N8)
    (rename (wd == _) = false => hw)
    (rename (wd != _) = true => hn)
    (rename isInB _ _ = false => hi)
    have hn : (wd == "") = false := by revert hn; show (!(wd == "")) = true → _; cases (wd == "") <;> simp
    have e : dueP rows ths 1 nm tx wd = (.none, [], [(nm, tx ++ "; by-1" ++ ("=\"" ++ "" ++ wd ++ "\""))]) := by simp [dueP, hb , hw, hn, hi, byP]
    repeat ((rename _ ∧ _ => hh); obtain ⟨_, _⟩ := hh)
    refine hQ _ _ ?_; refine RetN.intro [(_, _), (_, _), (_, _), (_, _), (_, _), (_, _)] F8 (fun q hq => N8 q (mem_skip2 (tl := [(_, _), (_, _), (_, _), (_, _), (_, _), (_, _)]) hq)) (by ((repeat' (first | exact off_nil | refine off_cons ?_ ?_)) <;> (first | exact allLt_ne (by assumption) | assumption))) ?_
    rw [e]
    exact ⟨_, _, _, _, [], [_], _, _, _, rfl, by ((repeat (first | exact List.Mem.head _ | apply List.Mem.tail))), by ((repeat (first | exact List.Mem.head _ | apply List.Mem.tail))), by ((repeat (first | exact List.Mem.head _ | apply List.Mem.tail))), .none, .nil, .cons (.tuple (by ((repeat (first | exact List.Mem.head _ | apply List.Mem.tail)))) (.cons (.str _ _) (.cons (.str _ _) .nil))) .nil⟩
  · (rename Fr _ _ _ _ => F8); (rename News _ _ _ _ => N8)
    (rename (wd == _) = false => hw)
    (rename (wd != _) = false => hn)
    have hn : (wd == "") = true := by revert hn; show (!(wd == "")) = false → _; cases (wd == "") <;> simp
    have e : dueP rows ths 1 nm tx wd = (.none, [], [(nm, tx ++ "; by-1" ++ wd)]) := by simp [dueP, hb , hw, hn, byP]
    repeat ((rename _ ∧ _ => hh); obtain ⟨_, _⟩ := hh)
    refine hQ _ _ ?_; refine RetN.intro [(_, _), (_, _), (_, _), (_, _), (_, _), (_, _)] F8 (fun q hq => N8 q (mem_skip2 (tl := [(_, _), (_, _), (_, _), (_, _), (_, _), (_, _)]) hq)) (by ((repeat' (first | exact off_nil | refine off_cons ?_ ?_)) <;> (first | exact allLt_ne (by assumption) | assumption))) ?_
    rw [e]
    exact ⟨_, _, _, _, [], [_], _, _, _, rfl, by ((repeat (first | exact List.Mem.head _ | apply List.Mem.tail))), by ((repeat (first | exact List.Mem.head _ | apply List.Mem.tail))), by ((repeat (first | exact List.Mem.head _ | apply List.Mem.tail))), .none, .nil, .cons (.tuple (by ((repeat (first | exact List.Mem.head _ | apply List.Mem.tail)))) (.cons (.str _ _) (.cons (.str _ _) .nil))) .nil⟩
theorem due2 (w : World) (news : List (Addr × Obj)) (pl th : Addr) (rows : List Row) (ths : List Nat) (nm tx wd : PySem.Str) (t0 t tt tw : Tok) (hq : ∀ q ∈ ths, q < rows.length) (hlen : rows.length ≤ 1000) (hrn : ∀ r ∈ rows, r.1.cps.size ≤ 10 ∧ r.2.cps.size ≤ 100) (htl : ths.length ≤ 1000)
    (hn : nm.cps.size ≤ 10) (h1 : tx.cps.size ≤ 50) (h2 : wd.cps.size ≤ 10) (hp : DatIn news (.ref pl) (.list (rows.map pairD))) (ht : DatIn news (.ref th) (.list (ths.map fun n : Nat => .int n))) :
    GivesN w 232 5 110 [.ref pl, .ref th, .int 2 t0, .str nm t, .str tx tt, .str wd tw] news (DueOut (dueP rows ths 2 nm tx wd) news) := by
  refine' gives_cells (dd := 4) (uu := 107) [("pairs", .ref pl), ("there", .ref th), ("kind", .int 2 t0), ("name", .str nm t), ("text", .str tx tt), ("word", .str wd tw)] ?ho ?hcd ?hbind ?hkind ?hnd ?hco ?hgen ?hk ?_
  case ho => (intro P; k_is)
  case hcd => (intro P; k_is)
  case hbind => (intro s X; exact BindsTo.of_eq rfl)
  case hkind => exact rfl
  case hnd => exact of_decide_eq_true rfl
  case hco => exact rfl
  case hgen => exact rfl
  case hk => exact rfl
  intro p loose mean mg mb dp un gd outer A₀ base g L h₁ s tk cells B F X N Y T lt hd hu
  change Fr g L h₁ (fun y => if y = "word" then some (Value.str wd tw) else if y = "text" then some (Value.str tx tt) else if y = "kind" then some (Value.int 2 t0) else if y = "there" then some (Value.ref th) else none) at F
  change CellsAre _ [("name", L + 1 + 1), ("pairs", L + 1)] cells at Y
  k_cells Y
  rename_i oc1 oc2 dc1 dc2
  replace dc1 : oc1.data = .cell (some (.str nm t)) := dc1
  replace dc2 : oc2.data = .cell (some (.ref pl)) := dc2
  simp only [List.cons_append, List.nil_append] at N
  show wpAny _ (ktrTop dp un gd _ sc17 L 232 (.ref 231) [("name", L + 1 + 1), ("pairs", L + 1)] outer) (execs bd17 (envX _ sc17 L 232 (.ref 231) [("name", L + 1 + 1), ("pairs", L + 1)])) _ _ _
  refine opaqueU ?_
  intro QQ hQ AA ee
  refine due_pre (kd := 2) hq hlen hrn htl hn hp ht B F X T N dc1 dc2 lt hd hu (fun hb v s' hr => hQ v s' (by
    have e : dueP rows ths 2 nm tx wd = (refD, [], []) := by unfold dueP; rw [hb, if_pos rfl]
    rw [e]; exact hr)) fun hb ys D0 RL tr h9 tk9 F9 N9 off7 lRL hys => ?_
  clear F N AA ee
  with_reducible refine ctx_execs ?_
  intro AA ee
  have dY : ys.length = (alikeP rows ths nm).length := by rw [hys.length, List.length_map]
  obtain ⟨pvs, pn, hpm, hpv⟩ := dat_list_inv hp
  have h1' : tx.length ≤ 50 := h1
  have h2' : wd.length ≤ 10 := h2
  have k1 : (PySem.Str.ofString "; by-1").length = 6 := by decide +kernel
  have k2 : (PySem.Str.ofString "=\"").length = 2 := by decide +kernel
  have k3 : (PySem.Str.ofString "\\").length = 1 := by decide +kernel
  have k4 : (PySem.Str.ofString "\"").length = 1 := by decide +kernel
  have k5 : (PySem.Str.ofString "").length = 0 := by decide +kernel
  (repeat' ((fail_if_success (with_reducible first | refine sFor ?_ | refine sCal ?_ | refine sLow ?_ | refine sIte ?_ | refine sLc ?_ | refine sSet ?_ | refine sAlc ?_ | refine sNe ?_ | refine sSub ?_ | refine sRep ?_ | refine sJoi ?_)); (fail_if_success (with_reducible show ItemsRest _ _ _ _ _ _ _ _ _ _ _ _ _ _ _)); walk_at "w2"))
  (rename Fr _ _ _ _ => F8); (rename News _ _ _ _ => N8)
  rcases hal : alikeP rows ths nm with _ | ⟨q0, qs⟩
  · have hys0 : DatAll [] ys [] := by rw [hal] at hys; exact hys
    refine kqd_ne N8 (.tail _ (.tail _ (.head _))) rfl rfl hys0 (fun _ h => nomatch h) (.head _) rfl rfl (DatAll.nil (news := [])) (fun _ h => nomatch h) (fun _ h => nomatch h) (fun _ h => nomatch h) (by show un + 64 < cLine; omega) ?_
    rw [show (!decide (([] : List Dat) = [])) = false from by simp]
    (repeat' ((fail_if_success (with_reducible first | refine sFor ?_ | refine sCal ?_ | refine sLow ?_ | refine sIte ?_ | refine sLc ?_ | refine sSet ?_ | refine sAlc ?_ | refine sNe ?_ | refine sSub ?_ | refine sRep ?_ | refine sJoi ?_)); (fail_if_success (with_reducible show ItemsRest _ _ _ _ _ _ _ _ _ _ _ _ _ _ _)); walk_at "w2"))
    · (rename Fr _ _ _ _ => F8); (rename News _ _ _ _ => N8)
      (rename (wd == _) = true => hw)
      have e : dueP rows ths 2 nm tx wd = (refD, [], []) := by simp [dueP, hb , hw, hal]
      repeat ((rename _ ∧ _ => hh); obtain ⟨_, _⟩ := hh)
      refine hQ _ _ ?_; refine RetN.intro [(_, _), (_, _), (_, _), (_, _), (_, _), (_, _)] F8 (fun q hq => N8 q (mem_skip2 (tl := [(_, _), (_, _), (_, _), (_, _), (_, _), (_, _)]) hq)) (by ((repeat' (first | exact off_nil | refine off_cons ?_ ?_)) <;> (first | exact allLt_ne (by assumption) | assumption))) ?_
      rw [e]
      exact ⟨_, _, _, _, [], [], _, _, _, rfl, by ((repeat (first | exact List.Mem.head _ | apply List.Mem.tail))), by ((repeat (first | exact List.Mem.head _ | apply List.Mem.tail))), by ((repeat (first | exact List.Mem.head _ | apply List.Mem.tail))), .list (by ((repeat (first | exact List.Mem.head _ | apply List.Mem.tail)))) (.cons (.str _ _) .nil), .nil, .nil⟩
    · (rename Fr _ _ _ _ => F8); (rename News _ _ _ _ => N8)
      (rename (wd == _) = false => hw)
      have e : dueP rows ths 2 nm tx wd = (.str (tx ++ wd), [], [(nm, tx ++ wd)]) := by simp [dueP, hb , hw, hal]
      repeat ((rename _ ∧ _ => hh); obtain ⟨_, _⟩ := hh)
      refine hQ _ _ ?_; refine RetN.intro [(_, _), (_, _), (_, _), (_, _), (_, _), (_, _), (_, _)] F8 (fun q hq => N8 q (mem_skip2 (tl := [(_, _), (_, _), (_, _), (_, _), (_, _), (_, _), (_, _)]) hq)) (by ((repeat' (first | exact off_nil | refine off_cons ?_ ?_)) <;> (first | exact allLt_ne (by assumption) | assumption))) ?_
      rw [e]
      exact ⟨_, _, _, _, [], [_], _, _, _, rfl, by ((repeat (first | exact List.Mem.head _ | apply List.Mem.tail))), by ((repeat (first | exact List.Mem.head _ | apply List.Mem.tail))), by ((repeat (first | exact List.Mem.head _ | apply List.Mem.tail))), .str _ _, .nil, .cons (.tuple (by ((repeat (first | exact List.Mem.head _ | apply List.Mem.tail)))) (.cons (.str _ _) (.cons (.str _ _) .nil))) .nil⟩
  · have hys0 : DatAll [] ys (.int (q0 : Nat) :: qs.map fun n : Nat => .int n) := by rw [hal] at hys; exact hys
    refine kqd_ne N8 (.tail _ (.tail _ (.head _))) rfl rfl hys0 (fun _ h => nomatch h) (.head _) rfl rfl (DatAll.nil (news := [])) (fun _ h => nomatch h) ?okq (fun _ h => nomatch h) (by show un + 64 < cLine; omega) ?_
    case okq =>
      intro d hd
      rcases List.mem_cons.mp hd with rfl | hd
      · rfl
      · obtain ⟨q, _, rfl⟩ := List.mem_map.mp hd
        rfl
    rw [show (!decide ((Dat.int (q0 : Nat) :: qs.map fun n : Nat => Dat.int n) = [])) = true from by simp]
    (repeat' ((fail_if_success (with_reducible first | refine sFor ?_ | refine sCal ?_ | refine sLow ?_ | refine sIte ?_ | refine sLc ?_ | refine sSet ?_ | refine sAlc ?_ | refine sNe ?_ | refine sSub ?_ | refine sRep ?_ | refine sJoi ?_)); (fail_if_success (with_reducible show ItemsRest _ _ _ _ _ _ _ _ _ _ _ _ _ _ _)); walk_at "w2"))
    have hl9 : (alikeP rows ths nm).length ≤ ths.length := List.length_filter_le ..
    have hq0 : q0 ∈ alikeP rows ths nm := by rw [hal]; exact .head _
    have hql := hq q0 (List.mem_filter.mp hq0).1
    rw [hal, List.length_cons] at hl9
    refine item_dat N8 (.tail _ (.tail _ (.head _))) hys0 (by decide) (by rw [List.length_cons, List.length_map]; omega) (by rw [List.length_cons, List.length_map]; omega) fun v' d' hd9 hv9 _ => ?_
    obtain rfl : Dat.int (q0 : Nat) = d' := Option.some.inj hd9
    obtain ⟨tq, rfl⟩ := int_of_dat hv9
    (repeat' ((fail_if_success (with_reducible first | refine sFor ?_ | refine sCal ?_ | refine sLow ?_ | refine sIte ?_ | refine sLc ?_ | refine sSet ?_ | refine sAlc ?_ | refine sNe ?_ | refine sSub ?_ | refine sRep ?_ | refine sJoi ?_)); (fail_if_success (with_reducible show ItemsRest _ _ _ _ _ _ _ _ _ _ _ _ _ _ _)); walk_at "w2"))
    refine item_dat N8 (.tail _ (.tail _ (.tail _ (.tail _ (.tail _ (.tail _ hpm)))))) hpv (by omega) (by rw [List.length_map]; omega) (by rw [List.length_map]; omega) fun v' d' hd9 hv9 _ => ?_
    obtain ⟨r9, hr9, rfl⟩ : ∃ c, rows[q0]? = some c ∧ d' = pairD c := by
      rw [Int.toNat_natCast, List.getElem?_map] at hd9
      obtain ⟨c, a, b⟩ := Option.map_eq_some_iff.mp hd9
      exact ⟨c, a, b.symm⟩
    obtain ⟨pa, pk, pt, pu, rfl, hpa⟩ := pair_inv hv9
    have hrow : rows.getD q0 ("", "") = r9 := by rw [List.getD_eq_getElem?_getD, hr9]; rfl
    (repeat' ((fail_if_success (with_reducible first | refine sFor ?_ | refine sCal ?_ | refine sLow ?_ | refine sIte ?_ | refine sLc ?_ | refine sSet ?_ | refine sAlc ?_ | refine sNe ?_ | refine sSub ?_ | refine sRep ?_ | refine sJoi ?_)); (fail_if_success (with_reducible show ItemsRest _ _ _ _ _ _ _ _ _ _ _ _ _ _ _)); walk_at "w2"))
    refine item_tupleT (l := [.str r9.1 pt, .str r9.2 pu]) (j := 1) (News.isTup N8 (.tail _ (.tail _ (.tail _ (.tail _ (.tail _ (.tail _ hpa))))))) (by decide) (by decide) rfl rfl ?_
    (repeat' ((fail_if_success (with_reducible first | refine sFor ?_ | refine sCal ?_ | refine sLow ?_ | refine sIte ?_ | refine sLc ?_ | refine sSet ?_ | refine sAlc ?_ | refine sNe ?_ | refine sSub ?_ | refine sRep ?_ | refine sJoi ?_)); (fail_if_success (with_reducible show ItemsRest _ _ _ _ _ _ _ _ _ _ _ _ _ _ _)); walk_at "w2"))
    (rename Fr _ _ _ _ => F8); (rename News _ _ _ _ => N8)
    have e : dueP rows ths 2 nm tx wd = (.str r9.2, [], []) := by simp [dueP, hb , hal, ← hrow]
    repeat ((rename _ ∧ _ => hh); obtain ⟨_, _⟩ := hh)
    refine hQ _ _ ?_; refine RetN.intro [(_, _), (_, _), (_, _), (_, _), (_, _), (_, _), (_, _)] F8 (fun q hq => N8 q (mem_skip2 (tl := [(_, _), (_, _), (_, _), (_, _), (_, _), (_, _), (_, _)]) hq)) (by ((repeat' (first | exact off_nil | refine off_cons ?_ ?_)) <;> (first | exact allLt_ne (by assumption) | assumption))) ?_
    rw [e]
    exact ⟨_, _, _, _, [], [], _, _, _, rfl, by ((repeat (first | exact List.Mem.head _ | apply List.Mem.tail))), by ((repeat (first | exact List.Mem.head _ | apply List.Mem.tail))), by ((repeat (first | exact List.Mem.head _ | apply List.Mem.tail))), .str _ _, .nil, .nil⟩
theorem due3 (w : World) (news : List (Addr × Obj)) (pl th : Addr) (rows : List Row) (ths : List Nat) (nm tx wd : PySem.Str) (t0 t tt tw : Tok) (hq : ∀ q ∈ ths, q < rows.length) (hlen : rows.length ≤ 1000) (hrn : ∀ r ∈ rows, r.1.cps.size ≤ 10 ∧ r.2.cps.size ≤ 100) (htl : ths.length ≤ 1000)
    (hn : nm.cps.size ≤ 10) (h1 : tx.cps.size ≤ 50) (h2 : wd.cps.size ≤ 10) (hp : DatIn news (.ref pl) (.list (rows.map pairD))) (ht : DatIn news (.ref th) (.list (ths.map fun n : Nat => .int n))) :
    GivesN w 232 5 110 [.ref pl, .ref th, .int 3 t0, .str nm t, .str tx tt, .str wd tw] news (DueOut (dueP rows ths 3 nm tx wd) news) := by
  refine' gives_cells (dd := 4) (uu := 107) [("pairs", .ref pl), ("there", .ref th), ("kind", .int 3 t0), ("name", .str nm t), ("text", .str tx tt), ("word", .str wd tw)] ?ho ?hcd ?hbind ?hkind ?hnd ?hco ?hgen ?hk ?_
  case ho => (intro P; k_is)
  case hcd => (intro P; k_is)
  case hbind => (intro s X; exact BindsTo.of_eq rfl)
  case hkind => exact rfl
  case hnd => exact of_decide_eq_true rfl
  case hco => exact rfl
  case hgen => exact rfl
  case hk => exact rfl
  intro p loose mean mg mb dp un gd outer A₀ base g L h₁ s tk cells B F X N Y T lt hd hu
  change Fr g L h₁ (fun y => if y = "word" then some (Value.str wd tw) else if y = "text" then some (Value.str tx tt) else if y = "kind" then some (Value.int 3 t0) else if y = "there" then some (Value.ref th) else none) at F
  change CellsAre _ [("name", L + 1 + 1), ("pairs", L + 1)] cells at Y
  k_cells Y
  rename_i oc1 oc2 dc1 dc2
  replace dc1 : oc1.data = .cell (some (.str nm t)) := dc1
  replace dc2 : oc2.data = .cell (some (.ref pl)) := dc2
  simp only [List.cons_append, List.nil_append] at N
  show wpAny _ (ktrTop dp un gd _ sc17 L 232 (.ref 231) [("name", L + 1 + 1), ("pairs", L + 1)] outer) (execs bd17 (envX _ sc17 L 232 (.ref 231) [("name", L + 1 + 1), ("pairs", L + 1)])) _ _ _
  refine opaqueU ?_
  intro QQ hQ AA ee
  refine due_pre (kd := 3) hq hlen hrn htl hn hp ht B F X T N dc1 dc2 lt hd hu (fun hb v s' hr => hQ v s' (by
    have e : dueP rows ths 3 nm tx wd = (refD, [], []) := by unfold dueP; rw [hb, if_pos rfl]
    rw [e]; exact hr)) fun hb ys D0 RL tr h9 tk9 F9 N9 off7 lRL hys => ?_
  clear F N AA ee
  with_reducible refine ctx_execs ?_
  intro AA ee
  have dY : ys.length = (alikeP rows ths nm).length := by rw [hys.length, List.length_map]
  have h1' : tx.length ≤ 50 := h1
  have h2' : wd.length ≤ 10 := h2
  have k1 : (PySem.Str.ofString "; by-1").length = 6 := by decide +kernel
  have k2 : (PySem.Str.ofString "=\"").length = 2 := by decide +kernel
  have k3 : (PySem.Str.ofString "\\").length = 1 := by decide +kernel
  have k4 : (PySem.Str.ofString "\"").length = 1 := by decide +kernel
  have k5 : (PySem.Str.ofString "").length = 0 := by decide +kernel
  (repeat' ((fail_if_success (with_reducible first | refine sFor ?_ | refine sCal ?_ | refine sLow ?_ | refine sIte ?_ | refine sLc ?_ | refine sSet ?_ | refine sAlc ?_ | refine sNe ?_ | refine sSub ?_ | refine sRep ?_ | refine sJoi ?_)); (fail_if_success (with_reducible show ItemsRest _ _ _ _ _ _ _ _ _ _ _ _ _ _ _)); walk_at "w2"))
  · (rename Fr _ _ _ _ => F8); (rename News _ _ _ _ => N8)
    have e : dueP rows ths 3 nm tx wd = (.none, alikeP rows ths nm, []) := by simp [dueP, hb ]
    repeat ((rename _ ∧ _ => hh); obtain ⟨_, _⟩ := hh)
    refine hQ _ _ ?_; refine RetN.intro [(_, _), (_, _), (_, _), (_, _)] F8 (fun q hq => N8 q (mem_skip2 (tl := [(_, _), (_, _), (_, _), (_, _)]) hq)) (by ((repeat' (first | exact off_nil | refine off_cons ?_ ?_)) <;> (first | exact allLt_ne (by assumption) | assumption))) ?_
    rw [e]
    exact ⟨_, _, _, _, ys, [], _, _, _, rfl, by ((repeat (first | exact List.Mem.head _ | apply List.Mem.tail))), by ((repeat (first | exact List.Mem.head _ | apply List.Mem.tail))), by ((repeat (first | exact List.Mem.head _ | apply List.Mem.tail))), .none, hys, .nil⟩
end TDue
section TPlain1
open PySem PySem.W PySem.Calls PyProof.Rows PyProof.V PySem.Spec
noncomputable def stepE (D : List (Nat × Bool)) (e : LE) : List (Nat × Bool) := toldStep D e.2.1 e.2.2
theorem toldD_pass {x : List Nat} : ∀ {pre rest : List LE} {D : List (Nat × Bool)}, (∀ e ∈ pre, cLt x e.1 = false) → toldD (pre ++ rest) x D = toldD rest x (pre.foldl stepE D)
  | [], _, _, _ => rfl
  | e :: pre, rest, D, h => by
    rw [List.cons_append, toldD_cons, h e (.head _), if_neg Bool.false_ne_true]
    exact toldD_pass fun e' he => h e' (.tail _ he)
theorem toldD_end {x : List Nat} : ∀ {rest : List LE} {D : List (Nat × Bool)}, (∀ e ∈ rest, cLt x e.1 = true) → toldD rest x D = D
  | [], _, _ => rfl
  | e :: rest, D, h => by rw [toldD_cons, h e (.head _), if_pos rfl]
theorem toldD_cut {x : List Nat} : ∀ {pre a b : List LE} {D : List (Nat × Bool)}, (∀ e ∈ a, cLt x e.1 = true) → (∀ e ∈ b, cLt x e.1 = true) → toldD (pre ++ a) x D = toldD (pre ++ b) x D
  | [], a, b, D, ha, hb => by rw [List.nil_append, List.nil_append, toldD_end ha, toldD_end hb]
  | e :: pre, a, b, D, ha, hb => by
    rw [List.cons_append, List.cons_append, toldD_cons, toldD_cons]
    cases h : cLt x e.1 with
    | true => rw [if_pos rfl, if_pos rfl]
    | false => rw [if_neg Bool.false_ne_true, if_neg Bool.false_ne_true]; exact toldD_cut ha hb
noncomputable def keysD (D : List (Nat × Bool)) : List Nat := D.map (·.1)
/-- a key that is off stands somewhere more -/
noncomputable def MoreOff (k : Nat) (D D' : List (Nat × Bool)) : Prop := ∃ a b, D = a ++ b ∧ D' = a ++ (k, false) :: b
theorem MoreOff.told {k : Nat} {D D' : List (Nat × Bool)} (h : MoreOff k D D') : (D'.filter (·.2)) = D.filter (·.2) := by
  obtain ⟨a, b, rfl, rfl⟩ := h
  simp
theorem MoreOff.step {k w : Nat} {b : Bool} {D D' : List (Nat × Bool)} (h : MoreOff k D D') (hw : w ≠ k) : MoreOff k (toldStep D w b) (toldStep D' w b) := by
  obtain ⟨p, q, rfl, rfl⟩ := h
  unfold toldStep
  have e : ((p ++ (k, false) :: q).any fun p => decide (p.1 = w)) = ((p ++ q).any fun p => decide (p.1 = w)) := by
    simp [Ne.symm hw]
  rw [e]
  split
  · refine ⟨p.map fun p => if p.1 = w then (p.1, b) else p, q.map fun p => if p.1 = w then (p.1, b) else p, by rw [List.map_append], ?_⟩
    rw [List.map_append, List.map_cons, if_neg (Ne.symm hw)]
  · exact ⟨p, q ++ [(w, b)], by simp, by simp⟩
theorem MoreOff.toldD {k : Nat} {x : List Nat} : ∀ {es : List LE} {D D' : List (Nat × Bool)}, MoreOff k D D' → (∀ e ∈ es, e.2.1 ≠ k) → MoreOff k (Mine.toldD es x D) (Mine.toldD es x D')
  | [], _, _, h, _ => h
  | e :: es, D, D', h, hk => by
    rw [toldD_cons, toldD_cons]
    split
    · exact h
    · exact MoreOff.toldD (h.step (hk e (.head _))) fun e' he => hk e' (.tail _ he)
theorem toldStep_old {D : List (Nat × Bool)} {w : Nat} {b : Bool} (h : w ∈ keysD D) : toldStep D w b = D.map fun p => if p.1 = w then (p.1, b) else p := by
  unfold toldStep
  rw [if_pos]
  obtain ⟨p, hp, rfl⟩ := List.mem_map.mp h
  exact List.any_eq_true.mpr ⟨p, hp, decide_eq_true rfl⟩
theorem toldStep_new {D : List (Nat × Bool)} {w : Nat} {b : Bool} (h : w ∉ keysD D) : toldStep D w b = D ++ [(w, b)] := by
  unfold toldStep
  rw [if_neg]
  intro h'
  obtain ⟨p, hp, e⟩ := List.any_eq_true.mp h'
  exact h (List.mem_map.mpr ⟨p, hp, of_decide_eq_true e⟩)
theorem keysD_map {D : List (Nat × Bool)} {f : Nat × Bool → Bool} {P : Nat × Bool → Prop} [DecidablePred P] : keysD (D.map fun p => if P p then (p.1, f p) else p) = keysD D := by
  unfold keysD
  rw [List.map_map]
  refine List.map_congr_left fun p _ => ?_
  show (if P p then (p.1, f p) else p).1 = p.1
  split <;> rfl
noncomputable def setD (g : List Nat) (b : Bool) (D : List (Nat × Bool)) : List (Nat × Bool) := D.map fun p => if p.1 ∈ g then (p.1, b) else p
theorem keysD_setD {g : List Nat} {b : Bool} {D : List (Nat × Bool)} : keysD (setD g b D) = keysD D := keysD_map (f := fun _ => b) (P := fun p => p.1 ∈ g)
theorem fold_set {c : List Nat} {b : Bool} : ∀ {g : List Nat} {D : List (Nat × Bool)}, (∀ q ∈ g, q ∈ keysD D) → (g.map fun q => ((c, q, b) : LE)).foldl stepE D = setD g b D
  | [], D, _ => by unfold setD; simp
  | q :: g, D, h => by
    rw [List.map_cons, List.foldl_cons]
    have e1 : stepE D (c, q, b) = setD [q] b D := by
      show toldStep D q b = _
      rw [toldStep_old (h q (.head _))]
      unfold setD
      simp
    rw [e1, fold_set fun x hx => by rw [keysD_setD]; exact h x (.tail _ hx)]
    unfold setD
    rw [List.map_map]
    refine List.map_congr_left fun p _ => ?_
    by_cases h1 : p.1 = q
    · by_cases h2 : p.1 ∈ g <;> simp [h1]
    · by_cases h2 : p.1 ∈ g <;> simp [h1, h2]
noncomputable def layD (lk : List Nat) (b : Bool) : List (Nat × Bool) := lk.map fun k => (k, b)
/-- what the stamps at the opened name do -/
theorem fold_open {c : List Nat} {g lk : List Nat} {D : List (Nat × Bool)} (hg : ∀ q ∈ g, q ∈ keysD D) (hl : lk.length ≤ 1) (hn : ∀ k ∈ lk, k ∉ keysD D) :
    ((g.map fun q => ((c, q, false) : LE)) ++ lk.map fun k => ((c, k, true) : LE)).foldl stepE D = setD g false D ++ layD lk true := by
  rw [List.foldl_append, fold_set hg]
  match lk, hl, hn with
  | [], _, _ => simp [layD]
  | [k], _, hn =>
    show toldStep _ k true = _
    rw [toldStep_new (by rw [keysD_setD]; exact hn k (.head _))]
    rfl
theorem setD_back {g : List Nat} {D : List (Nat × Bool)} (h : ∀ p ∈ D, p.1 ∈ g → p.2 = true) : setD g true (setD g false D) = D := by
  unfold setD
  rw [List.map_map]
  refine (List.map_congr_left fun p hp => ?_).trans (List.map_id _)
  show (if (if p.1 ∈ g then (p.1, false) else p).1 ∈ g then ((if p.1 ∈ g then (p.1, false) else p).1, true) else (if p.1 ∈ g then (p.1, false) else p)) = p
  by_cases h1 : p.1 ∈ g
  · rw [if_pos h1]
    rw [if_pos h1]
    exact Prod.ext rfl (h p hp h1).symm
  · rw [if_neg h1, if_neg h1]
/-- what the stamps at the closed name do behind those at the opened one -/
theorem fold_close {c : List Nat} {g lk : List Nat} {D : List (Nat × Bool)} (hg : ∀ q ∈ g, q ∈ keysD D) (hon : ∀ p ∈ D, p.1 ∈ g → p.2 = true) (hl : lk.length ≤ 1) (hn : ∀ k ∈ lk, k ∉ keysD D) :
    ((g.map fun q => ((c, q, true) : LE)) ++ lk.map fun k => ((c, k, false) : LE)).foldl stepE (setD g false D ++ layD lk true) = D ++ layD lk false := by
  have e : setD g true (setD g false D ++ layD lk true) = D ++ layD lk true := by
    have h1 := setD_back hon
    unfold setD at h1 ⊢
    rw [List.map_append, h1]
    congr 1
    refine (List.map_congr_left fun p hp => ?_).trans (List.map_id _)
    obtain ⟨k, hk, rfl⟩ := List.mem_map.mp hp
    exact if_neg fun h => hn k hk (hg k h)
  have hk : ∀ q ∈ g, q ∈ keysD (setD g false D ++ layD lk true) := fun q hq => by
    unfold keysD
    rw [List.map_append]
    refine List.mem_append.mpr (.inl ?_)
    have := keysD_setD (g := g) (b := false) (D := D)
    unfold keysD at this
    rw [this]
    exact hg q hq
  have e0 : (g.map fun q => ((c, q, true) : LE)).foldl stepE (setD g false D ++ layD lk true) = setD g true (setD g false D ++ layD lk true) := fold_set hk
  rw [List.foldl_append, e0, e]
  match lk, hl, hn with
  | [], _, _ => rfl
  | [k], _, hn =>
    show toldStep _ k false = _
    rw [toldStep_old (by simp [keysD, layD])]
    rw [List.map_append]
    congr 1
    · refine (List.map_congr_left fun p hp => ?_).trans (List.map_id _)
      exact if_neg fun h => hn k (.head _) (List.mem_map.mpr ⟨p, hp, h⟩)
    · simp [layD]
noncomputable def openL (c g lk : List Nat) : List LE := (g.map fun q => ((c, q, false) : LE)) ++ lk.map fun k => ((c, k, true) : LE)
noncomputable def closeL (c g lk : List Nat) : List LE := (g.map fun q => ((c ++ [13], q, true) : LE)) ++ lk.map fun k => ((c ++ [13], k, false) : LE)
theorem openL_at {c g lk : List Nat} {e : LE} (h : e ∈ openL c g lk) : e.1 = c := by
  rcases List.mem_append.mp h with h | h <;> (obtain ⟨_, _, rfl⟩ := List.mem_map.mp h; rfl)
theorem closeL_at {c g lk : List Nat} {e : LE} (h : e ∈ closeL c g lk) : e.1 = c ++ [13] := by
  rcases List.mem_append.mp h with h | h <;> (obtain ⟨_, _, rfl⟩ := List.mem_map.mp h; rfl)
noncomputable def onD (D : List (Nat × Bool)) : List Nat := (D.filter (·.2)).map (·.1)
theorem onD_set {g : List Nat} : ∀ D : List (Nat × Bool), onD (setD g false D) = (onD D).filter fun q => q ∉ g
  | [] => rfl
  | (q, b) :: D => by
    have ih := onD_set (g := g) D
    unfold onD setD at ih ⊢
    by_cases h : q ∈ g <;> cases b <;> simp [h, List.filter_cons] at ih ⊢ <;> exact ih
theorem toldP_on (es : List LE) (x : List Nat) : toldP es x = onD (toldD es x []) := rfl
section
variable {pre post : List LE} {c g lk x : List Nat}
theorem told_less (h1 : cLt x c = true) (h2 : cLt x (c ++ [13]) = true) (h3 : ∀ e ∈ post, cLt x e.1 = true) : toldP (pre ++ (openL c g lk ++ (closeL c g lk ++ post))) x = toldP (pre ++ post) x := by
  rw [toldP_on, toldP_on, toldD_cut (fun e he => ?_) h3]
  rcases List.mem_append.mp he with he | he
  · rw [openL_at he]; exact h1
  · rcases List.mem_append.mp he with he | he
    · rw [closeL_at he]; exact h2
    · exact h3 e he
theorem told_here (h0 : ∀ e ∈ pre, cLt x e.1 = false) (h1 : cLt x c = false) (h2 : cLt x (c ++ [13]) = true) (h3 : ∀ e ∈ post, cLt x e.1 = true)
    (hg : ∀ q ∈ g, q ∈ keysD (pre.foldl stepE [])) (hl : lk.length ≤ 1) (hn : ∀ k ∈ lk, k ∉ keysD (pre.foldl stepE [])) :
    toldP (pre ++ (openL c g lk ++ (closeL c g lk ++ post))) x = (onD (pre.foldl stepE [])).filter (fun q => q ∉ g) ++ lk := by
  rw [toldP_on, toldD_pass h0, toldD_pass fun e he => by rw [openL_at he]; exact h1, toldD_end fun e he => ?_]
  · unfold openL
    rw [fold_open hg hl hn]
    have := onD_set (g := g) (pre.foldl stepE [])
    unfold onD at this ⊢
    rw [List.filter_append, List.map_append, this]
    congr 1
    unfold layD
    simp [List.filter_map, Function.comp_def]
  · rcases List.mem_append.mp he with he | he
    · rw [closeL_at he]; exact h2
    · exact h3 e he
theorem told_more (h0 : ∀ e ∈ pre, cLt x e.1 = false) (h1 : cLt x c = false) (h2 : cLt x (c ++ [13]) = false) (hg : ∀ q ∈ g, q ∈ keysD (pre.foldl stepE [])) (hon : ∀ p ∈ pre.foldl stepE [], p.1 ∈ g → p.2 = true)
    (hl : lk.length ≤ 1) (hn : ∀ k ∈ lk, k ∉ keysD (pre.foldl stepE [])) (hp : ∀ e ∈ post, ∀ k ∈ lk, e.2.1 ≠ k) :
    toldP (pre ++ (openL c g lk ++ (closeL c g lk ++ post))) x = toldP (pre ++ post) x := by
  rw [toldP_on, toldP_on, toldD_pass h0, toldD_pass h0, toldD_pass fun e he => by rw [openL_at he]; exact h1, toldD_pass fun e he => by rw [closeL_at he]; exact h2]
  unfold openL closeL
  rw [fold_open hg hl hn, fold_close hg hon hl hn]
  match lk, hl, hp with
  | [], _, _ => simp [layD]
  | [k], _, hp =>
    exact congrArg (List.map (·.1)) (MoreOff.toldD (k := k) ⟨pre.foldl stepE [], [], by rw [List.append_nil], rfl⟩ fun e he => hp e he k (.head _)).told
end
end TPlain1
section TPlain2
open PySem PySem.W PySem.Calls PyProof.Rows PyProof.V PySem.Spec
theorem cLt_nil (l : List Nat) : cLt l [] = false := by cases l <;> rfl
theorem cLt_app : ∀ {x c : List Nat} (s : List Nat), cLt x c = true → cLt x (c ++ s) = true
  | x, [], s, h => by rw [cLt_nil] at h; cases h
  | [], a :: c, s, h => rfl
  | b :: x, a :: c, s, h => by
    unfold cLt at h
    show (if b = a then cLt x (c ++ s) else decide (b < a)) = true
    split
    · rename_i e
      rw [if_pos e] at h
      exact cLt_app s h
    · rename_i e
      rw [if_neg e] at h
      exact h
/-- what lies from c on and ahead of c ++ [13] is made longer than c -/
theorem cLt_between : ∀ {c y : List Nat}, cLt y c = false → cLt y (c ++ [13]) = true → ∃ t, y = c ++ t ∧ ∀ z ∈ t.head?, z < 13
  | [], y, _, h2 => by
    refine ⟨y, rfl, fun z hz => ?_⟩
    cases y with
    | nil => cases hz
    | cons b y =>
      obtain rfl : b = z := Option.some.inj hz
      have h : (if b = 13 then cLt y [] else decide (b < 13)) = true := h2
      split at h
      · rw [cLt_nil] at h; cases h
      · exact of_decide_eq_true h
  | a :: c, [], h1, _ => by cases h1
  | a :: c, b :: y, h1, h2 => by
    have h1' : (if b = a then cLt y c else decide (b < a)) = false := h1
    have h2' : (if b = a then cLt y (c ++ [13]) else decide (b < a)) = true := h2
    split at h1'
    · rename_i e
      rw [if_pos e] at h2'
      obtain ⟨t, rfl, ht⟩ := cLt_between h1' h2'
      exact ⟨t, by rw [e]; rfl, ht⟩
    · rename_i e
      rw [if_neg e] at h2'
      rw [h2'] at h1'
      cases h1'
theorem cLt_here : ∀ {c t : List Nat}, (∀ z ∈ t.head?, z < 13) → cLt (c ++ t) c = false ∧ cLt (c ++ t) (c ++ [13]) = true
  | [], t, h => by
    refine ⟨cLt_nil _, ?_⟩
    cases t with
    | nil => rfl
    | cons b t =>
      have := h b rfl
      show (if b = 13 then cLt t [] else decide (b < 13)) = true
      rw [if_neg (by omega), decide_eq_true this]
  | a :: c, t, h => by
    have ih := cLt_here (c := c) h
    constructor
    · show (if a = a then cLt (c ++ t) c else _) = false
      rw [if_pos rfl]; exact ih.1
    · show (if a = a then cLt (c ++ t) (c ++ [13]) else _) = true
      rw [if_pos rfl]; exact ih.2
theorem leLt_far {a b : LE} (h : cLt a.1 b.1 = true) : leLt b a = false := by
  unfold leLt
  rw [if_neg fun e => ?_]
  · exact cLt_asym h
  · rw [e, cLt_irr] at h; cases h
theorem cLt_self (c : List Nat) : cLt c (c ++ [13]) = true := by
  have := (cLt_here (c := c) (t := []) fun z hz => by cases hz).2
  rwa [List.append_nil] at this
theorem leLt_same {c : List Nat} {p q : Nat} {x y : Bool} (h : p < q) : leLt (c, q, y) (c, p, x) = false := by
  show (if c = c then (if q = p then (!y && x) else decide (q < p)) else cLt c c) = false
  rw [if_pos rfl, if_neg (by omega)]
  exact decide_eq_false (by omega)
theorem stamps_srt {c : List Nat} {x y : Bool} {g lk : List Nat} (hg : g.Pairwise (· < ·)) (hk : ∀ q ∈ g, ∀ k ∈ lk, q < k) (hl : lk.length ≤ 1) : Srt ((g.map fun q => ((c, q, x) : LE)) ++ lk.map fun k => ((c, k, y) : LE)) := by
  refine List.pairwise_append.mpr ⟨List.pairwise_map.mpr (hg.imp fun h => leLt_same h), ?_, ?_⟩
  · match lk, hl with
    | [], _ => exact List.Pairwise.nil
    | [k], _ => exact List.pairwise_singleton _ _
  · intro a ha b hb
    obtain ⟨q, hq, rfl⟩ := List.mem_map.mp ha
    obtain ⟨k, hk', rfl⟩ := List.mem_map.mp hb
    exact leLt_same (hk q hq k hk')
/-- the line behind a new release -/
theorem line_form {line : List LE} {c g lk : List Nat} (hs : Srt line) (no : ∀ e ∈ line, cLt e.1 c = true ∨ cLt (c ++ [13]) e.1 = true) (hg : g.Pairwise (· < ·)) (hk : ∀ q ∈ g, ∀ k ∈ lk, q < k) (hl : lk.length ≤ 1) :
    ∃ pre post, line = pre ++ post ∧ (∀ e ∈ pre, cLt e.1 c = true) ∧ (∀ e ∈ post, cLt (c ++ [13]) e.1 = true) ∧
      ∀ st : List LE, st.Perm (line ++ (openL c g lk ++ closeL c g lk)) → sortE st = pre ++ (openL c g lk ++ (closeL c g lk ++ post)) := by
  have h1 : ∀ e ∈ line.filter (fun e => cLt e.1 c), cLt e.1 c = true := fun e he => (List.mem_filter.mp he).2
  have h2 : ∀ e ∈ line.filter (fun e => !cLt e.1 c), cLt (c ++ [13]) e.1 = true := fun e he => by
    obtain ⟨a, b⟩ := List.mem_filter.mp he
    rcases no e a with h | h
    · rw [h] at b; cases b
    · exact h
  have p1 : (line.filter (fun e => cLt e.1 c) ++ line.filter (fun e => !cLt e.1 c)).Perm line := List.filter_append_perm _ _
  have s1 : Srt (line.filter (fun e => cLt e.1 c)) := List.Pairwise.filter _ hs
  have s2 : Srt (line.filter (fun e => !cLt e.1 c)) := List.Pairwise.filter _ hs
  have far : ∀ a ∈ line.filter (fun e => cLt e.1 c), ∀ b ∈ line.filter (fun e => !cLt e.1 c), leLt b a = false := fun a ha b hb => leLt_far (cLt_trans (h1 a ha) (cLt_trans (cLt_self c) (h2 b hb)))
  have e1 : line = line.filter (fun e => cLt e.1 c) ++ line.filter (fun e => !cLt e.1 c) := srt_uniq p1.symm hs (List.pairwise_append.mpr ⟨s1, s2, far⟩)
  refine ⟨_, _, e1, h1, h2, fun st hst => sortE_eq ?_ ?_⟩
  · generalize line.filter (fun e => cLt e.1 c) = pre at *
    generalize line.filter (fun e => !cLt e.1 c) = post at *
    refine List.Perm.trans ?_ hst.symm
    rw [e1, List.append_assoc]
    refine List.Perm.append_left _ ?_
    rw [← List.append_assoc]
    exact List.perm_append_comm
  · refine List.pairwise_append.mpr ⟨s1, List.pairwise_append.mpr ⟨stamps_srt hg hk hl, List.pairwise_append.mpr ⟨stamps_srt hg hk hl, s2, ?_⟩, ?_⟩, ?_⟩
    · intro a ha b hb
      exact leLt_far (by rw [closeL_at ha]; exact h2 b hb)
    · intro a ha b hb
      refine leLt_far ?_
      rw [openL_at ha]
      rcases List.mem_append.mp hb with hb | hb
      · rw [closeL_at hb]; exact cLt_self c
      · exact cLt_trans (cLt_self c) (h2 b hb)
    · intro a ha b hb
      refine leLt_far ?_
      rcases List.mem_append.mp hb with hb | hb
      · rw [openL_at hb]; exact h1 a ha
      · rcases List.mem_append.mp hb with hb | hb
        · rw [closeL_at hb]; exact cLt_trans (h1 a ha) (cLt_self c)
        · exact cLt_trans (h1 a ha) (cLt_trans (cLt_self c) (h2 b hb))
end TPlain2
section TPlain3
open PySem PySem.W PySem.Calls PyProof.Rows PyProof.V PySem.Spec
structure TreeOk (made : List (List Nat)) : Prop where
  root : made[0]? = some []
  up : ∀ p z, p ++ [z] ∈ made → p ∈ made
  small : ∀ m ∈ made, ∀ c ∈ m, c < 13
theorem TreeOk.ups {made : List (List Nat)} (T : TreeOk made) : ∀ {s p : List Nat}, p ++ s ∈ made → p ∈ made
  | [], p, h => by rwa [List.append_nil] at h
  | z :: s, p, h => T.up p z (T.ups (s := s) (by rw [List.append_assoc]; exact h))
theorem TreeOk.off {made : List (List Nat)} (T : TreeOk made) {b p t : List Nat} {z0 : Nat} (hb : b ∈ made) (hc : b ++ [z0] ∉ made) (hp : p ∈ made) (hz : ∀ z, t.head? = some z → p ++ [z] ∉ made ∧ p ++ [z] ≠ b ++ [z0]) : ∀ s, p ++ t ≠ (b ++ [z0]) ++ s := by
  intro s e
  rcases List.append_eq_append_iff.mp e with ⟨a, h1, h2⟩ | ⟨a, h1, h2⟩
  · cases a with
    | nil => rw [List.append_nil] at h1; exact hc (h1 ▸ hp)
    | cons z a =>
      have hh := hz z (by rw [h2]; rfl)
      rcases List.eq_nil_or_concat a with rfl | ⟨a', y, rfl⟩
      · exact hh.2 h1.symm
      · have h3 : b ++ [z0] = (p ++ z :: a') ++ [y] := by rw [h1]; simp
        obtain ⟨h4, _⟩ := List.append_inj' h3 rfl
        refine hh.1 (T.ups (s := a') ?_)
        rw [List.append_assoc]
        show p ++ z :: a' ∈ made
        rw [← h4]
        exact hb
  · rw [h1] at hp
    exact hc (T.ups hp)
theorem TreeOk.grow {made : List (List Nat)} (T : TreeOk made) {b : List Nat} {z0 : Nat} (hb : b ∈ made) (hz : z0 < 13) : TreeOk (made ++ [b ++ [z0]]) where
  root := by
    rw [List.getElem?_append_left]
    · exact T.root
    · exact (List.getElem?_eq_some_iff.mp T.root).1
  up := fun p z h => by
    rcases List.mem_append.mp h with h | h
    · exact List.mem_append.mpr (.inl (T.up p z h))
    · obtain ⟨h4, _⟩ := List.append_inj' (List.mem_singleton.mp h) rfl
      rw [h4]
      exact List.mem_append.mpr (.inl hb)
  small := fun m hm c hc => by
    rcases List.mem_append.mp hm with h | h
    · exact T.small m h c hc
    · rw [List.mem_singleton.mp h] at hc
      rcases List.mem_append.mp hc with h | h
      · exact T.small b hb c h
      · rw [List.mem_singleton.mp h]; exact hz
/-- no stamp of the line lies from a new name to its end -/
theorem TreeOk.free {made : List (List Nat)} (T : TreeOk made) {line : List LE} (hl : ∀ e ∈ line, ∃ m ∈ made, e.1 = m ∨ e.1 = m ++ [13]) {c : List Nat} (hc : c ∉ made) (hs : ∀ z ∈ c, z < 13) : ∀ e ∈ line, cLt e.1 c = true ∨ cLt (c ++ [13]) e.1 = true := by
  intro e he
  cases h1 : cLt e.1 c with
  | true => exact .inl rfl
  | false =>
    right
    cases h2 : cLt e.1 (c ++ [13]) with
    | true =>
      exfalso
      obtain ⟨t, ht, hz⟩ := cLt_between h1 h2
      obtain ⟨m, hm, hem | hem⟩ := hl e he
      · exact hc (T.ups (s := t) (by rw [← ht, hem]; exact hm))
      · rw [hem] at ht
        rcases List.eq_nil_or_concat t with rfl | ⟨t', y, rfl⟩
        · rw [List.append_nil] at ht
          have := hs 13 (by rw [← ht]; exact List.mem_append.mpr (.inr (.head _)))
          omega
        · have h3 : m ++ [13] = (c ++ t') ++ [y] := by rw [ht]; simp
          obtain ⟨h4, _⟩ := List.append_inj' h3 rfl
          exact hc (T.ups (s := t') (h4 ▸ hm))
    | false =>
      cases h3 : cLt (c ++ [13]) e.1 with
      | true => rfl
      | false =>
        exfalso
        have h5 := cLt_tri h2 h3
        obtain ⟨m, hm, hem | hem⟩ := hl e he
        · have := T.small m hm 13 (by rw [← hem, h5]; exact List.mem_append.mpr (.inr (.head _)))
          omega
        · rw [h5] at hem
          obtain ⟨h4, _⟩ := List.append_inj' hem rfl
          exact hc (h4 ▸ hm)
theorem keysD_step {D : List (Nat × Bool)} {w : Nat} {b : Bool} : keysD (toldStep D w b) = if w ∈ keysD D then keysD D else keysD D ++ [w] := by
  split
  · rename_i h
    rw [toldStep_old h]
    exact keysD_map (f := fun _ => b) (P := fun p => p.1 = w)
  · rename_i h
    rw [toldStep_new h]
    unfold keysD
    rw [List.map_append]
    rfl
theorem keysD_fold {n : Nat} : ∀ {es : List LE} {D : List (Nat × Bool)}, (∀ e ∈ es, e.2.1 < n) → (keysD D).Nodup → (∀ q ∈ keysD D, q < n) → (keysD (es.foldl stepE D)).Nodup ∧ ∀ q ∈ keysD (es.foldl stepE D), q < n
  | [], D, _, h1, h2 => ⟨h1, h2⟩
  | e :: es, D, h, h1, h2 => by
    refine keysD_fold (es := es) (fun e' he => h e' (.tail _ he)) ?_ ?_
    · show (keysD (toldStep D e.2.1 e.2.2)).Nodup
      rw [keysD_step]
      split
      · exact h1
      · rename_i hn
        exact List.nodup_append.mpr ⟨h1, List.pairwise_singleton _ _, fun a ha b hb => by rw [List.mem_singleton.mp hb]; exact fun e => hn (e ▸ ha)⟩
    · show ∀ q ∈ keysD (toldStep D e.2.1 e.2.2), q < n
      rw [keysD_step]
      split
      · exact h2
      · intro q hq
        rcases List.mem_append.mp hq with hq | hq
        · exact h2 q hq
        · rw [List.mem_singleton.mp hq]; exact h e (.head _)
theorem onD_key {D : List (Nat × Bool)} {q : Nat} (h : q ∈ onD D) : q ∈ keysD D := by
  obtain ⟨p, hp, rfl⟩ := List.mem_map.mp h
  exact List.mem_map.mpr ⟨p, (List.mem_filter.mp hp).1, rfl⟩
theorem nodup_inj : ∀ {D : List (Nat × Bool)}, (keysD D).Nodup → ∀ {p q : Nat × Bool}, p ∈ D → q ∈ D → p.1 = q.1 → p = q
  | [], _, _, _, hp, _, _ => nomatch hp
  | x :: D, h, p, q, hp, hq, e => by
    obtain ⟨h1, h2⟩ := List.nodup_cons.mp (show (x.1 :: keysD D).Nodup from h)
    rcases List.mem_cons.mp hp with e1 | k1
    · rcases List.mem_cons.mp hq with e2 | k2
      · exact e1.trans e2.symm
      · exact (h1 (List.mem_map.mpr ⟨q, k2, by rw [← e, e1]⟩)).elim
    · rcases List.mem_cons.mp hq with e2 | k2
      · exact (h1 (List.mem_map.mpr ⟨p, k1, by rw [e, e2]⟩)).elim
      · exact nodup_inj h2 k1 k2 e
theorem onD_on {D : List (Nat × Bool)} (hn : (keysD D).Nodup) {q : Nat} (h : q ∈ onD D) : ∀ p ∈ D, p.1 = q → p.2 = true := by
  intro p hp e
  obtain ⟨p', hp', e'⟩ := List.mem_map.mp h
  obtain ⟨a, b⟩ := List.mem_filter.mp hp'
  have : p = p' := by
    exact nodup_inj hn hp a (e.trans e'.symm)
  rw [this]; exact b
noncomputable def ToldIs (line : List LE) (made idx : List (List Nat)) : Prop :=
  idx.length = made.length ∧ ∀ (k : Nat) (p l t : List Nat), made[k]? = some p → idx[k]? = some l → (∀ z ∈ t, z < 13) → (∀ z, t.head? = some z → p ++ [z] ∉ made) → toldP line (p ++ t) = l
noncomputable def Stamps (line : List LE) (made : List (List Nat)) (n : Nat) : Prop := (∀ e ∈ line, ∃ m ∈ made, e.1 = m ∨ e.1 = m ++ [13]) ∧ ∀ e ∈ line, e.2.1 < n
theorem told_step {line : List LE} {made idx : List (List Nat)} {n base : Nat} {b lb g lk : List Nat} {z0 : Nat} (T : TreeOk made) (S : Srt line) (W : Stamps line made n) (I : ToldIs line made idx) (hb : made[base]? = some b) (hlb : idx[base]? = some lb) (hz0 : z0 < 13)
    (hc : b ++ [z0] ∉ made) (hg : ∀ q ∈ g, q ∈ lb) (hgs : g.Pairwise (· < ·)) (hlk : lk = [] ∨ lk = [n]) {st : List LE} (hst : st.Perm (line ++ (openL (b ++ [z0]) g lk ++ closeL (b ++ [z0]) g lk))) :
    ToldIs (sortE st) (made ++ [b ++ [z0]]) (idx ++ [lb.filter (fun q => q ∉ g) ++ lk]) := by
  have hbm : b ∈ made := List.mem_of_getElem? hb
  have hcs : ∀ z ∈ b ++ [z0], z < 13 := fun z hz => by
    rcases List.mem_append.mp hz with h | h
    · exact T.small b hbm z h
    · rw [List.mem_singleton.mp h]; exact hz0
  have hll : lk.length ≤ 1 := by rcases hlk with rfl | rfl <;> simp
  have hlt : ∀ k ∈ lk, k = n := by rcases hlk with rfl | rfl <;> simp
  have hlc : toldP line (b ++ [z0]) = lb := I.2 base b lb [z0] hb hlb (fun z hz => by rw [List.mem_singleton.mp hz]; exact hz0) fun z hz => by
    obtain rfl : z0 = z := Option.some.inj hz
    exact hc
  have free := T.free W.1 hc hcs
  have key : ∀ pre post : List LE, line = pre ++ post → (∀ e ∈ pre, cLt e.1 (b ++ [z0]) = true) → (∀ e ∈ post, cLt (b ++ [z0] ++ [13]) e.1 = true) → toldD line (b ++ [z0]) [] = pre.foldl stepE [] := by
    rintro pre post rfl h1 h2
    rw [toldD_pass fun e he => cLt_asym (h1 e he), toldD_end fun e he => cLt_trans (cLt_self _) (h2 e he)]
  have hgk : ∀ q ∈ g, ∀ k ∈ lk, q < k := by
    intro q hq k hk
    rw [hlt k hk]
    have h1 := hg q hq
    rw [← hlc, toldP_on] at h1
    obtain ⟨pre, post, e1, h2, h3, _⟩ := line_form (g := []) (lk := []) S free .nil (fun _ h => nomatch h) (Nat.zero_le _)
    rw [key pre post e1 h2 h3] at h1
    exact (keysD_fold (n := n) (es := pre) (D := []) (fun e he => W.2 e (e1 ▸ List.mem_append.mpr (.inl he))) .nil (fun _ h => nomatch h)).2 q (onD_key h1)
  obtain ⟨pre, post, e1, h2, h3, h4⟩ := line_form S free hgs hgk hll
  have hD := key pre post e1 h2 h3
  have hlb' : onD (pre.foldl stepE []) = lb := by rw [← hD, ← toldP_on]; exact hlc
  have hk := keysD_fold (n := n) (es := pre) (D := []) (fun e he => W.2 e (e1 ▸ List.mem_append.mpr (.inl he))) .nil (fun _ h => nomatch h)
  have hgK : ∀ q ∈ g, q ∈ keysD (pre.foldl stepE []) := fun q hq => onD_key (by rw [hlb']; exact hg q hq)
  have hon : ∀ p ∈ pre.foldl stepE [], p.1 ∈ g → p.2 = true := fun p hp h => onD_on hk.1 (by rw [hlb']; exact hg _ h) p hp rfl
  have hnk : ∀ k ∈ lk, k ∉ keysD (pre.foldl stepE []) := fun k hk' h => by
    have := hk.2 k h
    rw [hlt k hk'] at this
    omega
  rw [h4 st hst]
  refine ⟨by rw [List.length_append, List.length_append, I.1]; rfl, fun k p l t hp hl ht hz => ?_⟩
  by_cases hkl : k < made.length
  · rw [List.getElem?_append_left hkl] at hp
    rw [List.getElem?_append_left (by rw [I.1]; exact hkl)] at hl
    have old : toldP line (p ++ t) = l := I.2 k p l t hp hl ht fun z h hm => hz z h (List.mem_append.mpr (.inl hm))
    have off := T.off (t := t) hbm hc (List.mem_of_getElem? hp) fun z h => ⟨fun hm => hz z h (List.mem_append.mpr (.inl hm)), fun e => hz z h (List.mem_append.mpr (.inr (List.mem_singleton.mpr e)))⟩
    rw [← old, e1]
    cases h5 : cLt (p ++ t) (b ++ [z0]) with
    | true =>
      exact told_less h5 (cLt_app _ h5) fun e he => cLt_trans (cLt_app _ h5) (h3 e he)
    | false =>
      have h6 : cLt (p ++ t) (b ++ [z0] ++ [13]) = false := by
        cases h7 : cLt (p ++ t) (b ++ [z0] ++ [13]) with
        | false => rfl
        | true =>
          obtain ⟨s, hs, _⟩ := cLt_between h5 h7
          exact (off s hs).elim
      refine told_more (fun e he => ?_) h5 h6 hgK hon hll hnk fun e he k hk' => ?_
      · cases h7 : cLt (p ++ t) e.1 with
        | false => rfl
        | true => rw [cLt_trans h7 (h2 e he)] at h5; cases h5
      · rw [hlt k hk']
        have := W.2 e (e1 ▸ List.mem_append.mpr (.inr he))
        omega
  · have hkn : k = made.length := by
      have := (List.getElem?_eq_some_iff.mp hp).1
      rw [List.length_append] at this
      simp at this
      omega
    subst hkn
    have e2 : b ++ [z0] = p := by simpa using hp
    have e3 : lb.filter (fun q => q ∉ g) ++ lk = l := by
      rw [← I.1] at hl
      simpa using hl
    rw [← e2, ← e3, ← hlb']
    have hh := cLt_here (c := b ++ [z0]) (t := t) fun z hz' => ht z (List.mem_of_mem_head? hz')
    refine told_here (fun e he => ?_) hh.1 hh.2 (fun e he => cLt_trans hh.2 (h3 e he)) hgK hll hnk
    cases h7 : cLt (b ++ [z0] ++ t) e.1 with
    | false => rfl
    | true =>
      have h8 := cLt_trans h7 (h2 e he)
      rw [hh.1] at h8
      cases h8
end TPlain3
section TGrA
open PySem PySem.W PySem.Calls PyProof.Rows PyProof.V PySem.Spec
set_option maxRecDepth 100000
set_option maxHeartbeats 1500000
set_option pp.maxSteps 12000
noncomputable def gb (i : Nat) : Stmt := (forBody s18_4).getD i default
noncomputable abbrev gbL : List Stmt := [gb 0, gb 1, gb 2, gb 3, gb 4, gb 5, gb 6, gb 7, gb 8, gb 9, gb 10, gb 11, gb 12, gb 13, gb 14, gb 15, gb 16, gb 17, gb 18, gb 19]
theorem gb_is : forBody s18_4 = gbL := by rfl
noncomputable def baseOf (n len : Nat) : Nat := n / 100 % 10 % len
theorem fdivN (a b : Nat) : Int.fdiv (a : Int) (b : Int) = ((a / b : Nat) : Int) := by
  rw [Int.fdiv_eq_ediv_of_nonneg _ (Int.natCast_nonneg b)]; rfl
theorem fmodN (a b : Nat) : Int.fmod (a : Int) (b : Int) = ((a % b : Nat) : Int) := by
  rw [Int.fmod_eq_emod_of_nonneg _ (Int.natCast_nonneg b)]; rfl
theorem baseI (n l : Nat) : (((n : Int).fdiv 100).fmod 10).fmod (l : Int) = ((baseOf n l : Nat) : Int) := by
  rw [show (100 : Int) = ((100 : Nat) : Int) from rfl, show (10 : Int) = ((10 : Nat) : Int) from rfl, fdivN, fmodN, fmodN]; rfl
theorem codeI (n : Nat) : ((n : Int).fmod 100).fmod 13 = ((n % 100 % 13 : Nat) : Int) := by
  rw [show (100 : Int) = ((100 : Nat) : Int) from rfl, show (13 : Int) = ((13 : Nat) : Int) from rfl, fmodN, fmodN]
theorem baseOf_lt {n l : Nat} (h : 1 ≤ l) : baseOf n l < l := Nat.mod_lt _ h
theorem codes_inv {R : List (Addr × Obj)} {made : List (List Nat)} {b : Nat} {v : Value} {d : Dat} (e : (made.map codesD)[((b : Nat) : Int).toNat]? = some d) (h : DatIn R v d) :
    ∃ a as n, v = .ref a ∧ (a, listOf (List.toArray as) n) ∈ R ∧ DatAll R as ((made.getD b []).map fun n : Nat => .int n) := by
  rw [Int.toNat_natCast, List.getElem?_map] at e
  obtain ⟨c, hc, rfl⟩ := Option.map_eq_some_iff.mp e
  obtain ⟨a, rfl⟩ := ref_of_list h
  obtain ⟨as, n, h1, h2⟩ := dat_list_inv h
  refine ⟨a, as, n, rfl, h1, ?_⟩
  rw [List.getD_eq_getElem?_getD, hc]
  exact h2
theorem ints_only {R R' : List (Addr × Obj)} : ∀ {vs : List Value} {cs : List Nat}, DatAll R vs (cs.map fun n : Nat => .int n) → DatAll R' vs (cs.map fun n : Nat => .int n)
  | _, [], h => by cases h; exact .nil
  | _, c :: cs, h => by
    cases h with
    | cons h1 h2 =>
      obtain ⟨t, rfl⟩ := int_of_dat h1
      exact .cons (.int _ _) (ints_only h2)
theorem codes_ok (c : List Nat) : kqdOk 8 (codesD c) = true := by
  show (List.all _ _) = true
  refine List.all_eq_true.mpr fun d hd => ?_
  obtain ⟨n, _, rfl⟩ := List.mem_map.mp hd
  rfl
theorem codesD_inj {a b : List Nat} (h : codesD a = codesD b) : a = b := by
  have h : a.map (fun c : Nat => Dat.int (c : Int)) = b.map fun c : Nat => Dat.int (c : Int) := by injection h
  have e := congrArg (List.map fun d : Dat => match d with | .int i => i.toNat | _ => 0) h
  simpa [List.map_map, Function.comp_def] using e
theorem codes_mem {c : List Nat} {made : List (List Nat)} : codesD c ∈ made.map codesD ↔ c ∈ made := by
  constructor
  · intro h
    obtain ⟨a, ha, e⟩ := List.mem_map.mp h
    exact codesD_inj e ▸ ha
  · exact fun h => List.mem_map.mpr ⟨c, h, rfl⟩
noncomputable def markOf (n : Nat) : Nat := n / 1000000 % 5
theorem markI (n : Nat) : ((n : Int).fdiv (10 ^ Int.toNat 6)).fmod 5 = ((markOf n : Nat) : Int) := by
  rw [show (10 ^ Int.toNat 6 : Int) = ((1000000 : Nat) : Int) from rfl, show (5 : Int) = ((5 : Nat) : Int) from rfl, fdivN, fmodN]; rfl
theorem wpC_callWith_fn1 {w : World} {A : Around} {env : Env} {pos : Pos} {a : Addr} {oc : Value} {od : Option Addr} {osl : Array (Option Value)} {fd : FuncData} {e : Expr} {rest : List Expr} {Q : Value → Shared → Prop} {E : Value → Shared → Prop} {s : Shared}
    (ho : (KK w.params).lookup a = some ⟨oc, od, .func fd, osl⟩) (h : wpAny (model PR w) A (spliced (backTo pos (starEach (e :: rest) env))) (fun vs s₁ => (KK w.params).In s₁.heap ∧ wpC (model PR w) A (call (.ref a) vs) Q E s₁) E s)
    (he : starEach (e :: rest) env = (false, eval e env) :: starEach rest env := by rfl) :
    wpC (model PR w) A (callWith pos (.ref a) [] (backTo pos (starEach (e :: rest) env)) []) Q E s := by
  rw [he] at h ⊢
  exact wpC_callWith_function (o := ⟨oc, od, .func fd, osl⟩) (fd := fd) (evalArgs_plain (wpAny_mono h (fun vs s₁ h₁ => ⟨⟨h₁.1 _ _ ho, rfl⟩, h₁.2⟩) fun _ _ x => x))
theorem mark1I (m : Nat) : ((m : Int) + 1).fmod 5 = (((m + 1) % 5 : Nat) : Int) := by
  rw [show ((m : Int) + 1) = ((m + 1 : Nat) : Int) from rfl, show (5 : Int) = ((5 : Nat) : Int) from rfl, fmodN]
theorem dat_snoc {R R' : List (Addr × Obj)} {vs : List Value} {codes : List Nat} {c k : Nat} {t : Tok} {D : Addr} (h : DatAll R vs (codes.map fun n : Nat => .int n)) : DatIn ((D, listOf (vs ++ [Value.int (c : Int) t]).toArray k) :: R') (.ref D) (codesD (codes ++ [c])) := by
  refine .list (.head _) ?_
  rw [List.map_append]
  exact (ints_only h).append (.cons (.int _ _) .nil)


variable {w : World} {p : Program} {loose : List PySem.Str} {mean : ExcName → Option Value} {mg mb : PySem.Str → Option Value} {dp un : Nat} {gd : Option (List Code)} {outer : List Env} {base g : Heap} {L : Addr} {h₁ : Heap} {s : Shared} {tk : Nat} {Q : Flow → Shared → Prop} {E : Value → Shared → Prop} {cdv : Value}
theorem seg0 {R : List (Addr × Obj)} {M : Addr} {ms : List Value} {nM n : Nat} {t : Tok} {made : List (List Nat)} {u : PySem.Str → Option Value} {A₀ : Around}
    (B : Below A₀ base outer g) (F : Fr g L h₁ (fixM [("made", .ref M), ("n", .int n t)] u)) (X : (KK w.params).In g) (T : Top p loose mean mg mb g) (N : News g L h₁ ((M, listOf ms.toArray nM) :: R)) 
    (hms : ms.length = made.length) (hl : 1 ≤ made.length ∧ made.length ≤ 20) 
    (k : ∀ h' tk' t', Fr g L h' (fun y => if y = "base" then some (.int (baseOf n made.length : Nat) t') else fixM [("made", .ref M), ("n", .int n t)] u y) → News g L h' ((M, listOf ms.toArray nM) :: R) → Q .next { s with heap := h', toks := tk' }) :
    wpAny (model PR w) (ktrTop (dp + 1) (un + 3) gd "_law_grown" sc18 L 239 cdv [] outer) (exec (gb 0) (envX "_law_grown" sc18 L 239 cdv [])) Q E { s with heap := h₁, toks := tk } := by
  with_reducible refine ctx_exec ?_
  intro AA ee
  (with_reducible refine' open_stmt ?oe ?_); (case oe => exact (rfl : gb 0 = Stmt.Assign _ _ _))
  (repeat' ((fail_if_success (with_reducible first | refine sFor ?_ | refine sCal ?_)); walk_at "w2"))
  refine len_list ⟨_, (N _ (.head _)).1, rfl, _, rfl⟩ (by rw [List.size_toArray]; omega) ?_
  rw [List.size_toArray, hms]
  (repeat' ((fail_if_success (with_reducible first | refine sFor ?_ | refine sCal ?_)); walk_at "w2"))
  (rename Fr _ _ _ _ => F9); (rename News _ _ _ _ => N9)
  rw [baseI] at F9
  exact k _ _ _ F9 N9
theorem seg1 {R : List (Addr × Obj)} {M : Addr} {ms : List Value} {nM n b : Nat} {t tb : Tok} {made : List (List Nat)} {u : PySem.Str → Option Value} {A₀ : Around}
    (B : Below A₀ base outer g) (F : Fr g L h₁ (fixM [("made", .ref M), ("n", .int n t), ("base", .int b tb)] u)) (X : (KK w.params).In g) (T : Top p loose mean mg mb g) (N : News g L h₁ ((M, listOf ms.toArray nM) :: R)) 
    (hms : DatAll R ms (made.map codesD)) (hl : 1 ≤ made.length ∧ made.length ≤ 20) (hb : b < made.length) (hcl : ∀ c ∈ made, c.length ≤ 20)
    (k : ∀ (C : Nat) cs h' tk', Fr g L h' (fun y => if y = "codes" then some (.ref C) else fixM [("made", .ref M), ("n", .int n t), ("base", .int b tb)] u y) → News g L h' ((C, listOf cs.toArray 0) :: (M, listOf ms.toArray nM) :: R) → DatAll [] cs ((made.getD b [] ++ [n % 100 % 13]).map fun n : Nat => .int n) → C ≠ M → (∀ q ∈ R, q.1 ≠ C) → Q .next { s with heap := h', toks := tk' }) :
    wpAny (model PR w) (ktrTop (dp + 1) (un + 3) gd "_law_grown" sc18 L 239 cdv [] outer) (exec (gb 1) (envX "_law_grown" sc18 L 239 cdv [])) Q E { s with heap := h₁, toks := tk } := by
  with_reducible refine ctx_exec ?_
  intro AA ee
  (with_reducible refine' open_stmt ?oe ?_); (case oe => exact (rfl : gb 1 = Stmt.Assign _ _ _))
  have hlen : ms.length = made.length := by rw [hms.length, List.length_map]
  (repeat' ((fail_if_success (with_reducible first | refine sFor ?_ | refine sCal ?_)); walk_at "w2"))
  (rename Fr _ _ _ _ => F9); (rename News _ _ _ _ => N9); (rename _ ∧ AllLt _ _ => l9); (rename DatIn _ _ _ => d9); (rename _[_]? = _ => e9)
  obtain ⟨a, as', na, rfl, ha, hda⟩ := codes_inv e9 d9
  rw [codeI] at N9
  refine kmk_add_lit F9 N9 (News.isList N9 (.tail _ (.tail _ ha))) (News.isList N9 (.head _)) rfl (fun D h5 F5 N5 lt5 => ?_) ?_
  · simp only [List.toList_toArray] at N5
    (repeat' ((fail_if_success (with_reducible first | refine sFor ?_ | refine sCal ?_)); walk_at "w2"))
    (rename Fr _ _ _ _ => F8); (rename News _ _ _ _ => N8)
    refine k D (as' ++ [.int (n % 100 % 13 : Nat) (tk + 1 + 1 + 1)]) _ _ F8 (fun q hq => N8 q ?_) ?_ (Nat.ne_of_gt (lt5 (M, _) (.tail _ (.head _)))) fun q hq => Nat.ne_of_lt (lt5 q (.tail _ (.tail _ hq)))
    · rcases List.mem_cons.mp hq with rfl | hq
      · exact .head _
      · exact .tail _ (.tail _ hq)
    · rw [List.map_append]
      exact (ints_only hda).append (.cons (.int _ _) .nil)
  · have := hda.length
    rw [List.length_map] at this
    have h1 : (made.getD b []).length ≤ 20 := by
      rw [List.getD_eq_getElem?_getD, List.getElem?_eq_getElem hb]; exact hcl _ (List.getElem_mem hb)
    simp only [List.toList_toArray, List.length_cons, List.length_nil, sizeLine_eq]
    omega
theorem seg2 {R : List (Addr × Obj)} {M C : Nat} {ms cs : List Value} {nM : Nat} {made : List (List Nat)} {codes : List Nat} {u : PySem.Str → Option Value} 
    (F : Fr g L h₁ (fixM [("made", .ref M), ("codes", .ref C)] u)) (X : (KK w.params).In g) (N : News g L h₁ ((C, listOf cs.toArray 0) :: (M, listOf ms.toArray nM) :: R)) 
    (hms : DatAll R ms (made.map codesD)) (hcs : DatAll [] cs (codes.map fun n : Nat => .int n)) (hu : un + 100 < cLine)
    (k1 : codes ∈ made → ∀ tk', Q .cont { s with heap := h₁, toks := tk' })
    (k2 : codes ∉ made → ∀ tk', Q .next { s with heap := h₁, toks := tk' }) :
    wpAny (model PR w) (ktrTop (dp + 1) (un + 3) gd "_law_grown" sc18 L 239 cdv [] outer) (exec (gb 2) (envX "_law_grown" sc18 L 239 cdv [])) Q E { s with heap := h₁, toks := tk } := by
  with_reducible refine ctx_exec ?_
  intro AA ee
  (with_reducible refine' open_stmt ?oe ?_); (case oe => exact (rfl : gb 2 = Stmt.If _ _ _ _))
  (repeat' ((fail_if_success (with_reducible first | refine sFor ?_ | refine sCal ?_)); walk_at "w2"))
  refine kqd_isIn N (.tail _ (.head _)) rfl rfl hms (fun q hq => .tail _ (.tail _ hq)) (n₂ := (C, listOf cs.toArray 0) :: R) (.list (.head _) (hcs.mono fun _ h => absurd h List.not_mem_nil)) (fun q hq => ?sub) (fun d hd => ?ok1) ?ok2 (by show un + 3 + 64 < cLine; omega) ?_
  case sub => 
    rcases List.mem_cons.mp hq with rfl | hq
    · exact .head _
    · exact .tail _ (.tail _ hq)
  case ok1 =>
    obtain ⟨c, _, rfl⟩ := List.mem_map.mp hd
    exact codes_ok c
  case ok2 => exact codes_ok codes
  (repeat' ((fail_if_success (with_reducible first | refine sFor ?_ | refine sCal ?_)); walk_at "w2"))
  · (rename decide _ = true => hz)
    simp only [decide_eq_true_eq] at hz
    exact k1 (codes_mem.mp hz) _
  · (rename decide _ = false => hz)
    simp only [decide_eq_false_iff_not] at hz
    exact k2 (fun h => hz (codes_mem.mpr h)) _
theorem seg3 {R : List (Addr × Obj)} {n : Nat} {t : Tok} {u : PySem.Str → Option Value} 
    (F : Fr g L h₁ (fixM [("n", .int n t)] u)) (N : News g L h₁ R)
    (k : ∀ h' tk' t', Fr g L h' (fun y => if y = "mark" then some (.int (markOf n : Nat) t') else fixM [("n", .int n t)] u y) → News g L h' R → Q .next { s with heap := h', toks := tk' }) :
    wpAny (model PR w) (ktrTop (dp + 1) (un + 3) gd "_law_grown" sc18 L 239 cdv [] outer) (exec (gb 3) (envX "_law_grown" sc18 L 239 cdv [])) Q E { s with heap := h₁, toks := tk } := by
  with_reducible refine ctx_exec ?_
  intro AA ee
  (with_reducible refine' open_stmt ?oe ?_); (case oe => exact (rfl : gb 3 = Stmt.Assign _ _ _))
  (repeat' ((fail_if_success (with_reducible first | refine sFor ?_ | refine sCal ?_)); walk_at "w2"))
  (rename Fr _ _ _ _ => F9); (rename News _ _ _ _ => N9)
  rw [markI] at F9
  exact k _ _ _ F9 N9
theorem seg4 {news : List (Addr × Obj)} {C mark : Nat} {tm : Tok} {codes : List Nat} {u : PySem.Str → Option Value} 
    (B : Below (aro dp un gd outer) base outer g) (F : Fr g L h₁ (fixM [("codes", .ref C), ("mark", .int mark tm)] u)) (XB : (KK w.params).In base) (TB : Top p loose mean mg mb base) (D : KtsDicts (frs outer) g) (N : News g L h₁ news) 
    (hcs : DatIn news (.ref C) (codesD codes)) (hc : ∀ c ∈ codes, c < 14) (hlen : codes.length ≤ 100) (hm : mark < 5) (hd : dp + 20 < recursionLimit) (hu : un + 100 < cLine)
    (k : ∀ (O : Nat) g' ex h' tk', KtsTurn (frs outer) g g' → Below (aro dp un gd outer) base outer g' → KtsDicts (frs outer) g' → Fr g' L h' (fun y => if y = "opened" then some (.ref O) else fixM [("codes", .ref C), ("mark", .int mark tm)] u y) → News g' L h' (ex ++ news) → (∀ q ∈ news, ∀ p ∈ ex, q.1 < p.1) → DatIn (ex ++ news) (.ref O) (.list (rowD codes)) →
      Q .next { s with heap := h', toks := tk' }) :
    wpC (model PR w) (ktrTop (dp + 1) (un + 3) gd "_law_grown" sc18 L 239 cdv [] outer) (exec (gb 4) (envX "_law_grown" sc18 L 239 cdv [])) Q E { s with heap := h₁, toks := tk } := by
  have X : (KK w.params).In g := XB.keeps B.stays
  have T := TB.keeps B.stays
  refine ctx_execC ?_
  intro AA ee
  refine open_stmtC (rfl : gb 4 = Stmt.Assign _ _ _) ?_
  refine wpC_Assign_Name (wpC_Call_Name ?_)
  (repeat' ((fail_if_success (with_reducible first | refine sFor ?_ | refine sCal ?_)); walk_at "w2"))
  refine' wpC_callWith_fn1 ?ho ?_
  case ho => k_is
  (repeat' ((fail_if_success (with_reducible first | refine sFor ?_ | refine sCal ?_)); walk_at "w2"))
  refine name_ok w _ _ _ _ tm hc hlen hm hcs p loose mean mg mb _ _ gd _ _ _ _ _ outer _ base g L _ _ _ _ B F X N T rfl (by omega) (by omega) fun r tl h2 tk2 F2 N2 o2 ho => ?_
  obtain ⟨t2, rfl⟩ := ho
  dsimp only
  (repeat' ((fail_if_success (with_reducible first | refine sFor ?_ | refine sCal ?_)); walk_at "w2"))
  refine version_ok w _ codes mark t2 hc hlen hm p loose mean mg mb _ _ gd _ _ _ _ _ outer _ base g L _ _ _ _ B F2 XB N2 TB D rfl (by omega) (by omega) fun r tl3 g3 h3 tk3 T3 B3 D3 F3 N3 o3 ho => ?_
  obtain ⟨O, rfl⟩ := ref_of_list ho
  clear F N F2 N2 X T
  dsimp only
  (repeat' ((fail_if_success (with_reducible first | refine sFor ?_ | refine sCal ?_)); walk_at "w2"))
  (rename Fr _ _ _ _ => F9); (rename News _ _ _ _ => N9)
  rw [← List.append_assoc] at N9 ho
  refine k O _ _ _ _ T3 B3 D3 F9 N9 (fun q hq p hp => ?_) ho
  rcases List.mem_append.mp hp with hp | hp
  · exact o3 q (List.mem_append.mpr (.inr hq)) p hp
  · exact o2 q hq p hp
theorem seg5 {news : List (Addr × Obj)} {C mark : Nat} {tm : Tok} {codes : List Nat} {u : PySem.Str → Option Value} 
    (B : Below (aro dp un gd outer) base outer g) (F : Fr g L h₁ (fixM [("codes", .ref C), ("mark", .int mark tm)] u)) (XB : (KK w.params).In base) (TB : Top p loose mean mg mb base) (D : KtsDicts (frs outer) g) (N : News g L h₁ news) 
    (hcs : DatIn news (.ref C) (codesD codes)) (hc : ∀ c ∈ codes, c < 14) (hlen : codes.length ≤ 50) (hm : mark < 5) (hd : dp + 20 < recursionLimit) (hu : un + 100 < cLine)
    (k : ∀ (O : Nat) g' ex h' tk', KtsTurn (frs outer) g g' → Below (aro dp un gd outer) base outer g' → KtsDicts (frs outer) g' → Fr g' L h' (fun y => if y = "closed" then some (.ref O) else fixM [("codes", .ref C), ("mark", .int mark tm)] u y) → News g' L h' (ex ++ news) → (∀ q ∈ news, ∀ p ∈ ex, q.1 < p.1) → DatIn (ex ++ news) (.ref O) (.list (rowD (codes ++ [13]))) →
      Q .next { s with heap := h', toks := tk' }) :
    wpC (model PR w) (ktrTop (dp + 1) (un + 3) gd "_law_grown" sc18 L 239 cdv [] outer) (exec (gb 5) (envX "_law_grown" sc18 L 239 cdv [])) Q E { s with heap := h₁, toks := tk } := by
  have X : (KK w.params).In g := XB.keeps B.stays
  have T := TB.keeps B.stays
  obtain ⟨cs, nC, hm0, hcs0⟩ := dat_list_inv hcs
  have hcl : cs.length = codes.length := by rw [hcs0.length, List.length_map]
  refine ctx_execC ?_
  intro AA ee
  refine open_stmtC (rfl : gb 5 = Stmt.Assign _ _ _) ?_
  refine wpC_Assign_Name (wpC_Call_Name ?_)
  (repeat' ((fail_if_success (with_reducible first | refine sFor ?_ | refine sCal ?_)); walk_at "w2"))
  refine' wpC_callWith_fn1 ?ho ?_
  case ho => k_is
  (repeat' ((fail_if_success (with_reducible first | refine sFor ?_ | refine sCal ?_)); walk_at "w2"))
  (rename Fr _ _ _ _ => F1); (rename News _ _ _ _ => N1); (rename ∀ p ∈ news, p.1 < _ => l1)
  refine kmk_add_lit F1 N1 (News.isList N1 (.tail _ hm0)) (News.isList N1 (.head _)) rfl (fun D5 h5 F5 N5 lt5 => ?_) (by simp only [List.length_cons, List.length_nil, sizeLine_eq]; omega)
  dsimp only
  (repeat' ((fail_if_success (with_reducible first | refine sFor ?_ | refine sCal ?_)); walk_at "w2"))
  have hc' : ∀ c ∈ codes ++ [13], c < 14 := fun c h => by
    rcases List.mem_append.mp h with h | h
    · exact hc c h
    · rw [List.mem_singleton.mp h]; decide
  have hlen' : (codes ++ [13]).length ≤ 100 := by rw [List.length_append]; show codes.length + 1 ≤ 100; omega
  refine name_ok w _ _ _ _ tm hc' hlen' hm (dat_snoc (c := 13) hcs0) p loose mean mg mb _ _ gd _ _ _ _ _ outer _ base g L _ _ _ _ B F5 X N5 T rfl (by omega) (by omega) fun r tl h2 tk2 F2 N2 o2 ho => ?_
  obtain ⟨t2, rfl⟩ := ho
  dsimp only
  (repeat' ((fail_if_success (with_reducible first | refine sFor ?_ | refine sCal ?_)); walk_at "w2"))
  refine version_ok w _ (codes ++ [13]) mark t2 hc' hlen' hm p loose mean mg mb _ _ gd _ _ _ _ _ outer _ base g L _ _ _ _ B F2 XB N2 TB D rfl (by omega) (by omega) fun r tl3 g3 h3 tk3 T3 B3 D3 F3 N3 o3 ho => ?_
  obtain ⟨O, rfl⟩ := ref_of_list ho
  clear F2 N2 X T
  dsimp only
  (repeat' ((fail_if_success (with_reducible first | refine sFor ?_ | refine sCal ?_)); walk_at "w2"))
  (rename Fr _ _ _ _ => F9); (rename News _ _ _ _ => N9)
  have re : ∀ (a b : Addr × Obj), tl3 ++ (tl ++ a :: b :: news) = (tl3 ++ (tl ++ [a, b])) ++ news := fun a b => by simp
  rw [re] at N9 ho
  refine k O _ _ _ _ T3 B3 D3 F9 N9 (fun q hq p hp => ?_) ho
  rcases List.mem_append.mp hp with hp | hp
  · exact o3 q (List.mem_append.mpr (.inr (.tail _ (.tail _ hq)))) p hp
  rcases List.mem_append.mp hp with hp | hp
  · exact o2 q (.tail _ (.tail _ hq)) p hp
  rcases List.mem_cons.mp hp with rfl | hp
  · exact lt5 q (.tail _ hq)
  · rw [List.mem_singleton.mp hp]; exact l1 q hq
theorem seg6 {news : List (Addr × Obj)} {M b mark nM : Nat} {ms : List Value} {tm tb : Tok} {made : List (List Nat)} {u : PySem.Str → Option Value} 
    (B : Below (aro dp un gd outer) base outer g) (F : Fr g L h₁ (fixM [("made", .ref M), ("base", .int b tb), ("mark", .int mark tm)] u)) (XB : (KK w.params).In base) (TB : Top p loose mean mg mb base) (D : KtsDicts (frs outer) g) (N : News g L h₁ news) 
    (hM : (M, listOf ms.toArray nM) ∈ news) (hms : DatAll news ms (made.map codesD)) (hl : made.length ≤ 20) (hb : b < made.length) (hc : ∀ m ∈ made, ∀ c ∈ m, c < 14) (hlen : ∀ m ∈ made, m.length ≤ 50) (hm : mark < 5) (hd : dp + 20 < recursionLimit) (hu : un + 100 < cLine)
    (k : ∀ (O : Nat) g' ex h' tk', KtsTurn (frs outer) g g' → Below (aro dp un gd outer) base outer g' → KtsDicts (frs outer) g' → Fr g' L h' (fun y => if y = "place" then some (.ref O) else fixM [("made", .ref M), ("base", .int b tb), ("mark", .int mark tm)] u y) → News g' L h' (ex ++ news) → (∀ q ∈ news, ∀ p ∈ ex, q.1 < p.1) → DatIn (ex ++ news) (.ref O) (.list (rowD (made.getD b []))) →
      Q .next { s with heap := h', toks := tk' }) :
    wpC (model PR w) (ktrTop (dp + 1) (un + 3) gd "_law_grown" sc18 L 239 cdv [] outer) (exec (gb 6) (envX "_law_grown" sc18 L 239 cdv [])) Q E { s with heap := h₁, toks := tk } := by
  have X : (KK w.params).In g := XB.keeps B.stays
  have T := TB.keeps B.stays
  have hlen0 : ms.length = made.length := by rw [hms.length, List.length_map]
  have hbm : made.getD b [] ∈ made := by rw [List.getD_eq_getElem?_getD, List.getElem?_eq_getElem hb]; exact List.getElem_mem hb
  refine ctx_execC ?_
  intro AA ee
  refine open_stmtC (rfl : gb 6 = Stmt.Assign _ _ _) ?_
  refine wpC_Assign_Name (wpC_Call_Name ?_)
  (repeat' ((fail_if_success (with_reducible first | refine sFor ?_ | refine sCal ?_)); walk_at "w2"))
  refine' wpC_callWith_fn1 ?ho ?_
  case ho => k_is
  (repeat' ((fail_if_success (with_reducible first | refine sFor ?_ | refine sCal ?_)); walk_at "w2"))
  refine item_dat N hM hms (by omega) (by rw [List.length_map]; omega) (by rw [List.length_map]; omega) (fun v9 d9' e9 d9 _ => ?_)
  obtain ⟨a, as', na, rfl, ha, hda⟩ := codes_inv e9 d9
  (repeat' ((fail_if_success (with_reducible first | refine sFor ?_ | refine sCal ?_)); walk_at "w2"))
  rw [mark1I]
  refine name_ok w _ _ (made.getD b []) ((mark + 1) % 5) _ (hc _ hbm) (by have := hlen _ hbm; omega) (Nat.mod_lt _ (by decide)) (.list ha hda) p loose mean mg mb _ _ gd _ _ _ _ _ outer _ base g L _ _ _ _ B F X N T rfl (by omega) (by omega) fun r tl h2 tk2 F2 N2 o2 ho => ?_
  obtain ⟨t2, rfl⟩ := ho
  dsimp only
  (repeat' ((fail_if_success (with_reducible first | refine sFor ?_ | refine sCal ?_)); walk_at "w2"))
  refine version_ok w _ (made.getD b []) ((mark + 1) % 5) t2 (hc _ hbm) (by have := hlen _ hbm; omega) (Nat.mod_lt _ (by decide)) p loose mean mg mb _ _ gd _ _ _ _ _ outer _ base g L _ _ _ _ B F2 XB N2 TB D rfl (by omega) (by omega) fun r tl3 g3 h3 tk3 T3 B3 D3 F3 N3 o3 ho => ?_
  obtain ⟨O, rfl⟩ := ref_of_list ho
  clear F N F2 N2 X T
  dsimp only
  (repeat' ((fail_if_success (with_reducible first | refine sFor ?_ | refine sCal ?_)); walk_at "w2"))
  (rename Fr _ _ _ _ => F9); (rename News _ _ _ _ => N9)
  rw [← List.append_assoc] at N9 ho
  refine k O _ _ _ _ T3 B3 D3 F9 N9 (fun q hq p hp => ?_) ho
  rcases List.mem_append.mp hp with hp | hp
  · exact o3 q (List.mem_append.mpr (.inr hq)) p hp
  · exact o2 q hq p hp
end TGrA
section TGrB
open PySem PySem.W PySem.Calls PyProof.Rows PyProof.V PySem.Spec
set_option maxRecDepth 100000
set_option maxHeartbeats 1500000
set_option pp.maxSteps 12000
theorem rowD_ok (cs : List Nat) : kqdOk 8 (.list (rowD cs)) = true := by
  show (List.all _ _) = true
  refine List.all_eq_true.mpr fun d hd => ?_
  unfold rowD at hd
  rcases List.mem_append.mp hd with h | h
  · rcases List.mem_cons.mp h with rfl | h
    · rfl
    · rw [List.mem_singleton.mp h]; rfl
  · obtain ⟨c, _, h⟩ := List.mem_flatMap.mp h
    rcases List.mem_cons.mp h with rfl | h
    · rfl
    · rw [List.mem_singleton.mp h]
      by_cases hc : c < 14
      · exact (show ∀ c, c < 14 → kqdOk 7 (partOf c) = true from by decide +kernel) c hc
      · unfold partOf
        rw [List.getD_eq_getElem?_getD, List.getElem?_eq_none (by show 14 ≤ c; omega)]
        rfl
theorem rows3_ok (a b c : List Nat) : ∀ d ∈ ([.list (rowD a), .list (rowD b), .list (rowD c)] : List Dat), kqdOk 8 d = true := by
  intro d hd
  simp only [List.mem_cons, List.not_mem_nil, or_false] at hd
  rcases hd with rfl | rfl | rfl <;> exact rowD_ok _
theorem dec_self {α : Type} (x : α) (i : Decidable (x = x)) : @decide (x = x) i = true := @decide_eq_true _ i rfl
noncomputable def kindOf (n : Nat) : Nat := n / 1000 % 10 % 4
theorem kindI (n : Nat) : (((n : Int).fdiv 1000).fmod 10).fmod 4 = ((kindOf n : Nat) : Int) := by
  rw [show (1000 : Int) = ((1000 : Nat) : Int) from rfl, show (10 : Int) = ((10 : Nat) : Int) from rfl, show (4 : Int) = ((4 : Nat) : Int) from rfl, fdivN, fmodN, fmodN]; rfl
noncomputable def nameX : List PySem.Str := ["a", "A", "ab", "aB", "b\t"]
noncomputable def nameAt (n : Nat) : Nat := n / 10000 % 10 % 5
noncomputable def wordAtX (n : Nat) : Nat := n / 100000 % 10 % 5
theorem nameAtI (n : Nat) : (((n : Int).fdiv (10 ^ Int.toNat 4)).fmod 10).fmod 5 = ((nameAt n : Nat) : Int) := by
  rw [show (10 ^ Int.toNat 4 : Int) = ((10000 : Nat) : Int) from rfl, show (10 : Int) = ((10 : Nat) : Int) from rfl, show (5 : Int) = ((5 : Nat) : Int) from rfl, fdivN, fmodN, fmodN]; rfl
theorem wordAtI (n : Nat) : (((n : Int).fdiv (10 ^ Int.toNat 5)).fmod 10).fmod 5 = ((wordAtX n : Nat) : Int) := by
  rw [show (10 ^ Int.toNat 5 : Int) = ((100000 : Nat) : Int) from rfl, show (10 : Int) = ((10 : Nat) : Int) from rfl, show (5 : Int) = ((5 : Nat) : Int) from rfl, fdivN, fmodN, fmodN]; rfl
noncomputable def textOf (len kd : Nat) (wd : PySem.Str) : PySem.Str := if kd = 1 ∨ (wd != PySem.Str.ofString "") = true then PySem.Str.ofString (toString (len : Int)) else PySem.Str.ofString ""
theorem textOf_one {len kd : Nat} {wd : PySem.Str} (h : kd = 1) : textOf len kd wd = PySem.Str.ofString (toString (len : Int)) := if_pos (.inl h)
theorem textOf_word {len kd : Nat} {wd : PySem.Str} (h : (wd != PySem.Str.ofString "") = true) : textOf len kd wd = PySem.Str.ofString (toString (len : Int)) := if_pos (.inr h)
theorem textOf_no {len kd : Nat} {wd : PySem.Str} (h : kd ≠ 1) (h' : (wd != PySem.Str.ofString "") = false) : textOf len kd wd = PySem.Str.ofString "" := if_neg fun x => x.elim h (fun y => by rw [h'] at y; cases y)


variable {w : World} {p : Program} {loose : List PySem.Str} {mean : ExcName → Option Value} {mg mb : PySem.Str → Option Value} {dp un : Nat} {gd : Option (List Code)} {outer : List Env} {base g : Heap} {L : Addr} {h₁ : Heap} {s : Shared} {tk : Nat} {Q : Flow → Shared → Prop} {E : Value → Shared → Prop} {cdv : Value}
theorem seg7 {news : List (Addr × Obj)} {M C O Cl Pl b nM : Nat} {ms : List Value} {tb : Tok} {made : List (List Nat)} {codes : List Nat} {u : PySem.Str → Option Value} 
    (B : Below (aro dp un gd outer) base outer g) (F : Fr g L h₁ (fixM [("made", .ref M), ("base", .int b tb), ("codes", .ref C), ("opened", .ref O), ("closed", .ref Cl), ("place", .ref Pl)] u)) (X : (KK w.params).In g) (T : Top p loose mean mg mb g) (N : News g L h₁ news) 
    (hM : (M, listOf ms.toArray nM) ∈ news) (hms : DatAll news ms (made.map codesD)) (hl : made.length ≤ 20) (hb : b < made.length) (hcm : ∀ m ∈ made, ∀ c ∈ m, c < 14) (hlenm : ∀ m ∈ made, m.length ≤ 50) 
    (hcs : DatIn news (.ref C) (codesD codes)) (hc : ∀ c ∈ codes, c < 14) (hlen : codes.length ≤ 50)
    (dO : DatIn news (.ref O) (.list (rowD codes))) (dCl : DatIn news (.ref Cl) (.list (rowD (codes ++ [13])))) (dPl : DatIn news (.ref Pl) (.list (rowD (made.getD b [])))) (hd : dp + 20 < recursionLimit) (hu : un + 100 < cLine)
    (k : ∀ h' tk', Fr g L h' (fixM [("made", .ref M), ("base", .int b tb), ("codes", .ref C), ("opened", .ref O), ("closed", .ref Cl), ("place", .ref Pl)] u) → News g L h' news → Q .next { s with heap := h', toks := tk' }) :
    wpAny (model PR w) (ktrTop (dp + 1) (un + 3) gd "_law_grown" sc18 L 239 cdv [] outer) (exec (gb 7) (envX "_law_grown" sc18 L 239 cdv [])) Q E { s with heap := h₁, toks := tk } := by
  obtain ⟨cs, nC, hm0, hcs0⟩ := dat_list_inv hcs
  have hcl : cs.length = codes.length := by rw [hcs0.length, List.length_map]
  have hbm : made.getD b [] ∈ made := by rw [List.getD_eq_getElem?_getD, List.getElem?_eq_getElem hb]; exact List.getElem_mem hb
  have hc' : ∀ c ∈ codes ++ [13], c < 14 := fun c h => by
    rcases List.mem_append.mp h with h | h
    · exact hc c h
    · rw [List.mem_singleton.mp h]; decide
  have hlen' : (codes ++ [13]).length ≤ 100 := by rw [List.length_append]; show codes.length + 1 ≤ 100; omega
  with_reducible refine ctx_exec ?_
  intro AA ee
  (with_reducible refine' open_stmt ?oe ?_); (case oe => exact (rfl : gb 7 = Stmt.If _ _ _ _))
  (repeat' ((fail_if_success (with_reducible first | refine sFor ?_ | refine sCal ?_)); walk_at "w2"))
  (rename Fr _ _ _ _ => F1); (rename News _ _ _ _ => N1)
  refine ranks_ok w _ _ _ hc (by omega) (hcs.mono fun _ h => .tail _ h) p loose mean mg mb _ _ gd _ _ _ _ _ outer _ base g L _ _ _ _ B F1 X N1 T rfl (by omega) (by omega) fun r1 tl1 h2 tk2 F2 N2 o2 ho1 => ?_
  clear F1 N1
  dsimp only
  (repeat' ((fail_if_success (with_reducible first | refine sFor ?_ | refine sCal ?_)); walk_at "w2"))
  (rename Fr _ _ _ _ => F3); (rename News _ _ _ _ => N3)
  refine kmk_add_lit F3 N3 (News.isList N3 (.tail _ (List.mem_append.mpr (.inr (.tail _ hm0))))) (News.isList N3 (.head _)) rfl (fun D5 h5 F5 N5 lt5 => ?_) (by simp only [List.length_cons, List.length_nil, sizeLine_eq]; omega)
  clear F3 N3
  dsimp only
  (repeat' ((fail_if_success (with_reducible first | refine sFor ?_ | refine sCal ?_)); walk_at "w2"))
  refine ranks_ok w _ _ _ hc' hlen' (dat_snoc (c := 13) hcs0) p loose mean mg mb _ _ gd _ _ _ _ _ outer _ base g L _ _ _ _ B F5 X N5 T rfl (by omega) (by omega) fun r2 tl2 h6 tk6 F6 N6 o6 ho2 => ?_
  clear F5 N5
  dsimp only
  (repeat' ((fail_if_success (with_reducible first | refine sFor ?_ | refine sCal ?_)); walk_at "w2"))
  refine item_dat N6 (List.mem_append.mpr (.inr (.tail _ (.tail _ (List.mem_append.mpr (.inr (.tail _ hM))))))) hms (by omega) (by rw [List.length_map]; omega) (by rw [List.length_map]; omega) (fun v9 d9' e9 d9 _ => ?_)
  obtain ⟨a, as', na, rfl, ha, hda⟩ := codes_inv e9 d9
  (repeat' ((fail_if_success (with_reducible first | refine sFor ?_ | refine sCal ?_)); walk_at "w2"))
  refine ranks_ok w _ _ (made.getD b []) (hcm _ hbm) (by have := hlenm _ hbm; omega) (.list (List.mem_append.mpr (.inr (.tail _ (.tail _ (List.mem_append.mpr (.inr (.tail _ ha))))))) (ints_only hda)) p loose mean mg mb _ _ gd _ _ _ _ _ outer _ base g L _ _ _ _ B F6 X N6 T rfl (by omega) (by omega) fun r3 tl3 h7 tk7 F7 N7 o7 ho3 => ?_
  clear F6 N6
  dsimp only
  (repeat' ((fail_if_success (with_reducible first | refine sFor ?_ | refine sCal ?_)); walk_at "w2"))
  (rename Fr _ _ _ _ => F8); (rename News _ _ _ _ => N8)
  have dA : DatAll news [.ref O, .ref Cl, .ref Pl] [.list (rowD codes), .list (rowD (codes ++ [13])), .list (rowD (made.getD b []))] := .cons dO (.cons dCl (.cons dPl .nil))
  refine kqd_ne N8 (.tail _ (List.mem_append.mpr (.inr (List.mem_append.mpr (.inr (.tail _ (.tail _ (List.mem_append.mpr (.inr (.head _)))))))))) rfl rfl dA (fun q hq => .tail _ (List.mem_append.mpr (.inr (List.mem_append.mpr (.inr (.tail _ (.tail _ (List.mem_append.mpr (.inr (.tail _ hq)))))))))) (.head _) rfl rfl
    (es := [.list (rowD codes), .list (rowD (codes ++ [13])), .list (rowD (made.getD b []))])
    (.cons (ho1.mono fun q hq => List.mem_append.mpr (.inr (List.mem_append.mpr (.inr (.tail _ (.tail _ hq)))))) (.cons (ho2.mono fun q hq => List.mem_append.mpr (.inr hq)) (.cons ho3 .nil))) (fun q hq => .tail _ hq) ?okA ?okB (by show un + 3 + 64 < cLine; omega) ?_
  case okA => exact rows3_ok _ _ _
  case okB => exact rows3_ok _ _ _
  rw [dec_self]
  dsimp only [Bool.not_true]
  (repeat' ((fail_if_success (with_reducible first | refine sFor ?_ | refine sCal ?_)); walk_at "w2"))
  exact k _ _ F8 fun q hq => N8 q (.tail _ (List.mem_append.mpr (.inr (List.mem_append.mpr (.inr (.tail _ (.tail _ (List.mem_append.mpr (.inr (.tail _ hq))))))))))
theorem seg8 {news : List (Addr × Obj)} {n : Nat} {t : Tok} {u : PySem.Str → Option Value} 
    (F : Fr g L h₁ (fixM [("n", .int n t)] u)) (N : News g L h₁ news)
    (k : ∀ h' tk' t', Fr g L h' (fun y => if y = "kind" then some (.int (kindOf n : Nat) t') else fixM [("n", .int n t)] u y) → News g L h' news → Q .next { s with heap := h', toks := tk' }) :
    wpAny (model PR w) (ktrTop (dp + 1) (un + 3) gd "_law_grown" sc18 L 239 cdv [] outer) (exec (gb 8) (envX "_law_grown" sc18 L 239 cdv [])) Q E { s with heap := h₁, toks := tk } := by
  with_reducible refine ctx_exec ?_
  intro AA ee
  (with_reducible refine' open_stmt ?oe ?_); (case oe => exact (rfl : gb 8 = Stmt.Assign _ _ _))
  (repeat' ((fail_if_success (with_reducible first | refine sFor ?_ | refine sCal ?_)); walk_at "w2"))
  (rename Fr _ _ _ _ => F9); (rename News _ _ _ _ => N9)
  rw [kindI] at F9
  exact k _ _ _ F9 N9
theorem seg9 {news : List (Addr × Obj)} {n : Nat} {t : Tok} {u : PySem.Str → Option Value} 
    (F : Fr g L h₁ (fixM [("n", .int n t)] u)) (N : News g L h₁ news)
    (k : ∀ h' tk' t', Fr g L h' (fun y => if y = "name" then some (.str (nameX.getD (nameAt n) PySem.Str.empty) t') else fixM [("n", .int n t)] u y) → News g L h' news → Q .next { s with heap := h', toks := tk' }) :
    wpAny (model PR w) (ktrTop (dp + 1) (un + 3) gd "_law_grown" sc18 L 239 cdv [] outer) (exec (gb 9) (envX "_law_grown" sc18 L 239 cdv [])) Q E { s with heap := h₁, toks := tk } := by
  with_reducible refine ctx_exec ?_
  intro AA ee
  (with_reducible refine' open_stmt ?oe ?_); (case oe => exact (rfl : gb 9 = Stmt.Assign _ _ _))
  (repeat' ((fail_if_success (with_reducible first | refine sFor ?_ | refine sCal ?_)); walk_at "w2"))
  (rename Fr _ _ _ _ => F9); (rename News _ _ _ _ => N9)
  rw [nameAtI]
  refine kba_turn (value' := .Name "_" ⟨0, 0, 0, 0⟩) (fun _ => rfl) ?_
  refine item_strsD (ws := nameX) (src := []) N9 (.head _) (.cons (.str _ _) (.cons (.str _ _) (.cons (.str _ _) (.cons (.str _ _) (.cons (.str _ _) .nil))))) (by omega) (by have : nameAt n < 5 := Nat.mod_lt _ (by decide); show (((nameAt n : Nat) : Int)) < 5; omega) (by decide) (fun t9 => ?_)
  rw [Int.toNat_natCast]
  dsimp only
  (repeat' ((fail_if_success (with_reducible first | refine sFor ?_ | refine sCal ?_)); walk_at "w2"))
  (rename Fr _ _ _ _ => F8); (rename News _ _ _ _ => N8)
  exact k _ _ _ F8 fun q hq => N8 q (.tail _ hq)
theorem seg10 {news : List (Addr × Obj)} {n : Nat} {t : Tok} {u : PySem.Str → Option Value} 
    (F : Fr g L h₁ (fixM [("n", .int n t)] u)) (N : News g L h₁ news)
    (k : ∀ h' tk' t', Fr g L h' (fun y => if y = "word" then some (.str (wordX.getD (wordAtX n) PySem.Str.empty) t') else fixM [("n", .int n t)] u y) → News g L h' news → Q .next { s with heap := h', toks := tk' }) :
    wpAny (model PR w) (ktrTop (dp + 1) (un + 3) gd "_law_grown" sc18 L 239 cdv [] outer) (exec (gb 10) (envX "_law_grown" sc18 L 239 cdv [])) Q E { s with heap := h₁, toks := tk } := by
  with_reducible refine ctx_exec ?_
  intro AA ee
  (with_reducible refine' open_stmt ?oe ?_); (case oe => exact (rfl : gb 10 = Stmt.Assign _ _ _))
  (repeat' ((fail_if_success (with_reducible first | refine sFor ?_ | refine sCal ?_)); walk_at "w2"))
  (rename Fr _ _ _ _ => F9); (rename News _ _ _ _ => N9)
  rw [wordAtI]
  refine kba_turn (value' := .Name "_" ⟨0, 0, 0, 0⟩) (fun _ => rfl) ?_
  refine item_strsD (ws := wordX) (src := []) N9 (.head _) (.cons (.str _ _) (.cons (.str _ _) (.cons (.str _ _) (.cons (.str _ _) (.cons (.str _ _) .nil))))) (by omega) (by have : wordAtX n < 5 := Nat.mod_lt _ (by decide); show (((wordAtX n : Nat) : Int)) < 5; omega) (by decide) (fun t9 => ?_)
  rw [Int.toNat_natCast]
  dsimp only
  (repeat' ((fail_if_success (with_reducible first | refine sFor ?_ | refine sCal ?_)); walk_at "w2"))
  (rename Fr _ _ _ _ => F8); (rename News _ _ _ _ => N8)
  exact k _ _ _ F8 fun q hq => N8 q (.tail _ hq)
theorem seg11 {news : List (Addr × Obj)} {M kd nM : Nat} {ms : List Value} {wd : PySem.Str} {tt tw : Tok} {u : PySem.Str → Option Value} 
    (F : Fr g L h₁ (fixM [("made", .ref M), ("kind", .int kd tt), ("word", .str wd tw)] u)) (X : (KK w.params).In g) (T : Top p loose mean mg mb g) (N : News g L h₁ news) (hM : (M, listOf ms.toArray nM) ∈ news) (hl : ms.length ≤ 20)
    (k : ∀ h' tk' t', Fr g L h' (fun y => if y = "text" then some (.str (textOf ms.length kd wd) t') else fixM [("made", .ref M), ("kind", .int kd tt), ("word", .str wd tw)] u y) → News g L h' news → Q .next { s with heap := h', toks := tk' }) :
    wpAny (model PR w) (ktrTop (dp + 1) (un + 3) gd "_law_grown" sc18 L 239 cdv [] outer) (exec (gb 11) (envX "_law_grown" sc18 L 239 cdv [])) Q E { s with heap := h₁, toks := tk } := by
  with_reducible refine ctx_exec ?_
  intro AA ee
  (with_reducible refine' open_stmt ?oe ?_); (case oe => exact (rfl : gb 11 = Stmt.Assign _ _ _))
  (repeat' ((fail_if_success (with_reducible first | refine sFor ?_ | refine sCal ?_)); walk_at "w2"))
  · (rename _ = _ => hk)
    refine len_list ⟨_, (N _ hM).1, rfl, _, rfl⟩ (by rw [List.size_toArray]; omega) ?_
    rw [List.size_toArray]
    (repeat' ((fail_if_success (with_reducible first | refine sFor ?_ | refine sCal ?_)); walk_at "w2"))
    (rename Fr _ _ _ _ => F9); (rename News _ _ _ _ => N9)
    rw [← textOf_one (wd := wd) (Int.ofNat.inj hk)] at F9
    exact k _ _ _ F9 N9
  · (rename (_ != _) = true => hk)
    refine len_list ⟨_, (N _ hM).1, rfl, _, rfl⟩ (by rw [List.size_toArray]; omega) ?_
    rw [List.size_toArray]
    (repeat' ((fail_if_success (with_reducible first | refine sFor ?_ | refine sCal ?_)); walk_at "w2"))
    (rename Fr _ _ _ _ => F9); (rename News _ _ _ _ => N9)
    rw [← textOf_word (kd := kd) hk] at F9
    exact k _ _ _ F9 N9
  · (rename (_ != _) = false => hk); (rename _ ≠ _ => hk1)
    (rename Fr _ _ _ _ => F9); (rename News _ _ _ _ => N9)
    rw [← textOf_no (len := ms.length) (fun e => hk1 (congrArg Int.ofNat e)) hk] at F9
    exact k _ _ _ F9 N9
end TGrB
section TGrC
open PySem PySem.W PySem.Calls PyProof.Rows PyProof.V PySem.Spec
set_option maxRecDepth 100000
set_option maxHeartbeats 1500000
set_option pp.maxSteps 12000
noncomputable def TabIn (w : World) (R : List (Addr × Obj)) (v : Value) (rows : List Row) : Prop :=
  ∃ (x dx l : Nat) (k : Tok) (vs : List Value) (n : Nat), v = .ref x ∧ (x, instObj 197 dx) ∈ R ∧ (dx, hdrD w l k) ∈ R ∧ (l, listOf vs.toArray n) ∈ R ∧ DatAll R vs (rows.map pairD)
theorem due_any (w : World) (news : List (Addr × Obj)) (pl th : Addr) (rows : List Row) (ths : List Nat) (kd : Nat) (nm tx wd : PySem.Str) (t0 t tt tw : Tok) (hkd : kd < 4) (hq : ∀ q ∈ ths, q < rows.length) (hlen : rows.length ≤ 1000) (hrn : ∀ r ∈ rows, r.1.cps.size ≤ 10 ∧ r.2.cps.size ≤ 100) (htl : ths.length ≤ 1000)
    (hn : nm.cps.size ≤ 10) (h1 : tx.cps.size ≤ 50) (h2 : wd.cps.size ≤ 10) (hp : DatIn news (.ref pl) (.list (rows.map pairD))) (ht : DatIn news (.ref th) (.list (ths.map fun n : Nat => .int n))) :
    GivesN w 232 5 110 [.ref pl, .ref th, .int kd t0, .str nm t, .str tx tt, .str wd tw] news (DueOut (dueP rows ths kd nm tx wd) news) := by
  match kd, hkd with
  | 0, _ => exact due0 w news pl th rows ths nm tx wd t0 t tt tw hq hlen hrn htl hn h1 h2 hp ht
  | 1, _ => exact due1 w news pl th rows ths nm tx wd t0 t tt tw hq hlen hrn htl hn h1 h2 hp ht
  | 2, _ => exact due2 w news pl th rows ths nm tx wd t0 t tt tw hq hlen hrn htl hn h1 h2 hp ht
  | 3, _ => exact due3 w news pl th rows ths nm tx wd t0 t tt tw hq hlen hrn htl hn h1 h2 hp ht


variable {w : World} {p : Program} {loose : List PySem.Str} {mean : ExcName → Option Value} {mg mb : PySem.Str → Option Value} {dp un : Nat} {gd : Option (List Code)} {outer : List Env} {base g : Heap} {L : Addr} {h₁ : Heap} {s : Shared} {tk : Nat} {Q : Flow → Shared → Prop} {E : Value → Shared → Prop} {cdv : Value}
theorem seg12 {news R0 : List (Addr × Obj)} {TB b nT : Nat} {ts : List Value} {v0 : Value} {tb : Tok} {rows : List Row} {u : PySem.Str → Option Value} 
    (B : Below (aro dp un gd outer) base outer g) (F : Fr g L h₁ (fixM [("tables", .ref TB), ("base", .int b tb)] u)) (X : (KK w.params).In g) (T : Top p loose mean mg mb g) (N : News g L h₁ news) 
    (hT : (TB, listOf ts.toArray nT) ∈ news) (hl : ts.length ≤ 20) (hb : ts[b]? = some v0) (hv : TabIn w R0 v0 rows) (hsub : ∀ q ∈ R0, q ∈ news) (hcl : ∀ r ∈ rows, Clean r) (hrl : rows.length ≤ 100) (hd : dp + 40 < recursionLimit) (hu : un + 400 < cLine)
    (k : ∀ (x dx l : Nat) kk (vs : List Value) n h' tk', Fr g L h' (fun y => if y = "table" then some (.ref x) else fixM [("tables", .ref TB), ("base", .int b tb)] u y) → News g L h' ((x, instObj 197 dx) :: (dx, hdrD w l kk) :: (l, listOf vs.toArray n) :: news) → DatAll R0 vs (rows.map pairD) →
      x ≠ l → dx ≠ l → (∀ q ∈ news, q.1 < l) → l < dx → dx < x → Q .next { s with heap := h', toks := tk' }) :
    wpAny (model PR w) (ktrTop (dp + 1) (un + 3) gd "_law_grown" sc18 L 239 cdv [] outer) (exec (gb 12) (envX "_law_grown" sc18 L 239 cdv [])) Q E { s with heap := h₁, toks := tk } := by
  have hbl : b < ts.length := (List.getElem?_eq_some_iff.mp hb).1
  obtain ⟨x, dx, l, kk, vs, n, rfl, m1, m2, m3, dv⟩ := hv
  have m1' := hsub _ m1
  have m2' := hsub _ m2
  with_reducible refine ctx_exec ?_
  intro AA ee
  (with_reducible refine' open_stmt ?oe ?_); (case oe => exact (rfl : gb 12 = Stmt.Assign _ _ _))
  (repeat' ((fail_if_success (with_reducible first | refine sFor ?_ | refine sCal ?_)); walk_at "w2"))
  refine item_listL (N.isList hT) (Int.natCast_nonneg b) (by omega) (by rw [Int.toNat_natCast]; exact hb) ?_
  (repeat' ((fail_if_success (with_reducible first | refine sFor ?_ | refine sCal ?_)); walk_at "w2"))
  have hvl : vs.length = rows.length := by rw [dv.length, List.length_map]
  have N0 : News g L h₁ ((x, instObj 197 dx) :: (dx, hdrD w l kk) :: (l, listOf vs.toArray n) :: news) := fun q hq => N q (by
    rcases List.mem_cons.mp hq with rfl | hq
    · exact hsub _ m1
    rcases List.mem_cons.mp hq with rfl | hq
    · exact hsub _ m2
    rcases List.mem_cons.mp hq with rfl | hq
    · exact hsub _ m3
    · exact hq)
  refine wpAny_call (items_ok w x dx l n kk vs news (by omega) p loose mean mg mb _ _ gd _ outer _ base g L _ _ _ B F X N0 T rfl rfl (by omega) (by omega) fun r all h2 tk2 F2 N2 ho => ?_)
  obtain ⟨l2, rfl, rfl, ltl⟩ := ho
  clear N0
  have ltl := ktn_ltOf ltl
  replace N2 : News g L h2 ((l2, listOf vs.toArray 0) :: news) := fun q hq => N2 q (by
    rcases List.mem_cons.mp hq with rfl | hq
    · exact .head _
    · exact .tail _ (.tail _ (.tail _ (.tail _ hq))))
  replace ltl : ∀ q ∈ news, q.1 < l2 := fun q hq => ltl q (.tail _ (.tail _ (.tail _ hq)))
  dsimp only
  (repeat' ((fail_if_success (with_reducible first | refine sFor ?_ | refine sCal ?_)); walk_at "w2"))
  refine' call_cls F2 X N2 ?mk ?fi ?ff fun x3 d3 h3 F3 N3 lt3 ltx => ?_
  case mk => k_is
  case fi => k_is
  case ff => k_is
  refine init_ok w x3 d3 l2 _ rows ltx (allLt_of lt3) (.list (.head _) (dv.mono fun q h => .tail _ (hsub q h))) hcl p loose mean mg mb _ _ gd _ outer _ base g L _ _ _ B F3 X N3 T rfl rfl (by first | (show dp + 1 + 18 < recursionLimit; omega) | (show dp + 1 + 1 + 18 < recursionLimit; omega)) (by first | (show un + 3 + 180 < cLine; omega) | (show un + 3 + 1 + 180 < cLine; omega) | (show un + 3 + 2 + 180 < cLine; omega) | (show un + 3 + 3 + 180 < cLine; omega)) fun r all h4 tk4 F4 N4 ho => ?_
  obtain ⟨rfl, k4, rfl⟩ := ho
  refine ⟨rfl, ?_⟩
  clear F2 N2 F3 N3
  dsimp only
  (repeat' ((fail_if_success (with_reducible first | refine sFor ?_ | refine sCal ?_)); walk_at "w2"))
  (rename Fr _ _ _ _ => F9); (rename News _ _ _ _ => N9)
  have hl2d : l2 < d3 := lt3 (l2, _) (.head _)
  refine k x3 d3 l2 k4 vs 0 _ _ F9 N9 dv (Nat.ne_of_gt (Nat.lt_trans hl2d ltx)) (Nat.ne_of_gt hl2d) ltl hl2d ltx
theorem seg13 {news : List (Addr × Obj)} {P LN Pl kd : Nat} {nm tx wd : PySem.Str} {t0 t tt tw : Tok} {rows : List Row} {es : List LE} {pc : List Nat} {u : PySem.Str → Option Value} 
    (B : Below (aro dp un gd outer) base outer g) (F : Fr g L h₁ (fixM [("pairs", .ref P), ("line", .ref LN), ("place", .ref Pl), ("kind", .int kd t0), ("name", .str nm t), ("text", .str tx tt), ("word", .str wd tw)] u)) (X : (KK w.params).In g) (T : Top p loose mean mg mb g) (N : News g L h₁ news) 
    (hkd : kd < 4) (hes : ∀ e ∈ es, ∀ c ∈ e.1, c < 14) (hpc : ∀ c ∈ pc, c < 14) (hel : es.length ≤ 1000) (dl : DatIn news (.ref LN) (.list (es.map entryD))) (dp' : DatIn news (.ref Pl) (.list (rowD pc)))
    (hq : ∀ q ∈ toldP es pc, q < rows.length) (hlen : rows.length ≤ 1000) (hrn : ∀ r ∈ rows, r.1.cps.size ≤ 10 ∧ r.2.cps.size ≤ 100) (htl : (toldP es pc).length ≤ 1000) (hn : nm.cps.size ≤ 10) (h1 : tx.cps.size ≤ 50) (hw : wd.cps.size ≤ 10) (hp : DatIn news (.ref P) (.list (rows.map pairD)))
    (hd : dp + 40 < recursionLimit) (hu : un + 400 < cLine)
    (k : ∀ (v : Value) (G D : Nat) (gs ls : List Value) (nG nD : Nat) tl h' tk', Fr g L h' (fun y => if y = "laid" then some (.ref D) else if y = "gone" then some (.ref G) else if y = "due" then some v else fixM [("pairs", .ref P), ("line", .ref LN), ("place", .ref Pl), ("kind", .int kd t0), ("name", .str nm t), ("text", .str tx tt), ("word", .str wd tw)] u y) → News g L h' (tl ++ news) →
      (∀ q ∈ news, ∀ p ∈ tl, q.1 ≠ p.1) → (G, listOf gs.toArray nG) ∈ tl → (D, listOf ls.toArray nD) ∈ tl → DatIn (tl ++ news) v (dueP rows (toldP es pc) kd nm tx wd).1 → DatAll [] gs ((dueP rows (toldP es pc) kd nm tx wd).2.1.map fun n : Nat => .int n) → DatAll tl ls ((dueP rows (toldP es pc) kd nm tx wd).2.2.map pairD) → 
      Q .next { s with heap := h', toks := tk' }) :
    wpAny (model PR w) (ktrTop (dp + 1) (un + 3) gd "_law_grown" sc18 L 239 cdv [] outer) (exec (gb 13) (envX "_law_grown" sc18 L 239 cdv [])) Q E { s with heap := h₁, toks := tk } := by
  with_reducible refine ctx_exec ?_
  intro AA ee
  (with_reducible refine' open_stmt ?oe ?_); (case oe => exact (rfl : gb 13 = Stmt.Assign _ _ _))
  (repeat' ((fail_if_success (with_reducible first | refine sFor ?_ | refine sCal ?_)); walk_at "w2"))
  refine told_ok w _ _ _ es pc hes hpc hel dl dp' p loose mean mg mb _ _ gd _ _ _ _ _ outer _ base g L _ _ _ _ B F X N T rfl (by omega) (by omega) fun r1 tl1 h2 tk2 F2 N2 o2 ho1 => ?_
  obtain ⟨D1, vs1, k1, rfl, rfl, dv1⟩ := ho1
  simp only [List.cons_append, List.nil_append] at N2
  clear F N
  dsimp only
  (repeat' ((fail_if_success (with_reducible first | refine sFor ?_ | refine sCal ?_)); walk_at "w2"))
  refine due_any w _ _ _ rows (toldP es pc) kd nm tx wd t0 t tt tw hkd hq hlen hrn htl hn h1 hw (hp.mono fun _ h => .tail _ h) (.list (.head _) (ints_only dv1)) p loose mean mg mb _ _ gd _ _ _ _ _ outer _ base g L _ _ _ _ B F2 X N2 T rfl (by omega) (by omega) fun r3 tl3 h3 tk3 F3 N3 o3 ho3 => ?_
  obtain ⟨T3, G, D, v, gs, ls, n3, nG, nD, rfl, mT, mG, mD, dv, dg, dl3⟩ := ho3
  clear F2 N2
  dsimp only
  (repeat' ((fail_if_success (with_reducible first | refine sFor ?_ | refine sCal ?_)); walk_at "w2"))
  (rename Fr _ _ _ _ => F9); (rename News _ _ _ _ => N9)
  have e : ∀ x : Addr × Obj, tl3 ++ x :: news = (tl3 ++ [x]) ++ news := fun x => by simp
  rw [e] at N9 dv
  refine k v G D gs ls nG nD _ _ _ F9 N9 (fun q hq p hp => ?_) (List.mem_append.mpr (.inl mG)) (List.mem_append.mpr (.inl mD)) dv dg (dl3.mono fun _ h => List.mem_append.mpr (.inl h))
  rcases List.mem_append.mp hp with hp | hp
  · exact o3 q (.tail _ hq) p hp
  · exact o2 q hq p hp
end TGrC
section TGrD
open PySem PySem.W PySem.Calls PyProof.Rows PyProof.V PySem.Spec
set_option maxRecDepth 100000
set_option maxHeartbeats 1500000
noncomputable abbrev nmX (j : Nat) : PySem.Str := nameX.getD j PySem.Str.empty
noncomputable abbrev wdX (i : Nat) : PySem.Str := wordX.getD i PySem.Str.empty
noncomputable def keepR (rows : List Row) (nm : PySem.Str) : List Row := rows.filter fun r => Txt.lower r.1 != Txt.lower nm
noncomputable def addX (len i : Nat) : PySem.Str := Txt.join "; " [textOf len 1 (wdX i), fmtX.getD i ""]
/-- what a call of a method answers, and the rows behind it -/
noncomputable def callP (rows : List Row) (kd j len i : Nat) : Dat × List Row :=
  if kd = 0 then (if j = 4 then (refD, rows) else if i = 3 then (refD, keepR rows (nmX j)) else (.none, keepR rows (nmX j) ++ [(nmX j, textOf len kd (wdX i) ++ wdX i)]))
  else if kd = 1 then (if i = 3 then (refD, rows) else if j = 4 then (refD, rows) else (.none, rows ++ [(nmX j, addX len i)]))
  else if kd = 2 then (if j = 4 then (refD, rows) else match findRow rows (nmX j) with
    | some r => (.str r.2, rows)
    | none => if i = 3 then (refD, rows) else (.str (textOf len kd (wdX i) ++ wdX i), rows ++ [(nmX j, textOf len kd (wdX i) ++ wdX i)]))
  else (if j = 4 then (refD, rows) else (.none, keepR rows (nmX j)))
theorem name_facts0 : ∀ j, j < 4 → (∀ i, i < (nmX j).cps.size → badN ((nmX j).cps.getD i 0) = false) ∧ ∀ i, i < (Txt.lower (nmX j)).cps.size → badN ((Txt.lower (nmX j)).cps.getD i 0) = false := by decide +kernel
theorem name_facts (j : Nat) (h : j < 4) : cleanB true (nmX j) ∧ cleanB true (Txt.lower (nmX j)) := name_facts0 j h
theorem name_size : ∀ j, j < 5 → (nmX j).cps.size ≤ 2 := by decide +kernel
theorem name_bad : badAtB true (nmX 4) ∧ badAtB true (Txt.lower (nmX 4)) := ⟨⟨1, by decide +kernel, by decide +kernel, by decide +kernel⟩, ⟨1, by decide +kernel, by decide +kernel, by decide +kernel⟩⟩
theorem word_size : ∀ i, i < 5 → (wdX i).cps.size ≤ 1 := by decide +kernel
theorem text_size0 : ∀ len, len < 21 → ∀ kd, kd < 4 → ∀ i, i < 5 → (textOf len kd (wdX i)).cps.size ≤ 2 ∧ (∀ q, q < (textOf len kd (wdX i)).cps.size → badV ((textOf len kd (wdX i)).cps.getD q 0) = false) ∧ (textOf len kd (wdX i) ++ wdX i).cps.size ≤ 3 := by decide +kernel
theorem text_size (len : Nat) (h : len < 21) (kd : Nat) (h' : kd < 4) (i : Nat) (h'' : i < 5) : (textOf len kd (wdX i)).cps.size ≤ 2 ∧ cleanB false (textOf len kd (wdX i)) ∧ (textOf len kd (wdX i) ++ wdX i).cps.size ≤ 3 := text_size0 len h kd h' i h''
theorem value_clean0 : ∀ len, len < 21 → ∀ kd, kd < 4 → ∀ i, i < 5 → i ≠ 3 → ∀ q, q < (textOf len kd (wdX i) ++ wdX i).cps.size → badV ((textOf len kd (wdX i) ++ wdX i).cps.getD q 0) = false := by decide +kernel
theorem value_clean (len : Nat) (h : len < 21) (kd : Nat) (h' : kd < 4) (i : Nat) (h'' : i < 5) (h3 : i ≠ 3) : cleanB false (textOf len kd (wdX i) ++ wdX i) := value_clean0 len h kd h' i h'' h3
theorem value_bad0 : ∀ len, len < 21 → ∀ kd, kd < 4 → ((textOf len kd (wdX 3) ++ wdX 3).cps.size - 1 < (textOf len kd (wdX 3) ++ wdX 3).cps.size ∧ badV ((textOf len kd (wdX 3) ++ wdX 3).cps.getD ((textOf len kd (wdX 3) ++ wdX 3).cps.size - 1) 0) = true ∧
    ∀ i, i < (textOf len kd (wdX 3) ++ wdX 3).cps.size - 1 → badV ((textOf len kd (wdX 3) ++ wdX 3).cps.getD i 0) = false) := by decide +kernel
theorem value_bad (len : Nat) (h : len < 21) (kd : Nat) (h' : kd < 4) : badAtB false (textOf len kd (wdX 3) ++ wdX 3) := ⟨_, value_bad0 len h kd h'⟩
theorem GivesU.mono {w : World} {f : Addr} {dd uu : Nat} {pos : List Value} {kw : List (PySem.Str × Value)} {news : List (Addr × Obj)} {Out Out' : List (Addr × Obj) → Value → Prop} (h : GivesU w f dd uu pos kw news Out) (k : ∀ l r, Out l r → Out' l r) : GivesU w f dd uu pos kw news Out' := by
  unfold GivesU at *
  intro p loose mean mg mb dp un gd env outer A₀ base h₀ L m s R B F X N T hf hk hd hu ret
  exact h p loose mean mg mb dp un gd env outer A₀ base h₀ L m s R B F X N T hf hk hd hu fun r all h' tk' F' N' ho => ret r all h' tk' F' N' (k _ _ ho)
theorem GivesV.mono {w : World} {f : Addr} {dd uu : Nat} {vs : List Value} {news : List (Addr × Obj)} {Out Out' : List (Addr × Obj) → Value → Prop} (h : GivesV w f dd uu vs news Out) (k : ∀ l r, Out l r → Out' l r) : GivesV w f dd uu vs news Out' := by
  unfold GivesV at *
  intro p loose mean mg mb dp un gd cn cs a ccd cl outer A₀ base h₀ L m s Q E B F X N T D hk hd hu ret
  exact h p loose mean mg mb dp un gd cn cs a ccd cl outer A₀ base h₀ L m s Q E B F X N T D hk hd hu fun r all g' h' tk' T' B' D' F' N' ho => ret r all g' h' tk' T' B' D' F' N' (k _ _ ho)
noncomputable def CallOut (w : World) (x dx l : Nat) (kk : Tok) (rest : List (Addr × Obj)) (d : Dat × List Row) (all : List (Addr × Obj)) (r : Value) : Prop :=
  ∃ ex vs' n' r0, (∀ q ∈ ex ++ ((x, instObj 197 dx) :: (dx, hdrD w l kk) :: (l, listOf (List.toArray vs') n') :: rest), q ∈ all) ∧ DatAll (ex ++ rest) vs' (d.2.map pairD) ∧ DatIn (r0 ++ (ex ++ rest)) r d.1 ∧ (∀ q ∈ r0, q ∈ all) ∧
    ∀ p ∈ ex, p.1 ≠ x ∧ p.1 ≠ dx ∧ p.1 ≠ l ∧ ∀ q ∈ rest, q.1 ≠ p.1
theorem out_refused {w : World} {x dx l n' : Nat} {kk tq : Tok} {rest all' : List (Addr × Obj)} {rows : List Row} {vs' : List Value} {D k1 : Nat} (hs : ∀ q ∈ ((x, instObj 197 dx) :: (dx, hdrD w l kk) :: (l, listOf vs'.toArray n') :: rest), q ∈ all') (h : DatAll rest vs' (rows.map pairD)) :
    CallOut w x dx l kk rest (refD, rows) ((D, listOf #[.str refusedS tq] k1) :: all') (.ref D) :=
  ⟨[], vs', n', [(D, listOf #[.str refusedS tq] k1)], fun q hq => .tail _ (hs q hq), h, .list (vs := [.str refusedS tq]) (.head _) (.cons (.str _ _) .nil), fun q hq => by rw [List.mem_singleton.mp hq]; exact .head _, fun _ h => absurd h List.not_mem_nil⟩
theorem out_same {w : World} {x dx l n' : Nat} {kk : Tok} {rest : List (Addr × Obj)} {rows : List Row} {vs' : List Value} {d : Dat} {r : Value} (h : DatAll rest vs' (rows.map pairD)) (hr : DatIn [] r d) :
    CallOut w x dx l kk rest (d, rows) ((x, instObj 197 dx) :: (dx, hdrD w l kk) :: (l, listOf vs'.toArray n') :: rest) r :=
  ⟨[], vs', n', [], fun q hq => hq, h, hr.mono fun _ h => absurd h List.not_mem_nil, fun _ h => absurd h List.not_mem_nil, fun _ h => absurd h List.not_mem_nil⟩
theorem out_new {w : World} {x dx l n' np p : Nat} {kk t tv : Tok} {rest : List (Addr × Obj)} {rows : List Row} {vs' : List Value} {d : Dat} {r : Value} {nm vl : PySem.Str} (h : DatAll rest vs' (rows.map pairD)) (hr : DatIn [] r d)
    (h1 : p ≠ x) (h2 : p ≠ dx) (h3 : p ≠ l) (h4 : ∀ q ∈ rest, q.1 ≠ p) :
    CallOut w x dx l kk rest (d, rows ++ [(nm, vl)]) ((p, ({ cls := .type "tuple", data := .seq #[.str nm t, .str vl tv] np } : Obj)) :: (x, instObj 197 dx) :: (dx, hdrD w l kk) :: (l, listOf (vs' ++ [Value.ref p]).toArray n') :: rest) r := by
  refine ⟨[(p, ({ cls := .type "tuple", data := .seq #[.str nm t, .str vl tv] np } : Obj))], vs' ++ [Value.ref p], n', [], fun q hq => hq, ?_, hr.mono fun _ h => absurd h List.not_mem_nil, fun _ h => absurd h List.not_mem_nil, fun q hq => ?_⟩
  · rw [List.map_append]
    exact (h.mono fun _ h => List.mem_append.mpr (.inr h)).append (.cons (.tuple (vs := [.str nm t, .str vl tv]) (.head _) (.cons (.str _ _) (.cons (.str _ _) .nil))) .nil)
  · rw [List.mem_singleton.mp hq]
    exact ⟨h1, h2, h3, h4⟩
theorem call_any (w : World) (x dx l n : Nat) (kk : Tok) (vs : List Value) (rest : List (Addr × Obj)) (rows : List Row) (kd j i len : Nat) (t0 t tt tw : Tok) (hkd : kd < 4) (hj : j < 5) (hi : i < 5) (hlen : len < 21)
    (hvs : DatAll rest vs (rows.map pairD)) (hcl : ∀ r ∈ rows, Clean r) (hr : rows.length ≤ 1000) (hxl : x ≠ l) (hdl : dx ≠ l) (hrl : ∀ q ∈ rest, q.1 ≠ l) :
    GivesV w 227 30 290 [.ref x, .int kd t0, .str (nmX j) t, .str (textOf len kd (wdX i)) tt, .str (wdX i) tw] ((x, instObj 197 dx) :: (dx, hdrD w l kk) :: (l, listOf vs.toArray n) :: rest) (CallOut w x dx l kk rest (callP rows kd j len i)) := by
  have ns := name_size j hj
  have ws := word_size i hi
  have hvl : vs.length ≤ 1000 := by rw [hvs.length, List.length_map]; exact hr
  match kd, hkd with
  | 0, _ =>
    have ts := text_size len hlen 0 (by decide) i hi
    show GivesV w 227 30 290 _ _ (CallOut w x dx l kk rest (if j = 4 then (refD, rows) else if i = 3 then (refD, keepR rows (nmX j)) else (.none, keepR rows (nmX j) ++ [(nmX j, textOf len 0 (wdX i) ++ wdX i)])))
    by_cases h4 : j = 4
    · subst h4
      rw [if_pos rfl]
      refine (call0_no w x dx l kk ((l, listOf vs.toArray n) :: rest) _ _ _ t0 t tt tw _ (by omega) (by omega) fun tv => set_fails w x dx l n kk vs rest (nmX 4) _ t tv (by omega) name_bad.2).mono ?_
      rintro all r ⟨D, k1, tq, all', rfl, rfl, rfl⟩
      exact out_refused (fun q hq => hq) hvs
    rw [if_neg h4]
    have nf := name_facts j (by omega)
    by_cases h3 : i = 3
    · subst h3
      rw [if_pos rfl]
      refine (call0_no w x dx l kk ((l, listOf vs.toArray n) :: rest) _ _ _ t0 t tt tw _ (by omega) (by omega) fun tv => set_failsV w x dx l n kk vs rest rows (nmX j) _ t tv hvs hcl hr (by omega) nf.2 nf.1 (by omega) (value_bad len hlen 0 (by decide)) hxl hdl hrl).mono ?_
      rintro all r ⟨D, k1, tq, all', rfl, rfl, vs', n', rfl, hv⟩
      exact out_refused (fun q hq => hq) hv
    rw [if_neg h3]
    refine (call0_ok w x dx l kk ((l, listOf vs.toArray n) :: rest) _ _ _ t0 t tt tw (fun all _ => CallOut w x dx l kk rest (.none, keepR rows (nmX j) ++ [(nmX j, textOf len 0 (wdX i) ++ wdX i)]) all .none) (by omega) (by omega) fun tv => (set_ok w x dx l n kk vs rest rows (nmX j) _ t tv hvs hcl hr (by omega) nf.2 nf.1 (by omega) (value_clean len hlen 0 (by decide) i hi h3) hxl hdl hrl).mono ?_).mono ?_
    · rintro all r ⟨rfl, p, vs', n', np, rfl, hv, a1, a2, a3, a4⟩
      exact out_new hv .none a1 a2 a3 a4
    · rintro all r ⟨r0, ho, rfl⟩
      exact ho
  | 1, _ =>
    have ts := text_size len hlen 1 (by decide) i hi
    show GivesV w 227 30 290 _ _ (CallOut w x dx l kk rest (if i = 3 then (refD, rows) else if j = 4 then (refD, rows) else (.none, rows ++ [(nmX j, addX len i)])))
    have hwx : wdX i = wordX.getD i "" := (show ∀ i, i < 5 → wdX i = wordX.getD i "" from by decide +kernel) i hi
    by_cases h3 : i = 3
    · subst h3
      rw [if_pos rfl]
      refine (call1_no w x dx l kk ((l, listOf vs.toArray n) :: rest) _ _ _ t0 t tt tw _ (by omega) (by rw [← hwx]; omega) (add_failsW w x dx l n kk vs rest (nmX j) _ t tt tw (Nat.le_trans ns (by decide)) (Nat.le_trans ts.1 (by decide)) ts.2.1 hxl hdl hrl)).mono ?_
      rintro all r ⟨D, k1, tq, all', rfl, rfl, rfl⟩
      exact out_refused (fun q hq => hq) hvs
    rw [if_neg h3]
    have hi' : i = 0 ∨ i = 1 ∨ i = 2 ∨ i = 4 := by omega
    by_cases h4 : j = 4
    · subst h4
      rw [if_pos rfl]
      refine (call1_no w x dx l kk ((l, listOf vs.toArray n) :: rest) _ _ _ t0 t tt tw _ (by omega) (by omega) (by rw [hwx]; exact add_failsN w x dx l n kk vs rest (nmX 4) _ i t tt tw (by omega) (by rw [← hwx]; omega) (by rw [← hwx]; exact ts.2.1) hi' name_bad.1 hxl hdl hrl)).mono ?_
      rintro all r ⟨D, k1, tq, all', rfl, rfl, rfl⟩
      exact out_refused (fun q hq => hq) hvs
    rw [if_neg h4]
    have nf := name_facts j (by omega)
    refine (call1_ok w x dx l kk ((l, listOf vs.toArray n) :: rest) _ _ _ t0 t tt tw (fun all r => r = .none ∧ CallOut w x dx l kk rest (.none, rows ++ [(nmX j, addX len i)]) all .none) (by omega) (by omega) (GivesU.mono (by rw [hwx]; exact add_ok w x dx l n kk vs rest (nmX j) _ i t tt tw hvl (by omega) (by rw [← hwx]; omega) (by rw [← hwx]; exact ts.2.1) hi' nf.1 hxl hdl hrl) ?_)).mono ?_
    · rintro all r ⟨rfl, p, n', np, t', rfl, a1, a2, a3, a4⟩
      rw [← hwx]
      exact ⟨rfl, out_new hvs .none a1 a2 a3 a4⟩
    · rintro all r ⟨r0, ⟨rfl, ho⟩, rfl⟩
      exact ho
  | 2, _ =>
    have ts := text_size len hlen 2 (by decide) i hi
    show GivesV w 227 30 290 _ _ (CallOut w x dx l kk rest (if j = 4 then (refD, rows) else match findRow rows (nmX j) with
      | some r => (.str r.2, rows)
      | none => if i = 3 then (refD, rows) else (.str (textOf len 2 (wdX i) ++ wdX i), rows ++ [(nmX j, textOf len 2 (wdX i) ++ wdX i)])))
    by_cases h4 : j = 4
    · subst h4
      rw [if_pos rfl]
      refine (call2_no w x dx l kk ((l, listOf vs.toArray n) :: rest) _ _ _ t0 t tt tw _ (by omega) (by omega) fun tv => sdef_fails w x dx l n kk vs rest rows (nmX 4) _ t tv hvs hcl hr (by omega) (by omega) name_bad.2 hxl hdl hrl).mono ?_
      rintro all r ⟨D, k1, tq, all', rfl, rfl, rfl⟩
      exact out_refused (fun q hq => hq) hvs
    rw [if_neg h4]
    have nf := name_facts j (by omega)
    cases hf : findRow rows (nmX j) with
    | some row =>
      refine (call2_ok w x dx l kk ((l, listOf vs.toArray n) :: rest) _ _ _ t0 t tt tw _ (by omega) (by omega) fun tv => sdef_found w x dx l n kk vs rest rows (nmX j) _ t tv hvs hcl hr (by omega) (by omega) row nf.2 hf hxl hdl hrl).mono ?_
      rintro all r ⟨r0, ⟨rfl, t', rfl⟩, rfl⟩
      exact out_same hvs (.str _ _)
    | none =>
      dsimp only
      by_cases h3 : i = 3
      · subst h3
        rw [if_pos rfl]
        refine (call2_no w x dx l kk ((l, listOf vs.toArray n) :: rest) _ _ _ t0 t tt tw _ (by omega) (by omega) fun tv => sdef_failsV w x dx l n kk vs rest rows (nmX j) _ t tv hvs hcl hr (by omega) (by omega) nf.2 hf nf.1 (value_bad len hlen 2 (by decide)) hxl hdl hrl).mono ?_
        rintro all r ⟨D, k1, tq, all', rfl, rfl, rfl⟩
        exact out_refused (fun q hq => hq) hvs
      rw [if_neg h3]
      refine (call2_ok w x dx l kk ((l, listOf vs.toArray n) :: rest) _ _ _ t0 t tt tw (fun all r => CallOut w x dx l kk rest (.str (textOf len 2 (wdX i) ++ wdX i), rows ++ [(nmX j, textOf len 2 (wdX i) ++ wdX i)]) all r) (by omega) (by omega) fun tv => (sdef_new w x dx l n kk vs rest rows (nmX j) _ t tv hvs hcl hr (by omega) (by omega) nf.2 hf nf.1 (value_clean len hlen 2 (by decide) i hi h3) hxl hdl hrl).mono ?_).mono ?_
      · rintro all r ⟨rfl, p, n', np, rfl, a1, a2, a3, a4⟩
        exact out_new hvs (.str _ _) a1 a2 a3 a4
      · rintro all r ⟨r0, ho, rfl⟩
        exact ho
  | 3, _ =>
    have ts := text_size len hlen 3 (by decide) i hi
    show GivesV w 227 30 290 _ _ (CallOut w x dx l kk rest (if j = 4 then (refD, rows) else (.none, keepR rows (nmX j))))
    by_cases h4 : j = 4
    · subst h4
      rw [if_pos rfl]
      refine (call3_no w x dx l kk ((l, listOf vs.toArray n) :: rest) _ _ _ t0 t tt tw _ (by omega) (by omega) (del_fails w x dx l n kk vs rest (nmX 4) t (by omega) name_bad.2)).mono ?_
      rintro all r ⟨D, k1, tq, all', rfl, rfl, rfl⟩
      exact out_refused (fun q hq => hq) hvs
    rw [if_neg h4]
    have nf := name_facts j (by omega)
    refine (call3_ok w x dx l kk ((l, listOf vs.toArray n) :: rest) _ _ _ t0 t tt tw _ (by omega) (by omega) (del_ok w x dx l n kk vs rest rows (nmX j) t hvs hcl hr (by omega) nf.2 hxl hdl hrl)).mono ?_
    rintro all r ⟨r0, ⟨rfl, vs', n', rfl, hv⟩, rfl⟩
    exact out_same hv .none
end TGrD
section TGrE
open PySem PySem.W PySem.Calls PyProof.Rows PyProof.V PySem.Spec
set_option maxRecDepth 100000
set_option maxHeartbeats 1500000
set_option pp.maxSteps 12000
noncomputable def AnsD (d : Dat) : Prop := d = .none ∨ (∃ x, d = .str x) ∨ d = refD
theorem callP_form (rows : List Row) (kd j len i : Nat) : AnsD (callP rows kd j len i).1 := by
  unfold callP AnsD
  split
  · split
    · exact .inr (.inr rfl)
    · split
      · exact .inr (.inr rfl)
      · exact .inl rfl
  · split
    · split
      · exact .inr (.inr rfl)
      · split
        · exact .inr (.inr rfl)
        · exact .inl rfl
    · split
      · split
        · exact .inr (.inr rfl)
        · split
          · exact .inr (.inl ⟨_, rfl⟩)
          · split
            · exact .inr (.inr rfl)
            · exact .inr (.inl ⟨_, rfl⟩)
      · split
        · exact .inr (.inr rfl)
        · exact .inl rfl
theorem ans_excl {w : World} {tl old R : List (Addr × Obj)} {x dx l n : Nat} {kk : Tok} {vs : List Value} {rows : List Row} {v : Value} {d : Dat} (h : DatIn (tl ++ ((x, instObj 197 dx) :: (dx, hdrD w l kk) :: (l, listOf vs.toArray n) :: old)) v d) (hd : AnsD d) (hvs : DatAll R vs (rows.map pairD)) : DatIn (tl ++ old) v d := by
  rcases hd with rfl | ⟨s, rfl⟩ | rfl
  · cases h; exact .none
  · obtain ⟨t, rfl⟩ := str_of_dat h; exact .str _ _
  · obtain ⟨a, rfl⟩ := ref_of_list h
    obtain ⟨ws, m, hm, hw⟩ := dat_list_inv h
    cases hw with
    | cons h1 h2 =>
      cases h2
      obtain ⟨t, rfl⟩ := str_of_dat h1
      refine .list (vs := [.str refusedS t]) (n := m) ?_ (.cons (.str _ _) .nil)
      rcases List.mem_append.mp hm with hm | hm
      · exact List.mem_append.mpr (.inl hm)
      rcases List.mem_cons.mp hm with e | hm
      · have e1 : Value.type "list" = Value.ref 197 := congrArg (fun p : Addr × Obj => p.2.cls) e
        cases e1
      rcases List.mem_cons.mp hm with e | hm
      · have e1 : Value.type "list" = Value.type "dict" := congrArg (fun p : Addr × Obj => p.2.cls) e
        exact absurd (Value.type.inj e1) (by decide)
      rcases List.mem_cons.mp hm with e | hm
      · have e1 : Data.seq [Value.str refusedS t].toArray m = Data.seq vs.toArray n := congrArg (fun p : Addr × Obj => p.2.data) e
        have e2 : [Value.str refusedS t] = vs := by
          have := (Data.seq.inj e1).1
          simpa using congrArg Array.toList this
        subst e2
        cases rows with
        | nil => cases hvs
        | cons r rows =>
          cases hvs with
          | cons a b => cases a
      · exact List.mem_append.mpr (.inr hm)
theorem bne_self (x : PySem.Str) : (x != x) = false := by simp


variable {w : World} {p : Program} {loose : List PySem.Str} {mean : ExcName → Option Value} {mg mb : PySem.Str → Option Value} {dp un : Nat} {gd : Option (List Code)} {outer : List Env} {base g : Heap} {L : Addr} {h₁ : Heap} {s : Shared} {tk : Nat} {Q : Flow → Shared → Prop} {E : Value → Shared → Prop} {cdv : Value}
theorem ne_ans {A : Around} {Q : Value → Shared → Prop} {E : Value → Shared → Prop} {news r0 r1 : List (Addr × Obj)} {d : Dat} {r v : Value} (N : News g L h₁ news) (hr : DatIn r0 r d) (hv : DatIn r1 v d) (s0 : ∀ q ∈ r0, q ∈ news) (s1 : ∀ q ∈ r1, q ∈ news) (hd : AnsD d) (hu : A.units + 64 < cLine)
    (h : Q (.bool false) { s with heap := h₁, toks := tk }) : wpAny (model PR w) A (compareOp .NotEq r v) Q E { s with heap := h₁, toks := tk } := by
  rcases hd with rfl | ⟨x, rfl⟩ | rfl
  · cases hr; cases hv
    walk1
    exact h
  · obtain ⟨t, rfl⟩ := str_of_dat hr
    obtain ⟨t', rfl⟩ := str_of_dat hv
    walk1
    rw [bne_self]
    exact h
  · obtain ⟨a, rfl⟩ := ref_of_list hr
    obtain ⟨ws, m, hm, hw⟩ := dat_list_inv hr
    obtain ⟨b, rfl⟩ := ref_of_list hv
    obtain ⟨ws', m', hm', hw'⟩ := dat_list_inv hv
    refine kqd_ne N (s0 _ hm) rfl rfl hw s0 (s1 _ hm') rfl rfl hw' s1 ?o1 ?o2 hu ?_
    case o1 => (intro d hd; rw [List.mem_singleton.mp hd]; decide +kernel)
    case o2 => (intro d hd; rw [List.mem_singleton.mp hd]; decide +kernel)
    rw [dec_self]
    exact h
theorem seg14 {rest : List (Addr × Obj)} {x dx l n kd j i len : Nat} {kk : Tok} {vs : List Value} {rows : List Row} {t0 t tt tw : Tok} {dv : Value} {r1 : List (Addr × Obj)} {u : PySem.Str → Option Value} 
    (B : Below (aro dp un gd outer) base outer g) (F : Fr g L h₁ (fixM [("table", .ref x), ("kind", .int kd t0), ("name", .str (nmX j) t), ("text", .str (textOf len kd (wdX i)) tt), ("word", .str (wdX i) tw), ("due", dv)] u)) (XB : (KK w.params).In base) (TB : Top p loose mean mg mb base) (D : KtsDicts (frs outer) g)
    (N : News g L h₁ ((x, instObj 197 dx) :: (dx, hdrD w l kk) :: (l, listOf vs.toArray n) :: rest)) 
    (hkd : kd < 4) (hj : j < 5) (hi : i < 5) (hlen : len < 21) (hvs : DatAll rest vs (rows.map pairD)) (hcl : ∀ r ∈ rows, Clean r) (hr : rows.length ≤ 1000) (hxl : x ≠ l) (hdl : dx ≠ l) (hrl : ∀ q ∈ rest, q.1 ≠ l)
    (hdv : DatIn rest dv (callP rows kd j len i).1)
    (hd : dp + 40 < recursionLimit) (hu : un + 400 < cLine)
    (k : ∀ g' ex vs' n' h' tk', KtsTurn (frs outer) g g' → Below (aro dp un gd outer) base outer g' → KtsDicts (frs outer) g' → Fr g' L h' (fixM [("table", .ref x), ("kind", .int kd t0), ("name", .str (nmX j) t), ("text", .str (textOf len kd (wdX i)) tt), ("word", .str (wdX i) tw), ("due", dv)] u) →
      News g' L h' (ex ++ ((x, instObj 197 dx) :: (dx, hdrD w l kk) :: (l, listOf (List.toArray vs') n') :: rest)) → DatAll (ex ++ rest) vs' ((callP rows kd j len i).2.map pairD) → (∀ p ∈ ex, p.1 ≠ x ∧ p.1 ≠ dx ∧ p.1 ≠ l ∧ ∀ q ∈ rest, q.1 ≠ p.1) → Q .next { s with heap := h', toks := tk' }) :
    wpAny (model PR w) (ktrTop (dp + 1) (un + 3) gd "_law_grown" sc18 L 239 cdv [] outer) (exec (gb 14) (envX "_law_grown" sc18 L 239 cdv [])) Q E { s with heap := h₁, toks := tk } := by
  have X : (KK w.params).In g := XB.keeps B.stays
  have T := TB.keeps B.stays
  with_reducible refine ctx_exec ?_
  intro AA ee
  (with_reducible refine' open_stmt ?oe ?_); (case oe => exact (rfl : gb 14 = Stmt.If _ _ _ _))
  (repeat' ((fail_if_success (with_reducible first | refine sFor ?_ | refine sCal ?_)); walk_at "w2"))
  refine call_any w x dx l n kk vs rest rows kd j i len t0 t tt tw hkd hj hi hlen hvs hcl hr hxl hdl hrl p loose mean mg mb _ _ gd _ _ _ _ _ outer _ base g L _ _ _ _ B F XB N TB D rfl (by omega) (by omega) fun r all g2 h2 tk2 T2 B2 D2 F2 N2 ho => ?_
  obtain ⟨ex, vs', n', r0, sub, hv', hr', sr, off⟩ := ho
  clear X T
  dsimp only
  (repeat' ((fail_if_success (with_reducible first | refine sFor ?_ | refine sCal ?_)); walk_at "w2"))
  refine ne_ans (r0 := r0 ++ (ex ++ rest)) (r1 := rest) N2 hr' hdv (fun q hq => ?_) (fun q hq => sub q (List.mem_append.mpr (.inr (.tail _ (.tail _ (.tail _ hq)))))) (callP_form _ _ _ _ _) (by show un + 3 + 64 < cLine; omega) ?_
  · rcases List.mem_append.mp hq with hq | hq
    · exact sr q hq
    rcases List.mem_append.mp hq with hq | hq
    · exact sub q (List.mem_append.mpr (.inl hq))
    · exact sub q (List.mem_append.mpr (.inr (.tail _ (.tail _ (.tail _ hq)))))
  (repeat' ((fail_if_success (with_reducible first | refine sFor ?_ | refine sCal ?_)); walk_at "w2"))
  exact k g2 ex vs' n' _ _ T2 B2 D2 F2 (fun q hq => N2 q (sub q hq)) hv' off
end TGrE
section TGrF
open PySem PySem.W PySem.Calls PyProof.Rows PyProof.V PySem.Spec
set_option maxRecDepth 100000
set_option maxHeartbeats 1500000
set_option pp.maxSteps 12000
/-- the stamps of the pairs that go, as they are laid -/
noncomputable def goneL (c : List Nat) (gs : List Nat) : List LE := gs.flatMap fun q => [(c, q, false), (c ++ [13], q, true)]
/-- the stamps of the pairs that are laid -/
noncomputable def laidL (c : List Nat) (n : Nat) : Nat → List LE
  | 0 => []
  | k + 1 => [(c, n, true), (c ++ [13], n, false)] ++ laidL c (n + 1) k
theorem goneL_length (c : List Nat) : ∀ gs : List Nat, (goneL c gs).length = 2 * gs.length
  | [] => rfl
  | q :: gs => by
    have := goneL_length c gs
    unfold goneL at this ⊢
    rw [List.flatMap_cons, List.length_append, this, List.length_cons (as := gs)]
    show 2 + _ = _
    omega
theorem laidL_length (c : List Nat) : ∀ (k n : Nat), (laidL c n k).length = 2 * k
  | 0, _ => rfl
  | k + 1, n => by
    unfold laidL
    rw [List.length_append, laidL_length c k (n + 1)]
    show 2 + _ = _
    omega
theorem laidL_snoc (c : List Nat) : ∀ (k n : Nat), laidL c n (k + 1) = laidL c n k ++ [(c, n + k, true), (c ++ [13], n + k, false)]
  | 0, n => by simp [laidL]
  | k + 1, n => by
    have ih := laidL_snoc c k (n + 1)
    rw [show laidL c n (k + 1 + 1) = [(c, n, true), (c ++ [13], n, false)] ++ laidL c (n + 1) (k + 1) from rfl, ih, show laidL c n (k + 1) = [(c, n, true), (c ++ [13], n, false)] ++ laidL c (n + 1) k from rfl, List.append_assoc, show n + 1 + k = n + (k + 1) by omega]
noncomputable abbrev tupO (a b c : Value) : Obj := { cls := .type "tuple", data := .seq #[a, b, c] }
section
variable {A : Around} {s : Shared} {g : Heap} {L : Addr} {m : PySem.Str → Option Value} {prog : Program} {w : World}
theorem stamp_dat {rest ex : List (Addr × Obj)} {T1 T2 O Cl q : Nat} {t t' : Tok} {b1 b2 : Bool} {ls' : List Value} {es : List LE} {c : List Nat}
    (hls : DatAll (ex ++ rest) ls' (es.map entryD)) (dO : DatIn rest (.ref O) (.list (rowD c))) (dC : DatIn rest (.ref Cl) (.list (rowD (c ++ [13])))) :
    DatAll (((T2, tupO (.ref Cl) (.int q t') (.bool b2)) :: (T1, tupO (.ref O) (.int q t) (.bool b1)) :: ex) ++ rest) (ls' ++ [Value.ref T1, Value.ref T2]) ((es ++ [(c, q, b1), (c ++ [13], q, b2)]).map entryD) := by
  rw [List.map_append]
  refine (hls.mono fun _ h => .tail _ (.tail _ h)).append (.cons (.tuple (vs := [.ref O, .int q t, .bool b1]) (n := 0) (.tail _ (.head _)) ?_) (.cons (.tuple (vs := [.ref Cl, .int q t', .bool b2]) (n := 0) (.head _) ?_) .nil))
  · exact .cons (dO.mono fun _ h => .tail _ (.tail _ (List.mem_append.mpr (.inr h)))) (.cons (.int _ _) (.cons (.bool _) .nil))
  · exact .cons (dC.mono fun _ h => .tail _ (.tail _ (List.mem_append.mpr (.inr h)))) (.cons (.int _ _) (.cons (.bool _) .nil))
theorem stamp_iadd {Q : Value → Shared → Prop} {E : Value → Shared → Prop} {rest ex : List (Addr × Obj)} {l' T1 T2 I LN O Cl n' q : Nat} {t t' : Tok} {b1 b2 : Bool} {oI : Obj} {ls' : List Value} {es : List LE} {c : List Nat}
    (F : Fr g L s.heap m) (N : News g L s.heap ((l', listOf #[.ref T1, .ref T2] 0) :: (T2, tupO (.ref Cl) (.int q t') (.bool b2)) :: (T1, tupO (.ref O) (.int q t) (.bool b1)) :: (I, oI) :: (LN, listOf ls'.toArray n') :: (ex ++ rest)))
    (hls : DatAll (ex ++ rest) ls' (es.map entryD)) (dO : DatIn rest (.ref O) (.list (rowD c))) (dC : DatIn rest (.ref Cl) (.list (rowD (c ++ [13])))) (hl : ls'.length ≤ 5000) (hex : ∀ y ∈ ex, y.1 ≠ LN ∧ ∀ p ∈ rest, p.1 ≠ y.1)
    (i0 : LN < I) (i1 : LN < l') (i2 : LN < T1) (i3 : LN < T2) (a1 : AllLt T1 (ex ++ rest)) (a2 : AllLt T2 (ex ++ rest)) (hr : ∀ y ∈ rest, y.1 ≠ LN)
    (h : ∀ h', Fr g L h' m → News g L h' ((I, oI) :: (LN, listOf (ls' ++ [Value.ref T1, Value.ref T2]).toArray (n' + 1)) :: (((T2, tupO (.ref Cl) (.int q t') (.bool b2)) :: (T1, tupO (.ref O) (.int q t) (.bool b1)) :: ex) ++ rest)) →
      DatAll (((T2, tupO (.ref Cl) (.int q t') (.bool b2)) :: (T1, tupO (.ref O) (.int q t) (.bool b1)) :: ex) ++ rest) (ls' ++ [Value.ref T1, Value.ref T2]) ((es ++ [(c, q, b1), (c ++ [13], q, b2)]).map entryD) →
      (∀ y ∈ ((T2, tupO (.ref Cl) (.int q t') (.bool b2)) :: (T1, tupO (.ref O) (.int q t) (.bool b1)) :: ex), y.1 ≠ LN ∧ ∀ p ∈ rest, p.1 ≠ y.1) → Q (.ref LN) { s with heap := h' }) :
    wpAny (model prog w) A (inplaceOp .Add (.ref LN) (.ref l')) Q E s := by
  have hexr : ∀ q ∈ ex ++ rest, q.1 ≠ LN := fun q hq => by
    rcases List.mem_append.mp hq with hq | hq
    · exact (hex q hq).1
    · exact hr q hq
  refine iadd_list (ys := [Value.ref T1, Value.ref T2]) (zs := ls' ++ [Value.ref T1, Value.ref T2]) F N (.head _) rfl (by simp) (.tail (Nat.ne_of_gt i1) (.tail (Nat.ne_of_gt i3) (.tail (Nat.ne_of_gt i2) (.tail (Nat.ne_of_gt i0) (.head hexr))))) (by show ls'.length + 2 ≤ 100000; omega) fun h' F' N' => ?_
  refine h h' F' (fun q hq => N' q ?_) ?_ ?_
  · rcases List.mem_cons.mp hq with rfl | hq
    · exact .tail _ (.tail _ (.tail _ (.head _)))
    rcases List.mem_cons.mp hq with rfl | hq
    · exact .tail _ (.tail _ (.tail _ (.tail _ (.head _))))
    rcases List.mem_cons.mp hq with rfl | hq
    · exact .tail _ (.head _)
    rcases List.mem_cons.mp hq with rfl | hq
    · exact .tail _ (.tail _ (.head _))
    · exact .tail _ (.tail _ (.tail _ (.tail _ (.tail _ hq))))
  · exact stamp_dat hls dO dC
  · intro q hq
    rcases List.mem_cons.mp hq with rfl | hq
    · exact ⟨Nat.ne_of_gt i3, fun p hp => Nat.ne_of_lt (ktn_ltOf a2 p (List.mem_append.mpr (.inr hp)))⟩
    rcases List.mem_cons.mp hq with rfl | hq
    · exact ⟨Nat.ne_of_gt i2, fun p hp => Nat.ne_of_lt (ktn_ltOf a1 p (List.mem_append.mpr (.inr hp)))⟩
    · exact hex q hq
end


structure J15 (LN O Cl G : Nat) (rest : List (Addr × Obj)) (es : List LE) (c gs : List Nat) (u : PySem.Str → Option Value) (i : Nat) (m : PySem.Str → Option Value) (nx : List (Addr × Obj)) (u' : PySem.Str → Option Value) (ls' : List Value) (n' : Nat) (ex : List (Addr × Obj)) : Prop where
  f0 : m = fixM [("line", .ref LN), ("opened", .ref O), ("closed", .ref Cl), ("gone", .ref G)] u'
  f1 : (∀ y : PySem.Str, y ≠ "which" → m y = fixM [("line", .ref LN), ("opened", .ref O), ("closed", .ref Cl), ("gone", .ref G)] u y)
  f2 : nx = (LN, listOf (List.toArray ls') n') :: (ex ++ rest)
  f3 : DatAll (ex ++ rest) ls' ((es ++ goneL c (gs.take i)).map entryD)
  f4 : (∀ q ∈ ex, q.1 ≠ LN ∧ ∀ p ∈ rest, p.1 ≠ q.1)
structure J16 (LN P O Cl G : Nat) (rest : List (Addr × Obj)) (es : List LE) (c : List Nat) (rows laid : List Row) (u : PySem.Str → Option Value) (i : Nat) (m : PySem.Str → Option Value) (nx : List (Addr × Obj)) (u' : PySem.Str → Option Value) (ls' ps' : List Value) (n' nP' : Nat) (ex : List (Addr × Obj)) : Prop where
  f0 : m = fixM [("line", .ref LN), ("opened", .ref O), ("closed", .ref Cl), ("laid", .ref G), ("pairs", .ref P)] u'
  f1 : (∀ y : PySem.Str, y ≠ "pair" → m y = fixM [("line", .ref LN), ("opened", .ref O), ("closed", .ref Cl), ("laid", .ref G), ("pairs", .ref P)] u y)
  f2 : nx = (LN, listOf (List.toArray ls') n') :: (P, listOf (List.toArray ps') nP') :: (ex ++ rest)
  f3 : DatAll (ex ++ rest) ls' ((es ++ laidL c rows.length i).map entryD)
  f4 : DatAll (ex ++ rest) ps' ((rows ++ laid.take i).map pairD)
  f5 : (∀ q ∈ ex, q.1 ≠ LN ∧ q.1 ≠ P ∧ ∀ p ∈ rest, p.1 ≠ q.1)
variable {w : World} {p : Program} {loose : List PySem.Str} {mean : ExcName → Option Value} {mg mb : PySem.Str → Option Value} {dp un : Nat} {gd : Option (List Code)} {outer : List Env} {base g : Heap} {L : Addr} {h₁ : Heap} {s : Shared} {tk : Nat} {Q : Flow → Shared → Prop} {E : Value → Shared → Prop} {cdv : Value}
theorem seg15 {rest : List (Addr × Obj)} {LN O Cl G nL nG : Nat} {ls gv : List Value} {es : List LE} {c gs : List Nat} {u : PySem.Str → Option Value} 
    (F : Fr g L h₁ (fixM [("line", .ref LN), ("opened", .ref O), ("closed", .ref Cl), ("gone", .ref G)] u)) (X : (KK w.params).In g) (T : Top p loose mean mg mb g) (N : News g L h₁ ((LN, listOf ls.toArray nL) :: rest)) 
    (hG : (G, listOf gv.toArray nG) ∈ rest) (hgv : DatAll [] gv (gs.map fun n : Nat => .int n)) (dO : DatIn rest (.ref O) (.list (rowD c))) (dC : DatIn rest (.ref Cl) (.list (rowD (c ++ [13])))) (hls : DatAll rest ls (es.map entryD)) (hr : ∀ q ∈ rest, q.1 ≠ LN) (hl : es.length ≤ 1000) (hg : gs.length ≤ 1000) 
    (hd : dp + 40 < recursionLimit) (hu : un + 400 < cLine) (hE : PassesOwn (model PR w) (ktrTop (dp + 1) (un + 3) gd "_law_grown" sc18 L 239 cdv [] outer) (envX "_law_grown" sc18 L 239 cdv []) E)
    (k : ∀ m' ls' n' ex h' tk', Fr g L h' m' → (∀ y : PySem.Str, y ≠ "which" → m' y = fixM [("line", .ref LN), ("opened", .ref O), ("closed", .ref Cl), ("gone", .ref G)] u y) → News g L h' ((LN, listOf (List.toArray ls') n') :: (ex ++ rest)) → DatAll (ex ++ rest) ls' ((es ++ goneL c gs).map entryD) → (∀ q ∈ ex, q.1 ≠ LN ∧ ∀ p ∈ rest, p.1 ≠ q.1) → Q .next { s with heap := h', toks := tk' }) :
    wpAny (model PR w) (ktrTop (dp + 1) (un + 3) gd "_law_grown" sc18 L 239 cdv [] outer) (exec (gb 15) (envX "_law_grown" sc18 L 239 cdv [])) Q E { s with heap := h₁, toks := tk } := by
  with_reducible refine ctx_exec ?_
  intro AA ee
  (with_reducible refine' open_stmt ?oe ?_); (case oe => exact (rfl : gb 15 = Stmt.For _ _ _ _ _))
  refine For_turns F ?_
  walk1
  refine for_led (fun i m nx => ∃ u' ls' n' ex, J15 LN O Cl G rest es c gs u i m nx u' ls' n' ex) rfl F N (.tail _ hG)
      ⟨u, ls, nL, [], rfl, fun _ _ => rfl, rfl, by simpa [goneL] using hls, fun _ h => absurd h List.not_mem_nil⟩ ?_ ?_
  · intro I oI i v m nx h tk hv hJ hax hI hne F1 N1
    refine opaqueT ?_
    intro RR hR
    obtain ⟨u', ls', n', ex, rfl, hu', rfl, hls', hex⟩ := hJ
    obtain ⟨d, hd', hvd⟩ := dat_at hgv hv
    obtain ⟨q, hq, rfl⟩ : ∃ q, gs[i]? = some q ∧ d = .int (q : Nat) := by
      rw [List.getElem?_map] at hd'
      obtain ⟨c, a, b⟩ := Option.map_eq_some_iff.mp hd'
      exact ⟨c, a, b.symm⟩
    obtain ⟨t, rfl⟩ := int_of_dat hvd
    have i1 : LN < I := hI (LN, _) (.head _)
    clear F N hI
    (repeat' ((fail_if_success (with_reducible first | refine sFor ?_ | refine sCal ?_ | refine sIad ?_)); walk_at "w2"))
    (rename Fr _ _ _ _ => F2); (rename News _ _ _ _ => N2)
    (rename _ ∧ _ ∧ _ ∧ _ ∧ AllLt _ _ => z3); (rename _ ∧ _ ∧ _ ∧ AllLt _ _ => z2); (rename _ ∧ _ ∧ AllLt _ _ => z1)
    have ihi : i < gs.length := by have := (List.getElem?_eq_some_iff.mp hq).1; exact this
    have hll : ls'.length ≤ 4000 := by
      rw [hls'.length, List.length_map, List.length_append, goneL_length, List.length_take]
      omega
    refine stamp_iadd F2 N2 hls' dO dC (by omega) hex i1 z3.2.2.2.1 z1.2.1 z2.2.2.1 z1.2.2 z2.2.2.2 hr fun h5 F5 N5 hls5 hex5 => ?_
    (repeat' ((fail_if_success (with_reducible first | refine sFor ?_ | refine sCal ?_ | refine sIad ?_)); walk_at "w2"))
    (rename Fr _ _ _ _ => F6); (rename News _ _ _ _ => N6)
    refine hR _ _ ?_; refine unr_end _ F6 N6 ?_ ⟨?_, _, _, _, _, fix_of _ ?_, ?_, rfl, ?_, hex5⟩
    · intro y hy
      rcases List.mem_cons.mp hy with rfl | hy
      · exact Nat.ne_of_lt i1
      rcases List.mem_append.mp hy with hy | hy
      · rcases List.mem_cons.mp hy with rfl | hy
        · exact Nat.ne_of_gt z2.2.1
        rcases List.mem_cons.mp hy with rfl | hy
        · exact Nat.ne_of_gt z1.1
        · exact hne y (.tail _ (List.mem_append.mpr (.inl hy)))
      · exact hne y (.tail _ (List.mem_append.mpr (.inr hy)))
    · exact .tail _ (List.mem_append.mpr (.inr hG))
    · intro y hy
      simp only [List.mem_cons, List.not_mem_nil, or_false] at hy
      rcases hy with rfl | rfl | rfl | rfl <;> rfl
    · intro y hy
      have e := hu' y hy
      try dsimp only
      rw [if_neg hy, e]
      by_cases h1 : y = "line"
      · rw [if_pos h1, h1]; rfl
      · rw [if_neg h1]
    · rw [take_snoc hq]
      unfold goneL at hls5 ⊢
      rw [List.flatMap_append, ← List.append_assoc]
      exact hls5
  · intro m nx h tk hJ F1 N1
    obtain ⟨u', ls', n', ex, rfl, hu', rfl, hls', hex⟩ := hJ
    have e : gv.length = gs.length := by rw [hgv.length, List.length_map]
    rw [e, List.take_length] at hls'
    exact k _ ls' n' ex h tk F1 hu' N1 hls' hex
theorem seg16 {rest : List (Addr × Obj)} {LN P O Cl G nL nG nP : Nat} {ls gv ps : List Value} {es : List LE} {c : List Nat} {rows laid : List Row} {u : PySem.Str → Option Value} 
    (F : Fr g L h₁ (fixM [("line", .ref LN), ("opened", .ref O), ("closed", .ref Cl), ("laid", .ref G), ("pairs", .ref P)] u)) (X : (KK w.params).In g) (T : Top p loose mean mg mb g) (N : News g L h₁ ((LN, listOf ls.toArray nL) :: (P, listOf ps.toArray nP) :: rest)) 
    (hG : (G, listOf gv.toArray nG) ∈ rest) (hgv : DatAll rest gv (laid.map pairD)) (dO : DatIn rest (.ref O) (.list (rowD c))) (dC : DatIn rest (.ref Cl) (.list (rowD (c ++ [13])))) (hls : DatAll rest ls (es.map entryD)) (hps : DatAll rest ps (rows.map pairD)) (hr : ∀ q ∈ rest, q.1 ≠ LN ∧ q.1 ≠ P) (hlp : P ≠ LN) (hl : es.length ≤ 1000) (hg : laid.length ≤ 100) (hrl : rows.length ≤ 100)
    (hd : dp + 40 < recursionLimit) (hu : un + 400 < cLine) (hE : PassesOwn (model PR w) (ktrTop (dp + 1) (un + 3) gd "_law_grown" sc18 L 239 cdv [] outer) (envX "_law_grown" sc18 L 239 cdv []) E)
    (k : ∀ m' ls' ps' n' nP' ex h' tk', Fr g L h' m' → (∀ y : PySem.Str, y ≠ "pair" → m' y = fixM [("line", .ref LN), ("opened", .ref O), ("closed", .ref Cl), ("laid", .ref G), ("pairs", .ref P)] u y) → News g L h' ((LN, listOf (List.toArray ls') n') :: (P, listOf (List.toArray ps') nP') :: (ex ++ rest)) → DatAll (ex ++ rest) ls' ((es ++ laidL c rows.length laid.length).map entryD) → DatAll (ex ++ rest) ps' ((rows ++ laid).map pairD) →
      (∀ q ∈ ex, q.1 ≠ LN ∧ q.1 ≠ P ∧ ∀ p ∈ rest, p.1 ≠ q.1) → Q .next { s with heap := h', toks := tk' }) :
    wpAny (model PR w) (ktrTop (dp + 1) (un + 3) gd "_law_grown" sc18 L 239 cdv [] outer) (exec (gb 16) (envX "_law_grown" sc18 L 239 cdv [])) Q E { s with heap := h₁, toks := tk } := by
  have hPr : ∀ q ∈ rest, q.1 ≠ P := fun q hq => (hr q hq).2
  have hLr : ∀ q ∈ rest, q.1 ≠ LN := fun q hq => (hr q hq).1
  with_reducible refine ctx_exec ?_
  intro AA ee
  (with_reducible refine' open_stmt ?oe ?_); (case oe => exact (rfl : gb 16 = Stmt.For _ _ _ _ _))
  refine For_turns F ?_
  walk1
  refine for_led (fun i m nx => ∃ u' ls' ps' n' nP' ex, J16 LN P O Cl G rest es c rows laid u i m nx u' ls' ps' n' nP' ex) rfl F N (.tail _ (.tail _ hG))
      ⟨u, ls, ps, nL, nP, [], rfl, fun _ _ => rfl, rfl, by simpa [laidL] using hls, by simpa using hps, fun _ h => absurd h List.not_mem_nil⟩ ?_ ?_
  · intro I oI i v m nx h tk hv hJ hax hI hne F1 N1
    refine opaqueT ?_
    intro RR hR
    obtain ⟨u', ls', ps', n', nP', ex, rfl, hu', rfl, hls', hps', hex⟩ := hJ
    obtain ⟨d, hd', hvd⟩ := dat_at hgv hv
    obtain ⟨q, hq, rfl⟩ : ∃ q, laid[i]? = some q ∧ d = pairD q := by
      rw [List.getElem?_map] at hd'
      obtain ⟨c, a, b⟩ := Option.map_eq_some_iff.mp hd'
      exact ⟨c, a, b.symm⟩
    obtain ⟨a, rfl⟩ := ref_of_tuple (show DatIn rest v (.tuple _) from hvd)
    have i1 : LN < I := hI (LN, _) (.head _)
    have i2 : P < I := hI (P, _) (.tail _ (.head _))
    have ihi : i < laid.length := by have := (List.getElem?_eq_some_iff.mp hq).1; exact this
    have hpl : ps'.length = rows.length + i := by rw [hps'.length, List.length_map, List.length_append, List.length_take]; omega
    clear F N hI
    (repeat' ((fail_if_success (with_reducible first | refine sFor ?_ | refine sCal ?_ | refine sIad ?_)); walk_at "w2"))
    refine len_list (News.isList (by assumption) (.tail _ (.tail _ (.head _)))) (by rw [List.size_toArray]; omega) ?_
    rw [List.size_toArray, hpl]
    (repeat' ((fail_if_success (with_reducible first | refine sFor ?_ | refine sCal ?_ | refine sIad ?_)); walk_at "w2"))
    refine len_list (News.isList (by assumption) (.tail _ (.tail _ (.tail _ (.head _))))) (by rw [List.size_toArray]; omega) ?_
    rw [List.size_toArray, hpl]
    (repeat' ((fail_if_success (with_reducible first | refine sFor ?_ | refine sCal ?_ | refine sIad ?_)); walk_at "w2"))
    (rename Fr _ _ _ _ => F2); (rename News _ _ _ _ => N2)
    (rename _ ∧ _ ∧ _ ∧ _ ∧ _ ∧ AllLt _ _ => z3); (rename _ ∧ _ ∧ _ ∧ _ ∧ AllLt _ _ => z2); (rename _ ∧ _ ∧ _ ∧ AllLt _ _ => z1)
    have hll : ls'.length ≤ 4000 := by
      rw [hls'.length, List.length_map, List.length_append, laidL_length]
      omega
    have per : ∀ {x1 x2 x3 x4 x5 x6 : Addr × Obj} {l r : List (Addr × Obj)}, ∀ q ∈ x1 :: x2 :: x3 :: x4 :: x5 :: (l ++ x6 :: r), q ∈ x1 :: x2 :: x3 :: x4 :: x5 :: x6 :: (l ++ r) := fun q hq => (List.Perm.cons _ (List.Perm.cons _ (List.Perm.cons _ (List.Perm.cons _ (List.Perm.cons _ List.perm_middle))))).mem_iff.mp hq
    have per2 : ∀ {x4 x5 x6 : Addr × Obj} {l r : List (Addr × Obj)}, ∀ q ∈ x4 :: x5 :: x6 :: (l ++ r), q ∈ x4 :: x5 :: (l ++ x6 :: r) := fun q hq => (List.Perm.cons _ (List.Perm.cons _ List.perm_middle)).mem_iff.mpr hq
    have lt2 : ∀ {T : Addr}, P < T → AllLt T (ex ++ rest) → AllLt T (ex ++ (P, listOf ps'.toArray nP') :: rest) := fun h1 h2 => allLt_of fun q hq => by
      rcases List.mem_append.mp hq with hq | hq
      · exact ktn_ltOf h2 q (List.mem_append.mpr (.inl hq))
      rcases List.mem_cons.mp hq with rfl | hq
      · exact h1
      · exact ktn_ltOf h2 q (List.mem_append.mpr (.inr hq))
    refine stamp_iadd (rest := (P, listOf ps'.toArray nP') :: rest) (ex := ex) (c := c) (es := es ++ laidL c rows.length i) F2 (fun q hq => N2 q (per q hq)) (hls'.mono fun q hq => ?m1) (dO.mono fun _ h => .tail _ h) (dC.mono fun _ h => .tail _ h) (by omega) ?m2 i1 z3.2.2.2.1 z1.2.1 z2.2.2.1 (lt2 z1.2.2.1 z1.2.2.2) (lt2 z2.2.2.2.1 z2.2.2.2.2) ?m3 fun h5 F5 N5 hls5 hex5 => ?_
    case m1 =>
      rcases List.mem_append.mp hq with hq | hq
      · exact List.mem_append.mpr (.inl hq)
      · exact List.mem_append.mpr (.inr (.tail _ hq))
    case m2 =>
      intro y hy
      refine ⟨(hex y hy).1, fun p hp => ?_⟩
      rcases List.mem_cons.mp hp with rfl | hp
      · exact fun e => (hex y hy).2.1 e.symm
      · exact (hex y hy).2.2 p hp
    case m3 =>
      intro y hy
      rcases List.mem_cons.mp hy with rfl | hy
      · exact hlp
      · exact hLr y hy
    replace N5 : News g L h5 ((I, oI) :: (LN, _) :: (P, listOf ps'.toArray nP') :: (_ ++ rest)) := fun q hq => N5 q (per2 q hq)
    (repeat' ((fail_if_success (with_reducible first | refine sApp ?_ | refine sIad ?_)); walk_at "w2"))
    (rename Fr _ _ _ _ => F7); (rename News _ _ _ _ => N7)
    refine append_K F7 N7 (.tail (Nat.ne_of_gt i2) (.tail (fun e => hlp e.symm) (.head fun y hy => ?au))) (fun h6 F6 N6 => ?_) (by rw [List.size_toArray, sizeLine_eq]; omega)
    case au =>
      rcases List.mem_append.mp hy with hy | hy
      · exact fun e => (hex5 y hy).2 _ (.head _) e.symm
      · exact hPr y hy
    clear F7 N7
    (repeat' ((fail_if_success (with_reducible first | refine sApp ?_ | refine sIad ?_)); walk_at "w2"))
    rw [show ps'.toArray.push (Value.ref a) = (ps' ++ [Value.ref a]).toArray from by simp] at N6
    refine hR _ _ ?_; refine unr_end _ F6 N6 ?_ ⟨?_, _, _, _, _, _, _, fix_of _ ?_, ?_, rfl, ?_, ?_, ?_⟩
    · intro y hy
      rcases List.mem_cons.mp hy with rfl | hy
      · exact Nat.ne_of_lt i1
      rcases List.mem_cons.mp hy with rfl | hy
      · exact Nat.ne_of_lt i2
      rcases List.mem_append.mp hy with hy | hy
      · rcases List.mem_cons.mp hy with rfl | hy
        · exact Nat.ne_of_gt z2.2.1
        rcases List.mem_cons.mp hy with rfl | hy
        · exact Nat.ne_of_gt z1.1
        · exact hne y (.tail _ (.tail _ (List.mem_append.mpr (.inl hy))))
      · exact hne y (.tail _ (.tail _ (List.mem_append.mpr (.inr hy))))
    · exact .tail _ (.tail _ (List.mem_append.mpr (.inr hG)))
    · intro y hy
      simp only [List.mem_cons, List.not_mem_nil, or_false] at hy
      rcases hy with rfl | rfl | rfl | rfl | rfl <;> rfl
    · intro y hy
      have e := hu' y hy
      try dsimp only
      rw [if_neg hy, e]
      by_cases h1 : y = "line"
      · rw [if_pos h1, h1]; rfl
      · rw [if_neg h1]
    · rw [laidL_snoc, ← List.append_assoc]
      exact stamp_dat hls' dO dC
    · rw [take_snoc hq, ← List.append_assoc, List.map_append]
      exact (hps'.mono fun _ h => .tail _ (.tail _ h)).append (.cons (hvd.mono fun _ h => .tail _ (.tail _ (List.mem_append.mpr (.inr h)))) .nil)
    · intro y hy
      have := hex5 y hy
      exact ⟨this.1, fun e => this.2 _ (.head _) e.symm, fun p hp => this.2 p (.tail _ hp)⟩
  · intro m nx h tk hJ F1 N1
    obtain ⟨u', ls', ps', n', nP', ex, rfl, hu', rfl, hls', hps', hex⟩ := hJ
    have e : gv.length = laid.length := by rw [hgv.length, List.length_map]
    rw [e] at hls' hps'
    rw [List.take_length] at hps'
    exact k _ ls' ps' n' nP' ex h tk F1 hu' N1 hls' hps' hex
end TGrF
section TGrG
open PySem PySem.W PySem.Calls PyProof.Rows PyProof.V PySem.Spec
set_option maxRecDepth 100000
set_option maxHeartbeats 1500000
set_option pp.maxSteps 12000


variable {w : World} {p : Program} {loose : List PySem.Str} {mean : ExcName → Option Value} {mg mb : PySem.Str → Option Value} {dp un : Nat} {gd : Option (List Code)} {outer : List Env} {base g : Heap} {L : Addr} {h₁ : Heap} {s : Shared} {tk : Nat} {Q : Flow → Shared → Prop} {E : Value → Shared → Prop} {cdv : Value}
theorem seg17 {news : List (Addr × Obj)} {LN nL : Nat} {ls : List Value} {es : List LE} {u : PySem.Str → Option Value} 
    (F : Fr g L h₁ (fixM [("line", .ref LN)] u)) (X : (KK w.params).In g) (T : Top p loose mean mg mb g) (N : News g L h₁ news) 
    (hm : (LN, listOf ls.toArray nL) ∈ news) (hls : DatAll news ls (es.map entryD)) (hc : ∀ e ∈ es, ∀ c ∈ e.1, c < 14) (h2 : 2 ≤ es.length) (h64 : es.length < 64) (hu : un + 400 < cLine)
    (k : ∀ (D : Nat) ls' n' h' tk', Fr g L h' (fun y => if y = "line" then some (.ref D) else fixM [("line", .ref LN)] u y) → News g L h' ((D, listOf (List.toArray ls') n') :: news) → (∀ q ∈ news, q.1 < D) → DatAll news ls' ((sortE es).map entryD) → Q .next { s with heap := h', toks := tk' }) :
    wpAny (model PR w) (ktrTop (dp + 1) (un + 3) gd "_law_grown" sc18 L 239 cdv [] outer) (exec (gb 17) (envX "_law_grown" sc18 L 239 cdv [])) Q E { s with heap := h₁, toks := tk } := by
  with_reducible refine ctx_exec ?_
  intro AA ee
  (with_reducible refine' open_stmt ?oe ?_); (case oe => exact (rfl : gb 17 = Stmt.Assign _ _ _))
  (repeat' ((fail_if_success (with_reducible first | refine sApp ?_ | refine sSor ?_)); walk_at "w2"))
  refine line_sorted F N hm hls hc h2 h64 (by show un + 3 + 2 < cLine; omega) fun D vs' c h' F1 N1 lt dv => ?_
  clear F N
  (repeat' ((fail_if_success (with_reducible first | refine sApp ?_ | refine sSor ?_)); walk_at "w2"))
  (rename Fr _ _ _ _ => F7); (rename News _ _ _ _ => N7)
  exact k D vs' c _ _ F7 N7 lt dv
theorem seg18 {rest : List (Addr × Obj)} {M C nM : Nat} {ms : List Value} {u : PySem.Str → Option Value} 
    (F : Fr g L h₁ (fixM [("made", .ref M), ("codes", .ref C)] u)) (X : (KK w.params).In g) (T : Top p loose mean mg mb g) (N : News g L h₁ ((M, listOf ms.toArray nM) :: rest)) (hr : ∀ q ∈ rest, q.1 ≠ M) (hl : ms.length ≤ 100)
    (k : ∀ n' h' tk', Fr g L h' (fixM [("made", .ref M), ("codes", .ref C)] u) → News g L h' ((M, listOf (ms ++ [Value.ref C]).toArray n') :: rest) → Q .next { s with heap := h', toks := tk' }) :
    wpAny (model PR w) (ktrTop (dp + 1) (un + 3) gd "_law_grown" sc18 L 239 cdv [] outer) (exec (gb 18) (envX "_law_grown" sc18 L 239 cdv [])) Q E { s with heap := h₁, toks := tk } := by
  with_reducible refine ctx_exec ?_
  intro AA ee
  (with_reducible refine' open_stmt ?oe ?_); (case oe => exact (rfl : gb 18 = Stmt.Expr _ _))
  (repeat' ((fail_if_success (with_reducible first | refine sApp ?_ | refine sSor ?_)); walk_at "w2"))
  (rename Fr _ _ _ _ => F7); (rename News _ _ _ _ => N7)
  refine append_K F7 N7 (.head hr) (fun h6 F6 N6 => ?_) (by rw [List.size_toArray, sizeLine_eq]; omega)
  clear F7 N7
  (repeat' ((fail_if_success (with_reducible first | refine sApp ?_ | refine sSor ?_)); walk_at "w2"))
  rw [show ms.toArray.push (Value.ref C) = (ms ++ [Value.ref C]).toArray from by simp] at N6
  exact k _ _ _ F6 N6
theorem seg19 {rest : List (Addr × Obj)} {TB x nT : Nat} {ts : List Value} {u : PySem.Str → Option Value} 
    (F : Fr g L h₁ (fixM [("tables", .ref TB), ("table", .ref x)] u)) (X : (KK w.params).In g) (T : Top p loose mean mg mb g) (N : News g L h₁ ((TB, listOf ts.toArray nT) :: rest)) (hr : ∀ q ∈ rest, q.1 ≠ TB) (hl : ts.length ≤ 100)
    (k : ∀ n' h' tk', Fr g L h' (fixM [("tables", .ref TB), ("table", .ref x)] u) → News g L h' ((TB, listOf (ts ++ [Value.ref x]).toArray n') :: rest) → Q .next { s with heap := h', toks := tk' }) :
    wpAny (model PR w) (ktrTop (dp + 1) (un + 3) gd "_law_grown" sc18 L 239 cdv [] outer) (exec (gb 19) (envX "_law_grown" sc18 L 239 cdv [])) Q E { s with heap := h₁, toks := tk } := by
  with_reducible refine ctx_exec ?_
  intro AA ee
  (with_reducible refine' open_stmt ?oe ?_); (case oe => exact (rfl : gb 19 = Stmt.Expr _ _))
  (repeat' ((fail_if_success (with_reducible first | refine sApp ?_ | refine sSor ?_)); walk_at "w2"))
  (rename Fr _ _ _ _ => F7); (rename News _ _ _ _ => N7)
  refine append_K F7 N7 (.head hr) (fun h6 F6 N6 => ?_) (by rw [List.size_toArray, sizeLine_eq]; omega)
  clear F7 N7
  (repeat' ((fail_if_success (with_reducible first | refine sApp ?_ | refine sSor ?_)); walk_at "w2"))
  rw [show ts.toArray.push (Value.ref x) = (ts ++ [Value.ref x]).toArray from by simp] at N6
  exact k _ _ _ F6 N6
end TGrG
section TGrH
open PySem PySem.W PySem.Calls PyProof.Rows PyProof.V PySem.Spec
set_option maxRecDepth 100000
set_option maxHeartbeats 1500000
section
variable {g h : Heap} {L : Addr} {m : PySem.Str → Option Value} {full small : List (PySem.Str × Value)} {x : PySem.Str} {v : Value}
theorem fr_fix (F : Fr g L h m) (l : List (PySem.Str × Value)) (hl : ∀ p ∈ l, m p.1 = some p.2) : Fr g L h (fixM l m) := (fix_of l hl) ▸ F
theorem fixM_at {p : PySem.Str × Value} (hs : full.lookup p.1 = some p.2) : fixM full m p.1 = some p.2 := by unfold fixM; rw [hs]
theorem fr_sub (F : Fr g L h (fixM full m)) (hs : ∀ p ∈ small, full.lookup p.1 = some p.2) : Fr g L h (fixM small (fixM full m)) := fr_fix F small fun p hp => fixM_at (hs p hp)
theorem fixM_set : (fun y => if y = x then some v else fixM full m y) = fixM ((x, v) :: full) m := by
  funext y
  unfold fixM
  rw [List.lookup_cons]
  by_cases h : y = x
  · rw [if_pos h, h]; simp
  · rw [if_neg h]
    rw [show (y == x) = false from by simpa using h]
theorem fr_back (F : Fr g L h (fun y => if y = x then some v else fixM small (fixM full m) y)) (hs : ∀ p ∈ small, full.lookup p.1 = some p.2) : Fr g L h (fixM ((x, v) :: full) m) := by
  rw [← fix_of small fun p hp => fixM_at (hs p hp), fixM_set] at F
  exact F
theorem fr_same (F : Fr g L h (fixM small (fixM full m))) (hs : ∀ p ∈ small, full.lookup p.1 = some p.2) : Fr g L h (fixM full m) := by
  rw [← fix_of small fun p hp => fixM_at (hs p hp)] at F
  exact F
end
/-- a list whose items are references -/
noncomputable def RefList (o : Obj) : Prop := ∃ xs n, o = listOf (List.toArray xs) n ∧ ∀ v ∈ xs, ∃ a, v = Value.ref a
theorem flat_row {R R' : List (Addr × Obj)} {cs : List Nat} {vs : List Value} (h : DatAll R vs (rowD cs)) : DatAll R' vs (rowD cs) := by
  have key : ∀ {ds : List Dat} {vs : List Value}, (∀ d ∈ ds, (∃ i, d = .int i) ∨ (∃ x, d = .str x) ∨ d = .none) → DatAll R vs ds → DatAll R' vs ds := by
    intro ds
    induction ds with
    | nil => intro vs _ h; cases h; exact .nil
    | cons d ds ih =>
      intro vs hd h
      cases h with
      | cons h1 h2 =>
        refine .cons ?_ (ih (fun e he => hd e (.tail _ he)) h2)
        rcases hd d (.head _) with ⟨i, rfl⟩ | ⟨x, rfl⟩ | rfl
        · obtain ⟨t, rfl⟩ := int_of_dat h1; exact .int _ _
        · obtain ⟨t, rfl⟩ := str_of_dat h1; exact .str _ _
        · cases h1; exact .none
  refine key (fun d hd => ?_) h
  unfold rowD at hd
  rcases List.mem_append.mp hd with h | h
  · rcases List.mem_cons.mp h with rfl | h
    · exact .inl ⟨_, rfl⟩
    · rw [List.mem_singleton.mp h]; exact .inl ⟨_, rfl⟩
  · obtain ⟨c, _, h⟩ := List.mem_flatMap.mp h
    rcases List.mem_cons.mp h with rfl | h
    · exact .inl ⟨_, rfl⟩
    · rw [List.mem_singleton.mp h]
      unfold partOf
      by_cases hc : c < 14
      · have : partL.getD c .none ∈ partL := by
          rw [List.getD_eq_getElem?_getD, List.getElem?_eq_getElem (show c < partL.length from hc)]
          exact List.getElem_mem _
        have all : ∀ d ∈ partL, (∃ i, d = .int i) ∨ (∃ x, d = .str x) ∨ d = .none := by
          intro d hd
          simp only [partL, List.mem_cons, List.not_mem_nil, or_false] at hd
          rcases hd with rfl | rfl | rfl | rfl | rfl | rfl | rfl | rfl | rfl | rfl | rfl | rfl | rfl | rfl <;> first | exact .inr (.inl ⟨_, rfl⟩) | exact .inl ⟨_, rfl⟩
        exact all _ this
      · rw [List.getD_eq_getElem?_getD, List.getElem?_eq_none (by show 14 ≤ c; omega)]
        exact .inr (.inr rfl)
/-- what is told of rows, pairs and stamps never leans on a list of references -/
noncomputable def Junk (o : Obj) : Prop := RefList o ∨ (o.cls ≠ .type "list" ∧ o.cls ≠ .type "tuple")
noncomputable def Excl (R R' : List (Addr × Obj)) : Prop := ∀ q ∈ R, q ∈ R' ∨ Junk q.2
theorem excl_row {R R' : List (Addr × Obj)} (X : Excl R R') {v : Value} {cs : List Nat} (h : DatIn R v (.list (rowD cs))) : DatIn R' v (.list (rowD cs)) := by
  obtain ⟨a, rfl⟩ := ref_of_list h
  obtain ⟨vs, n, hm, hd⟩ := dat_list_inv h
  rcases X _ hm with h1 | ⟨xs, k, e, hx⟩ | h1
  · exact .list h1 (flat_row hd)
  · exfalso
    have e2 : vs = xs := by
      have := (Data.seq.inj (congrArg Obj.data e)).1
      simpa using congrArg Array.toList this
    subst e2
    cases hd with
    | cons h1 h2 =>
      obtain ⟨t, rfl⟩ := int_of_dat h1
      obtain ⟨a, ha⟩ := hx _ (.head _)
      cases ha
  · exact (h1.1 rfl).elim
theorem not_tuple {a : Addr} {vs : List Value} {n : Nat} (h : Junk (a, ({ cls := .type "tuple", data := .seq vs.toArray n } : Obj)).2) : False := by
  rcases h with ⟨xs, k, e, _⟩ | h
  case inr => exact h.2 rfl
  have : Value.type "tuple" = Value.type "list" := congrArg Obj.cls e
  exact absurd (Value.type.inj this) (by decide)
theorem excl_pair {R R' : List (Addr × Obj)} (X : Excl R R') {v : Value} {r : Row} (h : DatIn R v (pairD r)) : DatIn R' v (pairD r) := by
  obtain ⟨a, n, t, u, rfl, hm⟩ := pair_inv h
  rcases X _ hm with h1 | h1
  · exact .tuple (vs := [.str r.1 t, .str r.2 u]) h1 (.cons (.str _ _) (.cons (.str _ _) .nil))
  · exact (not_tuple (vs := [.str r.1 t, .str r.2 u]) h1).elim
theorem excl_entry {R R' : List (Addr × Obj)} (X : Excl R R') {v : Value} {e : LE} (h : DatIn R v (entryD e)) : DatIn R' v (entryD e) := by
  unfold entryD at h ⊢
  obtain ⟨a, rfl⟩ := ref_of_tuple h
  obtain ⟨vs, n, hm, hd⟩ := dat_tuple_inv h
  cases hd with
  | cons h1 hd =>
    cases hd with
    | cons h2 hd =>
      cases hd with
      | cons h3 hd =>
        cases hd
        rcases X _ hm with h4 | h4
        · obtain ⟨t, rfl⟩ := int_of_dat h2
          obtain rfl := bool_of_dat h3
          exact .tuple h4 (.cons (excl_row X h1) (.cons (.int _ _) (.cons (.bool _) .nil)))
        · exact (not_tuple h4).elim
theorem excl_all {R R' : List (Addr × Obj)} {α : Type} {f : α → Dat} (X : ∀ v e, DatIn R v (f e) → DatIn R' v (f e)) : ∀ {vs : List Value} {es : List α}, DatAll R vs (es.map f) → DatAll R' vs (es.map f)
  | _, [], h => by cases h; exact .nil
  | _, e :: es, h => by
    cases h with
    | cons h1 h2 => exact .cons (X _ _ h1) (excl_all X h2)
theorem refs_of {R : List (Addr × Obj)} {α : Type} {f : α → Dat} (X : ∀ v e, DatIn R v (f e) → ∃ a, v = Value.ref a) : ∀ {vs : List Value} {es : List α}, DatAll R vs (es.map f) → ∀ v ∈ vs, ∃ a, v = Value.ref a
  | _, [], h => by cases h; exact fun _ h => absurd h List.not_mem_nil
  | _, e :: es, h => by
    cases h with
    | cons h1 h2 =>
      intro v hv
      rcases List.mem_cons.mp hv with rfl | hv
      · exact X _ _ h1
      · exact refs_of X h2 v hv
end TGrH
section TGrI
open PySem PySem.W PySem.Calls PyProof.Rows PyProof.V PySem.Spec
set_option maxRecDepth 100000
set_option maxHeartbeats 1500000
noncomputable abbrev E0 (n : Nat) (t : Tok) (M TB P LN : Nat) : List (PySem.Str × Value) := [("n", .int n t), ("made", .ref M), ("tables", .ref TB), ("pairs", .ref P), ("line", .ref LN)]
noncomputable abbrev E7 (n : Nat) (t : Tok) (M TB P LN C O Cl Pl mk b : Nat) (tb tm : Tok) : List (PySem.Str × Value) := ("place", .ref Pl) :: ("closed", .ref Cl) :: ("opened", .ref O) :: ("mark", .int mk tm) :: ("codes", .ref C) :: ("base", .int b tb) :: E0 n t M TB P LN
variable {w : World} {p : Program} {loose : List PySem.Str} {mean : ExcName → Option Value} {mg mb : PySem.Str → Option Value} {dp un : Nat} {gd : Option (List Code)} {outer : List Env} {base g : Heap} {L : Addr} {h₁ : Heap} {s : Shared} {tk : Nat} {Q : Flow → Shared → Prop} {E : Value → Shared → Prop} {cdv : Value}
theorem turnA {B0 : List (Addr × Obj)} {n M TB P LN nM : Nat} {t : Tok} {ms : List Value} {made : List (List Nat)} {u : PySem.Str → Option Value} {rest : List Stmt} 
    (B : Below (aro dp un gd outer) base outer g) (F : Fr g L h₁ (fixM (E0 n t M TB P LN) u)) (XB : (KK w.params).In base) (TT : Top p loose mean mg mb base) (D : KtsDicts (frs outer) g) (N : News g L h₁ B0)
    (hM : (M, listOf ms.toArray nM) ∈ B0) (hms : DatAll B0 ms (made.map codesD)) (hl : 1 ≤ made.length ∧ made.length ≤ 20) (hc : ∀ m ∈ made, ∀ c ∈ m, c < 13) (hlen : ∀ m ∈ made, m.length ≤ 20) (hd : dp + 40 < recursionLimit) (hu : un + 400 < cLine)
    (k1 : made.getD (baseOf n made.length) [] ++ [n % 100 % 13] ∈ made → ∀ m' h' tk', Fr g L h' m' → (∀ y : PySem.Str, y ∈ [("made" : PySem.Str), "tables", "pairs", "line"] → m' y = fixM (E0 n t M TB P LN) u y) → News g L h' B0 → Q .cont { s with heap := h', toks := tk' })
    (k2 : made.getD (baseOf n made.length) [] ++ [n % 100 % 13] ∉ made → ∀ (C O Cl Pl : Nat) cs tb tm g' K h' tk', KtsTurn (frs outer) g g' → Below (aro dp un gd outer) base outer g' → KtsDicts (frs outer) g' →
      Fr g' L h' (fixM (E7 n t M TB P LN C O Cl Pl (markOf n) (baseOf n made.length) tb tm) u) →
      News g' L h' (K ++ B0) → (∀ q ∈ B0, ∀ p ∈ K, q.1 ≠ p.1) → (C, listOf (List.toArray cs) 0) ∈ K → DatAll [] cs ((made.getD (baseOf n made.length) [] ++ [n % 100 % 13]).map fun n : Nat => .int n) →
      DatIn (K ++ B0) (.ref O) (.list (rowD (made.getD (baseOf n made.length) [] ++ [n % 100 % 13]))) → DatIn (K ++ B0) (.ref Cl) (.list (rowD (made.getD (baseOf n made.length) [] ++ [n % 100 % 13] ++ [13]))) → DatIn (K ++ B0) (.ref Pl) (.list (rowD (made.getD (baseOf n made.length) []))) →
      wpC (model PR w) (ktrTop (dp + 1) (un + 3) gd "_law_grown" sc18 L 239 cdv [] outer) (execs rest (envX "_law_grown" sc18 L 239 cdv [])) Q E { s with heap := h', toks := tk' }) :
    wpC (model PR w) (ktrTop (dp + 1) (un + 3) gd "_law_grown" sc18 L 239 cdv [] outer) (execs ([gb 0, gb 1, gb 2, gb 3, gb 4, gb 5, gb 6, gb 7] ++ rest) (envX "_law_grown" sc18 L 239 cdv [])) Q E { s with heap := h₁, toks := tk } := by
  have X : (KK w.params).In g := XB.keeps B.stays
  have T := TT.keeps B.stays
  have hb : baseOf n made.length < made.length := baseOf_lt hl.1
  have hbm : made.getD (baseOf n made.length) [] ∈ made := by rw [List.getD_eq_getElem?_getD, List.getElem?_eq_getElem hb]; exact List.getElem_mem hb
  have hms0 : ms.length = made.length := by rw [hms.length, List.length_map]
  generalize hbe : baseOf n made.length = b at *
  have hcc : ∀ c ∈ made.getD b [] ++ [n % 100 % 13], c < 13 := fun c h => by
    rcases List.mem_append.mp h with h | h
    · exact hc _ hbm c h
    · rw [List.mem_singleton.mp h]; exact Nat.mod_lt _ (by decide)
  have hcl : (made.getD b [] ++ [n % 100 % 13]).length ≤ 21 := by rw [List.length_append]; have := hlen _ hbm; show _ + 1 ≤ 21; omega
  generalize hce : made.getD b [] ++ [n % 100 % 13] = codes at *
  have dup : ∀ {h : Heap} {q : Addr × Obj} {g : Heap}, q ∈ B0 → News g L h B0 → News g L h (q :: B0) := fun hq N y hy => by
    rcases List.mem_cons.mp hy with rfl | hy
    · exact N _ hq
    · exact N y hy
  refine wpC_execs_cons (wpC_any (seg0 (n := n) (t := t) (made := made) B (fr_sub (full := E0 n t M TB P LN) F ?s0) X T (dup hM N) hms0 hl fun h1 tk1 tb F1 N1 => ?_))
  case s0 => (repeat' (first | exact List.forall_mem_nil _ | (refine List.forall_mem_cons.mpr ⟨by with_unfolding_all rfl, ?_⟩)))
  rw [hbe] at F1
  replace F1 := fr_back F1 (by (repeat' (first | exact List.forall_mem_nil _ | (refine List.forall_mem_cons.mpr ⟨by with_unfolding_all rfl, ?_⟩))))
  refine wpC_execs_cons (wpC_any (seg1 (n := n) (t := t) (tb := tb) (made := made) (b := b) B (fr_sub F1 ?s1) X T N1 hms hl hb (fun c h => Nat.le_trans (hlen c h) (by decide)) fun C cs h2 tk2 F2 N2 dcs hCM hCB => ?_))
  case s1 => (repeat' (first | exact List.forall_mem_nil _ | (refine List.forall_mem_cons.mpr ⟨by with_unfolding_all rfl, ?_⟩)))
  rw [hce] at dcs
  clear F F1 N1 N
  replace F2 := fr_back F2 (by (repeat' (first | exact List.forall_mem_nil _ | (refine List.forall_mem_cons.mpr ⟨by with_unfolding_all rfl, ?_⟩))))
  dsimp only
  refine wpC_execs_cons (wpC_any (seg2 (codes := codes) (fr_sub F2 ?s2) X N2 hms dcs (by omega) (fun hin tk3 => ?_) fun hnin tk3 => ?_))
  case s2 => (repeat' (first | exact List.forall_mem_nil _ | (refine List.forall_mem_cons.mpr ⟨by with_unfolding_all rfl, ?_⟩)))
  · refine k1 hin _ _ _ F2 (fun y hy => ?_) fun q hq => N2 q (.tail _ (.tail _ hq))
    unfold fixM
    rw [List.lookup_cons, List.lookup_cons]
    simp only [List.mem_cons, List.not_mem_nil, or_false] at hy
    rcases hy with rfl | rfl | rfl | rfl <;> rfl
  refine wpC_execs_cons (wpC_any (seg3 (n := n) (t := t) (fr_sub F2 ?s3) (fun q hq => N2 q (by
    rcases List.mem_cons.mp hq with rfl | hq
    · exact .head _
    · exact .tail _ (.tail _ hq)) : News g L h2 ((C, listOf cs.toArray 0) :: B0)) fun h3 tk3 tm F3 N3 => ?_))
  case s3 => (repeat' (first | exact List.forall_mem_nil _ | (refine List.forall_mem_cons.mpr ⟨by with_unfolding_all rfl, ?_⟩)))
  clear F2 N2
  replace F3 := fr_back F3 (by (repeat' (first | exact List.forall_mem_nil _ | (refine List.forall_mem_cons.mpr ⟨by with_unfolding_all rfl, ?_⟩))))
  dsimp only
  have hmk : markOf n < 5 := Nat.mod_lt _ (by decide)
  generalize hmke : markOf n = mk at *
  have hc14 : ∀ c ∈ codes, c < 14 := fun c h => Nat.lt_of_lt_of_le (hcc c h) (by decide)
  refine wpC_execs_cons (seg4 (codes := codes) (mark := mk) (tm := tm) B (fr_sub F3 ?s4) XB TT D N3 (.list (.head _) (dcs.mono fun _ h => absurd h List.not_mem_nil)) hc14 (by omega) hmk (by omega) (by omega) fun O g4 ex4 h4 tk4 T4 B4 D4 F4 N4 o4 dO => ?_)
  case s4 => (repeat' (first | exact List.forall_mem_nil _ | (refine List.forall_mem_cons.mpr ⟨by with_unfolding_all rfl, ?_⟩)))
  clear F3 N3
  replace F4 := fr_back F4 (by (repeat' (first | exact List.forall_mem_nil _ | (refine List.forall_mem_cons.mpr ⟨by with_unfolding_all rfl, ?_⟩))))
  dsimp only
  refine wpC_execs_cons (seg5 (codes := codes) (mark := mk) (tm := tm) B4 (fr_sub F4 ?s5) XB TT D4 N4 (.list (List.mem_append.mpr (.inr (.head _))) (dcs.mono fun _ h => absurd h List.not_mem_nil)) hc14 (by omega) hmk (by omega) (by omega) fun Cl g5 ex5 h5 tk5 T5 B5 D5 F5 N5 o5 dCl => ?_)
  case s5 => (repeat' (first | exact List.forall_mem_nil _ | (refine List.forall_mem_cons.mpr ⟨by with_unfolding_all rfl, ?_⟩)))
  clear F4 N4
  replace F5 := fr_back F5 (by (repeat' (first | exact List.forall_mem_nil _ | (refine List.forall_mem_cons.mpr ⟨by with_unfolding_all rfl, ?_⟩))))
  dsimp only
  have up5 : ∀ q ∈ B0, q ∈ ex5 ++ (ex4 ++ (C, listOf cs.toArray 0) :: B0) := fun q hq => List.mem_append.mpr (.inr (List.mem_append.mpr (.inr (.tail _ hq))))
  refine wpC_execs_cons (seg6 (made := made) (b := b) (mark := mk) (tm := tm) (tb := tb) B5 (fr_sub F5 ?s6) XB TT D5 N5 (up5 _ hM) (hms.mono up5) hl.2 hb (fun m h c h' => Nat.lt_of_lt_of_le (hc m h c h') (by decide)) (fun m h => Nat.le_trans (hlen m h) (by decide)) hmk (by omega) (by omega) fun Pl g6 ex6 h6 tk6 T6 B6 D6 F6 N6 o6 dPl => ?_)
  case s6 => (repeat' (first | exact List.forall_mem_nil _ | (refine List.forall_mem_cons.mpr ⟨by with_unfolding_all rfl, ?_⟩)))
  clear F5 N5
  replace F6 := fr_back F6 (by (repeat' (first | exact List.forall_mem_nil _ | (refine List.forall_mem_cons.mpr ⟨by with_unfolding_all rfl, ?_⟩))))
  dsimp only
  have up6 : ∀ q ∈ B0, q ∈ ex6 ++ (ex5 ++ (ex4 ++ (C, listOf cs.toArray 0) :: B0)) := fun q hq => List.mem_append.mpr (.inr (up5 q hq))
  have X6 : (KK w.params).In g6 := XB.keeps B6.stays
  have T6' := TT.keeps B6.stays
  refine wpC_execs_cons (wpC_any (seg7 (tb := tb) (made := made) (b := b) (codes := codes) B6 (fr_sub F6 ?s7) X6 T6' N6 (up6 _ hM) (hms.mono up6) hl.2 hb (fun m h c h' => Nat.lt_of_lt_of_le (hc m h c h') (by decide)) (fun m h => Nat.le_trans (hlen m h) (by decide)) (.list (List.mem_append.mpr (.inr (List.mem_append.mpr (.inr (List.mem_append.mpr (.inr (.head _))))))) (dcs.mono fun _ h => absurd h List.not_mem_nil)) hc14 (by omega) (dO.mono fun q h => List.mem_append.mpr (.inr (List.mem_append.mpr (.inr h)))) (dCl.mono fun q h => List.mem_append.mpr (.inr h)) dPl (by omega) (by omega) fun h7 tk7 F7 N7 => ?_))
  case s7 => (repeat' (first | exact List.forall_mem_nil _ | (refine List.forall_mem_cons.mpr ⟨by with_unfolding_all rfl, ?_⟩)))
  clear F6 N6
  replace F7 := fr_same F7 (by (repeat' (first | exact List.forall_mem_nil _ | (refine List.forall_mem_cons.mpr ⟨by with_unfolding_all rfl, ?_⟩))))
  dsimp only
  have re : ex6 ++ (ex5 ++ (ex4 ++ (C, listOf cs.toArray 0) :: B0)) = (ex6 ++ (ex5 ++ (ex4 ++ [(C, listOf cs.toArray 0)]))) ++ B0 := by simp
  rw [re] at N7 dPl
  refine k2 hnin C O Cl Pl cs tb tm g6 _ h7 tk7 ((T4.trans T5).trans T6) B6 D6 F7 N7 (fun q hq p hp => ?_) ?_ dcs ?_ ?_ dPl
  · rcases List.mem_append.mp hp with hp | hp
    · exact Nat.ne_of_lt (o6 q (up5 q hq) p hp)
    rcases List.mem_append.mp hp with hp | hp
    · exact Nat.ne_of_lt (o5 q (List.mem_append.mpr (.inr (.tail _ hq))) p hp)
    rcases List.mem_append.mp hp with hp | hp
    · exact Nat.ne_of_lt (o4 q (.tail _ hq) p hp)
    · rw [List.mem_singleton.mp hp]; exact hCB q hq
  · exact List.mem_append.mpr (.inr (List.mem_append.mpr (.inr (List.mem_append.mpr (.inr (.head _))))))
  · exact re ▸ (dO.mono fun q h => List.mem_append.mpr (.inr (List.mem_append.mpr (.inr h))))
  · exact re ▸ (dCl.mono fun q h => List.mem_append.mpr (.inr h))
end TGrI
section TGrJ
open PySem PySem.W PySem.Calls PyProof.Rows PyProof.V PySem.Spec
set_option maxRecDepth 100000
set_option maxHeartbeats 1500000
theorem fr_back3 {g h : Heap} {L : Addr} {m : PySem.Str → Option Value} {full small : List (PySem.Str × Value)} {x y z : PySem.Str} {a b c : Value}
    (F : Fr g L h (fun k => if k = x then some a else if k = y then some b else if k = z then some c else fixM small (fixM full m) k)) (hs : ∀ p ∈ small, full.lookup p.1 = some p.2) : Fr g L h (fixM ((x, a) :: (y, b) :: (z, c) :: full) m) := by
  rw [← fixM_set (full := (y, b) :: (z, c) :: full), ← fixM_set (full := (z, c) :: full), ← fixM_set (full := full)]
  rw [← fix_of small fun p hp => fixM_at (hs p hp)] at F
  exact F
variable {w : World} {p : Program} {loose : List PySem.Str} {mean : ExcName → Option Value} {mg mb : PySem.Str → Option Value} {dp un : Nat} {gd : Option (List Code)} {outer : List Env} {base g : Heap} {L : Addr} {h₁ : Heap} {s : Shared} {tk : Nat} {Q : Flow → Shared → Prop} {E : Value → Shared → Prop} {cdv : Value}
noncomputable abbrev E14 (n : Nat) (t : Tok) (M TB P LN C O Cl Pl mk b : Nat) (tb tm : Tok) (x G D kd j i len : Nat) (t0 t1 t2 t3 : Tok) (dv : Value) : List (PySem.Str × Value) :=
  ("laid", .ref D) :: ("gone", .ref G) :: ("due", dv) :: ("table", .ref x) :: ("text", .str (textOf len kd (wdX i)) t3) :: ("word", .str (wdX i) t2) :: ("name", .str (nmX j) t1) :: ("kind", .int kd t0) :: E7 n t M TB P LN C O Cl Pl mk b tb tm
theorem turnB {B0 K R0 : List (Addr × Obj)} {n M TB P LN C O Cl Pl mk b nM nT nP nL : Nat} {t tb tm : Tok} {ms ts ps ls : List Value} {v0 : Value} {rows pairs : List Row} {line : List LE} {pc : List Nat} {u : PySem.Str → Option Value} {rest : List Stmt} 
    (B : Below (aro dp un gd outer) base outer g) (F : Fr g L h₁ (fixM (E7 n t M TB P LN C O Cl Pl mk b tb tm) u)) (XB : (KK w.params).In base) (TT : Top p loose mean mg mb base) (D : KtsDicts (frs outer) g) (N : News g L h₁ (K ++ B0)) (off : ∀ q ∈ B0, ∀ p ∈ K, q.1 ≠ p.1)
    (hM : (M, listOf ms.toArray nM) ∈ B0) (hml : ms.length < 21) (hT : (TB, listOf ts.toArray nT) ∈ B0) (htl : ts.length ≤ 20) (hb : ts[b]? = some v0) (hv : TabIn w R0 v0 rows) (hsub : ∀ q ∈ R0, q ∈ B0) (hcl : ∀ r ∈ rows, Clean r) (hrl : rows.length ≤ 100)
    (hP : (P, listOf ps.toArray nP) ∈ B0) (hps : DatAll B0 ps (pairs.map pairD)) (hpl : pairs.length ≤ 1000) (hps2 : ∀ r ∈ pairs, r.1.cps.size ≤ 10 ∧ r.2.cps.size ≤ 100)
    (hL : (LN, listOf ls.toArray nL) ∈ B0) (hls : DatAll B0 ls (line.map entryD)) (hle : ∀ e ∈ line, ∀ c ∈ e.1, c < 14) (hll : line.length ≤ 1000)
    (hpc : ∀ c ∈ pc, c < 14) (dPl : DatIn (K ++ B0) (.ref Pl) (.list (rowD pc))) (hq : ∀ q ∈ toldP line pc, q < pairs.length) (hql : (toldP line pc).length ≤ 1000)
    (heq : (dueP pairs (toldP line pc) (kindOf n) (nmX (nameAt n)) (textOf ms.length (kindOf n) (wdX (wordAtX n))) (wdX (wordAtX n))).1 = (callP rows (kindOf n) (nameAt n) ms.length (wordAtX n)).1)
    (hd : dp + 40 < recursionLimit) (hu : un + 400 < cLine)
    (k : ∀ (x dx l n' : Nat) (kk : Tok) vs' (G Dl nG nD : Nat) gs lv dv t0 t1 t2 t3 g' K' h' tk', KtsTurn (frs outer) g g' → Below (aro dp un gd outer) base outer g' → KtsDicts (frs outer) g' →
      Fr g' L h' (fixM (E14 n t M TB P LN C O Cl Pl mk b tb tm x G Dl (kindOf n) (nameAt n) (wordAtX n) ms.length t0 t1 t2 t3 dv) u) →
      News g' L h' (K' ++ B0) → (∀ q ∈ B0, ∀ p ∈ K', q.1 ≠ p.1) → (∀ q ∈ K, q ∈ K') → (x, instObj 197 dx) ∈ K' → (dx, hdrD w l kk) ∈ K' → (l, listOf (List.toArray vs') n') ∈ K' → DatAll (K' ++ B0) vs' ((callP rows (kindOf n) (nameAt n) ms.length (wordAtX n)).2.map pairD) →
      (G, listOf (List.toArray gs) nG) ∈ K' → (Dl, listOf (List.toArray lv) nD) ∈ K' →
      DatAll [] gs ((dueP pairs (toldP line pc) (kindOf n) (nmX (nameAt n)) (textOf ms.length (kindOf n) (wdX (wordAtX n))) (wdX (wordAtX n))).2.1.map fun n : Nat => .int n) →
      DatAll (K' ++ B0) lv ((dueP pairs (toldP line pc) (kindOf n) (nmX (nameAt n)) (textOf ms.length (kindOf n) (wdX (wordAtX n))) (wdX (wordAtX n))).2.2.map pairD) →
      wpC (model PR w) (ktrTop (dp + 1) (un + 3) gd "_law_grown" sc18 L 239 cdv [] outer) (execs rest (envX "_law_grown" sc18 L 239 cdv [])) Q E { s with heap := h', toks := tk' }) :
    wpC (model PR w) (ktrTop (dp + 1) (un + 3) gd "_law_grown" sc18 L 239 cdv [] outer) (execs ([gb 8, gb 9, gb 10, gb 11, gb 12, gb 13, gb 14] ++ rest) (envX "_law_grown" sc18 L 239 cdv [])) Q E { s with heap := h₁, toks := tk } := by
  have X : (KK w.params).In g := XB.keeps B.stays
  have T := TT.keeps B.stays
  have upB : ∀ q ∈ B0, q ∈ K ++ B0 := fun q h => List.mem_append.mpr (.inr h)
  have hkd : kindOf n < 4 := Nat.mod_lt _ (by decide)
  have hj : nameAt n < 5 := Nat.mod_lt _ (by decide)
  have hi : wordAtX n < 5 := Nat.mod_lt _ (by decide)
  have tsz := text_size ms.length hml (kindOf n) hkd (wordAtX n) hi
  have nsz := name_size (nameAt n) hj
  have wsz := word_size (wordAtX n) hi
  refine wpC_execs_cons (wpC_any (seg8 (n := n) (t := t) (fr_sub F ?s8) N fun h8 tk8 t0 F8 N8 => ?_))
  case s8 => (repeat' (first | exact List.forall_mem_nil _ | (refine List.forall_mem_cons.mpr ⟨by with_unfolding_all rfl, ?_⟩)))
  clear F N
  replace F8 := fr_back F8 (by (repeat' (first | exact List.forall_mem_nil _ | (refine List.forall_mem_cons.mpr ⟨by with_unfolding_all rfl, ?_⟩))))
  dsimp only
  refine wpC_execs_cons (wpC_any (seg9 (n := n) (t := t) (fr_sub F8 ?s9) N8 fun h9 tk9 t1 F9 N9 => ?_))
  case s9 => (repeat' (first | exact List.forall_mem_nil _ | (refine List.forall_mem_cons.mpr ⟨by with_unfolding_all rfl, ?_⟩)))
  clear F8 N8
  replace F9 := fr_back F9 (by (repeat' (first | exact List.forall_mem_nil _ | (refine List.forall_mem_cons.mpr ⟨by with_unfolding_all rfl, ?_⟩))))
  dsimp only
  refine wpC_execs_cons (wpC_any (seg10 (n := n) (t := t) (fr_sub F9 ?s10) N9 fun hA tkA t2 FA NA => ?_))
  case s10 => (repeat' (first | exact List.forall_mem_nil _ | (refine List.forall_mem_cons.mpr ⟨by with_unfolding_all rfl, ?_⟩)))
  clear F9 N9
  replace FA := fr_back FA (by (repeat' (first | exact List.forall_mem_nil _ | (refine List.forall_mem_cons.mpr ⟨by with_unfolding_all rfl, ?_⟩))))
  dsimp only
  refine wpC_execs_cons (wpC_any (seg11 (M := M) (kd := kindOf n) (wd := wdX (wordAtX n)) (tt := t0) (tw := t2) (fr_sub FA ?s11) X T NA (upB _ hM) (by omega) fun hB tkB t3 FB NB => ?_))
  case s11 => (repeat' (first | exact List.forall_mem_nil _ | (refine List.forall_mem_cons.mpr ⟨by with_unfolding_all rfl, ?_⟩)))
  clear FA NA
  replace FB := fr_back FB (by (repeat' (first | exact List.forall_mem_nil _ | (refine List.forall_mem_cons.mpr ⟨by with_unfolding_all rfl, ?_⟩))))
  dsimp only
  refine wpC_execs_cons (wpC_any (seg12 (TB := TB) (b := b) (tb := tb) (rows := rows) B (fr_sub FB ?s12) X T NB (upB _ hT) htl hb hv (fun q h => upB q (hsub q h)) hcl hrl (by omega) (by omega) fun x dx l kk vs nv hC tkC FC NC dvs hxl hdl hlt hld hdx => ?_))
  case s12 => (repeat' (first | exact List.forall_mem_nil _ | (refine List.forall_mem_cons.mpr ⟨by with_unfolding_all rfl, ?_⟩)))
  clear FB NB
  replace FC := fr_back FC (by (repeat' (first | exact List.forall_mem_nil _ | (refine List.forall_mem_cons.mpr ⟨by with_unfolding_all rfl, ?_⟩))))
  dsimp only
  have up3 : ∀ q ∈ K ++ B0, q ∈ (x, instObj 197 dx) :: (dx, hdrD w l kk) :: (l, listOf vs.toArray nv) :: (K ++ B0) := fun q h => .tail _ (.tail _ (.tail _ h))
  refine wpC_execs_cons (wpC_any (seg13 (P := P) (LN := LN) (Pl := Pl) (kd := kindOf n) (nm := nmX (nameAt n)) (tx := textOf ms.length (kindOf n) (wdX (wordAtX n))) (wd := wdX (wordAtX n)) (t0 := t0) (t := t1) (tt := t3) (tw := t2) (rows := pairs) (es := line) (pc := pc)
    B (fr_sub FC ?s13) X T NC hkd hle hpc hll (.list (up3 _ (upB _ hL)) (hls.mono fun q h => up3 _ (upB q h))) (dPl.mono up3) hq hpl hps2 hql (by omega) (by omega) (by omega) (.list (up3 _ (upB _ hP)) (hps.mono fun q h => up3 _ (upB q h))) (by omega) (by omega)
    fun dv G Dl gs lv nG nD tl hD tkD FD ND oD mG mD ddv dgs dlv => ?_))
  case s13 => (repeat' (first | exact List.forall_mem_nil _ | (refine List.forall_mem_cons.mpr ⟨by with_unfolding_all rfl, ?_⟩)))
  clear FC NC
  replace FD := fr_back3 FD (by (repeat' (first | exact List.forall_mem_nil _ | (refine List.forall_mem_cons.mpr ⟨by with_unfolding_all rfl, ?_⟩))))
  dsimp only
  have hAns := callP_form rows (kindOf n) (nameAt n) ms.length (wordAtX n)
  rw [heq] at ddv
  have ddv' := ans_excl ddv hAns dvs
  have ND' : News g L hD ((x, instObj 197 dx) :: (dx, hdrD w l kk) :: (l, listOf vs.toArray nv) :: (tl ++ (K ++ B0))) := fun q hq => ND q (by
    rcases List.mem_cons.mp hq with rfl | hq
    · exact List.mem_append.mpr (.inr (.head _))
    rcases List.mem_cons.mp hq with rfl | hq
    · exact List.mem_append.mpr (.inr (.tail _ (.head _)))
    rcases List.mem_cons.mp hq with rfl | hq
    · exact List.mem_append.mpr (.inr (.tail _ (.tail _ (.head _))))
    rcases List.mem_append.mp hq with hq | hq
    · exact List.mem_append.mpr (.inl hq)
    · exact List.mem_append.mpr (.inr (up3 q hq)))
  have hrl' : ∀ q ∈ tl ++ (K ++ B0), q.1 ≠ l := fun q hq => by
    rcases List.mem_append.mp hq with hq | hq
    · exact fun e => oD (l, listOf vs.toArray nv) (.tail _ (.tail _ (.head _))) q hq e.symm
    · exact Nat.ne_of_lt (hlt q hq)
  refine wpC_execs_cons (wpC_any (seg14 (r1 := []) (x := x) (kd := kindOf n) (j := nameAt n) (i := wordAtX n) (len := ms.length) (t0 := t0) (t := t1) (tt := t3) (tw := t2) (dv := dv) (rows := rows) B (fr_sub FD ?s14) XB TT D ND' hkd hj hi hml (dvs.mono fun q h => List.mem_append.mpr (.inr (upB q (hsub q h)))) hcl (by omega) hxl hdl hrl' ddv' (by omega) (by omega)
    fun g' ex vs' n' hE tkE T' B' D' FE NE dvs' offE => ?_))
  case s14 => (repeat' (first | exact List.forall_mem_nil _ | (refine List.forall_mem_cons.mpr ⟨by with_unfolding_all rfl, ?_⟩)))
  clear FD ND ND'
  replace FE := fr_same FE (by (repeat' (first | exact List.forall_mem_nil _ | (refine List.forall_mem_cons.mpr ⟨by with_unfolding_all rfl, ?_⟩))))
  dsimp only
  have re : ex ++ ((x, instObj 197 dx) :: (dx, hdrD w l kk) :: (l, listOf vs'.toArray n') :: (tl ++ (K ++ B0))) = (ex ++ ((x, instObj 197 dx) :: (dx, hdrD w l kk) :: (l, listOf vs'.toArray n') :: (tl ++ K))) ++ B0 := by simp
  rw [re] at NE
  refine k x dx l n' kk vs' G Dl nG nD gs lv dv t0 t1 t2 t3 g' _ hE tkE T' B' D' FE NE (fun q hq p hp => ?off) (fun q hq => ?sub) ?m1 ?m2 ?m3 (dvs'.mono fun q hq => ?mono) ?m4 ?m5 dgs (dlv.mono fun q hq => ?mono2)
  case off =>
    rcases List.mem_append.mp hp with hp | hp
    · exact (offE p hp).2.2.2 q (List.mem_append.mpr (.inr (upB q hq)))
    rcases List.mem_cons.mp hp with rfl | hp
    · exact Nat.ne_of_lt (Nat.lt_trans (hlt q (upB q hq)) (Nat.lt_trans hld hdx))
    rcases List.mem_cons.mp hp with rfl | hp
    · exact Nat.ne_of_lt (Nat.lt_trans (hlt q (upB q hq)) hld)
    rcases List.mem_cons.mp hp with rfl | hp
    · exact Nat.ne_of_lt (hlt q (upB q hq))
    rcases List.mem_append.mp hp with hp | hp
    · exact oD q (up3 q (upB q hq)) p hp
    · exact off q hq p hp
  case sub => exact List.mem_append.mpr (.inr (.tail _ (.tail _ (.tail _ (List.mem_append.mpr (.inr hq))))))
  case m1 => exact List.mem_append.mpr (.inr (.head _))
  case m2 => exact List.mem_append.mpr (.inr (.tail _ (.head _)))
  case m3 => exact List.mem_append.mpr (.inr (.tail _ (.tail _ (.head _))))
  case mono =>
    rcases List.mem_append.mp hq with hq | hq
    · exact List.mem_append.mpr (.inl (List.mem_append.mpr (.inl hq)))
    rcases List.mem_append.mp hq with hq | hq
    · exact List.mem_append.mpr (.inl (List.mem_append.mpr (.inr (.tail _ (.tail _ (.tail _ (List.mem_append.mpr (.inl hq))))))))
    rcases List.mem_append.mp hq with hq | hq
    · exact List.mem_append.mpr (.inl (List.mem_append.mpr (.inr (.tail _ (.tail _ (.tail _ (List.mem_append.mpr (.inr hq))))))))
    · exact List.mem_append.mpr (.inr hq)
  case m4 => exact List.mem_append.mpr (.inr (.tail _ (.tail _ (.tail _ (List.mem_append.mpr (.inl mG))))))
  case m5 => exact List.mem_append.mpr (.inr (.tail _ (.tail _ (.tail _ (List.mem_append.mpr (.inl mD))))))
  case mono2 => exact List.mem_append.mpr (.inl (List.mem_append.mpr (.inr (.tail _ (.tail _ (.tail _ (List.mem_append.mpr (.inl hq))))))))
end TGrJ
section TGrK
open PySem PySem.W PySem.Calls PyProof.Rows PyProof.V PySem.Spec
set_option maxRecDepth 100000
set_option maxHeartbeats 1500000
theorem fr_fix2 {g h : Heap} {L : Addr} {m' m0 : PySem.Str → Option Value} {x : PySem.Str} (F : Fr g L h m') (hm : ∀ y, y ≠ x → m' y = m0 y) (l : List (PySem.Str × Value)) (hl : ∀ p ∈ l, p.1 ≠ x ∧ m0 p.1 = some p.2) : Fr g L h (fixM l m') :=
  fr_fix F l fun p hp => (hm _ (hl p hp).1).trans (hl p hp).2
theorem refs_list {a : Addr} {xs : List Value} {n : Nat} (h : ∀ v ∈ xs, ∃ a, v = Value.ref a) : Junk (a, listOf (List.toArray xs) n).2 := .inl ⟨xs, n, rfl, h⟩
theorem refs_codes {R : List (Addr × Obj)} {vs : List Value} {es : List (List Nat)} (h : DatAll R vs (es.map codesD)) : ∀ v ∈ vs, ∃ a, v = Value.ref a := refs_of (fun _ _ h => ref_of_list h) h
theorem refs_pairs {R : List (Addr × Obj)} {vs : List Value} {es : List Row} (h : DatAll R vs (es.map pairD)) : ∀ v ∈ vs, ∃ a, v = Value.ref a := refs_of (fun _ _ h => ref_of_tuple h) h
theorem refs_line {R : List (Addr × Obj)} {vs : List Value} {es : List LE} (h : DatAll R vs (es.map entryD)) : ∀ v ∈ vs, ∃ a, v = Value.ref a := refs_of (fun _ _ h => ref_of_tuple h) h
theorem stamps_small {line : List LE} {codes gone : List Nat} {a b : Nat} (hle : ∀ e ∈ line, ∀ c ∈ e.1, c < 14) (hcc : ∀ c ∈ codes, c < 14) : ∀ e ∈ line ++ goneL codes gone ++ laidL codes a b, ∀ c ∈ e.1, c < 14 := by
  have h13 : ∀ c ∈ codes ++ [13], c < 14 := fun c h => by
    rcases List.mem_append.mp h with h | h
    · exact hcc c h
    · rw [List.mem_singleton.mp h]; decide
  have hl : ∀ b a, ∀ e ∈ laidL codes a b, ∀ c ∈ e.1, c < 14 := by
    intro b
    induction b with
    | zero => intro a e he; exact absurd he List.not_mem_nil
    | succ b ih =>
      intro a e he
      unfold laidL at he
      rcases List.mem_append.mp he with he | he
      · rcases List.mem_cons.mp he with rfl | he
        · exact hcc
        · rw [List.mem_singleton.mp he]; exact h13
      · exact ih _ e he
  intro e he
  rcases List.mem_append.mp he with he | he
  · rcases List.mem_append.mp he with he | he
    · exact hle e he
    · unfold goneL at he
      obtain ⟨q, _, h⟩ := List.mem_flatMap.mp he
      rcases List.mem_cons.mp h with rfl | h
      · exact hcc
      · rw [List.mem_singleton.mp h]; exact h13
  · exact hl _ _ e he
noncomputable abbrev Ez (M TB P LN C O Cl x Dl : Nat) : List (PySem.Str × Value) := [("line", .ref LN), ("opened", .ref O), ("closed", .ref Cl), ("laid", .ref Dl), ("pairs", .ref P), ("made", .ref M), ("codes", .ref C), ("tables", .ref TB), ("table", .ref x)]
variable {w : World} {p : Program} {loose : List PySem.Str} {mean : ExcName → Option Value} {mg mb : PySem.Str → Option Value} {dp un : Nat} {gd : Option (List Code)} {outer : List Env} {base g : Heap} {L : Addr} {h₁ : Heap} {s : Shared} {tk : Nat} {Q : Flow → Shared → Prop} {E : Value → Shared → Prop} {cdv : Value}
theorem turnC {K W : List (Addr × Obj)} {n M TB P LN C O Cl Pl mk b nM nT nP nL x G Dl kd j i len nG nD : Nat} {t tb tm t0 t1 t2 t3 : Tok} {dv : Value} {ms ts ps ls gs lv : List Value} {pairs laid : List Row} {line : List LE} {codes gone : List Nat} {u : PySem.Str → Option Value} {rest : List Stmt} 
    (F : Fr g L h₁ (fixM (E14 n t M TB P LN C O Cl Pl mk b tb tm x G Dl kd j i len t0 t1 t2 t3 dv) u)) (X : (KK w.params).In g) (T : Top p loose mean mg mb g)
    (N : News g L h₁ (K ++ ((M, listOf ms.toArray nM) :: (TB, listOf ts.toArray nT) :: (P, listOf ps.toArray nP) :: (LN, listOf ls.toArray nL) :: W)))
    (off : ∀ q ∈ (M, listOf ms.toArray nM) :: (TB, listOf ts.toArray nT) :: (P, listOf ps.toArray nP) :: (LN, listOf ls.toArray nL) :: W, ∀ p ∈ K, q.1 ≠ p.1)
    (offW : ∀ q ∈ W, q.1 ≠ M ∧ q.1 ≠ TB ∧ q.1 ≠ P ∧ q.1 ≠ LN) (d1 : M ≠ TB) (d2 : M ≠ P) (d3 : M ≠ LN) (d4 : TB ≠ P) (d5 : TB ≠ LN) (d6 : P ≠ LN)
    (rM : ∀ v ∈ ms, ∃ a, v = Value.ref a) (rT : ∀ v ∈ ts, ∃ a, v = Value.ref a) (hml : ms.length ≤ 100) (htl : ts.length ≤ 100)
    (hps : DatAll W ps (pairs.map pairD)) (hls : DatAll W ls (line.map entryD)) (hle : ∀ e ∈ line, ∀ c ∈ e.1, c < 14) (hcc : ∀ c ∈ codes, c < 14)
    (mG : (G, listOf gs.toArray nG) ∈ K) (mD : (Dl, listOf lv.toArray nD) ∈ K) (dgs : DatAll [] gs (gone.map fun n : Nat => .int n)) (dlv : DatAll (K ++ W) lv (laid.map pairD)) (dO : DatIn (K ++ W) (.ref O) (.list (rowD codes))) (dC : DatIn (K ++ W) (.ref Cl) (.list (rowD (codes ++ [13]))))
    (hl1 : line.length ≤ 1000) (hgl : gone.length ≤ 1000) (hll : laid.length ≤ 100) (hpl : pairs.length ≤ 100) (hz2 : 2 ≤ (line ++ goneL codes gone ++ laidL codes pairs.length laid.length).length) (h64 : (line ++ goneL codes gone ++ laidL codes pairs.length laid.length).length < 64)
    (hd : dp + 40 < recursionLimit) (hu : un + 400 < cLine) (hE : PassesOwn (model PR w) (ktrTop (dp + 1) (un + 3) gd "_law_grown" sc18 L 239 cdv [] outer) (envX "_law_grown" sc18 L 239 cdv []) E)
    (k : ∀ (D : Nat) ps' ls' nM' nT' nP' nL' K' m' h' tk', Fr g L h' (fixM (("line", .ref D) :: Ez M TB P LN C O Cl x Dl) m') →
      News g L h' ((M, listOf (ms ++ [Value.ref C]).toArray nM') :: (TB, listOf (ts ++ [Value.ref x]).toArray nT') :: (P, listOf (List.toArray ps') nP') :: (D, listOf (List.toArray ls') nL') :: (K' ++ W)) →
      (∀ q ∈ W, ∀ p ∈ K', q.1 ≠ p.1) → (∀ q ∈ K, q ∈ K') → (∀ q ∈ K' ++ W, q.1 ≠ M ∧ q.1 ≠ TB ∧ q.1 ≠ P ∧ q.1 ≠ D) → M ≠ D → TB ≠ D → P ≠ D →
      DatAll (K' ++ W) ps' ((pairs ++ laid).map pairD) → DatAll (K' ++ W) ls' ((sortE (line ++ goneL codes gone ++ laidL codes pairs.length laid.length)).map entryD) →
      wpC (model PR w) (ktrTop (dp + 1) (un + 3) gd "_law_grown" sc18 L 239 cdv [] outer) (execs rest (envX "_law_grown" sc18 L 239 cdv [])) Q E { s with heap := h', toks := tk' }) :
    wpC (model PR w) (ktrTop (dp + 1) (un + 3) gd "_law_grown" sc18 L 239 cdv [] outer) (execs ([gb 15, gb 16, gb 17, gb 18, gb 19] ++ rest) (envX "_law_grown" sc18 L 239 cdv [])) Q E { s with heap := h₁, toks := tk } := by
  have inW : ∀ {q : Addr × Obj}, q ∈ W → q ∈ K ++ W := fun h => List.mem_append.mpr (.inr h)
  have rP := refs_pairs hps
  have kM : ∀ q ∈ K, q.1 ≠ M ∧ q.1 ≠ TB ∧ q.1 ≠ P ∧ q.1 ≠ LN := fun q h => ⟨(off _ (.head _) q h).symm, (off _ (.tail _ (.head _)) q h).symm, (off _ (.tail _ (.tail _ (.head _))) q h).symm, (off _ (.tail _ (.tail _ (.tail _ (.head _)))) q h).symm⟩
  have kW : ∀ q ∈ W, ∀ p ∈ K, q.1 ≠ p.1 := fun q h => off q (.tail _ (.tail _ (.tail _ (.tail _ h))))
  have N15 : News g L h₁ ((LN, listOf ls.toArray nL) :: ((M, listOf ms.toArray nM) :: (TB, listOf ts.toArray nT) :: (P, listOf ps.toArray nP) :: (K ++ W))) := fun q hq => N q (by
    rcases List.mem_cons.mp hq with rfl | hq
    · exact List.mem_append.mpr (.inr (.tail _ (.tail _ (.tail _ (.head _)))))
    rcases List.mem_cons.mp hq with rfl | hq
    · exact List.mem_append.mpr (.inr (.head _))
    rcases List.mem_cons.mp hq with rfl | hq
    · exact List.mem_append.mpr (.inr (.tail _ (.head _)))
    rcases List.mem_cons.mp hq with rfl | hq
    · exact List.mem_append.mpr (.inr (.tail _ (.tail _ (.head _))))
    rcases List.mem_append.mp hq with hq | hq
    · exact List.mem_append.mpr (.inl hq)
    · exact List.mem_append.mpr (.inr (.tail _ (.tail _ (.tail _ (.tail _ hq))))))
  have kw : ∀ q ∈ K ++ W, q.1 ≠ M ∧ q.1 ≠ TB ∧ q.1 ≠ P ∧ q.1 ≠ LN := fun q hq => (List.mem_append.mp hq).elim (kM q) (offW q)
  have up : ∀ {a b c : Addr × Obj}, ∀ q ∈ K ++ W, q ∈ a :: b :: c :: (K ++ W) := fun q h => .tail _ (.tail _ (.tail _ h))
  refine wpC_execs_cons (wpC_any (seg15 (O := O) (Cl := Cl) (G := G) (es := line) (c := codes) (gs := gone) (fr_sub F ?s15) X T N15 (up _ (List.mem_append.mpr (.inl mG))) dgs (dO.mono up) (dC.mono up) (hls.mono fun q h => up q (inW h)) ?r15 hl1 hgl (by omega) (by omega) hE
    fun m1 ls1 n1 ex1 h1 tk1 F1 hm1 N1 dls1 hex1 => ?_))
  case s15 => (repeat' (first | exact List.forall_mem_nil _ | (refine List.forall_mem_cons.mpr ⟨by with_unfolding_all rfl, ?_⟩)))
  case r15 =>
    intro q hq
    rcases List.mem_cons.mp hq with rfl | hq
    · exact d3
    rcases List.mem_cons.mp hq with rfl | hq
    · exact d5
    rcases List.mem_cons.mp hq with rfl | hq
    · exact d6
    · exact (kw q hq).2.2.2
  clear F N N15
  have F1' := fr_fix2 F1 hm1 (Ez M TB P LN C O Cl x Dl) (by (repeat' (first | exact List.forall_mem_nil _ | (refine List.forall_mem_cons.mpr ⟨⟨by (dsimp only; decide), by with_unfolding_all rfl⟩, ?_⟩))))
  clear F1
  dsimp only
  have excl1 : ∀ {e : List (Addr × Obj)}, Excl (e ++ ((M, listOf ms.toArray nM) :: (TB, listOf ts.toArray nT) :: (P, listOf ps.toArray nP) :: (K ++ W))) ((e ++ K) ++ W) := fun q hq => by
    rcases List.mem_append.mp hq with hq | hq
    · exact .inl (List.mem_append.mpr (.inl (List.mem_append.mpr (.inl hq))))
    rcases List.mem_cons.mp hq with rfl | hq
    · exact .inr (refs_list rM)
    rcases List.mem_cons.mp hq with rfl | hq
    · exact .inr (refs_list rT)
    rcases List.mem_cons.mp hq with rfl | hq
    · exact .inr (refs_list rP)
    · rw [List.append_assoc]; exact .inl (List.mem_append.mpr (.inr hq))
  have dls1' := excl_all (fun v e => excl_entry excl1) dls1
  have kw1 : ∀ q ∈ ex1, q.1 ≠ M ∧ q.1 ≠ TB ∧ q.1 ≠ P ∧ q.1 ≠ LN := fun q h => ⟨((hex1 q h).2 _ (.head _)).symm, ((hex1 q h).2 _ (.tail _ (.head _))).symm, ((hex1 q h).2 _ (.tail _ (.tail _ (.head _)))).symm, (hex1 q h).1⟩
  have N16 : News g L h1 ((LN, listOf ls1.toArray n1) :: (P, listOf ps.toArray nP) :: ((M, listOf ms.toArray nM) :: (TB, listOf ts.toArray nT) :: ((ex1 ++ K) ++ W))) := fun q hq => N1 q (by
    rcases List.mem_cons.mp hq with rfl | hq
    · exact .head _
    rcases List.mem_cons.mp hq with rfl | hq
    · exact .tail _ (List.mem_append.mpr (.inr (.tail _ (.tail _ (.head _)))))
    rcases List.mem_cons.mp hq with rfl | hq
    · exact .tail _ (List.mem_append.mpr (.inr (.head _)))
    rcases List.mem_cons.mp hq with rfl | hq
    · exact .tail _ (List.mem_append.mpr (.inr (.tail _ (.head _))))
    rw [List.append_assoc] at hq
    rcases List.mem_append.mp hq with hq | hq
    · exact .tail _ (List.mem_append.mpr (.inl hq))
    · exact .tail _ (List.mem_append.mpr (.inr (up q hq))))
  have up1 : ∀ {a b : Addr × Obj}, ∀ q ∈ (ex1 ++ K) ++ W, q ∈ a :: b :: ((ex1 ++ K) ++ W) := fun q h => .tail _ (.tail _ h)
  have kup : ∀ q ∈ K ++ W, q ∈ (ex1 ++ K) ++ W := fun q h => by rw [List.append_assoc]; exact List.mem_append.mpr (.inr h)
  have kw2 : ∀ q ∈ (ex1 ++ K) ++ W, q.1 ≠ M ∧ q.1 ≠ TB ∧ q.1 ≠ P ∧ q.1 ≠ LN := fun q hq => by
    rw [List.append_assoc] at hq
    exact (List.mem_append.mp hq).elim (kw1 q) (kw q)
  refine wpC_execs_cons (wpC_any (seg16 (O := O) (Cl := Cl) (G := Dl) (es := line ++ goneL codes gone) (c := codes) (rows := pairs) (laid := laid) (fr_sub F1' ?s16) X T N16 (up1 _ (kup _ (List.mem_append.mpr (.inl mD)))) (dlv.mono fun q h => up1 q (kup q h)) (dO.mono fun q h => up1 q (kup q h)) (dC.mono fun q h => up1 q (kup q h)) (dls1'.mono up1) (hps.mono fun q h => up1 q (kup q (inW h))) ?r16 d6 ?l16 hll hpl (by omega) (by omega) hE
    fun m2 ls2 ps2 n2 nP2 ex2 h2 tk2 F2 hm2 N2 dls2 dps2 hex2 => ?_))
  case s16 => (repeat' (first | exact List.forall_mem_nil _ | (refine List.forall_mem_cons.mpr ⟨by with_unfolding_all rfl, ?_⟩)))
  case r16 =>
    intro q hq
    rcases List.mem_cons.mp hq with rfl | hq
    · exact ⟨d3, d2⟩
    rcases List.mem_cons.mp hq with rfl | hq
    · exact ⟨d5, d4⟩
    · exact ⟨(kw2 q hq).2.2.2, (kw2 q hq).2.2.1⟩
  case l16 =>
    rw [List.length_append] at h64
    omega
  clear F1' N1 N16
  have F2' := fr_fix2 F2 hm2 (Ez M TB P LN C O Cl x Dl) (by (repeat' (first | exact List.forall_mem_nil _ | (refine List.forall_mem_cons.mpr ⟨⟨by (dsimp only; decide), by with_unfolding_all rfl⟩, ?_⟩))))
  clear F2
  dsimp only
  have excl2 : Excl (ex2 ++ ((M, listOf ms.toArray nM) :: (TB, listOf ts.toArray nT) :: ((ex1 ++ K) ++ W))) ((ex2 ++ (ex1 ++ K)) ++ W) := fun q hq => by
    rcases List.mem_append.mp hq with hq | hq
    · exact .inl (List.mem_append.mpr (.inl (List.mem_append.mpr (.inl hq))))
    rcases List.mem_cons.mp hq with rfl | hq
    · exact .inr (refs_list rM)
    rcases List.mem_cons.mp hq with rfl | hq
    · exact .inr (refs_list rT)
    · rw [List.append_assoc]; exact .inl (List.mem_append.mpr (.inr hq))
  have dls2' := excl_all (fun v e => excl_entry excl2) dls2
  have dps2' := excl_all (fun v e => excl_pair excl2) dps2
  have kw3 : ∀ q ∈ ex2, q.1 ≠ M ∧ q.1 ≠ TB ∧ q.1 ≠ P ∧ q.1 ≠ LN := fun q h => ⟨((hex2 q h).2.2 _ (.head _)).symm, ((hex2 q h).2.2 _ (.tail _ (.head _))).symm, (hex2 q h).2.1, (hex2 q h).1⟩
  have up2 : ∀ q ∈ (ex2 ++ (ex1 ++ K)) ++ W, q ∈ (LN, listOf ls2.toArray n2) :: (P, listOf ps2.toArray nP2) :: (ex2 ++ ((M, listOf ms.toArray nM) :: (TB, listOf ts.toArray nT) :: ((ex1 ++ K) ++ W))) := fun q hq => by
    rw [List.append_assoc] at hq
    rcases List.mem_append.mp hq with hq | hq
    · exact .tail _ (.tail _ (List.mem_append.mpr (.inl hq)))
    · exact .tail _ (.tail _ (List.mem_append.mpr (.inr (.tail _ (.tail _ hq)))))
  refine wpC_execs_cons (wpC_any (seg17 (es := line ++ goneL codes gone ++ laidL codes pairs.length laid.length) (fr_sub F2' ?s17) X T N2 (.head _) (dls2'.mono up2) ?c17 hz2 h64 (by omega) fun D3 ls3 n3 h3 tk3 F3 N3 lt3 dls3 => ?_))
  case s17 => (repeat' (first | exact List.forall_mem_nil _ | (refine List.forall_mem_cons.mpr ⟨by with_unfolding_all rfl, ?_⟩)))
  case c17 => exact stamps_small hle hcc
  clear F2'
  replace F3 := fr_back F3 (by (repeat' (first | exact List.forall_mem_nil _ | (refine List.forall_mem_cons.mpr ⟨by with_unfolding_all rfl, ?_⟩))))
  dsimp only
  have rP2 := refs_pairs dps2'
  have rL2 := refs_line dls2'
  have excl3 : Excl ((LN, listOf ls2.toArray n2) :: (P, listOf ps2.toArray nP2) :: (ex2 ++ ((M, listOf ms.toArray nM) :: (TB, listOf ts.toArray nT) :: ((ex1 ++ K) ++ W)))) ((ex2 ++ (ex1 ++ K)) ++ W) := fun q hq => by
    rcases List.mem_cons.mp hq with rfl | hq
    · exact .inr (refs_list rL2)
    rcases List.mem_cons.mp hq with rfl | hq
    · exact .inr (refs_list rP2)
    · exact excl2 q hq
  have dls3' := excl_all (fun v e => excl_entry excl3) dls3
  have kD : ∀ q ∈ (ex2 ++ (ex1 ++ K)) ++ W, q.1 ≠ D3 := fun q hq => Nat.ne_of_lt (lt3 q (up2 q hq))
  have eM : M ≠ D3 := Nat.ne_of_lt (lt3 (M, _) (.tail _ (.tail _ (List.mem_append.mpr (.inr (.head _))))))
  have eT : TB ≠ D3 := Nat.ne_of_lt (lt3 (TB, _) (.tail _ (.tail _ (List.mem_append.mpr (.inr (.tail _ (.head _)))))))
  have eP : P ≠ D3 := Nat.ne_of_lt (lt3 (P, _) (.tail _ (.head _)))
  have kw4 : ∀ q ∈ (ex2 ++ (ex1 ++ K)) ++ W, q.1 ≠ M ∧ q.1 ≠ TB ∧ q.1 ≠ P ∧ q.1 ≠ D3 := fun q hq => by
    have h4 := kD q hq
    rw [List.append_assoc] at hq
    rcases List.mem_append.mp hq with hq | hq
    · exact ⟨(kw3 q hq).1, (kw3 q hq).2.1, (kw3 q hq).2.2.1, h4⟩
    · exact ⟨(kw2 q hq).1, (kw2 q hq).2.1, (kw2 q hq).2.2.1, h4⟩
  have N18 : News g L h3 ((M, listOf ms.toArray nM) :: ((TB, listOf ts.toArray nT) :: (P, listOf ps2.toArray nP2) :: (D3, listOf ls3.toArray n3) :: ((ex2 ++ (ex1 ++ K)) ++ W))) := fun q hq => N3 q (by
    rcases List.mem_cons.mp hq with rfl | hq
    · exact .tail _ (.tail _ (.tail _ (List.mem_append.mpr (.inr (.head _)))))
    rcases List.mem_cons.mp hq with rfl | hq
    · exact .tail _ (.tail _ (.tail _ (List.mem_append.mpr (.inr (.tail _ (.head _))))))
    rcases List.mem_cons.mp hq with rfl | hq
    · exact .tail _ (.tail _ (.head _))
    rcases List.mem_cons.mp hq with rfl | hq
    · exact .head _
    · exact .tail _ (up2 q hq))
  refine wpC_execs_cons (wpC_any (seg18 (C := C) (fr_sub F3 ?s18) X T N18 ?r18 hml fun n4 h4 tk4 F4 N4 => ?_))
  case s18 => (repeat' (first | exact List.forall_mem_nil _ | (refine List.forall_mem_cons.mpr ⟨by with_unfolding_all rfl, ?_⟩)))
  case r18 =>
    intro q hq
    rcases List.mem_cons.mp hq with rfl | hq
    · exact d1.symm
    rcases List.mem_cons.mp hq with rfl | hq
    · exact d2.symm
    rcases List.mem_cons.mp hq with rfl | hq
    · exact eM.symm
    · exact (kw4 q hq).1
  clear F3 N3 N18
  replace F4 := fr_same F4 (by (repeat' (first | exact List.forall_mem_nil _ | (refine List.forall_mem_cons.mpr ⟨by with_unfolding_all rfl, ?_⟩))))
  dsimp only
  have N19 : News g L h4 ((TB, listOf ts.toArray nT) :: ((M, listOf (ms ++ [Value.ref C]).toArray n4) :: (P, listOf ps2.toArray nP2) :: (D3, listOf ls3.toArray n3) :: ((ex2 ++ (ex1 ++ K)) ++ W))) := fun q hq => N4 q (by
    rcases List.mem_cons.mp hq with rfl | hq
    · exact .tail _ (.head _)
    rcases List.mem_cons.mp hq with rfl | hq
    · exact .head _
    · exact .tail _ (.tail _ hq))
  refine wpC_execs_cons (wpC_any (seg19 (x := x) (fr_sub F4 ?s19) X T N19 ?r19 htl fun n5 h5 tk5 F5 N5 => ?_))
  case s19 => (repeat' (first | exact List.forall_mem_nil _ | (refine List.forall_mem_cons.mpr ⟨by with_unfolding_all rfl, ?_⟩)))
  case r19 =>
    intro q hq
    rcases List.mem_cons.mp hq with rfl | hq
    · exact d1
    rcases List.mem_cons.mp hq with rfl | hq
    · exact d4.symm
    rcases List.mem_cons.mp hq with rfl | hq
    · exact eT.symm
    · exact (kw4 q hq).2.1
  clear F4 N4 N19
  replace F5 := fr_same F5 (by (repeat' (first | exact List.forall_mem_nil _ | (refine List.forall_mem_cons.mpr ⟨by with_unfolding_all rfl, ?_⟩))))
  dsimp only
  refine k D3 ps2 ls3 n4 n5 nP2 n3 (ex2 ++ (ex1 ++ K)) _ h5 tk5 F5 (fun q hq => N5 q ?_) (fun q hq p hp => ?_) (fun q h => List.mem_append.mpr (.inr (List.mem_append.mpr (.inr h)))) kw4 eM eT eP dps2' dls3'
  · rcases List.mem_cons.mp hq with rfl | hq
    · exact .tail _ (.head _)
    rcases List.mem_cons.mp hq with rfl | hq
    · exact .head _
    · exact .tail _ (.tail _ hq)
  · rcases List.mem_append.mp hp with hp | hp
    · exact (hex2 p hp).2.2 q (.tail _ (.tail _ (List.mem_append.mpr (.inr hq))))
    rcases List.mem_append.mp hp with hp | hp
    · exact (hex1 p hp).2 q (up q (inW hq))
    · exact kW q hq p hp
end TGrK
section TGrL
open PySem PySem.W PySem.Calls PyProof.Rows PyProof.V PySem.Spec
set_option maxRecDepth 100000
set_option maxHeartbeats 1500000
/-- the four lists of _law_grown -/
structure St where
  made : List (List Nat)
  tabs : List (List Row)
  pairs : List Row
  line : List LE
noncomputable def baseC (S : St) (n : Nat) : List Nat := S.made.getD (baseOf n S.made.length) []
noncomputable def codesN (S : St) (n : Nat) : List Nat := baseC S n ++ [n % 100 % 13]
noncomputable def dueS (S : St) (n : Nat) : Dat × List Nat × List Row := dueP S.pairs (toldP S.line (baseC S n)) (kindOf n) (nmX (nameAt n)) (textOf S.made.length (kindOf n) (wdX (wordAtX n))) (wdX (wordAtX n))
noncomputable def callS (S : St) (n : Nat) : Dat × List Row := callP (S.tabs.getD (baseOf n S.made.length) []) (kindOf n) (nameAt n) S.made.length (wordAtX n)
noncomputable def lineS (S : St) (n : Nat) : List LE := S.line ++ goneL (codesN S n) (dueS S n).2.1 ++ laidL (codesN S n) S.pairs.length (dueS S n).2.2.length
/-- one draw -/
noncomputable def stepS (S : St) (n : Nat) : St :=
  if codesN S n ∈ S.made then S else ⟨S.made ++ [codesN S n], S.tabs ++ [(callS S n).2], S.pairs ++ (dueS S n).2.2, sortE (lineS S n)⟩
/-- what the walk of one draw asks -/
structure StepOk (S : St) (n : Nat) : Prop where
  len : 1 ≤ S.made.length ∧ S.made.length ≤ 20
  tlen : S.tabs.length = S.made.length
  small : ∀ m ∈ S.made, ∀ c ∈ m, c < 13
  short : ∀ m ∈ S.made, m.length ≤ 20
  clean : ∀ t ∈ S.tabs, (∀ r ∈ t, Clean r) ∧ t.length ≤ 100
  pair : ∀ r ∈ S.pairs, r.1.cps.size ≤ 10 ∧ r.2.cps.size ≤ 100
  plen : S.pairs.length ≤ 100
  lcodes : ∀ e ∈ S.line, ∀ c ∈ e.1, c < 14
  llen : S.line.length ≤ 1000
  told : codesN S n ∉ S.made → (∀ q ∈ toldP S.line (baseC S n), q < S.pairs.length) ∧ (toldP S.line (baseC S n)).length ≤ 1000 ∧ (dueS S n).1 = (callS S n).1 ∧ (dueS S n).2.1.length ≤ 1000 ∧ (dueS S n).2.2.length ≤ 100 ∧ 2 ≤ (lineS S n).length ∧ (lineS S n).length < 64
noncomputable def TabsIn (w : World) (W : List (Addr × Obj)) (ts : List Value) (tabs : List (List Row)) : Prop := ts.length = tabs.length ∧ ∀ (i : Nat) (v : Value) (rows : List Row), ts[i]? = some v → tabs[i]? = some rows → TabIn w W v rows
theorem TabIn.mono {w : World} {R R' : List (Addr × Obj)} {v : Value} {rows : List Row} (h : TabIn w R v rows) (s : ∀ q ∈ R, q ∈ R') : TabIn w R' v rows := by
  obtain ⟨x, dx, l, k, vs, n, rfl, a, b, c, d⟩ := h
  exact ⟨x, dx, l, k, vs, n, rfl, s _ a, s _ b, s _ c, d.mono s⟩
theorem TabsIn.refs {w : World} {W : List (Addr × Obj)} {ts : List Value} {tabs : List (List Row)} (h : TabsIn w W ts tabs) : ∀ v ∈ ts, ∃ a, v = Value.ref a := fun v hv => by
  obtain ⟨i, hi, rfl⟩ := List.mem_iff_getElem.mp hv
  obtain ⟨x, dx, l, k, vs, n, e, _⟩ := h.2 i ts[i] (tabs[i]'(h.1 ▸ hi)) (List.getElem?_eq_getElem hi) (List.getElem?_eq_getElem (h.1 ▸ hi))
  exact ⟨x, e⟩
structure HeapS (w : World) (S : St) (M TB P LN : Nat) (ms ts ps ls : List Value) (W : List (Addr × Obj)) : Prop where
  hms : DatAll W ms (S.made.map codesD)
  hts : TabsIn w W ts S.tabs
  hps : DatAll W ps (S.pairs.map pairD)
  hls : DatAll W ls (S.line.map entryD)
  off : ∀ q ∈ W, q.1 ≠ M ∧ q.1 ≠ TB ∧ q.1 ≠ P ∧ q.1 ≠ LN
  d1 : M ≠ TB
  d2 : M ≠ P
  d3 : M ≠ LN
  d4 : TB ≠ P
  d5 : TB ≠ LN
  d6 : P ≠ LN
noncomputable abbrev spine (M TB P LN nM nT nP nL : Nat) (ms ts ps ls : List Value) (W : List (Addr × Obj)) : List (Addr × Obj) := (M, listOf ms.toArray nM) :: (TB, listOf ts.toArray nT) :: (P, listOf ps.toArray nP) :: (LN, listOf ls.toArray nL) :: W
noncomputable def EnvS (m : PySem.Str → Option Value) (M TB P LN : Nat) : Prop := m "made" = some (.ref M) ∧ m "tables" = some (.ref TB) ∧ m "pairs" = some (.ref P) ∧ m "line" = some (.ref LN)
section
variable {prog : Program} {w : World} {A : Around} {E : Value → Shared → Prop} {s : Shared} {env : Env} {target : Expr} {body : List Stmt} {Q : Flow → Shared → Prop}
end
variable {w : World} {p : Program} {loose : List PySem.Str} {mean : ExcName → Option Value} {mg mb : PySem.Str → Option Value} {dp un : Nat} {gd : Option (List Code)} {outer : List Env} {base g : Heap} {L : Addr} {h₁ : Heap} {s : Shared} {tk : Nat} {Q : Flow → Shared → Prop} {E : Value → Shared → Prop} {cdv : Value}
theorem turn {S : St} {W0 : List (Addr × Obj)} {I : Addr} {oI : Obj} {n M TB P LN nM nT nP nL : Nat} {t : Tok} {ms ts ps ls : List Value} {u : PySem.Str → Option Value} 
    (B : Below (aro dp un gd outer) base outer g) (F : Fr g L h₁ (fixM (E0 n t M TB P LN) u)) (XB : (KK w.params).In base) (TT : Top p loose mean mg mb base) (D : KtsDicts (frs outer) g) (N : News g L h₁ (spine M TB P LN nM nT nP nL ms ts ps ls ((I, oI) :: W0))) (hI : oI.cls = .type "list_iterator") (hIn : I ≠ M ∧ I ≠ TB ∧ I ≠ P ∧ I ≠ LN) (H : HeapS w S M TB P LN ms ts ps ls W0) (ok : StepOk S n)
    (hd : dp + 40 < recursionLimit) (hu : un + 400 < cLine) (hE : PassesOwn (model PR w) (ktrTop (dp + 1) (un + 3) gd "_law_grown" sc18 L 239 cdv [] outer) (envX "_law_grown" sc18 L 239 cdv []) E)
    (k1 : codesN S n ∈ S.made → ∀ m' h' tk', Fr g L h' m' → EnvS m' M TB P LN → News g L h' (spine M TB P LN nM nT nP nL ms ts ps ls ((I, oI) :: W0)) → Q .cont { s with heap := h', toks := tk' })
    (k2 : codesN S n ∉ S.made → ∀ (LN' nM' nT' nP' nL' : Nat) ms' ts' ps' ls' K' m' g' h' tk', KtsTurn (frs outer) g g' → Below (aro dp un gd outer) base outer g' → KtsDicts (frs outer) g' → Fr g' L h' m' → EnvS m' M TB P LN' →
      News g' L h' (spine M TB P LN' nM' nT' nP' nL' ms' ts' ps' ls' (K' ++ (I, oI) :: W0)) → (∀ q ∈ (I, oI) :: W0, ∀ p ∈ K', q.1 ≠ p.1) → (I ≠ M ∧ I ≠ TB ∧ I ≠ P ∧ I ≠ LN') → HeapS w (stepS S n) M TB P LN' ms' ts' ps' ls' (K' ++ W0) → Q .next { s with heap := h', toks := tk' }) :
    wpC (model PR w) (ktrTop (dp + 1) (un + 3) gd "_law_grown" sc18 L 239 cdv [] outer) (execs gbL (envX "_law_grown" sc18 L 239 cdv [])) Q E { s with heap := h₁, toks := tk } := by
  have hup : ∀ q ∈ W0, q ∈ spine M TB P LN nM nT nP nL ms ts ps ls ((I, oI) :: W0) := fun q h => .tail _ (.tail _ (.tail _ (.tail _ (.tail _ h))))
  have jI : Junk oI := .inr ⟨by rw [hI]; decide, by rw [hI]; decide⟩
  have offW : ∀ q ∈ (I, oI) :: W0, q.1 ≠ M ∧ q.1 ≠ TB ∧ q.1 ≠ P ∧ q.1 ≠ LN := fun q hq => by
    rcases List.mem_cons.mp hq with rfl | hq
    · exact hIn
    · exact H.off q hq
  have hml : ms.length = S.made.length := by rw [H.hms.length, List.length_map]
  have hb : baseOf n S.made.length < S.made.length := baseOf_lt ok.len.1
  have hbt : baseOf n S.made.length < ts.length := by rw [H.hts.1, ok.tlen]; exact hb
  have hbm : baseC S n ∈ S.made := by unfold baseC; rw [List.getD_eq_getElem?_getD, List.getElem?_eq_getElem hb]; exact List.getElem_mem hb
  have hbr : S.tabs.getD (baseOf n S.made.length) [] ∈ S.tabs := by rw [List.getD_eq_getElem?_getD, List.getElem?_eq_getElem (ok.tlen ▸ hb)]; exact List.getElem_mem _
  have rM := refs_codes H.hms
  have rT := H.hts.refs
  have rP := refs_pairs H.hps
  have rL := refs_line H.hls
  have hcc : ∀ c ∈ codesN S n, c < 14 := fun c h => by
    rcases List.mem_append.mp h with h | h
    · exact Nat.lt_of_lt_of_le (ok.small _ hbm c h) (by decide)
    · rw [List.mem_singleton.mp h]; exact Nat.lt_of_lt_of_le (Nat.mod_lt _ (by decide)) (by decide)
  refine turnA (rest := [gb 8, gb 9, gb 10, gb 11, gb 12, gb 13, gb 14, gb 15, gb 16, gb 17, gb 18, gb 19]) (made := S.made) B F XB TT D N (.head _) (H.hms.mono hup) ok.len ok.small ok.short hd hu (fun hin m' h' tk' F' hm' N' => ?_) fun hnin C O Cl Pl cs tb tm gA KA hA tkA TA BA DA FA NA offA mC dcs dO dCl dPl => ?_
  · exact k1 hin m' h' tk' F' ⟨hm' _ (.head _), hm' _ (.tail _ (.head _)), hm' _ (.tail _ (.tail _ (.head _))), hm' _ (.tail _ (.tail _ (.tail _ (.head _))))⟩ N'
  have okn := ok.told hnin
  refine turnB (rest := [gb 15, gb 16, gb 17, gb 18, gb 19]) (R0 := W0) (rows := S.tabs.getD (baseOf n S.made.length) []) (pairs := S.pairs) (line := S.line) (pc := baseC S n) BA FA XB TT DA NA offA (.head _) (by rw [hml]; have := ok.len.2; omega) (.tail _ (.head _)) (by rw [H.hts.1, ok.tlen]; exact ok.len.2) (List.getElem?_eq_getElem hbt)
    (H.hts.2 _ _ _ (List.getElem?_eq_getElem hbt) (by rw [List.getD_eq_getElem?_getD, List.getElem?_eq_getElem (ok.tlen ▸ hb)]; rfl)) hup (ok.clean _ hbr).1 (ok.clean _ hbr).2 (.tail _ (.tail _ (.head _))) (H.hps.mono hup) (Nat.le_trans ok.plen (by decide)) ok.pair (.tail _ (.tail _ (.tail _ (.head _)))) (H.hls.mono hup) ok.lcodes ok.llen
    (fun c h => Nat.lt_of_lt_of_le (ok.small _ hbm c h) (by decide)) dPl okn.1 okn.2.1 (by rw [hml]; exact okn.2.2.1) hd hu ?_
  intro x dx l n' kk vs' G Dl nG nD gs lv dv t0 t1 t2 t3 gB KB hB tkB TB' BB DB FB NB offB subB m1 m2 m3 dvs' mG mD dgs dlv
  rw [hml] at dvs' dgs dlv FB
  have exB : ∀ {K : List (Addr × Obj)}, Excl (K ++ spine M TB P LN nM nT nP nL ms ts ps ls ((I, oI) :: W0)) (K ++ W0) := fun q hq => by
    rcases List.mem_append.mp hq with hq | hq
    · exact .inl (List.mem_append.mpr (.inl hq))
    rcases List.mem_cons.mp hq with rfl | hq
    · exact .inr (refs_list rM)
    rcases List.mem_cons.mp hq with rfl | hq
    · exact .inr (refs_list rT)
    rcases List.mem_cons.mp hq with rfl | hq
    · exact .inr (refs_list rP)
    rcases List.mem_cons.mp hq with rfl | hq
    · exact .inr (refs_list rL)
    rcases List.mem_cons.mp hq with rfl | hq
    · exact .inr jI
    · exact .inl (List.mem_append.mpr (.inr hq))
  have dI : ∀ {K : List (Addr × Obj)}, Excl (K ++ (I, oI) :: W0) (K ++ W0) := fun q hq => by
    rcases List.mem_append.mp hq with hq | hq
    · exact .inl (List.mem_append.mpr (.inl hq))
    rcases List.mem_cons.mp hq with rfl | hq
    · exact .inr jI
    · exact .inl (List.mem_append.mpr (.inr hq))
  have iW : ∀ {K : List (Addr × Obj)}, ∀ q ∈ K ++ W0, q ∈ K ++ (I, oI) :: W0 := fun q hq => (List.mem_append.mp hq).elim (fun h => List.mem_append.mpr (.inl h)) fun h => List.mem_append.mpr (.inr (.tail _ h))
  have kAB : ∀ q ∈ KA ++ W0, q ∈ KB ++ (I, oI) :: W0 := fun q hq => (List.mem_append.mp hq).elim (fun h => List.mem_append.mpr (.inl (subB q h))) fun h => List.mem_append.mpr (.inr (.tail _ h))
  refine turnC (rest := []) (codes := codesN S n) (gone := (dueS S n).2.1) (laid := (dueS S n).2.2) (pairs := S.pairs) (line := S.line) FB (XB.keeps BB.stays) (TT.keeps BB.stays) NB offB offW H.d1 H.d2 H.d3 H.d4 H.d5 H.d6 rM rT (by rw [hml]; have := ok.len.2; omega) (by rw [H.hts.1, ok.tlen]; have := ok.len.2; omega) (H.hps.mono fun q h => .tail _ h) (H.hls.mono fun q h => .tail _ h) ok.lcodes hcc mG mD dgs ((excl_all (fun v e => excl_pair exB) dlv).mono iW)
    ((excl_row exB dO).mono kAB) ((excl_row exB dCl).mono kAB) ok.llen okn.2.2.2.1 okn.2.2.2.2.1 ok.plen okn.2.2.2.2.2.1 okn.2.2.2.2.2.2 hd hu hE ?_
  intro D3 ps3 ls3 nM3 nT3 nP3 nL3 K3 m3' h3 tk3 F3 N3 off3 sub3 kw3 eM eT eP dps3 dls3
  refine wpC_any (wpAny_execs_nil ?_)
  have up3 : ∀ q ∈ W0, q ∈ K3 ++ W0 := fun q h => List.mem_append.mpr (.inr h)
  refine k2 hnin D3 nM3 nT3 nP3 nL3 _ _ ps3 ls3 K3 _ gB h3 tk3 (TA.trans TB') BB DB F3 ⟨rfl, rfl, rfl, rfl⟩ N3 off3 (kw3 _ (List.mem_append.mpr (.inr (.head _)))) ?_
  have est : stepS S n = ⟨S.made ++ [codesN S n], S.tabs ++ [(callS S n).2], S.pairs ++ (dueS S n).2.2, sortE (lineS S n)⟩ := if_neg hnin
  rw [est]
  refine ⟨?_, ?_, excl_all (fun v e => excl_pair dI) dps3, excl_all (fun v e => excl_entry dI) dls3, fun q hq => kw3 q (iW q hq), H.d1, H.d2, eM, H.d4, eT, eP⟩
  · rw [List.map_append]
    exact (H.hms.mono up3).append (.cons (.list (List.mem_append.mpr (.inl (sub3 _ (subB _ mC)))) (dcs.mono fun _ h => absurd h List.not_mem_nil)) .nil)
  · refine ⟨by simp [H.hts.1], fun i v rows hv hr => ?_⟩
    by_cases hi : i < ts.length
    · rw [List.getElem?_append_left hi] at hv
      rw [List.getElem?_append_left (H.hts.1 ▸ hi)] at hr
      exact (H.hts.2 i v rows hv hr).mono up3
    · have hi' : i = ts.length := by
        have := (List.getElem?_eq_some_iff.mp hv).1
        rw [List.length_append] at this
        simp at this
        omega
      subst hi'
      have e1 : Value.ref x = v := by simpa using hv
      have e2 : (callS S n).2 = rows := by
        rw [H.hts.1] at hr
        simpa using hr
      rw [← e1, ← e2]
      have kB3 : ∀ q ∈ KB ++ W0, q ∈ K3 ++ W0 := fun q hq => (List.mem_append.mp hq).elim (fun h => List.mem_append.mpr (.inl (sub3 q h))) fun h => List.mem_append.mpr (.inr h)
      exact ⟨x, dx, l, kk, vs', n', rfl, List.mem_append.mpr (.inl (sub3 _ m1)), List.mem_append.mpr (.inl (sub3 _ m2)), List.mem_append.mpr (.inl (sub3 _ m3)), (excl_all (fun v e => excl_pair exB) dvs').mono kB3⟩
end TGrL
section TGrM
open PySem PySem.W PySem.Calls PyProof.Rows PyProof.V PySem.Spec
set_option maxRecDepth 100000
set_option maxHeartbeats 1500000
set_option pp.maxSteps 12000
/-- as GivesC; what is new lies elsewhere than what stood -/
noncomputable def GivesM (w : World) (f : Addr) (dd uu : Nat) (vs : List Value) (news : List (Addr × Obj)) (Out : List (Addr × Obj) → Value → Prop) : Prop :=
  ∀ (p : Program) (loose : List PySem.Str) (mean : ExcName → Option Value) (mg mb : PySem.Str → Option Value)
    (dp un : Nat) (gd : Option (List Code)) (cn : PySem.Str) (cs : Scope) (a : Addr) (ccd : Value) (cl : List (PySem.Str × Addr)) (outer : List Env) (A₀ : Around) (base h₀ : Heap) (L : Addr) (m : PySem.Str → Option Value) (s : Shared) (Q E : Value → Shared → Prop),
    Below A₀ base outer h₀ → Fr h₀ L s.heap m → (KK w.params).In base → News h₀ L s.heap news → Top p loose mean mg mb base → KtsDicts (frs outer) h₀ → cs.kind = .function → dp + dd < recursionLimit → un + uu < cLine →
    (∀ r tl g' h' tk', KtsTurn (frs outer) h₀ g' → Below A₀ base outer g' → KtsDicts (frs outer) g' → Fr g' L h' m → News g' L h' (tl ++ news) → (∀ q ∈ news, ∀ p ∈ tl, q.1 ≠ p.1) → Out tl r → Q r { s with heap := h', toks := tk' }) →
    wpC (model PR w) (ktrTop dp un gd cn cs L a ccd cl outer) (call (.ref f) vs) Q E s
noncomputable def RetM (outer : List Env) (g : Heap) (L : Addr) (news : List (Addr × Obj)) (Out : List (Addr × Obj) → Value → Prop) (s : Shared) (v : Value) (s' : Shared) : Prop :=
  ∃ g' m' tl h' tk', s' = { s with heap := h', toks := tk' } ∧ KtsTurn (frs outer) g g' ∧ Fr g' L h' m' ∧ News g' L h' (tl ++ news) ∧ (∀ q ∈ news, ∀ p ∈ tl, q.1 ≠ p.1) ∧ Out tl v
theorem RetM.intro {outer : List Env} {g g' : Heap} {L : Addr} {news : List (Addr × Obj)} {Out : List (Addr × Obj) → Value → Prop} {s : Shared} {v : Value} {m' : PySem.Str → Option Value} {h' : Heap} {tk' : Nat} (tl : List (Addr × Obj)) (T : KtsTurn (frs outer) g g') (F : Fr g' L h' m') (N : News g' L h' (tl ++ news))
    (o : ∀ q ∈ news, ∀ p ∈ tl, q.1 ≠ p.1) (h : Out tl v) : RetM outer g L news Out s v { s with heap := h', toks := tk' } := ⟨g', m', tl, h', tk', rfl, T, F, N, o, h⟩
noncomputable def BodyM (w : World) (f : Addr) (qual : PySem.Str) (scope : Scope) (cdv : Value) (body : List Stmt) (dd uu : Nat) (binds : List (PySem.Str × Value)) (news : List (Addr × Obj)) (Out : List (Addr × Obj) → Value → Prop) : Prop :=
  ∀ (p : Program) (loose : List PySem.Str) (mean : ExcName → Option Value) (mg mb : PySem.Str → Option Value) (dp un : Nat) (gd : Option (List Code)) (outer : List Env) (base g : Heap) (L : Addr) (h₁ : Heap) (s : Shared) (tk : Nat),
    Below (aro dp un gd outer) base outer g → Fr g L h₁ (fun y => binds.reverse.lookup y) → (KK w.params).In base → News g L h₁ news → Top p loose mean mg mb base → KtsDicts (frs outer) g → (∀ q ∈ news, q.1 < L) → dp + 1 + dd < recursionLimit → un + 3 + uu < cLine →
    wpC (model PR w) (ktrTop (dp + 1) (un + 3) gd qual scope L f cdv [] outer) (execs body (envX qual scope L f cdv [])) (fun fl s' => RetM outer g L news Out s (match fl with | .ret v => v | _ => .none) s') (fun _ _ => False) { s with heap := h₁, toks := tk }
theorem gives_turnM {w : World} {f : Addr} {name qual : PySem.Str} {params : Arguments} {body : List Stmt} {scope : Scope} {dV kV doc pm cdv ct oc : Value} {an od : Option Addr} {osl : Array (Option Value)} {dd uu : Nat} {vs : List Value} {news : List (Addr × Obj)} {Out : List (Addr × Obj) → Value → Prop}
    (binds : List (PySem.Str × Value)) (ho : ∀ P, (KK P).lookup f = some ⟨oc, od, .func (fnOf name qual params body scope dV kV doc pm an cdv ct), osl⟩) (hcd : ∀ P, codeIn (KK P) cdv qual = true)
    (hbind : ∀ (s : Shared), (KK w.params).In s.heap → BindsTo s (fnOf name qual params body scope dV kV doc pm an cdv ct) ⟨vs, []⟩ binds) (hloc : (binds.all fun x => decide (scope.names.lookup x.1 = some .local)) = true)
    (hco : scope.isCoroutine = false) (hgen : scope.isGenerator = false) (hk : scope.kind = .function) (hcell : (scope.names.all fun x => decide (x.2 ≠ .cell)) = true)
    (h : BodyM w f qual scope cdv body dd uu binds news Out) : GivesM w f (dd + 1) (uu + 3) vs news Out := by
  unfold GivesM
  intro p loose mean mg mb dp un gd cn cs a ccd cl outer A₀ base h₀ L m s Q E B F XB N TB D hkc hd hu ret
  have X₀ : (KK w.params).In h₀ := XB.keeps B.stays
  have T₀ := TB.keeps B.stays
  have hke : (envX cn cs L a ccd cl).scope.kind = .function := hkc
  obtain ⟨FG, BG, st, _⟩ := groundX (R := fun _ _ => True) (A := ktrTop dp un gd cn cs L a ccd cl outer) (env := envX cn cs L a ccd cl) B F N rfl rfl hke
  obtain ⟨oL, es, ep, hL, hLd, hLk, hLf⟩ := FG.ns
  refine wpC_call (codeC_call_def (fd := fnOf name qual params body scope dV kV doc pm an cdv ct) (body := body) (binds := binds) (by show dp < recursionLimit; omega) ((X₀.keeps F.keep) _ _ (ho _)) rfl (T₀.nolimit.keeps F.keep) (codeRec_of (X₀.keeps F.keep) (hcd _)) rfl
    (hbind s (X₀.keeps F.keep)) (fun x hx => of_decide_eq_true (List.all_eq_true.mp hcell x hx)) (locs hloc) (fun h₁ hns hk₁ => ?_) hco hgen hk)
  have DG : KtsDicts (frs (envX cn cs L a ccd cl :: outer)) (hideAll s.heap (news.map (·.1))) := fun b hb => by
    rcases mem_frs (env := envX cn cs L a ccd cl) rfl hb with rfl | hb
    · exact ⟨oL, es, ep, hL, hLd⟩
    · obtain ⟨o, es', n', ho', hd'⟩ := D b hb
      exact ⟨o, es', n', st b o ho', hd'⟩
  refine wpC_mono (h p loose mean mg mb dp un gd (envX cn cs L a ccd cl :: outer) base _ s.heap.objs.size h₁ s _ ⟨rfl, BG.stays, BG.frames⟩ ⟨hns, fun b o e => hk₁ b o (of_hideAll _ e), Nat.le_of_eq (hideAll_size _ _)⟩ XB
    (fun p hp => ⟨hk₁ _ _ (N p hp).1, Nat.ne_of_lt (Heap.lt_size (N p hp).1), hideAll_none _ (List.mem_map_of_mem hp)⟩) TB DG (fun p hp => Heap.lt_size (N p hp).1) (by omega) (by omega)) (fun fl s' hr => ?_) fun _ _ x => x.elim
  obtain ⟨g', m', tl, h', tk', rfl, T', F', N', ord, out⟩ := hr
  have nL₀ : h₀.get? L = none := kts_self F
  obtain ⟨sl, hs⟩ := T'.up hL
  obtain ⟨T₁, S₁⟩ := kts_turn_at (h := h') (fs := frs outer) (g := h₀)
    (fun b hb => by
      obtain ⟨_, o, ho', _⟩ := B.frames.mem hb
      exact ⟨o, ho'⟩)
    (fun b o e nmem => F'.keep b o (T'.other b o (st b o e) (fun q => by
      rcases mem_frs (env := envX cn cs L a ccd cl) rfl q with z | z
      · rw [z, nL₀] at e
        cases e
      · exact nmem z)))
    (fun b o e hm => by
      obtain ⟨sl', hs'⟩ := T'.up (st b o e)
      exact ⟨sl', F'.keep _ _ hs'⟩)
  have B₃ : Below A₀ base outer (ktsHeap h' (frs outer) h₀) := ⟨B.stack, fun b o e => T₁.other b o (B.stays b o e) (fun hm => by
    rw [(B.frames.mem hm).1] at e
    cases e), B.frames.of_keeps fun b o e _ => by
    obtain ⟨sl', hs'⟩ := T₁.up e
    exact ⟨_, hs', rfl⟩⟩
  refine ret _ tl _ h' tk' T₁ B₃ (D.turn T₁) ⟨⟨_, es, ep, F'.keep _ _ hs, hLd, hLk, hLf⟩, S₁, by rw [T₁.size]; exact F.above⟩ (fun p hp => ⟨(N' p hp).1, fun q => ?_, ?_⟩) ord out
  · have := (N' p hp).2.2; rw [q, hs] at this; cases this
  · refine T₁.none_ _ ?_
    cases q : h₀.get? p.1 with
    | none => rfl
    | some o =>
      obtain ⟨sl', hs'⟩ := T'.up (st _ _ q)
      have := (N' p hp).2.2
      rw [hs'] at this
      cases this
noncomputable def S0 : St := ⟨[[]], [[]], [], []⟩
noncomputable def stAt (draws : List Nat) (i : Nat) : St := (draws.take i).foldl stepS S0
theorem stAt_succ {draws : List Nat} {i n : Nat} (h : draws[i]? = some n) : stAt draws (i + 1) = stepS (stAt draws i) n := by
  unfold stAt
  rw [take_snoc h, List.foldl_append]
  rfl
/-- what _law_grown gives back -/
noncomputable def GrownOut (w : World) (S : St) (tl : List (Addr × Obj)) (news : List (Addr × Obj)) (r : Value) : Prop :=
  ∃ (T4 M TB P LN : Nat) (ms ts ps ls : List Value) (n4 nM nT nP nL : Nat) (R : List (Addr × Obj)), r = .ref T4 ∧ tl = (T4, ({ cls := .type "tuple", data := .seq #[.ref M, .ref TB, .ref P, .ref LN] n4 } : Obj)) :: spine M TB P LN nM nT nP nL ms ts ps ls R ∧ HeapS w S M TB P LN ms ts ps ls (R ++ news)
theorem perm5 {α : Type} (i a b c d : α) (l : List α) : (i :: a :: b :: c :: d :: l).Perm (a :: b :: c :: d :: i :: l) :=
  (List.Perm.swap a i _).trans (List.Perm.cons _ ((List.Perm.swap b i _).trans (List.Perm.cons _ ((List.Perm.swap c i _).trans (List.Perm.cons _ (List.Perm.swap d i _))))))


structure GrAt (w : World) (dp un : Nat) (gd : Option (List Code)) (outer : List Env) (base g : Heap) (news : List (Addr × Obj)) (draws : List Nat) (i : Nat) (g' : Heap) (m : PySem.Str → Option Value) (nx : List (Addr × Obj)) (M TB P LN nM nT nP nL : Nat) (ms ts ps ls : List Value) (R : List (Addr × Obj)) : Prop where
  f0 : KtsTurn (frs outer) g g'
  f1 : Below (aro dp un gd outer) base outer g'
  f2 : KtsDicts (frs outer) g'
  f3 : EnvS m M TB P LN
  f4 : nx = spine M TB P LN nM nT nP nL ms ts ps ls (R ++ news)
  f5 : (∀ q ∈ news, ∀ y ∈ R, q.1 ≠ y.1)
  f6 : HeapS w (stAt draws i) M TB P LN ms ts ps ls (R ++ news)
noncomputable abbrev GrJ (w : World) (dp un : Nat) (gd : Option (List Code)) (outer : List Env) (base g : Heap) (news : List (Addr × Obj)) (draws : List Nat) (i : Nat) (g' : Heap) (m : PySem.Str → Option Value) (nx : List (Addr × Obj)) : Prop := ∃ (M TB P LN nM nT nP nL : Nat) (ms ts ps ls : List Value) (R : List (Addr × Obj)), GrAt w dp un gd outer base g news draws i g' m nx M TB P LN nM nT nP nL ms ts ps ls R
theorem grown_ok (w : World) (news : List (Addr × Obj)) (d : Addr) (draws : List Nat) (hdr : DatIn news (.ref d) (.list (draws.map fun n : Nat => .int n))) (hl : draws.length ≤ 100) (ok : ∀ i n, draws[i]? = some n → StepOk (stAt draws i) n) :
    GivesM w 239 45 450 [.ref d] news (fun tl r => GrownOut w (stAt draws draws.length) tl news r) := by
  refine' gives_turnM (dd := 44) (uu := 447) [("draws", .ref d)] ?ho ?hcd ?hbind ?hloc ?hco ?hgen ?hk ?hcell ?_
  walk_at "enter"
  intro p loose mean mg mb dp un gd outer base g L h₁ s tk B F XB N TT D lt hd hu
  simp only [List.reverse_cons, List.reverse_nil, List.nil_append] at F
  have X : (KK w.params).In g := XB.keeps B.stays
  have T := TT.keeps B.stays
  have ln : AllLt L news := allLt_of lt
  obtain ⟨dv, dn, hdm, hdd⟩ := dat_list_inv hdr
  refine opaqueC ?_
  intro QQ hQ AA ee
  refine wpC_execs_cons (wpC_any ?_)
  (repeat' ((fail_if_success (with_reducible first | refine sCal ?_)); walk_at "w2"))
  rename_i r0 hx o2 M hy o1 h1 F1 N1

  refine wpC_execs_cons (wpC_any ?_)
  (repeat' ((fail_if_success (with_reducible first | refine sCal ?_)); walk_at "w2"))
  have a1 : AllLt r0 news := allLt_of o2
  refine' call_cls F1 X N1 ?mk ?fi ?ff fun x dx h3 F3 N3 lt3 ltx => ?_
  case mk => k_is
  case fi => k_is
  case ff => k_is
  clear F1 N1
  refine init0_ok w x dx _ ltx (allLt_of lt3) p loose mean mg mb _ _ gd _ outer _ base g L _ _ _ B F3 X N3 T rfl rfl (by first | (show dp + 1 + 18 < recursionLimit; omega) | (show dp + 1 + 1 + 18 < recursionLimit; omega) | (show dp + 1 + 2 + 18 < recursionLimit; omega)) (by first | (show un + 3 + 180 < cLine; omega) | (show un + 3 + 1 + 180 < cLine; omega) | (show un + 3 + 2 + 180 < cLine; omega) | (show un + 3 + 3 + 180 < cLine; omega)) fun r all h4 tk4 F4 N4 ho => ?_
  obtain ⟨rfl, l0, k4, rfl, hxl, hal⟩ := ho
  refine ⟨rfl, ?_⟩
  clear F3 N3
  have hdl0 : dx < l0 := Nat.lt_trans ltx hxl
  have hMd : M < dx := lt3 (M, _) (.head _)
  have hrd : r0 < dx := lt3 (r0, _) (.tail _ (.head _))
  have hnd : ∀ q ∈ news, q.1 < dx := fun q hq => lt3 q (.tail _ (.tail _ hq))
  have ax1 : AllLt x news := allLt_of fun q hq => Nat.lt_trans (hnd q hq) ltx
  have ax2 : AllLt dx news := allLt_of hnd
  have ax3 : AllLt l0 news := allLt_of fun q hq => Nat.lt_trans (hnd q hq) hdl0
  have hMl : M < l0 := Nat.lt_trans hMd hdl0
  dsimp only
  (repeat' ((fail_if_success (with_reducible first | refine sCal ?_)); walk_at "w2"))
  refine wpC_execs_cons (wpC_any ?_)
  (repeat' ((fail_if_success (with_reducible first | refine sCal ?_)); walk_at "w2"))
  refine wpC_execs_cons (wpC_any ?_)
  (repeat' ((fail_if_success (with_reducible first | refine sCal ?_)); walk_at "w2"))
  rename_i TB q1 z7 q2 P q3 z11 q4 LN q5 z15 h5 F5 N5
  obtain ⟨b1, b2, b3, b4, b5, b6⟩ := z7
  obtain ⟨c0, c1, c2, c3, c4, c5, c6⟩ := z11
  obtain ⟨e00, e0, e1, e2, e3, e4, e5, e6⟩ := z15
  have b6 := ktn_ltOf b6
  have c6 := ktn_ltOf c6
  have e6 := ktn_ltOf e6
  have N6 : News g L h5 (spine M TB P LN 0 0 0 0 [Value.ref r0] [Value.ref x] [] [] ([(l0, listOf [].toArray 0), (x, instObj 197 dx), (dx, hdrD w l0 k4), (r0, listOf [].toArray 0)] ++ news)) := fun q hq => N5 q (by
    simp only [List.mem_cons, List.cons_append, List.nil_append] at hq ⊢
    rcases hq with h | h | h | h | h | h | h | h | h
    · exact .inr (.inr (.inr (.inr (.inr (.inr (.inl h))))))
    · exact .inr (.inr (.inl h))
    · exact .inr (.inl h)
    · exact .inl h
    · exact .inr (.inr (.inr (.inl h)))
    · exact .inr (.inr (.inr (.inr (.inl h))))
    · exact .inr (.inr (.inr (.inr (.inr (.inl h)))))
    · exact .inr (.inr (.inr (.inr (.inr (.inr (.inr (.inl h)))))))
    · exact .inr (.inr (.inr (.inr (.inr (.inr (.inr (.inr h))))))))
  have off0 : ∀ q ∈ [(l0, listOf [].toArray 0), (x, instObj 197 dx), (dx, hdrD w l0 k4), (r0, listOf [].toArray 0)] ++ news, q.1 ≠ M ∧ q.1 ≠ TB ∧ q.1 ≠ P ∧ q.1 ≠ LN := by
    intro q hq
    simp only [List.mem_cons, List.cons_append, List.nil_append] at hq
    have o1' := o1.1
    rcases hq with rfl | rfl | rfl | rfl | h
    · exact ⟨Nat.ne_of_gt hMl, Nat.ne_of_lt b1, Nat.ne_of_lt c1, Nat.ne_of_lt e1⟩
    · exact ⟨Nat.ne_of_gt (Nat.lt_trans hMd ltx), Nat.ne_of_lt b2, Nat.ne_of_lt c2, Nat.ne_of_lt e2⟩
    · exact ⟨Nat.ne_of_gt hMd, Nat.ne_of_lt b3, Nat.ne_of_lt c3, Nat.ne_of_lt e3⟩
    · exact ⟨Nat.ne_of_lt o1', Nat.ne_of_lt b5, Nat.ne_of_lt c5, Nat.ne_of_lt e5⟩
    · exact ⟨Nat.ne_of_lt (ktn_ltOf o1.2 q h), Nat.ne_of_lt (b6 q h), Nat.ne_of_lt (c6 q h), Nat.ne_of_lt (e6 q h)⟩
  have H0 : HeapS w S0 M TB P LN [Value.ref r0] [Value.ref x] [] [] ([(l0, listOf [].toArray 0), (x, instObj 197 dx), (dx, hdrD w l0 k4), (r0, listOf [].toArray 0)] ++ news) := by
    refine ⟨.cons (.list (vs := []) (n := 0) (.tail _ (.tail _ (.tail _ (.head _)))) .nil) .nil, ⟨rfl, fun i v rows hv hr => ?_⟩, .nil, .nil, off0, ?_, ?_, ?_, ?_, ?_, ?_⟩
    · cases i with
      | zero =>
        have e1 : Value.ref x = v := by simpa using hv
        have e2 : [] = rows := by simpa [S0] using hr
        rw [← e1, ← e2]
        exact ⟨x, dx, l0, k4, [], 0, rfl, .tail _ (.head _), .tail _ (.tail _ (.head _)), .head _, .nil⟩
      | succ i => simp at hv
    · exact Nat.ne_of_lt b4
    · exact Nat.ne_of_lt c4
    · exact Nat.ne_of_lt e4
    · exact Nat.ne_of_lt c0
    · exact Nat.ne_of_lt e0
    · exact Nat.ne_of_lt e00
  have offn : ∀ q ∈ news, ∀ y ∈ [(l0, listOf [].toArray 0), (x, instObj 197 dx), (dx, hdrD w l0 k4), (r0, listOf [].toArray 0)], q.1 ≠ y.1 := by
    intro q hq y hy
    simp only [List.mem_cons, List.not_mem_nil, or_false] at hy
    rcases hy with rfl | rfl | rfl | rfl
    · exact Nat.ne_of_lt (ktn_ltOf ax3 q hq)
    · exact Nat.ne_of_lt (ktn_ltOf ax1 q hq)
    · exact Nat.ne_of_lt (hnd q hq)
    · exact Nat.ne_of_lt (o2 q hq)
  clear N5 b1 b2 b3 b4 b5 b6 c0 c1 c2 c3 c4 c5 c6 e00 e0 e1 e2 e3 e4 e5 e6 off0 ax1 ax2 ax3 hnd hal
  refine wpC_execs_cons (open_stmtC (rfl : s18_4 = Stmt.For _ _ gbL _ _) (For_turnsC ?_))
  (repeat' ((fail_if_success (with_reducible first | refine sCal ?_)); walk_at "w2"))
  clear h1 hy hx
  refine for_ledI (GrJ w dp un gd outer base g news draws) rfl F5 N6 (.tail _ (.tail _ (.tail _ (.tail _ (List.mem_append.mpr (.inr hdm))))))
      ⟨M, TB, P, LN, 0, 0, 0, 0, _, _, _, _, _, KtsTurn.refl, B, D, ⟨rfl, rfl, rfl, rfl⟩, rfl, offn, H0⟩ ?turn ?done PassesOwn.never
  case done =>
    intro g' m nx h tk' hJ F9 N9
    obtain ⟨M, TB, P, LN, nM, nT, nP, nL, ms, ts, ps, ls, R, T', B', D', he, rfl, offR, HS⟩ := hJ
    rw [hdd.length, List.length_map] at HS
    have X' : (KK w.params).In g' := XB.keeps B'.stays
    have TT' := TT.keeps B'.stays
    have F9' := fr_fix F9 [("made", .ref M), ("tables", .ref TB), ("pairs", .ref P), ("line", .ref LN)] (List.forall_mem_cons.mpr ⟨he.1, List.forall_mem_cons.mpr ⟨he.2.1, List.forall_mem_cons.mpr ⟨he.2.2.1, List.forall_mem_cons.mpr ⟨he.2.2.2, List.forall_mem_nil _⟩⟩⟩⟩)
    clear F9 X T D N6 F5
    dsimp only
    refine wpC_execs_cons (wpC_any ?_)
    (repeat' ((fail_if_success (with_reducible first | refine sCal ?_)); walk_at "w2"))
    (rename Fr _ _ _ _ => FZ); (rename News _ _ _ _ => NZ); (rename _ ∧ _ ∧ _ ∧ _ ∧ AllLt _ _ => lz)
    have az := ktn_ltOf lz.2.2.2.2
    refine hQ _ _ ?_; refine RetM.intro (_ :: spine M TB P LN nM nT nP nL ms ts ps ls R) T' FZ NZ (fun q hq y hy => ?_) ⟨_, M, TB, P, LN, ms, ts, ps, ls, _, nM, nT, nP, nL, R, rfl, rfl, HS⟩
    have hq' := HS.off q (List.mem_append.mpr (.inr hq))
    rcases List.mem_cons.mp hy with rfl | hy
    · exact Nat.ne_of_lt (az q (List.mem_append.mpr (.inr hq)))
    rcases List.mem_cons.mp hy with rfl | hy
    · exact hq'.1
    rcases List.mem_cons.mp hy with rfl | hy
    · exact hq'.2.1
    rcases List.mem_cons.mp hy with rfl | hy
    · exact hq'.2.2.1
    rcases List.mem_cons.mp hy with rfl | hy
    · exact hq'.2.2.2
    · exact offR q hq y hy
  case turn =>
    intro I oI i v g' m nx h tk' hcls hv hJ hax hI hne F9 N9
    refine opaqueTC ?_
    intro RR hR
    obtain ⟨M, TB, P, LN, nM, nT, nP, nL, ms, ts, ps, ls, R, T', B', D', he, rfl, offR, HS⟩ := hJ
    obtain ⟨d9, hd', hvd⟩ := dat_at hdd hv
    obtain ⟨n, hn, rfl⟩ : ∃ n, draws[i]? = some n ∧ d9 = .int (n : Nat) := by
      rw [List.getElem?_map] at hd'
      obtain ⟨c, a, b⟩ := Option.map_eq_some_iff.mp hd'
      exact ⟨c, a, b.symm⟩
    obtain ⟨t, rfl⟩ := int_of_dat hvd
    (repeat' ((fail_if_success (with_reducible first | refine sCal ?_)); walk_at "w2"))
    (rename Fr _ _ _ _ => FA); (rename News _ _ _ _ => NA)
    have okn := ok i n hn
    have NA' : News g' L _ (spine M TB P LN nM nT nP nL ms ts ps ls ((I, oI) :: (R ++ news))) := fun q hq => NA q ((perm5 _ _ _ _ _ _).mem_iff.mpr hq)
    have hIn : I ≠ M ∧ I ≠ TB ∧ I ≠ P ∧ I ≠ LN := ⟨(hne _ (.head _)).symm, (hne _ (.tail _ (.head _))).symm, (hne _ (.tail _ (.tail _ (.head _)))).symm, (hne _ (.tail _ (.tail _ (.tail _ (.head _))))).symm⟩
    refine turn (W0 := R ++ news) B' (fr_fix FA (E0 n t M TB P LN) ?env) XB TT D' NA' hcls hIn HS okn (by omega) (by omega) PassesOwn.never (fun hin m' h' tk'' F' he' N' => ?k1) (fun hnin LN' nM' nT' nP' nL' ms' ts' ps' ls' K' m' g2 h' tk'' T2 B2 D2 F' he' N' offK hIn' HS' => ?k2)
    case env =>
      refine List.forall_mem_cons.mpr ⟨rfl, List.forall_mem_cons.mpr ⟨he.1, List.forall_mem_cons.mpr ⟨he.2.1, List.forall_mem_cons.mpr ⟨he.2.2.1, List.forall_mem_cons.mpr ⟨he.2.2.2, List.forall_mem_nil _⟩⟩⟩⟩⟩
    case k1 =>
      refine hR _ _ ?_; refine unr_endT _ F' (fun q hq => N' q ((perm5 _ _ _ _ _ _).mem_iff.mp hq)) hne ⟨hax, M, TB, P, LN, nM, nT, nP, nL, ms, ts, ps, ls, R, T', B', D', he', rfl, offR, ?_⟩
      rw [stAt_succ hn, show stepS (stAt draws i) n = stAt draws i from if_pos hin]
      exact HS
    case k2 =>
      have re : K' ++ ((I, oI) :: (R ++ news)) = K' ++ (I, oI) :: (R ++ news) := rfl
      refine hR _ _ ?_; refine unr_endT (spine M TB P LN' nM' nT' nP' nL' ms' ts' ps' ls' ((K' ++ R) ++ news)) F' (fun q hq => N' q ?mem) ?off ⟨?hax, M, TB, P, LN', nM', nT', nP', nL', ms', ts', ps', ls', K' ++ R, T'.trans T2, B2, D2, he', rfl, ?offR, ?hs⟩
      case mem =>
        rw [List.append_assoc] at hq
        exact ((perm5 _ _ _ _ _ _).trans (List.Perm.cons _ (List.Perm.cons _ (List.Perm.cons _ (List.Perm.cons _ List.perm_middle.symm))))).mem_iff.mp hq
      case off =>
        intro y hy
        rcases List.mem_cons.mp hy with rfl | hy
        · exact hIn'.1.symm
        rcases List.mem_cons.mp hy with rfl | hy
        · exact hIn'.2.1.symm
        rcases List.mem_cons.mp hy with rfl | hy
        · exact hIn'.2.2.1.symm
        rcases List.mem_cons.mp hy with rfl | hy
        · exact hIn'.2.2.2.symm
        rw [List.append_assoc] at hy
        rcases List.mem_append.mp hy with hy | hy
        · exact (offK _ (.head _) y hy).symm
        · exact hne y (.tail _ (.tail _ (.tail _ (.tail _ hy))))
      case hax => exact .tail _ (.tail _ (.tail _ (.tail _ (List.mem_append.mpr (.inr hdm)))))
      case offR =>
        intro q hq y hy
        rcases List.mem_append.mp hy with hy | hy
        · exact offK q (.tail _ (List.mem_append.mpr (.inr hq))) y hy
        · exact offR q hq y hy
      case hs =>
        rw [stAt_succ hn, List.append_assoc]
        exact HS'
end TGrM
section TPlain4
open PySem PySem.W PySem.Calls PyProof.Rows PyProof.V PySem.Spec
noncomputable def NameOk (nm : PySem.Str) : Prop := ∃ j, j < 4 ∧ nm = nmX j
noncomputable def RowOk (r : Row) : Prop := NameOk r.1 ∧ cleanB false r.2 ∧ r.2.cps.size ≤ 20 ∧ PyData.strOk r.2 = true
noncomputable def pairOf (pairs : List Row) (q : Nat) : Row := pairs.getD q ("", "")
theorem lower_len : ∀ j, j < 4 → ∀ k, k < 4 → (Txt.lower (nmX j) == Txt.lower (nmX k)) = ((nmX j).length == (nmX k).length) := by decide +kernel
theorem nm_bad : ∀ j, j < 5 → (nmX j == ("b\t" : PySem.Str)) = decide (j = 4) := by decide +kernel
theorem wd_bad : ∀ i, i < 5 → (wdX i == ("\n" : PySem.Str)) = decide (i = 3) := by decide +kernel
theorem add_text : ∀ len, len < 21 → ∀ i, i < 5 → i ≠ 3 → textOf len 1 (wdX i) ++ "; by-1" ++ byP (wdX i) = addX len i := by decide +kernel
theorem name_str : ∀ j, j < 5 → PyData.strOk (nmX j) = true := by decide +kernel
theorem value_str : ∀ len, len < 21 → ∀ kd, kd < 4 → ∀ i, i < 5 → PyData.strOk (textOf len kd (wdX i) ++ wdX i) = true := by decide +kernel
theorem add_str : ∀ len, len < 21 → ∀ i, i < 5 → PyData.strOk (addX len i) = true := by decide +kernel
theorem add_size : ∀ len, len < 21 → ∀ i, i < 5 → i ≠ 3 → (addX len i).cps.size ≤ 20 ∧ ∀ q, q < (addX len i).cps.size → badV ((addX len i).cps.getD q 0) = false := by decide +kernel
theorem pairOf_mem {pairs : List Row} {q : Nat} (h : q < pairs.length) : pairOf pairs q ∈ pairs := by
  unfold pairOf
  rw [List.getD_eq_getElem?_getD, List.getElem?_eq_getElem h]
  exact List.getElem_mem h
theorem alike_at {pairs : List Row} {lb : List Nat} {j q : Nat} (hj : j < 4) (hp : ∀ r ∈ pairs, RowOk r) (hq : q < pairs.length) :
    (Txt.lower (pairOf pairs q).1 == Txt.lower (nmX j)) = ((pairOf pairs q).1.length == (nmX j).length) := by
  obtain ⟨⟨k, hk, e⟩, _⟩ := hp _ (pairOf_mem hq)
  rw [e]
  exact lower_len k hk j hj
theorem keep_alike {pairs : List Row} {lb : List Nat} {j : Nat} (hj : j < 4) (hp : ∀ r ∈ pairs, RowOk r) (hq : ∀ q ∈ lb, q < pairs.length) :
    keepR (lb.map (pairOf pairs)) (nmX j) = (lb.filter fun q => q ∉ alikeP pairs lb (nmX j)).map (pairOf pairs) := by
  unfold keepR
  rw [List.filter_map]
  congr 1
  refine List.filter_congr fun q h => ?_
  have e := alike_at (lb := lb) hj hp (hq q h)
  show (!(Txt.lower (pairOf pairs q).1 == Txt.lower (nmX j))) = decide (q ∉ alikeP pairs lb (nmX j))
  rw [e]
  have : (q ∈ alikeP pairs lb (nmX j)) ↔ ((pairOf pairs q).1.length == (nmX j).length) = true := by
    unfold alikeP
    rw [List.mem_filter]
    exact ⟨fun x => x.2, fun x => ⟨h, x⟩⟩
  cases h' : ((pairOf pairs q).1.length == (nmX j).length) with
  | true => rw [show decide (q ∉ alikeP pairs lb (nmX j)) = false from decide_eq_false (fun k => k (this.mpr h'))]; rfl
  | false =>
    rw [show decide (q ∉ alikeP pairs lb (nmX j)) = true from decide_eq_true (fun k => by rw [this.mp k] at h'; cases h')]
    rfl
theorem find_alike {pairs : List Row} {lb : List Nat} {j : Nat} (hj : j < 4) (hp : ∀ r ∈ pairs, RowOk r) (hq : ∀ q ∈ lb, q < pairs.length) :
    findRow (lb.map (pairOf pairs)) (nmX j) = (alikeP pairs lb (nmX j)).head?.map (pairOf pairs) := by
  unfold findRow alikeP
  rw [List.find?_map, List.head?_filter]
  congr 1
  induction lb with
  | nil => rfl
  | cons q lb ih =>
    have e := alike_at (lb := lb) hj hp (hq q (.head _))
    rw [List.find?_cons, List.find?_cons]
    have e' : ((fun r : Row => Txt.lower r.1 == Txt.lower (nmX j)) ∘ pairOf pairs) q = ((pairs.getD q ("", "")).1.length == (nmX j).length) := e
    rw [e', ih fun q h => hq q (.tail _ h)]
theorem filter_none {lb : List Nat} {α : Type} (f : Nat → α) : lb.map f = (lb.filter fun q => q ∉ ([] : List Nat)).map f ++ [] := by
  rw [List.append_nil, List.filter_eq_self.mpr fun a _ => decide_eq_true List.not_mem_nil]
structure DueCall (pairs : List Row) (lb : List Nat) (d : Dat × List Nat × List Row) (c : Dat × List Row) : Prop where
  ans : d.1 = c.1
  rows : c.2 = (lb.filter fun q => q ∉ d.2.1).map (pairOf pairs) ++ d.2.2
  sub : d.2.1.Sublist lb
  laid : d.2.2 = [] ∨ ∃ r, d.2.2 = [r] ∧ RowOk r
theorem due_call {pairs : List Row} {lb : List Nat} {kd j i len : Nat} (hkd : kd < 4) (hj : j < 5) (hi : i < 5) (hlen : len < 21) (hp : ∀ r ∈ pairs, RowOk r) (hq : ∀ q ∈ lb, q < pairs.length) :
    DueCall pairs lb (dueP pairs lb kd (nmX j) (textOf len kd (wdX i)) (wdX i)) (callP (lb.map (pairOf pairs)) kd j len i) := by
  have alt : ∀ nm, (alikeP pairs lb nm).Sublist lb := fun nm => List.filter_sublist
  have same : ∀ d : Dat, DueCall pairs lb (d, [], []) (d, lb.map (pairOf pairs)) := fun d => ⟨rfl, filter_none _, List.nil_sublist _, .inl rfl⟩
  unfold dueP
  rw [nm_bad j hj, wd_bad i hi]
  by_cases h4 : j = 4
  · rw [if_pos (decide_eq_true h4)]
    have : callP (lb.map (pairOf pairs)) kd j len i = (refD, lb.map (pairOf pairs)) := by
      subst h4
      match kd, hkd with
      | 0, _ => rfl
      | 1, _ => exact ite_self _
      | 2, _ => rfl
      | 3, _ => rfl
    rw [this]
    exact same _
  rw [if_neg (by rw [decide_eq_false h4]; exact Bool.false_ne_true)]
  have hj4 : j < 4 := by lia
  have nmk : NameOk (nmX j) := ⟨j, hj4, rfl⟩
  have kp := keep_alike hj4 hp hq
  have fd := find_alike hj4 hp hq
  match kd, hkd with
  | 3, _ =>
    rw [if_pos rfl]
    have : callP (lb.map (pairOf pairs)) 3 j len i = (.none, keepR (lb.map (pairOf pairs)) (nmX j)) := if_neg h4
    rw [this, kp]
    exact ⟨rfl, (List.append_nil _).symm, alt _, .inl rfl⟩
  | 0, _ =>
    rw [if_neg (by decide), if_neg (fun h => absurd h.1 (by decide))]
    by_cases h3 : i = 3
    · rw [if_pos (decide_eq_true h3), if_pos rfl]
      have : callP (lb.map (pairOf pairs)) 0 j len i = (refD, keepR (lb.map (pairOf pairs)) (nmX j)) := (if_neg h4).trans (if_pos h3)
      rw [this, kp]
      exact ⟨rfl, (List.append_nil _).symm, alt _, .inl rfl⟩
    · rw [if_neg (by rw [decide_eq_false h3]; exact Bool.false_ne_true), if_neg (by decide), if_neg (by decide), if_pos rfl]
      have : callP (lb.map (pairOf pairs)) 0 j len i = (.none, keepR (lb.map (pairOf pairs)) (nmX j) ++ [(nmX j, textOf len 0 (wdX i) ++ wdX i)]) := (if_neg h4).trans (if_neg h3)
      rw [this, kp]
      exact ⟨rfl, rfl, alt _, .inr ⟨_, rfl, nmk, value_clean len hlen 0 (by decide) i hi h3, Nat.le_trans (text_size len hlen 0 (by decide) i hi).2.2 (by decide), value_str len hlen 0 (by decide) i hi⟩⟩
  | 1, _ =>
    rw [if_neg (by decide), if_neg (fun h => absurd h.1 (by decide))]
    by_cases h3 : i = 3
    · rw [if_pos (decide_eq_true h3), if_neg (by decide)]
      have : callP (lb.map (pairOf pairs)) 1 j len i = (refD, lb.map (pairOf pairs)) := if_pos h3
      rw [this]
      exact same _
    · rw [if_neg (by rw [decide_eq_false h3]; exact Bool.false_ne_true), if_pos rfl, add_text len hlen i hi h3]
      have : callP (lb.map (pairOf pairs)) 1 j len i = (.none, lb.map (pairOf pairs) ++ [(nmX j, addX len i)]) := (if_neg h3).trans (if_neg h4)
      rw [this]
      refine ⟨rfl, ?_, List.nil_sublist _, .inr ⟨_, rfl, nmk, (add_size len hlen i hi h3).2, (add_size len hlen i hi h3).1, add_str len hlen i hi⟩⟩
      have := filter_none (lb := lb) (pairOf pairs)
      rw [List.append_nil] at this
      show _ = _ ++ [(nmX j, addX len i)]
      rw [← this]
  | 2, _ =>
    rw [if_neg (by decide)]
    have h2 : callP (lb.map (pairOf pairs)) 2 j len i = match findRow (lb.map (pairOf pairs)) (nmX j) with
      | some r => (.str r.2, lb.map (pairOf pairs))
      | none => if i = 3 then (refD, lb.map (pairOf pairs)) else (.str (textOf len 2 (wdX i) ++ wdX i), lb.map (pairOf pairs) ++ [(nmX j, textOf len 2 (wdX i) ++ wdX i)]) := if_neg h4
    rw [h2, fd]
    cases ha : alikeP pairs lb (nmX j) with
    | cons q qs =>
      rw [if_pos ⟨rfl, List.cons_ne_nil _ _⟩]
      exact same _
    | nil =>
      rw [if_neg (fun h => h.2 rfl)]
      show DueCall pairs lb _ (if i = 3 then _ else _)
      by_cases h3 : i = 3
      · rw [if_pos (decide_eq_true h3), if_neg (by decide), if_pos h3]
        exact same _
      · rw [if_neg (by rw [decide_eq_false h3]; exact Bool.false_ne_true), if_neg (by decide), if_pos rfl, if_neg (by decide), if_neg h3]
        refine ⟨rfl, ?_, List.nil_sublist _, .inr ⟨_, rfl, nmk, value_clean len hlen 2 (by decide) i hi h3, Nat.le_trans (text_size len hlen 2 (by decide) i hi).2.2 (by decide), value_str len hlen 2 (by decide) i hi⟩⟩
        have := filter_none (lb := lb) (pairOf pairs)
        rw [List.append_nil] at this
        show _ = _ ++ [_]
        rw [← this]
/-- what holds of the four lists -/
structure Inv (S : St) : Prop where
  tree : TreeOk S.made
  srt : Srt S.line
  stamps : Stamps S.line S.made S.pairs.length
  told : ∃ idx, ToldIs S.line S.made idx ∧ S.tabs = idx.map (fun l => l.map (pairOf S.pairs)) ∧ ∀ l ∈ idx, l.Nodup ∧ ∀ q ∈ l, q < S.pairs.length
  rows : ∀ r ∈ S.pairs, RowOk r
structure Bnd (S : St) (k M N : Nat) : Prop where
  made : S.made.length ≤ k
  deep : ∀ m ∈ S.made, m.length ≤ k
  pairs : S.pairs.length ≤ k
  tabs : ∀ t ∈ S.tabs, t.length ≤ M
  line : S.line.length ≤ N
theorem gone_perm (c : List Nat) : ∀ gs : List Nat, (goneL c gs).Perm ((gs.map fun q => ((c, q, false) : LE)) ++ gs.map fun q => ((c ++ [13], q, true) : LE))
  | [] => .nil
  | q :: gs => by
    have ih := gone_perm c gs
    show ((c, q, false) :: (c ++ [13], q, true) :: goneL c gs).Perm ((c, q, false) :: (_ ++ ((c ++ [13], q, true) :: _)))
    refine .cons _ ((List.Perm.cons _ ih).trans ?_)
    exact List.perm_middle.symm
theorem stamps_perm (c : List Nat) (gs gs' : List Nat) (n : Nat) (rs : List Row) (lk : List Nat) (hg : gs'.Perm gs) (hl : (rs = [] ∧ lk = []) ∨ ((∃ r, rs = [r]) ∧ lk = [n])) :
    (goneL c gs ++ laidL c n rs.length).Perm (openL c gs' lk ++ closeL c gs' lk) := by
  have hp := (gone_perm c gs).trans ((hg.symm.map _).append (hg.symm.map _))
  rcases hl with ⟨rfl, rfl⟩ | ⟨⟨r, rfl⟩, rfl⟩
  · show (goneL c gs ++ []).Perm ((_ ++ []) ++ (_ ++ []))
    rw [List.append_nil, List.append_nil, List.append_nil]
    exact hp
  · show (goneL c gs ++ [(c, n, true), (c ++ [13], n, false)]).Perm ((_ ++ [(c, n, true)]) ++ (_ ++ [(c ++ [13], n, false)]))
    refine (hp.append (List.Perm.refl _)).trans ?_
    rw [List.append_assoc, List.append_assoc]
    refine List.Perm.append_left _ ?_
    exact List.perm_middle
theorem nodup_told {line : List LE} {x : List Nat} {n : Nat} (h : ∀ e ∈ line, e.2.1 < n) : (toldP line x).Nodup ∧ ∀ q ∈ toldP line x, q < n := by
  have key : ∀ (es : List LE) (D : List (Nat × Bool)), (∀ e ∈ es, e.2.1 < n) → ∃ es' : List LE, (∀ e ∈ es', e ∈ es) ∧ toldD es x D = es'.foldl stepE D := by
    intro es
    induction es with
    | nil => exact fun D _ => ⟨[], fun _ h => h, rfl⟩
    | cons e es ih =>
      intro D h
      rw [toldD_cons]
      split
      · exact ⟨[], (fun _ h => nomatch h), rfl⟩
      · obtain ⟨es', h1, h2⟩ := ih (toldStep D e.2.1 e.2.2) fun e he => h e (.tail _ he)
        exact ⟨e :: es', fun e' he => (List.mem_cons.mp he).elim (fun z => z ▸ .head _) fun z => .tail _ (h1 e' z), h2⟩
  obtain ⟨es', h1, h2⟩ := key line [] h
  have hk := keysD_fold (n := n) (es := es') (D := []) (fun e he => h e (h1 e he)) .nil (fun _ h => nomatch h)
  rw [toldP_on, h2]
  refine ⟨?_, fun q hq => hk.2 q (onD_key hq)⟩
  unfold onD
  exact (List.filter_sublist.map _).nodup hk.1
theorem base_mem {S : St} {n : Nat} (h : 1 ≤ S.made.length) : S.made[baseOf n S.made.length]? = some (baseC S n) := by
  unfold baseC
  have hb : baseOf n S.made.length < S.made.length := baseOf_lt h
  rw [List.getD_eq_getElem?_getD, List.getElem?_eq_getElem hb]
  rfl
theorem Inv.pos {S : St} (I : Inv S) : 1 ≤ S.made.length := Nat.lt_of_le_of_lt (Nat.zero_le _) (List.getElem?_eq_some_iff.mp I.tree.root).1
theorem Inv.tab {S : St} (I : Inv S) {k : Nat} {p : List Nat} (hp : S.made[k]? = some p) : S.tabs[k]? = some ((toldP S.line p).map (pairOf S.pairs)) := by
  obtain ⟨idx, ht, hts, hi⟩ := I.told
  have hlt := (List.getElem?_eq_some_iff.mp hp).1
  have hil : idx[k]? = some (idx[k]'(by rw [ht.1]; exact hlt)) := List.getElem?_eq_getElem _
  have h := ht.2 k p _ [] hp hil (fun _ h => nomatch h) (fun _ h => nomatch h)
  rw [List.append_nil] at h
  rw [hts, List.getElem?_map, hil, h]
  rfl
/-- what one draw that makes a release says -/
theorem Inv.due {S : St} {n : Nat} (I : Inv S) (hl : S.made.length < 21) (hc : codesN S n ∉ S.made) : DueCall S.pairs (toldP S.line (baseC S n)) (dueS S n) (callS S n) ∧ S.tabs.getD (baseOf n S.made.length) [] = (toldP S.line (baseC S n)).map (pairOf S.pairs) := by
  have hb := base_mem (n := n) I.pos
  have hr : S.tabs.getD (baseOf n S.made.length) [] = (toldP S.line (baseC S n)).map (pairOf S.pairs) := by
    rw [List.getD_eq_getElem?_getD, I.tab hb]
    rfl
  refine ⟨?_, hr⟩
  unfold dueS callS
  rw [hr]
  exact due_call (by unfold kindOf; lia) (by unfold nameAt; lia) (by unfold wordAtX; lia) hl I.rows (nodup_told I.stamps.2).2
theorem baseC_mem {S : St} {n : Nat} (I : Inv S) : baseC S n ∈ S.made := List.mem_of_getElem? (base_mem I.pos)
theorem pairOf_app {pairs : List Row} (ex : List Row) {q : Nat} (h : q < pairs.length) : pairOf (pairs ++ ex) q = pairOf pairs q := by
  unfold pairOf
  rw [List.getD_eq_getElem?_getD, List.getD_eq_getElem?_getD, List.getElem?_append_left h]
theorem Inv.step {S : St} {n : Nat} (I : Inv S) (hl : S.made.length < 21) : Inv (stepS S n) := by
  unfold stepS
  by_cases hc : codesN S n ∈ S.made
  · rw [if_pos hc]; exact I
  rw [if_neg hc]
  obtain ⟨dc, hr⟩ := I.due hl hc
  obtain ⟨idx, ht, hts, hi⟩ := I.told
  have hb := base_mem (n := n) I.pos
  have hbm := baseC_mem (n := n) I
  have hz : n % 100 % 13 < 13 := Nat.mod_lt _ (by decide)
  have hlt := (List.getElem?_eq_some_iff.mp hb).1
  have hil : idx[baseOf n S.made.length]? = some (idx[baseOf n S.made.length]'(by rw [ht.1]; exact hlt)) := List.getElem?_eq_getElem _
  have hlb := ht.2 _ _ _ [] hb hil (fun _ h => nomatch h) (fun _ h => nomatch h)
  rw [List.append_nil] at hlb
  rw [← hlb] at hil
  have nd := nodup_told (x := baseC S n) I.stamps.2
  generalize hd : dueS S n = d at dc
  generalize hcl : callS S n = cl at dc
  have hgs : (d.2.1.mergeSort (· ≤ ·)).Pairwise (· < ·) := by
    have h1 : (d.2.1.mergeSort (· ≤ ·)).Pairwise (fun a b => decide (a ≤ b) = true) := List.pairwise_mergeSort (fun a b c h k => by simp at *; lia) (fun a b => by simp; lia) _
    have h2 : (d.2.1.mergeSort (· ≤ ·)).Nodup := (List.mergeSort_perm _ _).nodup_iff.mpr (dc.sub.nodup nd.1)
    refine (List.pairwise_and_iff.mpr ⟨h1, h2⟩).imp fun {a b} h => ?_
    have := of_decide_eq_true h.1
    have := h.2
    lia
  have hgp : (d.2.1.mergeSort (· ≤ ·)).Perm d.2.1 := List.mergeSort_perm _ _
  have hgm : ∀ q, q ∈ d.2.1.mergeSort (· ≤ ·) ↔ q ∈ d.2.1 := fun q => hgp.mem_iff
  obtain ⟨lk, hlk, hlr, hlm⟩ : ∃ lk : List Nat, (lk = [] ∨ lk = [S.pairs.length]) ∧ ((d.2.2 = [] ∧ lk = []) ∨ ((∃ r, d.2.2 = [r]) ∧ lk = [S.pairs.length])) ∧ lk.map (pairOf (S.pairs ++ d.2.2)) = d.2.2 := by
    rcases dc.laid with h | ⟨r, h, _⟩
    · exact ⟨[], .inl rfl, .inl ⟨h, rfl⟩, by rw [h]; rfl⟩
    · refine ⟨[S.pairs.length], .inr rfl, .inr ⟨⟨r, h⟩, rfl⟩, ?_⟩
      rw [h]
      show [pairOf (S.pairs ++ [r]) S.pairs.length] = [r]
      unfold pairOf
      rw [List.getD_eq_getElem?_getD, List.getElem?_concat_length]
      rfl
  have hst : (lineS S n).Perm (S.line ++ (openL (codesN S n) (d.2.1.mergeSort (· ≤ ·)) lk ++ closeL (codesN S n) (d.2.1.mergeSort (· ≤ ·)) lk)) := by
    unfold lineS
    rw [hd, List.append_assoc]
    exact List.Perm.append_left _ (stamps_perm _ _ _ _ _ _ hgp hlr)
  have T2 := told_step I.tree I.srt I.stamps ht hb hil hz hc (fun q h => dc.sub.subset ((hgm q).mp h)) hgs hlk hst
  have hfil : ∀ l : List Nat, (l.filter fun q => q ∉ d.2.1.mergeSort (· ≤ ·)) = l.filter fun q => q ∉ d.2.1 := fun l => List.filter_congr fun q _ => by
    simp only [hgm q]
  rw [hfil] at T2
  have hex : ∀ q ∈ lk, q < (S.pairs ++ d.2.2).length := fun q hq => by
    rcases hlr with ⟨_, e⟩ | ⟨⟨r, e1⟩, e⟩
    · rw [e] at hq; cases hq
    · rw [e] at hq
      rw [List.mem_singleton.mp hq, e1]
      simp
  refine ⟨I.tree.grow hbm hz, sortE_srt _, ⟨fun e he => ?_, fun e he => ?_⟩, ⟨_, T2, ?_, fun l hm => ?_⟩, fun r hr => ?_⟩
  · have he := hst.mem_iff.mp ((sortE_perm _).mem_iff.mp he)
    rcases List.mem_append.mp he with h | h
    · obtain ⟨m, h1, h2⟩ := I.stamps.1 e h
      exact ⟨m, List.mem_append.mpr (.inl h1), h2⟩
    · refine ⟨codesN S n, List.mem_append.mpr (.inr (.head _)), ?_⟩
      rcases List.mem_append.mp h with h | h
      · exact .inl (openL_at h)
      · exact .inr (closeL_at h)
  · have he := hst.mem_iff.mp ((sortE_perm _).mem_iff.mp he)
    have hle : S.pairs.length ≤ (S.pairs ++ d.2.2).length := by rw [List.length_append]; lia
    have g1 : ∀ q ∈ d.2.1.mergeSort (· ≤ ·), q < (S.pairs ++ d.2.2).length := fun q hq => Nat.lt_of_lt_of_le (nd.2 q (dc.sub.subset ((hgm q).mp hq))) hle
    rcases List.mem_append.mp he with h | h
    · exact Nat.lt_of_lt_of_le (I.stamps.2 e h) hle
    · rcases List.mem_append.mp h with h | h
      all_goals
        rcases List.mem_append.mp h with h | h
        all_goals
          obtain ⟨q, hq, rfl⟩ := List.mem_map.mp h
          first | exact g1 q hq | exact hex q hq
  · show S.tabs ++ [cl.2] = (idx ++ [_]).map fun l : List Nat => l.map (pairOf (S.pairs ++ d.2.2))
    rw [List.map_append, hts]
    refine congr (congrArg _ ?_) ?_
    · refine List.map_congr_left fun l hl' => List.map_congr_left fun q hq => (pairOf_app _ ((hi l hl').2 q hq)).symm
    · show [cl.2] = [List.map _ (_ ++ lk)]
      rw [dc.rows, List.map_append, hlm]
      congr 2
      exact List.map_congr_left fun q hq => (pairOf_app _ (nd.2 q (List.mem_filter.mp hq).1)).symm
  · have hle : S.pairs.length ≤ (S.pairs ++ d.2.2).length := by rw [List.length_append]; lia
    rcases List.mem_append.mp hm with h | h
    · exact ⟨(hi l h).1, fun q hq => Nat.lt_of_lt_of_le ((hi l h).2 q hq) hle⟩
    · rw [List.mem_singleton.mp h]
      refine ⟨List.nodup_append.mpr ⟨List.filter_sublist.nodup nd.1, by rcases hlk with rfl | rfl <;> simp, fun a ha b hb e => ?_⟩, fun q hq => ?_⟩
      · have h1 := nd.2 a (List.mem_filter.mp ha).1
        rcases hlk with rfl | rfl
        · cases hb
        · rw [e, List.mem_singleton.mp hb] at h1; lia
      · rcases List.mem_append.mp hq with hq | hq
        · exact Nat.lt_of_lt_of_le (nd.2 q (List.mem_filter.mp hq).1) hle
        · exact hex q hq
  · rcases List.mem_append.mp hr with h | h
    · exact I.rows r h
    · rcases dc.laid with h' | ⟨r', h', ok⟩
      · rw [h'] at h; cases h
      · rw [h'] at h; rw [List.mem_singleton.mp h]; exact ok
theorem Inv.bnd {S : St} {n k M N : Nat} (I : Inv S) (B : Bnd S k M N) (hk : k < 21) : Bnd (stepS S n) (k + 1) (M + 1) (N + 2 * (M + 1)) ∧ (codesN S n ∉ S.made → (lineS S n).length ≤ N + 2 * (M + 1)) ∧ S.line.length ≤ (stepS S n).line.length := by
  unfold stepS
  by_cases hc : codesN S n ∈ S.made
  · rw [if_pos hc]
    exact ⟨⟨Nat.le_succ_of_le B.made, fun m h => Nat.le_succ_of_le (B.deep m h), Nat.le_succ_of_le B.pairs, fun t h => Nat.le_succ_of_le (B.tabs t h), Nat.le_trans B.line (Nat.le_add_right _ _)⟩, fun h => (h hc).elim, Nat.le_refl _⟩
  rw [if_neg hc]
  obtain ⟨dc, hr⟩ := I.due (n := n) (Nat.lt_of_le_of_lt B.made hk) hc
  have hb := base_mem (n := n) I.pos
  have hbm := baseC_mem (n := n) I
  have htab := I.tab hb
  have hM := B.tabs _ (List.mem_of_getElem? htab)
  rw [List.length_map] at hM
  have h1 := dc.sub.length_le
  have h2 : (dueS S n).2.2.length ≤ 1 := by
    rcases dc.laid with h | ⟨r, h, _⟩ <;> rw [h] <;> simp
  have hln : (lineS S n).length ≤ N + 2 * (M + 1) := by
    unfold lineS
    rw [List.length_append, List.length_append, goneL_length, laidL_length]
    have := B.line
    lia
  have hd := B.deep _ hbm
  have hm := B.made
  have hp := B.pairs
  refine ⟨⟨?_, fun m h => ?_, ?_, fun t h => ?_, ?_⟩, fun _ => hln, ?_⟩
  · show (S.made ++ [codesN S n]).length ≤ _
    rw [List.length_append]
    exact Nat.succ_le_succ hm
  · rcases List.mem_append.mp h with h | h
    · exact Nat.le_succ_of_le (B.deep m h)
    · rw [List.mem_singleton.mp h]
      unfold codesN
      rw [List.length_append]
      exact Nat.succ_le_succ hd
  · show (S.pairs ++ (dueS S n).2.2).length ≤ _
    rw [List.length_append]
    lia
  · rcases List.mem_append.mp h with h | h
    · exact Nat.le_succ_of_le (B.tabs t h)
    · rw [List.mem_singleton.mp h, dc.rows, List.length_append, List.length_map]
      have := List.length_filter_le (fun q => decide (q ∉ (dueS S n).2.1)) (toldP S.line (baseC S n))
      lia
  · show (sortE (lineS S n)).length ≤ _
    rw [(sortE_perm _).length_eq]
    exact hln
  · show _ ≤ (sortE (lineS S n)).length
    rw [(sortE_perm _).length_eq]
    unfold lineS
    rw [List.length_append, List.length_append]
    lia
theorem RowOk.str {r : Row} (h : RowOk r) : PyData.strOk r.1 = true ∧ PyData.strOk r.2 = true := by
  obtain ⟨⟨j, hj, e⟩, h2, h3, h4⟩ := h
  exact ⟨e ▸ name_str j (by lia), h4⟩
theorem RowOk.clean {r : Row} (h : RowOk r) : Clean r := by
  obtain ⟨⟨j, hj, e⟩, h2, h3, _⟩ := h
  have := name_size j (by lia)
  rw [← e] at this
  exact ⟨e ▸ (name_facts j hj).1, h2, Nat.le_trans this (by decide), Nat.le_trans h3 (by decide)⟩
theorem Inv.ok {S : St} {n k M N : Nat} (I : Inv S) (B : Bnd S k M N) (hk : k ≤ 20) (hM : M ≤ 100) (hN : N + 2 * (M + 1) < 64) (h2 : codesN S n ∉ S.made → 2 ≤ (lineS S n).length) : StepOk S n := by
  obtain ⟨idx, ht, hts, hi⟩ := I.told
  have hB := I.bnd (n := n) B (by lia)
  refine ⟨⟨I.pos, Nat.le_trans B.made hk⟩, by rw [hts, List.length_map, ht.1], I.tree.small, fun m h => Nat.le_trans (B.deep m h) hk, fun t h => ⟨fun r hr => ?_, Nat.le_trans (B.tabs t h) hM⟩, fun r h => ?_, by have := B.pairs; lia, fun e he c hc => ?_, by have := B.line; lia, fun hc => ?_⟩
  · rw [hts] at h
    obtain ⟨l, hl, rfl⟩ := List.mem_map.mp h
    obtain ⟨q, hq, rfl⟩ := List.mem_map.mp hr
    exact (I.rows _ (pairOf_mem ((hi l hl).2 q hq))).clean
  · obtain ⟨⟨j, hj, e⟩, _, h3, _⟩ := I.rows r h
    have := name_size j (by lia)
    rw [← e] at this
    exact ⟨by lia, by lia⟩
  · obtain ⟨m, hm, e1⟩ := I.stamps.1 e he
    have hs := I.tree.small m hm
    rcases e1 with e1 | e1 <;> rw [e1] at hc
    · have := hs c hc; lia
    · rcases List.mem_append.mp hc with hc | hc
      · have := hs c hc; lia
      · rw [List.mem_singleton.mp hc]; decide
  · obtain ⟨dc, hr⟩ := I.due (n := n) (by have := B.made; lia) hc
    have nd := nodup_told (x := baseC S n) I.stamps.2
    have hb := base_mem (n := n) I.pos
    have htab := I.tab hb
    have hM' := B.tabs _ (List.mem_of_getElem? htab)
    rw [List.length_map] at hM'
    have h1 := dc.sub.length_le
    have h3 : (dueS S n).2.2.length ≤ 1 := by
      rcases dc.laid with h | ⟨r, h, _⟩ <;> rw [h] <;> simp
    have h4 := hB.2.1 hc
    exact ⟨nd.2, by lia, dc.ans, by lia, by lia, h2 hc, by lia⟩
theorem inv0 : Inv S0 := by
  refine ⟨⟨rfl, fun p z h => ?_, fun m h c hc => ?_⟩, List.Pairwise.nil, ⟨(fun e h => nomatch h), (fun e h => nomatch h)⟩, ⟨[[]], ⟨rfl, fun k p l t hp hl ht hz => ?_⟩, rfl, fun l h => ?_⟩, (fun r h => nomatch h)⟩
  · have := List.mem_singleton.mp h
    simp at this
  · rw [List.mem_singleton.mp h] at hc; cases hc
  · cases k with
    | zero =>
      obtain rfl : [] = l := Option.some.inj hl
      rfl
    | succ k => cases hp
  · rw [List.mem_singleton.mp h]
    exact ⟨List.Pairwise.nil, (fun q h => nomatch h)⟩
theorem bnd0 : Bnd S0 1 0 0 := ⟨Nat.le_refl _, fun m h => by rw [List.mem_singleton.mp h]; decide, Nat.zero_le _, fun t h => by rw [List.mem_singleton.mp h]; decide, Nat.le_refl _⟩
noncomputable abbrev fixedL : List Nat := [4101010, 1010108, 2003101, 3222211, 11111, 4300500]
theorem first_line : (lineS S0 4101010).length = 2 ∧ (stepS S0 4101010).line.length = 2 := by decide +kernel
theorem six : (stAt fixedL 6).line.length ≤ 16 ∧ ∀ t ∈ (stAt fixedL 6).tabs, t.length ≤ 2 := by decide +kernel
noncomputable def bM (i : Nat) : Nat := if i < 6 then i else i - 4
noncomputable def bN (i : Nat) : Nat := if i < 6 then i * (i + 1) else [16, 22, 30, 40, 52].getD (i - 6) 0
theorem stAt_app {a b : List Nat} {i : Nat} (h : i ≤ a.length) : stAt (a ++ b) i = stAt a i := by
  unfold stAt
  rw [List.take_append_of_le_length h]
theorem plain_all {ex : List Nat} (hx : ex.length ≤ 4) : ∀ i, i ≤ (fixedL ++ ex).length → Inv (stAt (fixedL ++ ex) i) ∧ Bnd (stAt (fixedL ++ ex) i) (i + 1) (bM i) (bN i) ∧ (1 ≤ i → 2 ≤ (stAt (fixedL ++ ex) i).line.length)
  | 0, _ => ⟨inv0, bnd0, fun h => absurd h (by decide)⟩
  | i + 1, h => by
    obtain ⟨I, B, L⟩ := plain_all hx i (by lia)
    have hi : i < 10 := by
      rw [List.length_append] at h
      have : fixedL.length = 6 := rfl
      lia
    obtain ⟨n, hn⟩ : ∃ n, (fixedL ++ ex)[i]? = some n := ⟨_, List.getElem?_eq_getElem (by lia)⟩
    rw [stAt_succ hn]
    obtain ⟨B1, _, B3⟩ := I.bnd (n := n) B (by lia)
    have I1 := I.step (n := n) (by have := B.made; lia)
    refine ⟨I1, ?_, fun _ => ?_⟩
    · by_cases h6 : i = 5
      · subst h6
        rw [← stAt_succ hn] at B1 ⊢
        rw [stAt_app (by decide)] at B1 ⊢
        exact ⟨B1.made, B1.deep, B1.pairs, six.2, six.1⟩
      · refine ⟨B1.made, B1.deep, B1.pairs, fun t h => Nat.le_trans (B1.tabs t h) ?_, Nat.le_trans B1.line ?_⟩
        · unfold bM
          split <;> split <;> lia
        · have : i ∈ List.range 10 := List.mem_range.mpr hi
          revert h6
          revert i
          have : ∀ i, i < 10 → i ≠ 5 → bN i + 2 * (bM i + 1) ≤ bN (i + 1) := by decide +kernel
          intros
          exact this _ (by assumption) (by assumption)
    · by_cases h0 : i = 0
      · subst h0
        obtain rfl : 4101010 = n := Option.some.inj hn
        show 2 ≤ (stepS S0 4101010).line.length
        rw [first_line.2]
        exact Nat.le_refl _
      · exact Nat.le_trans (L (by lia)) B3
theorem plain_ok {ex : List Nat} (hx : ex.length ≤ 4) : ∀ i n, (fixedL ++ ex)[i]? = some n → StepOk (stAt (fixedL ++ ex) i) n := fun i n hn => by
  have hi := (List.getElem?_eq_some_iff.mp hn).1
  obtain ⟨I, B, L⟩ := plain_all hx i (by lia)
  have hi' : i < 10 := by
    rw [List.length_append] at hi
    have : fixedL.length = 6 := rfl
    lia
  have hb : ∀ i, i < 10 → bM i ≤ 100 ∧ bN i + 2 * (bM i + 1) < 64 := by decide +kernel
  refine I.ok B (by lia) (hb i hi').1 (hb i hi').2 fun _ => ?_
  by_cases h0 : i = 0
  · subst h0
    obtain rfl : 4101010 = n := Option.some.inj hn
    exact Nat.le_of_eq first_line.1.symm
  · unfold lineS
    rw [List.length_append, List.length_append]
    have := L (by lia)
    lia
end TPlain4
section TLawA
open PySem PySem.W PySem.Calls PyProof.Rows PyProof.V PySem.Spec
set_option maxRecDepth 100000
set_option maxHeartbeats 1500000
theorem kqdPs_map : ∀ ds : List Dat, kqdPs ds = ds.map kqdP
  | [] => rfl
  | d :: ds => by rw [kqdPs, kqdPs_map ds]; rfl
section
variable {prog : Program} {w : World} {A : Around} {E : Value → Shared → Prop} {s : Shared} {h₀ : Heap} {L a : Addr} {news n₁ n₂ : List (Addr × Obj)} {xs : List Value} {ka : Nat} {ds : List Dat} {x : Value} {d : Dat} {Q : Value → Shared → Prop}
/-- the first place of an item in a list -/
theorem index_dat {j : Nat} (N : News h₀ L s.heap news) (ma : (a, listOf xs.toArray ka) ∈ news) (Da : DatAll n₁ xs ds) (sa : ∀ p ∈ n₁, p ∈ news) (Dx : DatIn n₂ x d) (sx : ∀ p ∈ n₂, p ∈ news) (ha : ∀ d ∈ ds, kqdOk 8 d = true) (hd : kqdOk 8 d = true)
    (hj : ds[j]? = some d) (hno : ∀ m, m < j → ds[m]? ≠ some d) (hs : ds.length ≤ 1000) (hu : A.units + 64 < cLine) (h : Q (.int (j : Nat) s.toks) { s with toks := s.toks + 1 }) : wpAny (model prog w) A (call (.builtin "list.index") [.ref a, x]) Q E s := by
  obtain ⟨as, ra⟩ := kqd_all N 8 (Da.mono sa) ha
  obtain ⟨bs, rx⟩ := kqd_in N 8 (Dx.mono sx) hd
  have l := kqd_layL ha
  have ld := kqd_lay 8 d hd
  have l2 := ld.2
  have hjl := (List.getElem?_eq_some_iff.mp hj).1
  have hxl : xs.length = ds.length := Da.length
  have rm := SeqAt.readsAll_map _ _ _ l.1 ra
  rw [kqdPs_map] at rm
  have at_ : ∀ m (hm : m < xs.length), SeqAt.readOf s.heap xs[m] = kqdP (ds[m]'(hxl ▸ hm)) := fun m hm => by
    have := congrArg (fun l => l[m]?) rm
    simp only [List.getElem?_map, List.getElem?_eq_getElem hm, List.getElem?_eq_getElem (hxl ▸ hm)] at this
    exact Option.some.inj this
  have ho := (N _ ma).1
  have eqv : ∀ m (hm : m < ds.length), PyData.eqv (kqdP ds[m]) (kqdP d) = true ↔ ds[m] = d := fun m hm => kqd_eqv 8 _ _ 8 (ha _ (List.getElem_mem hm)) hd
  refine call_meets PySem.F.slot_list_index ⟨_, ho, rfl⟩ PySem.F.entry_list_index (PySem.F.args_list_index_2 _ _)
    (SeqAt.list_indexAt a xs.toArray ka _ _ x (fun y => PyData.eqv (SeqAt.readOf s.heap y) (kqdP d)) j (by simpa [hxl] using hjl) (by omega) ?_ ?_) ⟨ho, SeqAt.items_eqAt (by simpa using ra) rx l.1 ld.1 (by
      have := Nat.min_le_right (PyData.depthAll (kqdPs ds)) (kqdP d).depth
      omega), h⟩
  · show PyData.eqv (SeqAt.readOf s.heap (xs.toArray[j]'(by simpa [hxl] using hjl))) (kqdP d) = true
    rw [List.getElem_toArray, at_ j (hxl ▸ hjl)]
    exact (eqv j hjl).mpr (List.getElem?_eq_some_iff.mp hj).2
  · intro m hm hlt
    show PyData.eqv (SeqAt.readOf s.heap xs.toArray[m]) (kqdP d) = false
    have hm' : m < ds.length := by simpa [hxl] using hm
    rw [List.getElem_toArray, at_ m (hxl ▸ hm')]
    refine Bool.eq_false_iff.mpr fun q => hno m hlt ?_
    rw [List.getElem?_eq_getElem hm', (eqv m hm').mp q]
end
/-- a comprehension without a test, by what holds between the turns -/
theorem compU_ind {prog : Program} {w : World} {A : Around} {h₀ : Heap} {L : Addr} {m : PySem.Str → Option Value} {env : Env} {elt : Expr} {x : PySem.Str} {scope : Scope} {cl : List (PySem.Str × Addr)} {s : Shared} {S : List (Addr × Obj) → Prop} {P : Nat → Value → Prop} {Fin : List Value → List (Addr × Obj) → Prop} {n : Nat} {news : List (Addr × Obj)}
    (J : Nat → List Value → Prop) (j0 : J 0 []) (zero : ∀ ys, J n ys → Fin ys news)
    (succ : ∀ i ys v I oI C oC D m₂ h tk (E' : Value → Shared → Prop), i < n → J i ys → P i v → LCg.NsObj oC m₂ → m₂ x = some v → Fr h₀ L h m → News h₀ L h ((I, oI) :: (C, oC) :: (D, LCg.lst ys) :: news) → (∀ p ∈ news, p.1 ≠ I ∧ p.1 ≠ C ∧ p.1 ≠ D) → ((@Ne Nat I C) ∧ (@Ne Nat I D) ∧ (@Ne Nat C D)) →
      wpAny (model prog w) A (eval elt (compEnvC scope cl C env)) (LCg.CompEnd h₀ L m { s with heap := h, toks := tk } I oI C oC D (LCg.lst ys) S (fun y news' => news' = news ∧ J (i + 1) (ys ++ [y]))) E' { s with heap := h, toks := tk }) :
    LCg.CompRest prog w A h₀ L m env elt x scope cl s S P Fin n 0 [] news := by
  have key : ∀ (k i : Nat) (ys : List Value), i + k = n → J i ys → LCg.CompRest prog w A h₀ L m env elt x scope cl s S P Fin k i ys news := by
    intro k
    induction k with
    | zero =>
      intro i ys hi hj
      have : i = n := by omega
      subst this
      exact LCg.CompRest.zero (zero ys hj)
    | succ k ih =>
      intro i ys hi hj
      refine LCg.CompRest.succ fun v I oI C oC D m₂ h tk E' hv hC hx F N off ne => ?_
      refine wpAny_mono (succ i ys v I oI C oC D m₂ h tk E' (by omega) hj hv hC hx F N off.mem ne) (fun y s' hy => ?_) fun _ _ e => e
      obtain ⟨h', tk', news', a, b, c, d, e, f, g⟩ := hy
      subst f
      exact ⟨h', tk', news', a, b, c, d, e, ih (i + 1) _ (by omega) g⟩
  exact key n 0 [] (Nat.zero_add _) j0
end TLawA
section TLawB
open PySem PySem.W PySem.Calls PyProof.Rows PyProof.V PySem.Spec
set_option maxRecDepth 100000
set_option maxHeartbeats 1500000
set_option pp.maxSteps 12000
noncomputable def wb (i : Nat) : Stmt := (forBody s19_3).getD i default
noncomputable abbrev wbL : List Stmt := [wb 0, wb 1, wb 2]
theorem wb_is : forBody s19_3 = wbL := by rfl
noncomputable def wc (i : Nat) : Stmt := (forBody (wb 2)).getD i default
noncomputable abbrev wcL : List Stmt := [wc 0, wc 1, wc 2]
theorem wc_is : forBody (wb 2) = wcL := by rfl
theorem mod5I (k : Nat) : ((k : Int)).fmod 5 = ((k % 5 : Nat) : Int) := by
  rw [show (5 : Int) = ((5 : Nat) : Int) from rfl, fmodN]
theorem mod13I (k : Nat) : ((k : Int)).fmod 13 = ((k % 13 : Nat) : Int) := by
  rw [show (13 : Int) = ((13 : Nat) : Int) from rfl, fmodN]
theorem row_oks (cs : List Nat) : ∀ d ∈ rowD cs, kqdOk 8 d = true := by
  intro d hd
  unfold rowD at hd
  rcases List.mem_append.mp hd with h | h
  · rcases List.mem_cons.mp h with rfl | h
    · rfl
    · rw [List.mem_singleton.mp h]; rfl
  · obtain ⟨c, _, h⟩ := List.mem_flatMap.mp h
    rcases List.mem_cons.mp h with rfl | h
    · rfl
    · rw [List.mem_singleton.mp h]
      by_cases hc : c < 14
      · exact (show ∀ c, c < 14 → kqdOk 8 (partOf c) = true from by decide +kernel) c hc
      · unfold partOf
        rw [List.getD_eq_getElem?_getD, List.getElem?_eq_none (by show 14 ≤ c; omega)]
        rfl
theorem rows_ok (rs : List Row) (h : ∀ r ∈ rs, RowOk r) : ∀ d ∈ rs.map pairD, kqdOk 8 d = true := by
  intro d hd
  obtain ⟨r, hr, rfl⟩ := List.mem_map.mp hd
  have := (h r hr).str
  unfold pairD
  simp [kqdOk, this.1, this.2]


variable {w : World} {p : Program} {loose : List PySem.Str} {mean : ExcName → Option Value} {mg mb : PySem.Str → Option Value} {dp un : Nat} {gd : Option (List Code)} {outer : List Env} {base g : Heap} {L : Addr} {h₁ : Heap} {s : Shared} {tk : Nat} {Q : Flow → Shared → Prop} {E : Value → Shared → Prop} {cdv : Value}
theorem lw0 {news : List (Addr × Obj)} {C k : Nat} {tq : Tok} {codes : List Nat} {u : PySem.Str → Option Value} 
    (B : Below (aro dp un gd outer) base outer g) (F : Fr g L h₁ (fixM [("codes", .ref C), ("k", .int k tq)] u)) (XB : (KK w.params).In base) (TB : Top p loose mean mg mb base) (D : KtsDicts (frs outer) g) (N : News g L h₁ news) 
    (hcs : DatIn news (.ref C) (codesD codes)) (hc : ∀ c ∈ codes, c < 14) (hlen : codes.length ≤ 100) (hd : dp + 20 < recursionLimit) (hu : un + 100 < cLine)
    (cont : ∀ (O : Nat) g' ex h' tk', KtsTurn (frs outer) g g' → Below (aro dp un gd outer) base outer g' → KtsDicts (frs outer) g' → Fr g' L h' (fun y => if y = "place" then some (.ref O) else fixM [("codes", .ref C), ("k", .int k tq)] u y) → News g' L h' (ex ++ news) → (∀ q ∈ news, ∀ p ∈ ex, q.1 < p.1) → DatIn (ex ++ news) (.ref O) (.list (rowD codes)) →
      Q .next { s with heap := h', toks := tk' }) :
    wpC (model PR w) (ktrTop (dp + 1) (un + 3) gd "law" sc19 L 244 cdv [("pairs", L + 1)] outer) (exec (wc 0) (envX "law" sc19 L 244 cdv [("pairs", L + 1)])) Q E { s with heap := h₁, toks := tk } := by
  have X : (KK w.params).In g := XB.keeps B.stays
  have T := TB.keeps B.stays
  refine ctx_execC ?_
  intro AA ee
  refine open_stmtC (rfl : wc 0 = Stmt.Assign _ _ _) ?_
  refine wpC_Assign_Name (wpC_Call_Name ?_)
  (repeat' ((fail_if_success (with_reducible first | refine sFor ?_ | refine sCal ?_ | refine sNe ?_)); walk_at "w2"))
  refine' wpC_callWith_fn1 ?ho ?_
  case ho => k_is
  (repeat' ((fail_if_success (with_reducible first | refine sFor ?_ | refine sCal ?_ | refine sNe ?_)); walk_at "w2"))
  rw [mod5I]
  refine name_ok w _ _ _ (k % 5) _ hc hlen (Nat.mod_lt _ (by decide)) hcs p loose mean mg mb _ _ gd _ _ _ _ _ outer _ base g L _ _ _ _ B F X N T rfl (by omega) (by omega) fun r tl h2 tk2 F2 N2 o2 ho => ?_
  obtain ⟨t2, rfl⟩ := ho
  dsimp only
  (repeat' ((fail_if_success (with_reducible first | refine sFor ?_ | refine sCal ?_ | refine sNe ?_)); walk_at "w2"))
  refine version_ok w _ codes (k % 5) t2 hc hlen (Nat.mod_lt _ (by decide)) p loose mean mg mb _ _ gd _ _ _ _ _ outer _ base g L _ _ _ _ B F2 XB N2 TB D rfl (by omega) (by omega) fun r tl3 g3 h3 tk3 T3 B3 D3 F3 N3 o3 ho => ?_
  obtain ⟨O, rfl⟩ := ref_of_list ho
  clear F N F2 N2 X T
  dsimp only
  (repeat' ((fail_if_success (with_reducible first | refine sFor ?_ | refine sCal ?_ | refine sNe ?_)); walk_at "w2"))
  (rename Fr _ _ _ _ => F9); (rename News _ _ _ _ => N9)
  rw [← List.append_assoc] at N9 ho
  refine cont O _ _ _ _ T3 B3 D3 F9 N9 (fun q hq p hp => ?_) ho
  rcases List.mem_append.mp hp with hp | hp
  · exact o3 q (List.mem_append.mpr (.inr hq)) p hp
  · exact o2 q hq p hp
theorem lw1 {news : List (Addr × Obj)} {C O : Nat} {codes : List Nat} {u : PySem.Str → Option Value} {A₀ : Around}
    (B : Below A₀ base outer g) (F : Fr g L h₁ (fixM [("codes", .ref C), ("place", .ref O)] u)) (X : (KK w.params).In g) (T : Top p loose mean mg mb g) (N : News g L h₁ news) 
    (hcs : DatIn news (.ref C) (codesD codes)) (hc : ∀ c ∈ codes, c < 14) (hlen : codes.length ≤ 100) (dO : DatIn news (.ref O) (.list (rowD codes))) (hd : dp + 20 < recursionLimit) (hu : un + 100 < cLine)
    (cont : ∀ ex h' tk', Fr g L h' (fixM [("codes", .ref C), ("place", .ref O)] u) → News g L h' (ex ++ news) → (∀ q ∈ news, ∀ p ∈ ex, q.1 < p.1) → Q .next { s with heap := h', toks := tk' }) :
    wpAny (model PR w) (ktrTop (dp + 1) (un + 3) gd "law" sc19 L 244 cdv [("pairs", L + 1)] outer) (exec (wc 1) (envX "law" sc19 L 244 cdv [("pairs", L + 1)])) Q E { s with heap := h₁, toks := tk } := by
  with_reducible refine ctx_exec ?_
  intro AA ee
  (with_reducible refine' open_stmt ?oe ?_); (case oe => exact (rfl : wc 1 = Stmt.If _ _ _ _))
  (repeat' ((fail_if_success (with_reducible first | refine sFor ?_ | refine sCal ?_ | refine sNe ?_)); walk_at "w2"))
  refine ranks_ok w _ _ _ hc hlen hcs p loose mean mg mb _ _ gd _ _ _ _ _ outer _ base g L _ _ _ _ B F X N T rfl (by omega) (by omega) fun r1 tl1 h2 tk2 F2 N2 o2 ho1 => ?_
  clear F N
  dsimp only
  obtain ⟨xs, n1, hm1, hxs⟩ := dat_list_inv dO
  obtain ⟨R, rfl⟩ := ref_of_list ho1
  obtain ⟨ys, n2, hm2, hys⟩ := dat_list_inv ho1
  (repeat' ((fail_if_success (with_reducible first | refine sFor ?_ | refine sCal ?_ | refine sNe ?_)); walk_at "w2"))
  (rename Fr _ _ _ _ => F8); (rename News _ _ _ _ => N8)
  refine kqd_ne N8 (List.mem_append.mpr (.inr hm1)) rfl rfl hxs (fun q hq => List.mem_append.mpr (.inr hq)) hm2 rfl rfl hys (fun q hq => hq) ?okA ?okB (by show un + 3 + 64 < cLine; omega) ?_
  case okA => exact row_oks codes
  case okB => exact row_oks codes
  rw [dec_self]
  (try dsimp only [Bool.not_true])
  (repeat' ((fail_if_success (with_reducible first | refine sFor ?_ | refine sCal ?_ | refine sNe ?_)); walk_at "w2"))
  exact cont _ _ _ F8 N8 o2
end TLawB
section TLawC
open PySem PySem.W PySem.Calls PyProof.Rows PyProof.V PySem.Spec
set_option maxRecDepth 100000
set_option maxHeartbeats 1500000
set_option pp.maxSteps 12000


variable {w : World} {p : Program} {loose : List PySem.Str} {mean : ExcName → Option Value} {mg mb : PySem.Str → Option Value} {dp un : Nat} {gd : Option (List Code)} {outer : List Env} {base g : Heap} {L : Addr} {h₁ : Heap} {s : Shared} {tk : Nat} {Q : Flow → Shared → Prop} {E : Value → Shared → Prop} {cdv : Value}
theorem lw2 {news : List (Addr × Obj)} {O LN P rw' : Nat} {es : List LE} {pc : List Nat} {prs rows : List Row} {oc : Obj} {u : PySem.Str → Option Value} {A₀ : Around}
    (B : Below A₀ base outer g) (F : Fr g L h₁ (fixM [("line", .ref LN), ("place", .ref O), ("rows", .ref rw')] u)) (X : (KK w.params).In g) (T : Top p loose mean mg mb g) (N : News g L h₁ news) 
    (hcell : (L + 1, oc) ∈ news) (hoc : oc.data = .cell (some (.ref P))) (hes : ∀ e ∈ es, ∀ c ∈ e.1, c < 14) (hpc : ∀ c ∈ pc, c < 14) (hel : es.length ≤ 1000) (dl : DatIn news (.ref LN) (.list (es.map entryD))) (dO : DatIn news (.ref O) (.list (rowD pc)))
    (hq : ∀ q ∈ toldP es pc, q < prs.length) (hlen : prs.length ≤ 1000) (htl : (toldP es pc).length ≤ 1000) (hp : DatIn news (.ref P) (.list (prs.map pairD))) (hr : DatIn news (.ref rw') (.list (rows.map pairD))) (heq : (toldP es pc).map (pairOf prs) = rows) (hok : ∀ r ∈ prs, RowOk r)
    (hd : dp + 20 < recursionLimit) (hu : un + 100 < cLine)
    (cont : ∀ ex h' tk', Fr g L h' (fixM [("line", .ref LN), ("place", .ref O), ("rows", .ref rw')] u) → News g L h' (ex ++ news) → (∀ q ∈ news, ∀ p ∈ ex, q.1 ≠ p.1) → Q .next { s with heap := h', toks := tk' }) :
    wpAny (model PR w) (ktrTop (dp + 1) (un + 3) gd "law" sc19 L 244 cdv [("pairs", L + 1)] outer) (exec (wc 2) (envX "law" sc19 L 244 cdv [("pairs", L + 1)])) Q E { s with heap := h₁, toks := tk } := by
  obtain ⟨pvs, pn, hpm, hpv⟩ := dat_list_inv hp
  replace N : News g L h₁ ((L + 1, oc) :: news) := fun q hq => by
    rcases List.mem_cons.mp hq with rfl | hq
    · exact N _ hcell
    · exact N q hq
  with_reducible refine ctx_exec ?_
  intro AA ee
  (with_reducible refine' open_stmt ?oe ?_); (case oe => exact (rfl : wc 2 = Stmt.If _ _ _ _))
  (repeat' ((fail_if_success (with_reducible first | refine sFor ?_ | refine sCal ?_ | refine sNe ?_ | refine sLc ?_)); walk_at "w2"))
  refine LCg.ListComp_U (F₀ := F) (by with_unfolding_all rfl) (by decide) (by rfl) (by decide) (by rfl) ?_
  (repeat' ((fail_if_success (with_reducible first | refine sFor ?_ | refine sCal ?_ | refine sNe ?_ | refine sLc ?_)); walk_at "w2"))
  refine told_ok w _ _ _ es pc hes hpc hel (dl.mono fun _ h => .tail _ h) (dO.mono fun _ h => .tail _ h) p loose mean mg mb _ _ gd _ _ _ _ _ outer _ base g L _ _ _ _ B F X N T rfl (by omega) (by omega) fun r1 tl1 h2 tk2 F2 N2 o2 ho1 => ?_
  obtain ⟨D1, vs1, k1, rfl, rfl, dv1⟩ := ho1
  simp only [List.cons_append, List.nil_append] at N2
  clear F N
  have hn1 := dv1.length
  rw [List.length_map] at hn1
  dsimp only
  refine LCg.CompSrc.ledger rfl F2 N2 (.head _) (by rw [sizeLine_eq, List.size_toArray]; omega) fun g' => ?_
  rw [List.size_toArray, hn1]
  refine compU_ind (fun i ys => DatAll news ys (((toldP es pc).take i).map fun q => pairD (pairOf prs q))) .nil ?_ ?_
  case refine_2 =>
    intro i ys v I oI C oC Dn m₂ h' tk' E' hi hys hv hC hx F' N' off ne
    refine opaqueE ?_
    intro RR hR
    clear F2 N2
    simp only [List.getElem?_toArray] at hv
    obtain ⟨d, hd', hvd⟩ := dat_at dv1 hv
    obtain ⟨q, hnb, rfl⟩ : ∃ c, (toldP es pc)[i]? = some c ∧ d = .int (c : Nat) := by
      rw [List.getElem?_map] at hd'
      obtain ⟨c, a, b⟩ := Option.map_eq_some_iff.mp hd'
      exact ⟨c, a, b.symm⟩
    obtain ⟨tq, rfl⟩ := int_of_dat hvd
    have hql := hq q (List.mem_of_getElem? hnb)
    (repeat' ((fail_if_success (with_reducible first | refine sFor ?_ | refine sCal ?_ | refine sNe ?_ | refine sLc ?_)); walk_at "w2"))
    refine item_dat N' (.tail _ (.tail _ (.tail _ (.tail _ (.tail _ hpm))))) hpv (by omega) (by rw [List.length_map]; omega) (by rw [List.length_map]; omega) fun v' d' hd9 hv9 _ => ?_
    have e9 : d' = pairD (pairOf prs q) := by
      rw [Int.toNat_natCast, List.getElem?_map, List.getElem?_eq_getElem hql] at hd9
      unfold pairOf
      rw [List.getD_eq_getElem?_getD, List.getElem?_eq_getElem hql]
      exact (Option.some.inj hd9).symm
    (repeat' ((fail_if_success (with_reducible first | refine sFor ?_ | refine sCal ?_ | refine sNe ?_ | refine sLc ?_)); walk_at "w2"))
    have e2 := take_snoc hnb
    refine hR _ _ ?_; refine comp_end (J := fun y => DatAll news (ys ++ [y]) _) F' N' off (.inr ⟨_, .head _, rfl, _, rfl⟩) ?_
    rw [e2, List.map_append]
    rw [e9] at hv9
    exact hys.append (.cons hv9 .nil)
  intro ys hys
  rw [List.take_length] at hys
  intro D0 h9 tk9 F9 N9 off9
  have off8 := off1_ne off9
  clear F2 N2
  have hys' : DatAll news ys (rows.map pairD) := by
    rw [← heq, List.map_map]
    exact hys
  obtain ⟨rvs, rn, hrm, hrv⟩ := dat_list_inv hr
  have rok : ∀ r ∈ rows, RowOk r := fun r hm => by
    rw [← heq] at hm
    obtain ⟨q, hqm, rfl⟩ := List.mem_map.mp hm
    exact hok _ (pairOf_mem (hq q hqm))
  dsimp only
  (repeat' ((fail_if_success (with_reducible first | refine sFor ?_ | refine sCal ?_ | refine sNe ?_ | refine sLc ?_)); walk_at "w2"))
  refine kqd_ne N9 (.head _) rfl rfl hys' (fun q hq => .tail _ (.tail _ (.tail _ hq))) (.tail _ (.tail _ (.tail _ hrm))) rfl rfl hrv (fun q hq => .tail _ (.tail _ (.tail _ hq))) (rows_ok rows rok) (rows_ok rows rok) (by show un + 3 + 64 < cLine; omega) ?_
  rw [dec_self]
  (try dsimp only [Bool.not_true])
  (repeat' ((fail_if_success (with_reducible first | refine sFor ?_ | refine sCal ?_ | refine sNe ?_ | refine sLc ?_)); walk_at "w2"))
  refine cont [(D0, LCg.lst ys), (D1, listOf vs1.toArray k1)] _ _ F9 (fun q hq => N9 q ?_) fun q hq p hp => ?_
  · simp only [List.cons_append, List.nil_append, List.mem_cons] at hq ⊢
    rcases hq with h | h | h
    · exact .inl h
    · exact .inr (.inl h)
    · exact .inr (.inr (.inr h))
  · simp only [List.mem_cons, List.not_mem_nil, or_false] at hp
    rcases hp with rfl | rfl
    · exact off8 q (.tail _ (.tail _ hq))
    · exact o2 q (.tail _ hq) _ (.head _)
end TLawC
section TLawD
open PySem PySem.W PySem.Calls PyProof.Rows PyProof.V PySem.Spec
set_option maxRecDepth 100000
set_option maxHeartbeats 1500000
set_option pp.maxSteps 12000
theorem first_place {α : Type} {x : α} : ∀ {l : List α}, x ∈ l → ∃ j : Nat, l[j]? = some x ∧ ∀ m, m < j → l[m]? ≠ some x
  | y :: l, h => by
    by_cases e : y = x
    · exact ⟨0, by rw [e]; rfl, fun m h => absurd h (Nat.not_lt_zero m)⟩
    · obtain ⟨j, h1, h2⟩ := first_place ((List.mem_cons.mp h).resolve_left fun z => e z.symm)
      refine ⟨j + 1, h1, fun m hm => ?_⟩
      cases m with
      | zero => exact fun z => e (Option.some.inj z)
      | succ m => exact h2 m (by omega)
theorem ints_are {R : List (Addr × Obj)} : ∀ {vs : List Value} {cs : List Nat}, DatAll R vs (cs.map fun n : Nat => .int n) → IntsAre vs (cs.map fun n : Nat => (n : Int))
  | _, [], h => by cases h; exact .nil
  | _, c :: cs, h => by
    cases h with
    | cons h1 h2 =>
      obtain ⟨t, rfl⟩ := int_of_dat h1
      exact .cons _ _ (ints_are h2)
theorem news_drop2 {g h : Heap} {L : Addr} {a b : Addr × Obj} {r : List (Addr × Obj)} (N : News g L h (a :: b :: r)) : News g L h (a :: r) := fun q hq => N q (by
  rcases List.mem_cons.mp hq with rfl | hq
  · exact .head _
  · exact .tail _ (.tail _ hq))
theorem sumN : ∀ cs : List Nat, (cs.map fun n : Nat => (n : Int)).sum = ((cs.sum : Nat) : Int)
  | [] => rfl
  | c :: cs => by rw [List.map_cons, List.sum_cons, List.sum_cons, sumN cs]; rfl


variable {w : World} {p : Program} {loose : List PySem.Str} {mean : ExcName → Option Value} {mg mb : PySem.Str → Option Value} {dp un : Nat} {gd : Option (List Code)} {outer : List Env} {base g : Heap} {L : Addr} {h₁ : Heap} {s : Shared} {tk : Nat} {Q : Flow → Shared → Prop} {E : Value → Shared → Prop} {cdv : Value}
theorem lb0 {news : List (Addr × Obj)} {M Dd k nM : Nat} {ms : List Value} {made : List (List Nat)} {draws : List Nat} {tq : Tok} {u : PySem.Str → Option Value} {A₀ : Around}
    (B : Below A₀ base outer g) (F : Fr g L h₁ (fixM [("made", .ref M), ("draws", .ref Dd), ("k", .int k tq)] u)) (X : (KK w.params).In g) (T : Top p loose mean mg mb g) (N : News g L h₁ news) 
    (hM : (M, listOf ms.toArray nM) ∈ news) (hms : DatAll news ms (made.map codesD)) (hD : DatIn news (.ref Dd) (.list (draws.map fun n : Nat => .int n))) (hk : k < made.length) (hl : made.length ≤ 20) (hcl : ∀ m ∈ made, m.length ≤ 20)
    (cont : ∀ (C : Nat) cs h' tk', Fr g L h' (fun y => if y = "near" then some (.ref C) else fixM [("made", .ref M), ("draws", .ref Dd), ("k", .int k tq)] u y) → News g L h' ((C, listOf cs.toArray 0) :: news) → DatAll [] cs ((made.getD k [] ++ [draws.sum % 13]).map fun n : Nat => .int n) → (∀ q ∈ news, q.1 ≠ C) → Q .next { s with heap := h', toks := tk' }) :
    wpAny (model PR w) (ktrTop (dp + 1) (un + 3) gd "law" sc19 L 244 cdv [("pairs", L + 1)] outer) (exec (wb 0) (envX "law" sc19 L 244 cdv [("pairs", L + 1)])) Q E { s with heap := h₁, toks := tk } := by
  obtain ⟨dvs, dn, hDm, hdv⟩ := dat_list_inv hD
  have hlen : ms.length = made.length := by rw [hms.length, List.length_map]
  with_reducible refine ctx_exec ?_
  intro AA ee
  (with_reducible refine' open_stmt ?oe ?_); (case oe => exact (rfl : wb 0 = Stmt.Assign _ _ _))
  (repeat' ((fail_if_success (with_reducible first | refine sFor ?_ | refine sCal ?_ | refine sSum ?_ | refine sIdx ?_ | refine sIn ?_ | refine sSub ?_ | refine sAdd ?_)); walk_at "w2"))
  refine item_dat N hM hms (by omega) (by rw [List.length_map]; omega) (by rw [List.length_map]; omega) (fun v9 d9' e9 d9 _ => ?_)
  obtain ⟨a, as', na, rfl, ha, hda⟩ := codes_inv e9 d9
  (try dsimp only)
  (repeat' ((fail_if_success (with_reducible first | refine sFor ?_ | refine sCal ?_ | refine sSum ?_ | refine sIdx ?_ | refine sIn ?_ | refine sSub ?_ | refine sAdd ?_)); walk_at "w2"))
  refine sumK rfl F N (News.isList N hDm) (ints_are hdv) fun h2 tk2 t2 F2 N2 => ?_
  clear F N
  rw [sumN]
  (try dsimp only)
  (repeat' ((fail_if_success (with_reducible first | refine sFor ?_ | refine sCal ?_ | refine sSum ?_ | refine sIdx ?_ | refine sIn ?_ | refine sSub ?_ | refine sAdd ?_)); walk_at "w2"))
  (rename Fr _ _ _ _ => F9); (rename News _ _ _ _ => N9); (rename ∀ p ∈ news, p.1 < _ => l9)
  rw [mod13I] at N9
  refine kmk_add_lit F9 N9 (News.isList N9 (.tail _ ha)) (News.isList N9 (.head _)) rfl (fun D h5 F5 N5 lt5 => ?_) ?_
  · simp only [List.toList_toArray] at N5
    dsimp only
    (repeat' ((fail_if_success (with_reducible first | refine sFor ?_ | refine sCal ?_ | refine sSum ?_ | refine sIdx ?_ | refine sIn ?_ | refine sSub ?_ | refine sAdd ?_)); walk_at "w2"))
    (rename Fr _ _ _ _ => F8); (rename News _ _ _ _ => N8)
    refine cont D _ _ _ F8 (news_drop2 N8) ?_ fun q hq => Nat.ne_of_lt (lt5 q (.tail _ hq))
    rw [List.map_append]
    exact (ints_only hda).append (.cons (.int _ _) .nil)
  · have := hda.length
    rw [List.length_map] at this
    have h1 : (made.getD k []).length ≤ 20 := by
      rw [List.getD_eq_getElem?_getD, List.getElem?_eq_getElem hk]; exact hcl _ (List.getElem_mem hk)
    simp only [List.toList_toArray, List.length_cons, List.length_nil, sizeLine_eq]
    omega
theorem lb1 {news : List (Addr × Obj)} {M C k nM : Nat} {ms : List Value} {made : List (List Nat)} {near : List Nat} {tq : Tok} {u : PySem.Str → Option Value}
    (F : Fr g L h₁ (fixM [("made", .ref M), ("near", .ref C), ("k", .int k tq)] u)) (X : (KK w.params).In g) (T : Top p loose mean mg mb g) (N : News g L h₁ news) 
    (hM : (M, listOf ms.toArray nM) ∈ news) (hms : DatAll news ms (made.map codesD)) (hC : DatIn news (.ref C) (codesD near)) (hl : made.length ≤ 20) (hu : un + 100 < cLine)
    (cont : ∀ (j : Nat) t' h' tk', (near ∈ made → made[j]? = some near) → (near ∉ made → j = k) → Fr g L h' (fun y => if y = "home" then some (.int j t') else fixM [("made", .ref M), ("near", .ref C), ("k", .int k tq)] u y) → News g L h' news → Q .next { s with heap := h', toks := tk' }) :
    wpAny (model PR w) (ktrTop (dp + 1) (un + 3) gd "law" sc19 L 244 cdv [("pairs", L + 1)] outer) (exec (wb 1) (envX "law" sc19 L 244 cdv [("pairs", L + 1)])) Q E { s with heap := h₁, toks := tk } := by
  have ok : ∀ d ∈ made.map codesD, kqdOk 8 d = true := fun d hd => by
    obtain ⟨c, _, rfl⟩ := List.mem_map.mp hd
    exact codes_ok c
  with_reducible refine ctx_exec ?_
  intro AA ee
  (with_reducible refine' open_stmt ?oe ?_); (case oe => exact (rfl : wb 1 = Stmt.Assign _ _ _))
  (repeat' ((fail_if_success (with_reducible first | refine sFor ?_ | refine sCal ?_ | refine sSum ?_ | refine sIdx ?_ | refine sIn ?_ | refine sSub ?_ | refine sAdd ?_)); walk_at "w2"))
  refine kqd_isIn N hM rfl rfl hms (fun q hq => hq) hC (fun q hq => hq) ok (codes_ok near) (by show un + 3 + 64 < cLine; omega) ?_
  (try dsimp only)
  (repeat' ((fail_if_success (with_reducible first | refine sFor ?_ | refine sCal ?_ | refine sSum ?_ | refine sIdx ?_ | refine sIn ?_ | refine sSub ?_ | refine sAdd ?_)); walk_at "w2"))
  · (rename decide _ = true => hz)
    simp only [decide_eq_true_eq] at hz
    have hz := codes_mem.mp hz
    obtain ⟨j, h1, h2⟩ := first_place hz
    refine index_dat (j := j) N hM hms (fun q hq => hq) hC (fun q hq => hq) ok (codes_ok near) (by rw [List.getElem?_map, h1]; rfl) (fun m hm e => ?_) (by rw [List.length_map]; omega) (by show un + 3 + 64 < cLine; omega) ?_
    · rw [List.getElem?_map] at e
      obtain ⟨c, e1, e2⟩ := Option.map_eq_some_iff.mp e
      exact h2 m hm (by rw [e1, codesD_inj e2])
    dsimp only
    (repeat' ((fail_if_success (with_reducible first | refine sFor ?_ | refine sCal ?_ | refine sSum ?_ | refine sIdx ?_ | refine sIn ?_ | refine sSub ?_ | refine sAdd ?_)); walk_at "w2"))
    (rename Fr _ _ _ _ => F8); (rename News _ _ _ _ => N8)
    exact cont j _ _ _ (fun _ => h1) (fun h => absurd hz h) F8 N8
  · (rename decide _ = false => hz)
    simp only [decide_eq_false_iff_not] at hz
    have hz : near ∉ made := fun h => hz (codes_mem.mpr h)
    (rename Fr _ _ _ _ => F8); (rename News _ _ _ _ => N8)
    exact cont k _ _ _ (fun h => absurd h hz) (fun _ => rfl) F8 N8
end TLawD
section TLawE
open PySem PySem.W PySem.Calls PyProof.Rows PyProof.V PySem.Spec
set_option maxRecDepth 100000
set_option maxHeartbeats 1500000
set_option pp.maxSteps 12000
noncomputable abbrev EL (M TB LN Dd k : Nat) (tq : Tok) : List (PySem.Str × Value) := [("k", .int k tq), ("line", .ref LN), ("made", .ref M), ("tables", .ref TB), ("draws", .ref Dd)]
/-- what the two loops of the law read -/
structure Reads (w : World) (L : Addr) (news : List (Addr × Obj)) (S : St) (M TB P LN Dd nM nT : Nat) (ms ts : List Value) (oc : Obj) (draws : List Nat) : Prop where
  cell : (L + 1, oc) ∈ news
  coc : oc.data = .cell (some (.ref P))
  mM : (M, listOf ms.toArray nM) ∈ news
  mT : (TB, listOf ts.toArray nT) ∈ news
  hms : DatAll news ms (S.made.map codesD)
  hts : TabsIn w news ts S.tabs
  hl : DatIn news (.ref LN) (.list (S.line.map entryD))
  hp : DatIn news (.ref P) (.list (S.pairs.map pairD))
  hd : DatIn news (.ref Dd) (.list (draws.map fun n : Nat => .int n))
theorem Reads.mono {w : World} {L : Addr} {news news' : List (Addr × Obj)} {S : St} {M TB P LN Dd nM nT : Nat} {ms ts : List Value} {oc : Obj} {draws : List Nat} (h : Reads w L news S M TB P LN Dd nM nT ms ts oc draws) (s : ∀ q ∈ news, q ∈ news') : Reads w L news' S M TB P LN Dd nM nT ms ts oc draws :=
  ⟨s _ h.cell, h.coc, s _ h.mM, s _ h.mT, h.hms.mono s, ⟨h.hts.1, fun i v rows a b => (h.hts.2 i v rows a b).mono s⟩, h.hl.mono s, h.hp.mono s, h.hd.mono s⟩
/-- what is asked of the four lists behind the draws -/
structure EndOk (S : St) : Prop where
  inv : Inv S
  len : S.made.length ≤ 20
  deep : ∀ m ∈ S.made, m.length ≤ 20
  plen : S.pairs.length ≤ 100
  tlen : ∀ t ∈ S.tabs, t.length ≤ 100
  llen : S.line.length ≤ 1000
theorem EndOk.codes {S : St} (h : EndOk S) : ∀ e ∈ S.line, ∀ c ∈ e.1, c < 14 := fun e he c hc => by
  obtain ⟨m, hm, e1⟩ := h.inv.stamps.1 e he
  have hs := h.inv.tree.small m hm
  rcases e1 with e1 | e1 <;> rw [e1] at hc
  · have := hs c hc; omega
  · rcases List.mem_append.mp hc with hc | hc
    · have := hs c hc; omega
    · rw [List.mem_singleton.mp hc]; decide
theorem fr_set2 {g h : Heap} {L : Addr} {m : PySem.Str → Option Value} {full : List (PySem.Str × Value)} {a b : PySem.Str} {v v2 : Value} (F : Fr g L h (fun y => if y = a then some v else if y = b then some v2 else fixM full m y)) : Fr g L h (fixM ((a, v) :: (b, v2) :: full) m) := by
  rw [← fixM_set, ← fixM_set]
  exact F
theorem news_up3 {g h : Heap} {L : Addr} {a b c : Addr × Obj} {R : List (Addr × Obj)} (N : News g L h R) (ha : a ∈ R) (hb : b ∈ R) (hc : c ∈ R) : News g L h (a :: b :: c :: R) := fun q hq => N q (by
  rcases List.mem_cons.mp hq with rfl | hq
  · exact ha
  rcases List.mem_cons.mp hq with rfl | hq
  · exact hb
  rcases List.mem_cons.mp hq with rfl | hq
  · exact hc
  · exact hq)
theorem news_drop3 {g h : Heap} {L : Addr} {d a b c : Addr × Obj} {R : List (Addr × Obj)} (N : News g L h (d :: a :: b :: c :: R)) : News g L h (d :: R) := fun q hq => N q (by
  rcases List.mem_cons.mp hq with rfl | hq
  · exact .head _
  · exact .tail _ (.tail _ (.tail _ (.tail _ hq))))


variable {w : World} {p : Program} {loose : List PySem.Str} {mean : ExcName → Option Value} {mg mb : PySem.Str → Option Value} {dp un : Nat} {gd : Option (List Code)} {outer : List Env} {base g : Heap} {L : Addr} {h₁ : Heap} {s : Shared} {tk : Nat} {Q : Flow → Shared → Prop} {E : Value → Shared → Prop} {cdv : Value}
theorem wturn {news : List (Addr × Obj)} {S : St} {M TB P LN Dd k nM nT C R : Nat} {ms ts : List Value} {oc : Obj} {draws cds : List Nat} {rows : List Row} {tq : Tok} {u : PySem.Str → Option Value}
    (B : Below (aro dp un gd outer) base outer g) (F : Fr g L h₁ (fixM (("rows", .ref R) :: ("codes", .ref C) :: EL M TB LN Dd k tq) u)) (XB : (KK w.params).In base) (TT : Top p loose mean mg mb base) (D : KtsDicts (frs outer) g) (N : News g L h₁ news) 
    (V : Reads w L news S M TB P LN Dd nM nT ms ts oc draws) (ok : EndOk S) (hC : DatIn news (.ref C) (codesD cds)) (hR : DatIn news (.ref R) (.list (rows.map pairD))) (hc : ∀ c ∈ cds, c < 14) (hlen : cds.length ≤ 100) (heq : (toldP S.line cds).map (pairOf S.pairs) = rows) (hrl : rows.length ≤ 1000) (hd : dp + 20 < recursionLimit) (hu : un + 100 < cLine)
    (cont : ∀ O g' ex h' tk', KtsTurn (frs outer) g g' → Below (aro dp un gd outer) base outer g' → KtsDicts (frs outer) g' → Fr g' L h' (fixM (("place", .ref O) :: ("rows", .ref R) :: ("codes", .ref C) :: EL M TB LN Dd k tq) u) → News g' L h' (ex ++ news) → (∀ q ∈ news, ∀ p ∈ ex, q.1 ≠ p.1) → Q .next { s with heap := h', toks := tk' }) :
    wpC (model PR w) (ktrTop (dp + 1) (un + 3) gd "law" sc19 L 244 cdv [("pairs", L + 1)] outer) (execs wcL (envX "law" sc19 L 244 cdv [("pairs", L + 1)])) Q E { s with heap := h₁, toks := tk } := by
  have nd := nodup_told (x := cds) ok.inv.stamps.2
  have tl : (toldP S.line cds).length ≤ 1000 := by
    rw [← heq, List.length_map] at hrl
    exact hrl
  refine wpC_execs_cons (lw0 (codes := cds) (k := k) (tq := tq) B (fr_sub F ?s0) XB TT D N hC hc hlen hd hu fun O g1 ex1 h2 tk2 T1 B1 D1 F1 N1 o1 dO => ?_)
  case s0 => (repeat' (first | exact List.forall_mem_nil _ | (refine List.forall_mem_cons.mpr ⟨by with_unfolding_all rfl, ?_⟩)))
  clear F N
  replace F1 := fr_back F1 (by (repeat' (first | exact List.forall_mem_nil _ | (refine List.forall_mem_cons.mpr ⟨by with_unfolding_all rfl, ?_⟩))))
  dsimp only
  have X1 : (KK w.params).In g1 := XB.keeps B1.stays
  have T1' := TT.keeps B1.stays
  have u1 : ∀ q ∈ news, q ∈ ex1 ++ news := fun q hq => List.mem_append.mpr (.inr hq)
  refine wpC_execs_cons (wpC_any (lw1 (codes := cds) B1 (fr_sub F1 ?s1) X1 T1' N1 (hC.mono u1) hc hlen dO hd hu fun ex2 h3 tk3 F2 N2 o2 => ?_))
  case s1 => (repeat' (first | exact List.forall_mem_nil _ | (refine List.forall_mem_cons.mpr ⟨by with_unfolding_all rfl, ?_⟩)))
  clear F1 N1
  replace F2 := fr_same F2 (by (repeat' (first | exact List.forall_mem_nil _ | (refine List.forall_mem_cons.mpr ⟨by with_unfolding_all rfl, ?_⟩))))
  dsimp only
  have u2 : ∀ q ∈ news, q ∈ ex2 ++ (ex1 ++ news) := fun q hq => List.mem_append.mpr (.inr (u1 q hq))
  have V2 := V.mono u2
  refine wpC_execs_cons (wpC_any (lw2 (es := S.line) (pc := cds) (prs := S.pairs) (rows := rows) B1 (fr_sub F2 ?s2) X1 T1' N2 V2.cell V2.coc ok.codes hc ok.llen V2.hl (dO.mono fun q hq => List.mem_append.mpr (.inr hq)) nd.2 (Nat.le_trans ok.plen (by decide)) tl V2.hp (hR.mono u2) heq ok.inv.rows hd hu fun ex3 h4 tk4 F3 N3 o3 => ?_))
  case s2 => (repeat' (first | exact List.forall_mem_nil _ | (refine List.forall_mem_cons.mpr ⟨by with_unfolding_all rfl, ?_⟩)))
  clear F2 N2
  replace F3 := fr_same F3 (by (repeat' (first | exact List.forall_mem_nil _ | (refine List.forall_mem_cons.mpr ⟨by with_unfolding_all rfl, ?_⟩))))
  dsimp only
  refine wpC_any (wpAny_execs_nil ?_)
  refine cont O g1 (ex3 ++ (ex2 ++ ex1)) h4 tk4 T1 B1 D1 F3 (fun q hq => N3 q (by simpa using hq)) fun q hq p hp => ?_
  rcases List.mem_append.mp hp with hp | hp
  · exact o3 q (u2 q hq) p hp
  rcases List.mem_append.mp hp with hp | hp
  · exact Nat.ne_of_lt (o2 q (u1 q hq) p hp)
  · exact Nat.ne_of_lt (o1 q hq p hp)
theorem tabs_at {w : World} {R : List (Addr × Obj)} {ts : List Value} {tabs : List (List Row)} (h : TabsIn w R ts tabs) {k : Nat} (hk : k < tabs.length) : ∃ v, ts[k]? = some v ∧ TabIn w R v (tabs.getD k []) := by
  have hk' : k < ts.length := by rw [h.1]; exact hk
  refine ⟨ts[k], List.getElem?_eq_getElem hk', h.2 k _ _ (List.getElem?_eq_getElem hk') ?_⟩
  rw [List.getD_eq_getElem?_getD, List.getElem?_eq_getElem hk]
  rfl
noncomputable abbrev tup2 (a b : Value) : Obj := { cls := .type "tuple", data := .seq #[a, b] }
theorem wloop {R : List (Addr × Obj)} {S : St} {M TB P LN Dd k nM nT LL T1 T2 c1 c2 q1 q2 : Nat} {ms ts : List Value} {oc : Obj} {draws x1 x2 : List Nat} {r1 r2 : List Row} {tq : Tok} {u : PySem.Str → Option Value}
    (B : Below (aro dp un gd outer) base outer g) (F : Fr g L h₁ (fixM (EL M TB LN Dd k tq) u)) (XB : (KK w.params).In base) (TT : Top p loose mean mg mb base) (D : KtsDicts (frs outer) g) (N : News g L h₁ R) 
    (V : Reads w L R S M TB P LN Dd nM nT ms ts oc draws) (ok : EndOk S) (hLL : (LL, listOf [Value.ref T1, Value.ref T2].toArray 0) ∈ R) (hT1 : (T1, tup2 (.ref c1) (.ref q1)) ∈ R) (hT2 : (T2, tup2 (.ref c2) (.ref q2)) ∈ R)
    (d1 : DatIn R (.ref c1) (codesD x1)) (d2 : DatIn R (.ref c2) (codesD x2)) (e1 : DatIn R (.ref q1) (.list (r1.map pairD))) (e2 : DatIn R (.ref q2) (.list (r2.map pairD)))
    (hc1 : ∀ c ∈ x1, c < 14) (hc2 : ∀ c ∈ x2, c < 14) (hn1 : x1.length ≤ 100) (hn2 : x2.length ≤ 100) (he1 : (toldP S.line x1).map (pairOf S.pairs) = r1) (he2 : (toldP S.line x2).map (pairOf S.pairs) = r2) (hr1 : r1.length ≤ 1000) (hr2 : r2.length ≤ 1000) (hd : dp + 40 < recursionLimit) (hu : un + 400 < cLine)
    (cont : ∀ g' ex m' h' tk', KtsTurn (frs outer) g g' → Below (aro dp un gd outer) base outer g' → KtsDicts (frs outer) g' → Fr g' L h' m' → (∀ q ∈ EL M TB LN Dd k tq, m' q.1 = some q.2) → News g' L h' (ex ++ R) → (∀ q ∈ R, ∀ p ∈ ex, q.1 ≠ p.1) → Q .next { s with heap := h', toks := tk' }) (hE : PassesOwn (model PR w) (ktrTop (dp + 1) (un + 3) gd "law" sc19 L 244 cdv [("pairs", L + 1)] outer) (envX "law" sc19 L 244 cdv [("pairs", L + 1)]) E)
    {pos pc pr : Pos} :
    wpAny (model PR w) (ktrTop (dp + 1) (un + 3) gd "law" sc19 L 244 cdv [("pairs", L + 1)] outer) (pyIter (.ref LL)) (fun it s₂ => TurnsC PR w (ktrTop (dp + 1) (un + 3) gd "law" sc19 L 244 cdv [("pairs", L + 1)] outer) (envX "law" sc19 L 244 cdv [("pairs", L + 1)]) (.Tuple [.Name "codes" pc, .Name "rows" pr] 0 pos) wcL Q E it s₂) E { s with heap := h₁, toks := tk } := by
  refine for_ledI (fun i g' m nx => KtsTurn (frs outer) g g' ∧ Below (aro dp un gd outer) base outer g' ∧ KtsDicts (frs outer) g' ∧ (∀ q ∈ EL M TB LN Dd k tq, m q.1 = some q.2) ∧ ∃ ex, nx = ex ++ R ∧ ∀ q ∈ R, ∀ p ∈ ex, q.1 ≠ p.1) rfl F N hLL ⟨KtsTurn.refl, B, D, fun q hq => ?_, [], rfl, fun _ _ _ h => absurd h List.not_mem_nil⟩ ?turn ?done hE
  · exact fixM_at ((show ∀ q ∈ EL M TB LN Dd k tq, (EL M TB LN Dd k tq).lookup q.1 = some q.2 from by (repeat' (first | exact List.forall_mem_nil _ | (refine List.forall_mem_cons.mpr ⟨by with_unfolding_all rfl, ?_⟩)))) q hq)
  case done =>
    intro g' m nx h tk' hJ F9 N9
    obtain ⟨T', B', D', he, ex, rfl, off⟩ := hJ
    exact cont g' ex m h tk' T' B' D' F9 he N9 off
  case turn =>
    intro I oI i v g' m nx h tk' hcls hv hJ hax hI hne F9 N9
    refine opaqueTC ?_
    intro RR hR
    obtain ⟨T', B', D', he, ex, rfl, off⟩ := hJ
    obtain ⟨T, c, q, x, r, rfl, hT, dx, dr, hc, hn, heq, hrl⟩ : ∃ (T c q : Nat) (x : List Nat) (r : List Row), v = .ref T ∧ (T, tup2 (.ref c) (.ref q)) ∈ R ∧ DatIn R (.ref c) (codesD x) ∧ DatIn R (.ref q) (.list (r.map pairD)) ∧ (∀ c ∈ x, c < 14) ∧ x.length ≤ 100 ∧ (toldP S.line x).map (pairOf S.pairs) = r ∧ r.length ≤ 1000 := by
      match i, hv with
      | 0, hv => exact ⟨T1, c1, q1, x1, r1, (Option.some.inj hv).symm, hT1, d1, e1, hc1, hn1, he1, hr1⟩
      | 1, hv => exact ⟨T2, c2, q2, x2, r2, (Option.some.inj hv).symm, hT2, d2, e2, hc2, hn2, he2, hr2⟩
      | (n + 2), hv => exact absurd hv (by simp)
    have up : ∀ q ∈ R, q ∈ ex ++ R := fun q hq => List.mem_append.mpr (.inr hq)
    replace N9 : News g' L h ((T, tup2 (.ref c) (.ref q)) :: (I, oI) :: (ex ++ R)) := fun q hq => by
      rcases List.mem_cons.mp hq with rfl | hq
      · exact N9 _ (.tail _ (up _ hT))
      · exact N9 q hq
    have F9' := fr_fix F9 (EL M TB LN Dd k tq) he
    clear F9 F N
    (repeat' ((fail_if_success (with_reducible first | refine sFor ?_ | refine sCal ?_ | refine sSum ?_ | refine sSub ?_ | refine sIte ?_)); walk_at "w2"))
    (rename Fr _ _ _ _ => F8); (rename News _ _ _ _ => N8)
    have up2 : ∀ y ∈ R, y ∈ ((T, tup2 (.ref c) (.ref q)) :: (I, oI) :: (ex ++ R)) := fun y hy => .tail _ (.tail _ (up y hy))
    have F8' := fr_set2 F8
    refine wturn (S := S) (C := c) (R := q) (cds := x) (rows := r) B' F8' XB TT D' N8 (V.mono up2) ok (dx.mono up2) (dr.mono up2) hc hn heq hrl (by omega) (by omega) fun O g2 ex2 h2 tk2 T2 B2 D2 F9 N9 o9 => ?_
    refine hR _ _ ?_; refine unr_endT ((ex2 ++ ex) ++ R) F9 (fun y hy => N9 y ?_) (fun y hy => ?_) ⟨?_, T'.trans T2, B2, D2, ?_, ex2 ++ ex, rfl, fun y hy z hz => ?_⟩
    · rcases List.mem_cons.mp hy with rfl | hy
      · exact List.mem_append.mpr (.inr (.tail _ (.head _)))
      rw [List.append_assoc] at hy
      rcases List.mem_append.mp hy with hy | hy
      · exact List.mem_append.mpr (.inl hy)
      · exact List.mem_append.mpr (.inr (.tail _ (.tail _ hy)))
    · rw [List.append_assoc] at hy
      rcases List.mem_append.mp hy with hy | hy
      · exact (o9 (I, oI) (.tail _ (.head _)) y hy).symm
      · exact hne y hy
    · exact List.mem_append.mpr (.inr hLL)
    · intro y hy
      simp only [EL, List.mem_cons, List.not_mem_nil, or_false] at hy
      rcases hy with rfl | rfl | rfl | rfl | rfl <;> with_unfolding_all rfl
    · rcases List.mem_append.mp hz with hz | hz
      · exact o9 y (up2 y hy) z hz
      · exact off y hy z hz
theorem lb2 {news : List (Addr × Obj)} {S : St} {M TB P LN Dd k j nM nT C : Nat} {ms ts : List Value} {oc : Obj} {draws near : List Nat} {tq tj : Tok} {u : PySem.Str → Option Value}
    (B : Below (aro dp un gd outer) base outer g) (F : Fr g L h₁ (fixM (("home", .int j tj) :: ("near", .ref C) :: EL M TB LN Dd k tq) u)) (XB : (KK w.params).In base) (TT : Top p loose mean mg mb base) (D : KtsDicts (frs outer) g) (N : News g L h₁ news) 
    (V : Reads w L news S M TB P LN Dd nM nT ms ts oc draws) (ok : EndOk S) (hC : DatIn news (.ref C) (codesD near)) (hc : ∀ c ∈ near, c < 14) (hlen : near.length ≤ 100) (hk : k < S.made.length) (hj : j < S.made.length)
    (he1 : (toldP S.line (S.made.getD k [])).map (pairOf S.pairs) = S.tabs.getD k []) (he2 : (toldP S.line near).map (pairOf S.pairs) = S.tabs.getD j []) (hd : dp + 40 < recursionLimit) (hu : un + 400 < cLine)
    (cont : ∀ g' ex m' h' tk', KtsTurn (frs outer) g g' → Below (aro dp un gd outer) base outer g' → KtsDicts (frs outer) g' → Fr g' L h' m' → (∀ q ∈ EL M TB LN Dd k tq, m' q.1 = some q.2) → News g' L h' (ex ++ news) → (∀ q ∈ news, ∀ p ∈ ex, q.1 ≠ p.1) → Q .next { s with heap := h', toks := tk' }) (hE : PassesOwn (model PR w) (ktrTop (dp + 1) (un + 3) gd "law" sc19 L 244 cdv [("pairs", L + 1)] outer) (envX "law" sc19 L 244 cdv [("pairs", L + 1)]) E) :
    wpC (model PR w) (ktrTop (dp + 1) (un + 3) gd "law" sc19 L 244 cdv [("pairs", L + 1)] outer) (exec (wb 2) (envX "law" sc19 L 244 cdv [("pairs", L + 1)])) Q E { s with heap := h₁, toks := tk } := by
  have X : (KK w.params).In g := XB.keeps B.stays
  have T := TT.keeps B.stays
  have hml : ms.length = S.made.length := by rw [V.hms.length, List.length_map]
  have htl := V.hts.1
  obtain ⟨idx, ht, htabs, _⟩ := ok.inv.told
  have htm : S.tabs.length = S.made.length := by rw [htabs, List.length_map, ht.1]
  have hlen20 := ok.len
  obtain ⟨v1, hv1, x1, dx1, l1, kk1, vs1, n1, rfl, a1, a2, a3, dv1⟩ := tabs_at V.hts (k := k) (by omega)
  obtain ⟨v2, hv2, x2, dx2, l2, kk2, vs2, n2, rfl, b1, b2, b3, dv2⟩ := tabs_at V.hts (k := j) (by omega)
  have tab_len : ∀ {k}, k < S.tabs.length → (S.tabs.getD k []).length ≤ 100 := fun hk => by
    rw [List.getD_eq_getElem?_getD, List.getElem?_eq_getElem hk]
    exact ok.tlen _ (List.getElem_mem hk)
  have hl1 : vs1.length ≤ 100 := by rw [dv1.length, List.length_map]; exact tab_len (by omega)
  have hl2 : vs2.length ≤ 100 := by rw [dv2.length, List.length_map]; exact tab_len (by omega)
  refine ctx_execC ?_
  intro AA ee
  refine open_stmtC (rfl : wb 2 = Stmt.For _ _ wcL _ _) (For_turnsC ?_)
  (repeat' ((fail_if_success (with_reducible first | refine sFor ?_ | refine sCal ?_ | refine sSum ?_ | refine sSub ?_ | refine sIte ?_)); walk_at "w2"))
  refine item_dat N V.mM V.hms (by omega) (by rw [List.length_map]; omega) (by rw [List.length_map]; omega) (fun v9 d9' e9 d9 _ => ?_)
  obtain ⟨a, as', na, rfl, ha, hda⟩ := codes_inv e9 d9
  (try dsimp only)
  (repeat' ((fail_if_success (with_reducible first | refine sFor ?_ | refine sCal ?_ | refine sSum ?_ | refine sSub ?_ | refine sIte ?_)); walk_at "w2"))
  refine item_listL (N.isList V.mT) (Int.natCast_nonneg k) (by omega) (by rw [Int.toNat_natCast]; exact hv1) ?_
  have N0 := news_up3 N a1 a2 a3
  (repeat' ((fail_if_success (with_reducible first | refine sFor ?_ | refine sCal ?_ | refine sSum ?_ | refine sSub ?_ | refine sIte ?_)); walk_at "w2"))
  refine wpAny_call (items_ok w x1 dx1 l1 n1 kk1 vs1 news (by omega) p loose mean mg mb _ _ gd _ outer _ base g L _ _ _ B F X N0 T rfl rfl (by omega) (by omega) fun r all h2 tk2 F2 N2 ho => ?_)
  obtain ⟨q1, rfl, rfl, lt1⟩ := ho
  have lt1 := ktn_ltOf lt1
  replace N2 := news_drop3 N2
  replace lt1 : ∀ q ∈ news, q.1 < q1 := fun q hq => lt1 q (.tail _ (.tail _ (.tail _ hq)))
  clear N N0 F
  dsimp only
  (repeat' ((fail_if_success (with_reducible first | refine sFor ?_ | refine sCal ?_ | refine sSum ?_ | refine sSub ?_ | refine sIte ?_)); walk_at "w2"))
  (rename Fr _ _ _ _ => F3); (rename News _ _ _ _ => N3)
  refine item_listL (N3.isList (.tail _ (.tail _ V.mT))) (Int.natCast_nonneg j) (by omega) (by rw [Int.toNat_natCast]; exact hv2) ?_
  have N0 := news_up3 N3 (.tail _ (.tail _ b1)) (.tail _ (.tail _ b2)) (.tail _ (.tail _ b3))
  (repeat' ((fail_if_success (with_reducible first | refine sFor ?_ | refine sCal ?_ | refine sSum ?_ | refine sSub ?_ | refine sIte ?_)); walk_at "w2"))
  refine wpAny_call (items_ok w x2 dx2 l2 n2 kk2 vs2 _ (by omega) p loose mean mg mb _ _ gd _ outer _ base g L _ _ _ B F3 X N0 T rfl rfl (by omega) (by omega) fun r all h4 tk4 F4 N4 ho => ?_)
  obtain ⟨q2, rfl, rfl, lt2⟩ := ho
  have lt2 := ktn_ltOf lt2
  replace N4 := news_drop3 N4
  replace lt2 : ∀ q ∈ (_ :: _ :: news), q.1 < q2 := fun q hq => lt2 q (.tail _ (.tail _ (.tail _ hq)))
  clear N3 N0 F3
  dsimp only
  (repeat' ((fail_if_success (with_reducible first | refine sFor ?_ | refine sCal ?_ | refine sSum ?_ | refine sSub ?_ | refine sIte ?_)); walk_at "w2"))
  (rename Fr _ _ _ _ => F5); (rename News _ _ _ _ => N5); (rename _ ∧ _ ∧ _ ∧ _ ∧ AllLt _ news => l5); (rename _ ∧ _ ∧ _ ∧ AllLt _ news => l4); (rename _ ∧ AllLt _ news => l3)
  have up : ∀ {a b c d e : Addr × Obj}, ∀ q ∈ news, q ∈ (a :: b :: c :: d :: e :: news) := fun q hq => .tail _ (.tail _ (.tail _ (.tail _ (.tail _ hq))))
  have hbm : S.made.getD k [] ∈ S.made := by rw [List.getD_eq_getElem?_getD, List.getElem?_eq_getElem hk]; exact List.getElem_mem hk
  refine wloop (S := S) (k := k) (tq := tq) (x1 := S.made.getD k []) (x2 := near) (r1 := S.tabs.getD k []) (r2 := S.tabs.getD j []) B (fr_sub F5 ?fr) XB TT D N5 (V.mono up) ok (.head _) (.tail _ (.tail _ (.tail _ (.head _)))) (.tail _ (.head _)) (.list (up _ ha) (ints_only hda)) (hC.mono up) (.list (.tail _ (.tail _ (.tail _ (.tail _ (.head _))))) (dv1.mono up)) (.list (.tail _ (.tail _ (.head _))) (dv2.mono up))
    (fun c h => Nat.lt_of_lt_of_le (ok.inv.tree.small _ hbm c h) (by decide)) hc (Nat.le_trans (ok.deep _ hbm) (by decide)) hlen he1 he2 (Nat.le_trans (tab_len (by omega)) (by decide)) (Nat.le_trans (tab_len (by omega)) (by decide)) hd hu (fun g' ex m' h' tk' T' B' D' F9 he N9 o9 => ?_) hE
  case fr => (repeat' (first | exact List.forall_mem_nil _ | (refine List.forall_mem_cons.mpr ⟨by with_unfolding_all rfl, ?_⟩)))
  refine cont g' (ex ++ [_, _, _, _, _]) m' h' tk' T' B' D' F9 he (fun q hq => N9 q (by simpa using hq)) fun q hq p hp => ?_
  rcases List.mem_append.mp hp with hp | hp
  · exact o9 q (up q hq) p hp
  simp only [List.mem_cons, List.not_mem_nil, or_false] at hp
  rcases hp with rfl | rfl | rfl | rfl | rfl
  · exact Nat.ne_of_lt (ktn_ltOf l5.2.2.2.2 q hq)
  · exact Nat.ne_of_lt (ktn_ltOf l4.2.2.2 q hq)
  · exact Nat.ne_of_lt (lt2 q (.tail _ (.tail _ hq)))
  · exact Nat.ne_of_lt (ktn_ltOf l3.2 q hq)
  · exact Nat.ne_of_lt (lt1 q hq)
end TLawE
section TLawF
open PySem PySem.W PySem.Calls PyProof.Rows PyProof.V PySem.Spec
set_option maxRecDepth 100000
set_option maxHeartbeats 1500000
/-- where a loop over a range stands -/
structure RngAt (L I n : Nat) (J : Nat → Heap → (PySem.Str → Option Value) → List (Addr × Obj) → Prop) (s : Shared) (k : Nat) (s' : Shared) (h' : Heap) (tk i : Nat) (g : Heap) (m : PySem.Str → Option Value) (nx : List (Addr × Obj)) : Prop where
  e : s' = { s with heap := h', toks := tk }
  it : IsRangeIter h' I (0 + (i : Nat) * 1) ((n : Int) - (i : Nat)) 1
  F : Fr g L h' m
  N : News g L h' nx
  off : ∀ p ∈ nx, p.1 ≠ I
  new : g.get? I = none
  j : J i g m nx
  le : i ≤ n
  meas : k = n + 1 - i
noncomputable def RngInv (L I n : Nat) (J : Nat → Heap → (PySem.Str → Option Value) → List (Addr × Obj) → Prop) (s : Shared) (k : Nat) (s' : Shared) : Prop := ∃ h' tk i g m nx, RngAt L I n J s k s' h' tk i g m nx
section
variable {prog : Program} {w : World} {A : Around} {E : Value → Shared → Prop} {s : Shared} {env : Env} {body : List Stmt} {Q : Flow → Shared → Prop}
/-- a loop over a range, when the ground itself may be turned -/
theorem for_rangeI {r n : Nat} {t u v : Tok} {x : PySem.Str} {px : Pos} {m₀ : PySem.Str → Option Value} {news : List (Addr × Obj)} {g₀ : Heap} (J : Nat → Heap → (PySem.Str → Option Value) → List (Addr × Obj) → Prop)
    (hh : A.handled = none) (F : Fr g₀ env.locals s.heap m₀) (N : News g₀ env.locals s.heap news) (hr : IsRange s.heap r 0 (n : Nat) 1 t u v) (hsm : Builtin.Range.small 0 (n : Nat) 1 = true) (hn : Builtin.Range.rangeSize 0 (n : Nat) 1 = ((n : Nat) : Int)) (hj : J 0 g₀ m₀ news)
    (turn : ∀ I oI i t g m nx h tk, i < n → (oI : Obj).cls = .type "range_iterator" → J i g m nx → (∀ p ∈ news, p.1 < I) → (∀ p ∈ nx, p.1 ≠ I) → Fr g env.locals h m → News g env.locals h ((I, oI) :: nx) →
      wpAny (model prog w) A (assign (.Name x px) env (.int (i : Nat) t)) (fun _ s₂ => wpC (model prog w) A (execs body env)
        (UnrPostT env.locals { s with heap := h, toks := tk } I oI (fun g' m' nx' => J (i + 1) g' m' nx') Q) E s₂) E { s with heap := h, toks := tk })
    (done : ∀ g m nx h tk, J n g m nx → Fr g env.locals h m → News g env.locals h nx → Q .next { s with heap := h, toks := tk })
    (hE : PassesOwn (model prog w) A env E) :
    wpAny (model prog w) A (pyIter (.ref r)) (fun it s₂ => TurnsC prog w A env (.Name x px) body Q E it s₂) E s := by
  refine wpAny_pyIter_range hr hsm ?_
  generalize hI : s.heap.objs.size = I
  have hnI : ∀ p ∈ news, p.1 < I := fun p hp => hI ▸ Heap.lt_size (N p hp).1
  have hLI : env.locals ≠ I := hI ▸ Nat.ne_of_lt F.ns.lt
  have W := LCg.range_walks (prog := prog) (w := w) (A := A) (I := I) hh 0 n
  unfold TurnsC
  refine codeC_forLoop_any (RngInv env.locals I n J s) ?_ (n + 1) ⟨_, _, 0, g₀, m₀, news, ⟨rfl, (by
      show IsRangeIter _ _ _ _ _
      rw [hn]
      exact hI ▸ (by simpa using Heap.get?_push_size _ rfl)), F.push _, fun p hp => ⟨Heap.get?_push_of_some _ (N p hp).1, (N p hp).2⟩, fun p hp => Nat.ne_of_lt (hnI p hp), hI ▸ next_is_new F, hj, Nat.zero_le _, rfl⟩⟩
  rintro k s' ⟨h', tk, i, g, m, nx, P⟩
  obtain rfl := P.e
  obtain rfl := P.meas
  have next : ∀ h₁ : Heap, (∀ b o, b ∉ [I] → h'.get? b = some o → h₁.get? b = some o) → Fr g env.locals h₁ m ∧ News g env.locals h₁ nx := fun h₁ hk₁ =>
    ⟨⟨P.F.ns.at' fun o e => hk₁ _ o (fun q => hLI (List.mem_singleton.mp q)) e, fun b o e => hk₁ b o (fun q => by rw [List.mem_singleton.mp q, P.new] at e; cases e) (P.F.keep b o e), P.F.above⟩, fun p hp => ⟨hk₁ _ _ (fun q => P.off p hp (List.mem_singleton.mp q)) (P.N p hp).1, (P.N p hp).2⟩⟩
  by_cases hlt' : i < n
  · refine W.item i _ _ _ hlt' P.it fun v h₁ tk₁ hv hst₁ hk₁ => ?_
    refine wpAny_pure ?_
    obtain ⟨F₁, N₁⟩ := next h₁ hk₁
    obtain ⟨t₁, rfl⟩ := hv
    obtain ⟨oI, hoI, hoc, hback⟩ : ∃ oI : Obj, h₁.get? I = some oI ∧ oI.cls = .type "range_iterator" ∧ ∀ h : Heap, h.get? I = some oI → IsRangeIter h I (0 + ((i + 1 : Nat) : Int) * 1) ((n : Int) - ((i + 1 : Nat) : Int)) 1 := ⟨_, hst₁, rfl, fun _ e => e⟩
    rw [Int.zero_add]
    have N₂ : News g env.locals h₁ ((I, oI) :: nx) := fun p hp => by
      rcases List.mem_cons.mp hp with rfl | hp
      · exact ⟨hoI, Ne.symm hLI, P.new⟩
      · exact N₁ p hp
    have hlt2 : n + 1 - (i + 1) < n + 1 - i := by omega
    refine wpAny_mono (turn I oI i t₁ g m nx h₁ tk₁ hlt' hoc P.j hnI P.off F₁ N₂) (fun _ s₂ h₂ => wpC_mono (wpC_passesOwn hE h₂) (fun f s₃ h₃ => ?_) fun _ _ x => x) hE
    have fin : UnrEndT env.locals { s with heap := h₁, toks := tk₁ } I oI (fun g' m' nx' => J (i + 1) g' m' nx') s₃ → ∃ m_1, m_1 < n + 1 - i ∧ RngInv env.locals I n J s m_1 s₃ := by
      rintro ⟨g', hp₃, tk₃, m', nx', rfl, F₃, N₃, off, hJ₃⟩
      exact ⟨_, hlt2, hp₃, tk₃, i + 1, g', m', nx', ⟨rfl, hback _ (N₃ _ (.head _)).1, F₃, fun p hp => N₃ p (.tail _ hp), off, (N₃ _ (.head _)).2.2, hJ₃, hlt', rfl⟩⟩
    cases f with
    | ret v => exact h₃
    | brk => exact h₃
    | next => exact fin h₃
    | cont => exact fin h₃
  · have hin : i = n := Nat.le_antisymm P.le (Nat.not_lt.mp hlt')
    subst hin
    refine W.done _ _ _ P.it fun h₁ tk₁ hk₁ => ?_
    obtain ⟨F₁, N₁⟩ := next h₁ hk₁
    exact done g m nx h₁ tk₁ P.j F₁ N₁
end
end TLawF
section TLawG
open PySem PySem.W PySem.Calls PyProof.Rows PyProof.V PySem.Spec
set_option maxRecDepth 100000
set_option maxHeartbeats 1500000
set_option pp.maxSteps 12000
theorem enter_law0 {w : World} {p : Program} {loose : List PySem.Str} {mean : ExcName → Option Value} {mg mb : PySem.Str → Option Value} {s : Shared} {sa : Addr} {R : Result → Shared → Prop} {dV kV doc pm ct oc' : Value} {an od : Option Addr} {osl : Array (Option Value)} (X : (KK w.params).In s.heap) (T : Top p loose mean mg mb s.heap)
    (ho : (KK w.params).lookup 244 = some ⟨oc', od, .func (fnOf "law" "law" ar19 bd19 sc19 dV kV doc pm an (.ref 243) ct), osl⟩) (hcd : codeIn (KK w.params) (.ref 243) "law" = true) (hbind : BindsTo s (fnOf "law" "law" ar19 bd19 sc19 dV kV doc pm an (.ref 243) ct) ⟨[.ref sa], []⟩ [("script", .ref sa)])
    (h : ∀ h₁ tk oc v0, Fr s.heap s.heap.objs.size h₁ (fun y => if y = "script" then some (.ref sa) else none) → News s.heap s.heap.objs.size h₁ [(s.heap.objs.size + 1, oc)] → (oc : Obj).data = .cell v0 →
      wpC (model PR w) (ktrTop (1 + claimMargin + 1) (4 + 3) (some []) "law" sc19 s.heap.objs.size 244 (.ref 243) [("pairs", s.heap.objs.size + 1)] []) (execs bd19 (envX "law" sc19 s.heap.objs.size 244 (.ref 243) [("pairs", s.heap.objs.size + 1)]))
        (fun f s' => R (.ok (.ret (match f with | .ret v => v | _ => .none))) s') (fun _ _ => False) { s with heap := h₁, toks := tk }) :
    codeC (model PR w) callerA (.call (.ref 244) ⟨[.ref sa], []⟩) R s := by
  refine codeC_call_function (o := ⟨oc', od, .func (fnOf "law" "law" ar19 bd19 sc19 dV kV doc pm an (.ref 243) ct), osl⟩) (fd := fnOf "law" "law" ar19 bd19 sc19 dV kV doc pm an (.ref 243) ct) (body := bd19) ?a1 ?a2 ?a3 ?a4 ?a5 ?a6 ?a7 ?a8
  case a1 => decide +kernel
  case a2 => exact X 244 _ ho
  case a3 => exact rfl
  case a4 => exact rfl
  case a5 => exact rfl
  case a6 => exact rfl
  case a7 => exact codeRec_of X hcd
  refine hbind _ _ _ _ ?_
  refine wpAny_newFunctionEnv_cells rfl (fun x hx => .inl (by rw [List.mem_singleton.mp hx]; rfl)) fun env' he s' x => ?_
  subst he
  refine ⟨T.nolimit.keeps x.toInCall.keep, codeC_func ?_⟩
  obtain ⟨h₁, tk, rfl, _⟩ := x.done
  have hk₁ := x.toInCall.keep
  have hcell := x.cell "pairs" (s.heap.objs.size + 1) rfl
  obtain ⟨oc, hoc, hod⟩ := hcell
  have F : Fr s.heap s.heap.objs.size h₁ (fun y => if y = "script" then some (.ref sa) else none) := ⟨x.toInCall.ns, hk₁, Nat.le_refl _⟩
  refine wpC_mono (h h₁ tk oc _ F (fun q hq => ?_) hod) (fun f s' hr => hr) fun _ _ z => z.elim
  rw [List.mem_singleton.mp hq]
  refine ⟨hoc, Nat.succ_ne_self _, ?_⟩
  cases e : s.heap.get? (s.heap.objs.size + 1) with
  | none => rfl
  | some o => exact absurd (Heap.lt_size e) (Nat.not_lt.mpr (Nat.le_succ _))
/-- the law's frame is laid, its cell at hand -/
theorem enter_law {w : World} {p : Program} {loose : List PySem.Str} {mean : ExcName → Option Value} {mg mb : PySem.Str → Option Value} {s : Shared} {sa : Addr} {R : Result → Shared → Prop} (X : (KK w.params).In s.heap) (T : Top p loose mean mg mb s.heap)
    (h : ∀ h₁ tk oc v0, Fr s.heap s.heap.objs.size h₁ (fun y => if y = "script" then some (.ref sa) else none) → News s.heap s.heap.objs.size h₁ [(s.heap.objs.size + 1, oc)] → (oc : Obj).data = .cell v0 →
      wpC (model PR w) (ktrTop (1 + claimMargin + 1) (4 + 3) (some []) "law" sc19 s.heap.objs.size 244 (.ref 243) [("pairs", s.heap.objs.size + 1)] []) (execs bd19 (envX "law" sc19 s.heap.objs.size 244 (.ref 243) [("pairs", s.heap.objs.size + 1)]))
        (fun f s' => R (.ok (.ret (match f with | .ret v => v | _ => .none))) s') (fun _ _ => False) { s with heap := h₁, toks := tk }) :
    codeC (model PR w) callerA (.call (.ref 244) ⟨[.ref sa], []⟩) R s := by
  refine' enter_law0 X T ?ho ?hcd ?hb ?h
  case ho => k_is
  case hcd => k_is
  case hb => exact BindsTo.of_eq rfl
  case h => exact h
/-- the law's end: the whole of its base stands as it stood -/
theorem law_end {s₀ s₁ : Shared} {xs : List Int} {h : Heap} {tk : Nat} (hk : ∀ b o, s₁.heap.get? b = some o → h.get? b = some o) (hg : s₁.gens = #[]) :
    GoodWG rW.claim (classAt s₀.heap) (ExcName.means s₀.heap) [ofPy (PyData.list (xs.map PyData.int))] s₁ (.ok (.ret (.bool true))) { s₁ with heap := h, toks := tk } := by
  refine ⟨.inl ⟨.bool true, ofPy (.bool true), [], rfl, raisesW_false (by wrow_none_raised), readsW_of_reads (Reads.bool true), postW_of (by wrow_shape) (by wtm_val) (by w_fin), unshared_nil⟩, .of_keep hk, rfl, .of_eq hg⟩
theorem law_walk (hb : ∀ (w : World) (p : Program) (loose : List PySem.Str) (mean : ExcName → Option Value) (mg mb : PySem.Str → Option Value) (s : Shared) (sa : Nat) (vs : List Value) (ns : List Int), (KK w.params).In s.heap → Top p loose mean mg mb s.heap → IntsAre vs ns → vs.length ≤ 10000000 → s.heap.IsList sa vs.toArray →
    codeC (model PR w) callerA (.call (.ref 244) ⟨[.ref sa], []⟩) (fun r s' => r = .ok (.ret (.bool true)) ∧ ∃ h tk, s' = { s with heap := h, toks := tk } ∧ ∀ b o, s.heap.get? b = some o → h.get? b = some o) s) : WalkLaw := by
  intro w s₀ s₁ mg mb G Y fa o pm cd doc dV kV ho hd hcd hmg hgens args vals as hpre hlay hrd hwl
  have KX := kIn_of Y
  refine Ground.open G ?_
  intro T B D TE TW
  have e244 : fa = 244 := by
    have h1 : mg dLaw.name = some (.ref 244) := mg_of (n := "law") (v := .ref 244) KX T.g (by k_is)
    rw [hmg] at h1
    exact Value.ref.inj (Option.some.inj h1)
  subst e244
  have hsh := (pre_splitW hpre).1
  have hcond := (pre_splitW hpre).2
  wrow_hasAll hsh hlay
  have hc := readsAllW_cons_inv hrd
  obtain ⟨v, vs', b, bs, he, ha, r1, hr⟩ := hc
  subst he
  have he := (readsAllW_nil_inv hr).1
  subst he
  have r0 := reads_of_readsW _ r1
  obtain ⟨sa, vs, as', he, -, hL, ra⟩ := reads_list_items r0
  subst he
  obtain ⟨hI, -⟩ := readsAll_intsAre ra
  (rename PyData.layable0 _ = true => hlay)
  have hlen := len_ints_list hlay
  refine wpC_call (codeC_mono (hb w _ _ _ mg mb s₁ sa vs _ KX T hI (by rw [hI.length]; omega) hL) fun r s' hq => ?_)
  obtain ⟨rfl, h, tk, rfl, hk⟩ := hq
  exact law_end hk hgens
end TLawG
section TLawH
open PySem PySem.W PySem.Calls PyProof.Rows PyProof.V PySem.Spec
set_option maxRecDepth 100000
set_option maxHeartbeats 1500000
set_option pp.maxSteps 12000


variable {w : World} {p : Program} {loose : List PySem.Str} {mean : ExcName → Option Value} {mg mb : PySem.Str → Option Value} {dp un : Nat} {gd : Option (List Code)} {outer : List Env} {base g : Heap} {L : Addr} {h₁ : Heap} {s : Shared} {tk : Nat} {Q : Flow → Shared → Prop} {E : Value → Shared → Prop} {cdv : Value}
theorem ints_at {vs : List Value} {ns : List Int} (h : IntsAre vs ns) : ∀ {i : Nat} {v : Value}, vs[i]? = some v → ∃ z t, v = .int z t ∧ ns[i]? = some z := by
  induction h with
  | nil => intro i v h; simp at h
  | cons n t r ih =>
    intro i v h
    cases i with
    | zero => exact ⟨n, t, (Option.some.inj h).symm, rfl⟩
    | succ i => exact ih h
theorem ints_take : ∀ {vs : List Value} {ns : List Int} (k : Nat), IntsAre vs ns → IntsAre (vs.take k) (ns.take k)
  | _, _, 0, _ => .nil
  | _, _, k + 1, .nil => .nil
  | _, _, k + 1, .cons n t r => .cons n t (ints_take k r)
noncomputable def drawOf (x : Int) : Nat := (x.fmod (10 ^ 7)).toNat
theorem drawOf_int (x : Int) : x.fmod (10 ^ Int.toNat 7) = ((drawOf x : Nat) : Int) := (Int.toNat_of_nonneg (Int.fmod_nonneg_of_pos x (by decide))).symm
noncomputable abbrev fixedI : List Int := [4101010, 1010108, 2003101, 3222211, 11111, 4300500]
theorem fixed_draw : fixedI.map drawOf = fixedL := by decide +kernel
theorem ls0 {news : List (Addr × Obj)} {sa : Nat} {vs : List Value} {ns : List Int} {A₀ : Around}
    (B : Below A₀ base outer g) (F : Fr g L h₁ (fun y => if y = "script" then some (.ref sa) else none)) (X : (KK w.params).In g) (T : Top p loose mean mg mb g) (N : News g L h₁ news) (hI : IntsAre vs ns) (hlen : vs.length ≤ 10000000) (hL : g.IsList sa vs.toArray)
    (cont : ∀ (Dd : Nat) ds n h' tk', Fr g L h' (fun y => if y = "draws" then some (.ref Dd) else if y = "script" then some (.ref sa) else none) → News g L h' ((Dd, listOf ds.toArray n) :: news) → (∀ q ∈ news, q.1 ≠ Dd) → DatAll [] ds ((fixedL ++ (ns.take 4).map drawOf).map fun n : Nat => .int n) → Q .next { s with heap := h', toks := tk' }) :
    wpAny (model PR w) (ktrTop (dp + 1) (un + 3) gd "law" sc19 L 244 cdv [("pairs", L + 1)] outer) (exec s19_0 (envX "law" sc19 L 244 cdv [("pairs", L + 1)])) Q E { s with heap := h₁, toks := tk } := by
  with_reducible refine ctx_exec ?_
  intro AA ee
  (with_reducible refine' open_stmt ?oe ?_); (case oe => exact (rfl : s19_0 = Stmt.Assign _ _ _))
  refine LCg.Assign_ListComp_U (F₀ := F) (by rfl) (by with_unfolding_all rfl) (by with_unfolding_all rfl) (by decide) (by rfl) (by decide) (by rfl) (by rfl) (by rfl) ?_
  (repeat' ((fail_if_success (with_reducible first | refine sFor ?_ | refine sCal ?_ | refine sAdd ?_ | refine sSub ?_ | refine sIte ?_ | refine sEq ?_)); walk_at "w2"))
  (rename Fr _ _ _ _ => F1); (rename News _ _ _ _ => N1)
  refine kmk_slice (lo := none) (hi := some 4) F1 N1 (hL.at fun o e => F1.keep _ o e) IsPart.none (IsPart.int _ _) (fun D h2 F2 N2 l2 => ?_) (by with_unfolding_all rfl) (by intro _; with_unfolding_all rfl) (by rw [sizeLine_eq, List.size_toArray]; omega)
  rw [show (4 : Int) = ((4 : Nat) : Int) from rfl, slicePick_upto'] at N2
  clear F1 N1
  dsimp only
  (repeat' ((fail_if_success (with_reducible first | refine sFor ?_ | refine sCal ?_ | refine sAdd ?_ | refine sSub ?_ | refine sIte ?_ | refine sEq ?_)); walk_at "w2"))
  refine kmk_add_lit F2 N2 (News.isList N2 (.tail _ (.head _))) (News.isList N2 (.head _)) rfl (fun D5 h5 F5 N5 lt5 => ?_) ?_
  · simp only [List.toList_toArray] at N5
    clear F2 N2
    dsimp only
    have hz := IntsAre.append (IntsAre.cons 4101010 tk (.cons 1010108 (tk + 1) (.cons 2003101 (tk + 1 + 1) (.cons 3222211 (tk + 1 + 1 + 1) (.cons 11111 (tk + 1 + 1 + 1 + 1) (.cons 4300500 (tk + 1 + 1 + 1 + 1 + 1) .nil)))))) (ints_take 4 hI)
    change IntsAre _ (fixedI ++ ns.take 4) at hz
    have hzl : (fixedI ++ ns.take 4).length ≤ 10 := by rw [List.length_append, List.length_take]; show 6 + _ ≤ 10; omega
    have hzd : (fixedI ++ ns.take 4).map drawOf = fixedL ++ (ns.take 4).map drawOf := by rw [List.map_append, fixed_draw]
    generalize hzs : fixedI ++ ns.take 4 = zs at hz hzl hzd
    generalize hcv : _ ++ List.take 4 vs = cv at N5 hz
    have hcl := hz.length
    refine LCg.CompSrc.ledger rfl F5 N5 (.head _) (by rw [sizeLine_eq, List.size_toArray]; omega) fun g' => ?_
    rw [List.size_toArray, hcl]
    refine compU_ind (fun i ys => DatAll [] ys (((zs.take i).map drawOf).map fun n : Nat => .int n)) .nil ?_ ?_
    case refine_2 =>
      intro i ys v I oI C oC Dn m₂ h' tk' E' hi hys hv hC hx F' N' off ne
      refine opaqueE ?_
      intro RR hR
      clear F5 N5
      simp only [List.getElem?_toArray] at hv
      obtain ⟨z, t, rfl, hnb⟩ := ints_at hz hv
      (repeat' ((fail_if_success (with_reducible first | refine sFor ?_ | refine sCal ?_ | refine sAdd ?_ | refine sSub ?_ | refine sIte ?_ | refine sEq ?_)); walk_at "w2"))
      have e2 := take_snoc hnb
      refine hR _ _ ?_; refine comp_end (J := fun y => DatAll [] (ys ++ [y]) _) F' N' off (.inr ⟨_, .head _, rfl, _, rfl⟩) ?_
      rw [e2, List.map_append, List.map_append, drawOf_int]
      exact hys.append (.cons (.int _ _) .nil)
    intro ys hys
    rw [List.take_length, hzd] at hys
    intro D0 h9 tk9 F9 N9 off9
    have off8 := off1_ne off9
    refine cont D0 ys ys.length h9 _ F9 (fun q hq => N9 q ?_) (fun q hq => off8 q (.tail _ (.tail _ (.tail _ hq)))) hys
    rcases List.mem_cons.mp hq with rfl | hq
    · exact .head _
    · exact .tail _ (.tail _ (.tail _ (.tail _ hq)))
  · simp only [List.length_cons, List.length_nil, List.length_take, sizeLine_eq]
    omega
end TLawH
section TLawI
open PySem PySem.W PySem.Calls PyProof.Rows PyProof.V PySem.Spec
set_option maxRecDepth 100000
set_option maxHeartbeats 1500000
set_option pp.maxSteps 12000
section
variable {news news' : List (Addr × Obj)}
/-- no datum leans on a cell -/
theorem dat_off_all (hs : ∀ p ∈ news, p ∈ news' ∨ ∃ c, p.2.data = .cell c) {vs : List Value} {ds : List Dat} (h : DatAll news vs ds) : DatAll news' vs ds :=
  DatAll.rec (motive_1 := fun v d _ => DatIn news' v d) (motive_2 := fun vs ds _ => DatAll news' vs ds) .none .bool .int .str .bytes (fun h _ r => .tuple ((hs _ h).elim id fun ⟨_, e⟩ => by cases e) r) (fun h _ r => .list ((hs _ h).elim id fun ⟨_, e⟩ => by cases e) r) .nil (fun _ _ a b => .cons a b) h
theorem tabs_off {w : World} {ts : List Value} {tabs : List (List Row)} (hs : ∀ p ∈ news, p ∈ news' ∨ ∃ c, p.2.data = .cell c) (h : TabsIn w news ts tabs) : TabsIn w news' ts tabs := by
  refine ⟨h.1, fun i v rows a b => ?_⟩
  obtain ⟨x, dx, l, k, vs, n, rfl, a1, a2, a3, d⟩ := h.2 i v rows a b
  exact ⟨x, dx, l, k, vs, n, rfl, ((hs _ a1).elim id fun ⟨_, e⟩ => by cases e), ((hs _ a2).elim id fun ⟨_, e⟩ => by cases e), ((hs _ a3).elim id fun ⟨_, e⟩ => by cases e), dat_off_all hs d⟩
end


variable {w : World} {p : Program} {loose : List PySem.Str} {mean : ExcName → Option Value} {mg mb : PySem.Str → Option Value} {dp un : Nat} {gd : Option (List Code)} {outer : List Env} {base g : Heap} {L : Addr} {h₁ : Heap} {s : Shared} {tk : Nat} {Q : Flow → Shared → Prop} {E : Value → Shared → Prop} {cdv : Value}
theorem ls1 {Dd nD : Nat} {ds : List Value} {draws : List Nat} {oc : Obj} {v0 : Option Value} {u : PySem.Str → Option Value}
    (B : Below (aro dp un gd outer) base outer g) (F : Fr g L h₁ (fixM [("draws", .ref Dd)] u)) (XB : (KK w.params).In base) (TT : Top p loose mean mg mb base) (D : KtsDicts (frs outer) g) (N : News g L h₁ [(Dd, listOf ds.toArray nD), (L + 1, oc)]) (hoc : oc.data = .cell v0) (hDL : Dd ≠ L + 1)
    (hds : DatAll [] ds (draws.map fun n : Nat => .int n)) (hl : draws.length ≤ 100) (ok : ∀ i n, draws[i]? = some n → StepOk (stAt draws i) n) (hd : dp + 60 < recursionLimit) (hu : un + 500 < cLine)
    (cont : ∀ (oc' : Obj) (M TB P LN nM nT : Nat) ms ts g' nx h' tk', KtsTurn (frs outer) g g' → Below (aro dp un gd outer) base outer g' → KtsDicts (frs outer) g' → Fr g' L h' (fun y => if y = "line" then some (.ref LN) else if y = "tables" then some (.ref TB) else if y = "made" then some (.ref M) else fixM [("draws", .ref Dd)] u y) → News g' L h' nx →
      Reads w L nx (stAt draws draws.length) M TB P LN Dd nM nT ms ts oc' draws → Q .next { s with heap := h', toks := tk' }) :
    wpC (model PR w) (ktrTop (dp + 1) (un + 3) gd "law" sc19 L 244 cdv [("pairs", L + 1)] outer) (exec s19_1 (envX "law" sc19 L 244 cdv [("pairs", L + 1)])) Q E { s with heap := h₁, toks := tk } := by
  have X : (KK w.params).In g := XB.keeps B.stays
  have T := TT.keeps B.stays
  refine ctx_execC ?_
  intro AA ee
  refine open_stmtC (rfl : s19_1 = Stmt.Assign _ _ _) ?_
  refine wpC_Assign_Tuple (wpC_Call_Name ?_)
  (repeat' ((fail_if_success (with_reducible first | refine sFor ?_ | refine sCal ?_ | refine sStP ?_ | refine sEq ?_)); walk_at "w2"))
  refine' wpC_callWith_fn1 ?ho ?_
  case ho => k_is
  (repeat' ((fail_if_success (with_reducible first | refine sFor ?_ | refine sCal ?_ | refine sStP ?_ | refine sEq ?_)); walk_at "w2"))
  refine grown_ok w _ Dd draws (.list (.head _) (hds.mono fun _ h => absurd h List.not_mem_nil)) hl ok p loose mean mg mb _ _ gd _ _ _ _ _ outer _ base g L _ _ _ _ B F XB N TT D rfl (by omega) (by omega) fun r tl g3 h3 tk3 T3 B3 D3 F3 N3 o3 ho => ?_
  obtain ⟨T4, M, TB, P, LN, ms, ts, ps, ls, n4, nM, nT, nP, nL, R, rfl, rfl, HS⟩ := ho
  clear F N X T
  generalize hS : stAt draws draws.length = S at *
  have hap : ∀ q ∈ ((T4, ({ cls := .type "tuple", data := .seq #[.ref M, .ref TB, .ref P, .ref LN] n4 } : Obj)) :: (spine M TB P LN nM nT nP nL ms ts ps ls R ++ [(Dd, listOf ds.toArray nD)])), q.1 ≠ L + 1 := fun q hq => by
    rcases List.mem_cons.mp hq with rfl | hq
    · exact (o3 (L + 1, oc) (.tail _ (.head _)) _ (.head _)).symm
    rcases List.mem_append.mp hq with hq | hq
    · exact (o3 (L + 1, oc) (.tail _ (.head _)) _ (.tail _ hq)).symm
    · rw [List.mem_singleton.mp hq]; exact hDL
  have N4 : News g3 L h3 ((L + 1, oc) :: (T4, ({ cls := .type "tuple", data := .seq #[.ref M, .ref TB, .ref P, .ref LN] n4 } : Obj)) :: (spine M TB P LN nM nT nP nL ms ts ps ls R ++ [(Dd, listOf ds.toArray nD)])) := fun q hq => N3 q (by
    simp only [List.mem_cons, List.mem_append, List.not_mem_nil, or_false] at hq ⊢
    rcases hq with h | h | h | h
    · exact .inr (.inr h)
    · exact .inl (.inl h)
    · exact .inl (.inr h)
    · exact .inr (.inl h))
  clear N3 o3
  dsimp only
  (repeat' ((fail_if_success (with_reducible first | refine sFor ?_ | refine sCal ?_ | refine sStP ?_ | refine sEq ?_)); walk_at "w2"))
  (rename Fr _ _ _ _ => F5); (rename News _ _ _ _ => N5)
  refine storeX_C F5 N5 rfl (.head hap) hoc (fun h6 oc' F6 N6 hoc' => ?_)
  clear F5 N5
  dsimp only
  (repeat' ((fail_if_success (with_reducible first | refine sFor ?_ | refine sCal ?_ | refine sStP ?_ | refine sEq ?_)); walk_at "w2"))
  (rename Fr _ _ _ _ => F8); (rename News _ _ _ _ => N8)
  have off : ∀ q ∈ R ++ [(Dd, listOf ds.toArray nD), (L + 1, oc)], q ∈ R ++ [(Dd, listOf ds.toArray nD)] ∨ ∃ c, q.2.data = .cell c := fun q hq => by
    rcases List.mem_append.mp hq with h | h
    · exact .inl (List.mem_append.mpr (.inl h))
    rcases List.mem_cons.mp h with rfl | h
    · exact .inl (List.mem_append.mpr (.inr (.head _)))
    · rw [List.mem_singleton.mp h]; exact .inr ⟨_, hoc⟩
  have up : ∀ q ∈ R ++ [(Dd, listOf ds.toArray nD)], q ∈ ((L + 1, oc') :: (T4, ({ cls := .type "tuple", data := .seq #[.ref M, .ref TB, .ref P, .ref LN] n4 } : Obj)) :: (spine M TB P LN nM nT nP nL ms ts ps ls R ++ [(Dd, listOf ds.toArray nD)])) := fun q hq => by
    rcases List.mem_append.mp hq with h | h
    · exact .tail _ (.tail _ (List.mem_append.mpr (.inl (.tail _ (.tail _ (.tail _ (.tail _ h)))))))
    · exact .tail _ (.tail _ (List.mem_append.mpr (.inr h)))
  refine cont oc' M TB P LN nM nT ms ts g3 _ _ _ T3 B3 D3 F8 N8 ⟨.head _, hoc', .tail _ (.tail _ (.head _)), .tail _ (.tail _ (.tail _ (.head _))), (dat_off_all off HS.hms).mono up, ?_, .list (.tail _ (.tail _ (.tail _ (.tail _ (.tail _ (.head _)))))) ((dat_off_all off HS.hls).mono up), .list (.tail _ (.tail _ (.tail _ (.tail _ (.head _))))) ((dat_off_all off HS.hps).mono up), .list (up _ (List.mem_append.mpr (.inr (.head _)))) (hds.mono fun _ h => absurd h List.not_mem_nil)⟩
  have h1 := tabs_off off HS.hts
  exact ⟨h1.1, fun i v rows a b => (h1.2 i v rows a b).mono up⟩
end TLawI
section TLawJ
open PySem PySem.W PySem.Calls PyProof.Rows PyProof.V PySem.Spec
set_option maxRecDepth 100000
set_option maxHeartbeats 1500000
set_option pp.maxSteps 12000
theorem Inv.tab_near {S : St} (I : Inv S) {k z : Nat} {p : List Nat} (hp : S.made[k]? = some p) (hz : z < 13) (hn : p ++ [z] ∉ S.made) : S.tabs[k]? = some ((toldP S.line (p ++ [z])).map (pairOf S.pairs)) := by
  obtain ⟨idx, ht, hts, hi⟩ := I.told
  have hlt := (List.getElem?_eq_some_iff.mp hp).1
  have hil : idx[k]? = some (idx[k]'(by rw [ht.1]; exact hlt)) := List.getElem?_eq_getElem _
  have h := ht.2 k p _ [z] hp hil (fun y h => by rw [List.mem_singleton.mp h]; exact hz) (fun y h => by
    obtain rfl : z = y := Option.some.inj h
    exact hn)
  rw [hts, List.getElem?_map, hil, h]
  rfl
theorem getD_of {α : Type} {l : List α} {i : Nat} {x d : α} (h : l[i]? = some x) : l.getD i d = x := by rw [List.getD_eq_getElem?_getD, h]; rfl
theorem Bnd.endOk {S : St} {k M N : Nat} (I : Inv S) (B : Bnd S k M N) (hk : k ≤ 20) (hM : M ≤ 100) (hN : N ≤ 1000) : EndOk S :=
  ⟨I, Nat.le_trans B.made hk, fun m h => Nat.le_trans (B.deep m h) hk, Nat.le_trans B.pairs (Nat.le_trans hk (by decide)), fun t h => Nat.le_trans (B.tabs t h) hM, Nat.le_trans B.line hN⟩


variable {w : World} {p : Program} {loose : List PySem.Str} {mean : ExcName → Option Value} {mg mb : PySem.Str → Option Value} {dp un : Nat} {gd : Option (List Code)} {outer : List Env} {base g : Heap} {L : Addr} {h₁ : Heap} {s : Shared} {tk : Nat} {Q : Flow → Shared → Prop} {E : Value → Shared → Prop} {cdv : Value}
noncomputable abbrev E4 (M TB LN Dd : Nat) : List (PySem.Str × Value) := [("line", .ref LN), ("made", .ref M), ("tables", .ref TB), ("draws", .ref Dd)]
theorem ls2 {nx : List (Addr × Obj)} {S : St} {M TB P LN Dd nM nT : Nat} {ms ts : List Value} {oc : Obj} {draws : List Nat} {u : PySem.Str → Option Value}
    (F : Fr g L h₁ (fixM (E4 M TB LN Dd) u)) (X : (KK w.params).In g) (T : Top p loose mean mg mb g) (N : News g L h₁ nx) (V : Reads w L nx S M TB P LN Dd nM nT ms ts oc draws) (hm : 1 ≤ S.made.length) (hu : un + 500 < cLine)
    (cont : ∀ h' tk' ex, Fr g L h' (fixM (E4 M TB LN Dd) u) → News g L h' (ex ++ nx) → Q .next { s with heap := h', toks := tk' }) :
    wpAny (model PR w) (ktrTop (dp + 1) (un + 3) gd "law" sc19 L 244 cdv [("pairs", L + 1)] outer) (exec s19_2 (envX "law" sc19 L 244 cdv [("pairs", L + 1)])) Q E { s with heap := h₁, toks := tk } := by
  with_reducible refine ctx_exec ?_
  intro AA ee
  (with_reducible refine' open_stmt ?oe ?_); (case oe => exact (rfl : s19_2 = Stmt.If _ _ _ _))
  (repeat' ((fail_if_success (with_reducible first | refine sFor ?_ | refine sCal ?_ | refine sIte ?_ | refine sLen ?_ | refine sEq ?_)); walk_at "w2"))
  (rename Fr _ _ _ _ => F5); (rename News _ _ _ _ => N5)
  refine kqd_eq N5 (.tail _ V.mM) rfl rfl V.hms (fun q hq => .tail _ hq) (.head _) rfl rfl (es := []) (ys := []) (n₂ := []) .nil (fun _ h => absurd h List.not_mem_nil) (fun d hd => ?_) (fun _ h => absurd h List.not_mem_nil) (by show un + 3 + 64 < cLine; omega) ?_
  · obtain ⟨c, _, rfl⟩ := List.mem_map.mp hd
    exact codes_ok c
  rw [decide_eq_false (fun h => by rw [List.map_eq_nil_iff.mp h] at hm; exact absurd hm (by decide))]
  (try dsimp only)
  (repeat' ((fail_if_success (with_reducible first | refine sFor ?_ | refine sCal ?_ | refine sIte ?_ | refine sLen ?_ | refine sEq ?_)); walk_at "w2"))
  exact cont _ _ [_] F5 N5
theorem kturn {news : List (Addr × Obj)} {S : St} {M TB P LN Dd k nM nT : Nat} {ms ts : List Value} {oc : Obj} {draws : List Nat} {tq : Tok} {u : PySem.Str → Option Value}
    (B : Below (aro dp un gd outer) base outer g) (F : Fr g L h₁ (fixM (EL M TB LN Dd k tq) u)) (XB : (KK w.params).In base) (TT : Top p loose mean mg mb base) (D : KtsDicts (frs outer) g) (N : News g L h₁ news) 
    (V : Reads w L news S M TB P LN Dd nM nT ms ts oc draws) (ok : EndOk S) (hk : k < S.made.length) (hd : dp + 60 < recursionLimit) (hu : un + 500 < cLine)
    (cont : ∀ g' ex m' h' tk', KtsTurn (frs outer) g g' → Below (aro dp un gd outer) base outer g' → KtsDicts (frs outer) g' → Fr g' L h' m' → (∀ q ∈ EL M TB LN Dd k tq, m' q.1 = some q.2) → News g' L h' (ex ++ news) → (∀ q ∈ news, ∀ p ∈ ex, q.1 ≠ p.1) → Q .next { s with heap := h', toks := tk' }) (hE : PassesOwn (model PR w) (ktrTop (dp + 1) (un + 3) gd "law" sc19 L 244 cdv [("pairs", L + 1)] outer) (envX "law" sc19 L 244 cdv [("pairs", L + 1)]) E) :
    wpC (model PR w) (ktrTop (dp + 1) (un + 3) gd "law" sc19 L 244 cdv [("pairs", L + 1)] outer) (execs wbL (envX "law" sc19 L 244 cdv [("pairs", L + 1)])) Q E { s with heap := h₁, toks := tk } := by
  have X : (KK w.params).In g := XB.keeps B.stays
  have T := TT.keeps B.stays
  have hkp : S.made[k]? = some (S.made.getD k []) := by rw [List.getD_eq_getElem?_getD, List.getElem?_eq_getElem hk]; rfl
  have hbm : S.made.getD k [] ∈ S.made := List.mem_of_getElem? hkp
  have hz : draws.sum % 13 < 13 := Nat.mod_lt _ (by decide)
  refine wpC_execs_cons (wpC_any (lb0 (tq := tq) (draws := draws) (made := S.made) B (fr_sub F ?s0) X T N V.mM V.hms V.hd hk ok.len ok.deep fun C cs h2 tk2 F1 N1 dC oC => ?_))
  case s0 => (repeat' (first | exact List.forall_mem_nil _ | (refine List.forall_mem_cons.mpr ⟨by with_unfolding_all rfl, ?_⟩)))
  clear F N
  replace F1 := fr_back F1 (by (repeat' (first | exact List.forall_mem_nil _ | (refine List.forall_mem_cons.mpr ⟨by with_unfolding_all rfl, ?_⟩))))
  dsimp only
  generalize hne : S.made.getD k [] ++ [draws.sum % 13] = near at dC
  have u1 : ∀ q ∈ news, q ∈ ((C, listOf cs.toArray 0) :: news) := fun q hq => .tail _ hq
  have V1 := V.mono u1
  have hC : DatIn ((C, listOf cs.toArray 0) :: news) (.ref C) (codesD near) := .list (.head _) (dC.mono fun _ h => absurd h List.not_mem_nil)
  refine wpC_execs_cons (wpC_any (lb1 (k := k) (tq := tq) (near := near) (made := S.made) (fr_sub F1 ?s1) X T N1 V1.mM V1.hms hC ok.len (by omega) fun j tj h3 tk3 hj1 hj2 F2 N2 => ?_))
  case s1 => (repeat' (first | exact List.forall_mem_nil _ | (refine List.forall_mem_cons.mpr ⟨by with_unfolding_all rfl, ?_⟩)))
  clear F1 N1
  replace F2 := fr_back F2 (by (repeat' (first | exact List.forall_mem_nil _ | (refine List.forall_mem_cons.mpr ⟨by with_unfolding_all rfl, ?_⟩))))
  dsimp only
  have hj : j < S.made.length := by
    by_cases hm : near ∈ S.made
    · exact (List.getElem?_eq_some_iff.mp (hj1 hm)).1
    · rw [hj2 hm]; exact hk
  have he2 : (toldP S.line near).map (pairOf S.pairs) = S.tabs.getD j [] := by
    by_cases hm : near ∈ S.made
    · exact (getD_of (ok.inv.tab (hj1 hm))).symm
    · rw [hj2 hm]
      rw [← hne] at hm ⊢
      exact (getD_of (ok.inv.tab_near hkp hz hm)).symm
  have hcn : ∀ c ∈ near, c < 14 := fun c h => by
    rw [← hne] at h
    rcases List.mem_append.mp h with h | h
    · exact Nat.lt_of_lt_of_le (ok.inv.tree.small _ hbm c h) (by decide)
    · rw [List.mem_singleton.mp h]; omega
  have hln : near.length ≤ 100 := by
    rw [← hne, List.length_append]
    have := ok.deep _ hbm
    show _ + 1 ≤ 100
    omega
  refine wpC_execs_cons (lb2 (S := S) (k := k) (tq := tq) (near := near) (j := j) (tj := tj) B (fr_sub F2 ?s2) XB TT D N2 V1 ok hC hcn hln hk hj (getD_of (ok.inv.tab hkp)).symm he2 (by omega) (by omega) (fun g' ex m' h' tk' T' B' D' F9 he N9 o9 => ?_) hE)
  case s2 => (repeat' (first | exact List.forall_mem_nil _ | (refine List.forall_mem_cons.mpr ⟨by with_unfolding_all rfl, ?_⟩)))
  refine wpC_any (wpAny_execs_nil ?_)
  refine cont g' (ex ++ [(C, listOf cs.toArray 0)]) m' h' tk' T' B' D' F9 he (fun q hq => N9 q (by simpa using hq)) fun q hq p hp => ?_
  rcases List.mem_append.mp hp with hp | hp
  · exact o9 q (u1 q hq) p hp
  · rw [List.mem_singleton.mp hp]; exact oC q hq
theorem ls3 {news : List (Addr × Obj)} {S : St} {M TB P LN Dd nM nT : Nat} {ms ts : List Value} {oc : Obj} {draws : List Nat} {u : PySem.Str → Option Value}
    (B : Below (aro dp un gd outer) base outer g) (F : Fr g L h₁ (fixM (E4 M TB LN Dd) u)) (XB : (KK w.params).In base) (TT : Top p loose mean mg mb base) (D : KtsDicts (frs outer) g) (N : News g L h₁ news) 
    (V : Reads w L news S M TB P LN Dd nM nT ms ts oc draws) (ok : EndOk S) (hd : dp + 60 < recursionLimit) (hu : un + 500 < cLine)
    (cont : ∀ g' m' h' tk' nx, KtsTurn (frs outer) g g' → Below (aro dp un gd outer) base outer g' → Fr g' L h' m' → News g' L h' nx → Q .next { s with heap := h', toks := tk' }) (hE : PassesOwn (model PR w) (ktrTop (dp + 1) (un + 3) gd "law" sc19 L 244 cdv [("pairs", L + 1)] outer) (envX "law" sc19 L 244 cdv [("pairs", L + 1)]) E) :
    wpC (model PR w) (ktrTop (dp + 1) (un + 3) gd "law" sc19 L 244 cdv [("pairs", L + 1)] outer) (exec s19_3 (envX "law" sc19 L 244 cdv [("pairs", L + 1)])) Q E { s with heap := h₁, toks := tk } := by
  have X : (KK w.params).In g := XB.keeps B.stays
  have T := TT.keeps B.stays
  have hml : ms.length = S.made.length := by rw [V.hms.length, List.length_map]
  have hl20 := ok.len
  refine ctx_execC ?_
  intro AA ee
  refine open_stmtC (rfl : s19_3 = Stmt.For _ _ wbL _ _) (For_turnsC ?_)
  (repeat' ((fail_if_success (with_reducible first | refine sFor ?_ | refine sCal ?_ | refine sIte ?_ | refine sLen ?_ | refine sEq ?_)); walk_at "w2"))
  refine len_list ⟨_, (N _ V.mM).1, rfl, _, rfl⟩ (by rw [List.size_toArray]; omega) ?_
  rw [List.size_toArray, hml]
  (repeat' ((fail_if_success (with_reducible first | refine sFor ?_ | refine sCal ?_ | refine sIte ?_ | refine sLen ?_ | refine sEq ?_)); walk_at "w2"))
  (rename Fr _ _ _ _ => F5); (rename News _ _ _ _ => N5); (rename IsRange _ _ _ _ _ _ _ _ => hr)
  have F5' := fr_fix F5 (E4 M TB LN Dd) (by (repeat' (first | exact List.forall_mem_nil _ | (refine List.forall_mem_cons.mpr ⟨by with_unfolding_all rfl, ?_⟩))))
  clear F5
  refine for_rangeI (n := S.made.length) (fun i g' m nx => KtsTurn (frs outer) g g' ∧ Below (aro dp un gd outer) base outer g' ∧ KtsDicts (frs outer) g' ∧ (∀ q ∈ E4 M TB LN Dd, m q.1 = some q.2) ∧ ∃ ex, nx = ex ++ news ∧ ∀ q ∈ news, ∀ p ∈ ex, q.1 ≠ p.1) rfl F5' N5 hr (small_one (by decide) (by decide) (by omega) (by omega)) (by rw [rangeSize_one]; split <;> omega) ⟨KtsTurn.refl, B, D, fun q hq => ?_, [], rfl, fun _ _ _ h => absurd h List.not_mem_nil⟩ ?turn ?done hE
  · exact fixM_at ((show ∀ q ∈ E4 M TB LN Dd, (E4 M TB LN Dd).lookup q.1 = some q.2 from by (repeat' (first | exact List.forall_mem_nil _ | (refine List.forall_mem_cons.mpr ⟨by with_unfolding_all rfl, ?_⟩)))) q hq)
  case done =>
    intro g' m nx h tk' hJ F9 N9
    obtain ⟨T', B', D', he, ex, rfl, off⟩ := hJ
    exact cont g' m h tk' _ T' B' F9 N9
  case turn =>
    intro I oI i t g' m nx h tk' hi hcls hJ hI hne F9 N9
    refine opaqueTC ?_
    intro RR hR
    obtain ⟨T', B', D', he, ex, rfl, off⟩ := hJ
    have F9' := fr_fix F9 (E4 M TB LN Dd) he
    clear F9
    (repeat' ((fail_if_success (with_reducible first | refine sFor ?_ | refine sCal ?_ | refine sIte ?_ | refine sLen ?_ | refine sEq ?_)); walk_at "w2"))
    (rename Fr _ _ _ _ => F8); (rename News _ _ _ _ => N8)
    rw [fixM_set] at F8
    have up : ∀ q ∈ news, q ∈ (I, oI) :: (ex ++ news) := fun q hq => .tail _ (List.mem_append.mpr (.inr hq))
    refine kturn (S := S) (k := i) (tq := t) B' (fr_sub F8 ?fr) XB TT D' N8 (V.mono up) ok hi hd hu (fun g2 ex2 m2 h2 tk2 T2 B2 D2 F9 he2 N9 o9 => ?_) hE
    case fr => (repeat' (first | exact List.forall_mem_nil _ | (refine List.forall_mem_cons.mpr ⟨by with_unfolding_all rfl, ?_⟩)))
    refine hR _ _ ?_; refine unr_endT ((ex2 ++ ex) ++ news) F9 (fun y hy => N9 y ?_) (fun y hy => ?_) ⟨T'.trans T2, B2, D2, fun q hq => ?_, ex2 ++ ex, rfl, fun y hy z hz => ?_⟩
    · rcases List.mem_cons.mp hy with rfl | hy
      · exact List.mem_append.mpr (.inr (.head _))
      rw [List.append_assoc] at hy
      rcases List.mem_append.mp hy with hy | hy
      · exact List.mem_append.mpr (.inl hy)
      · exact List.mem_append.mpr (.inr (.tail _ hy))
    · rw [List.append_assoc] at hy
      rcases List.mem_append.mp hy with hy | hy
      · exact (o9 (I, oI) (.head _) y hy).symm
      · exact hne y hy
    · exact he2 q (by
        simp only [E4, EL, List.mem_cons, List.not_mem_nil, or_false] at hq ⊢
        rcases hq with h | h | h | h
        · exact .inr (.inl h)
        · exact .inr (.inr (.inl h))
        · exact .inr (.inr (.inr (.inl h)))
        · exact .inr (.inr (.inr (.inr h))))
    · rcases List.mem_append.mp hz with hz | hz
      · exact o9 y (up y hy) z hz
      · exact off y hy z hz
theorem law_body {L sa : Nat} {oc : Obj} {v0 : Option Value} {vs : List Value} {ns : List Int} (XB : (KK w.params).In g) (TT : Top p loose mean mg mb g) (hI : IntsAre vs ns) (hlen : vs.length ≤ 10000000) (hL : g.IsList sa vs.toArray)
    (F : Fr g L h₁ (fun y => if y = "script" then some (.ref sa) else none)) (N : News g L h₁ [(L + 1, oc)]) (hoc : oc.data = .cell v0) (hd : dp + 60 < recursionLimit) (hu : un + 500 < cLine) :
    wpC (model PR w) (ktrTop (dp + 1) (un + 3) gd "law" sc19 L 244 cdv [("pairs", L + 1)] []) (execs bd19 (envX "law" sc19 L 244 cdv [("pairs", L + 1)])) (fun f s' => f = .ret (.bool true) ∧ ∃ h tk, s' = { s with heap := h, toks := tk } ∧ ∀ b o, g.get? b = some o → h.get? b = some o) (fun _ _ => False) { s with heap := h₁, toks := tk } := by
  have B : Below (aro dp un gd []) g [] g := ⟨rfl, fun _ _ e => e, trivial⟩
  have D : KtsDicts (frs []) g := fun _ h => absurd h List.not_mem_nil
  refine wpC_execs_cons (wpC_any (ls0 B F XB TT N hI hlen hL fun Dd ds nD h2 tk2 F2 N2 o2 dd => ?_))
  clear F N
  dsimp only
  generalize hdr : fixedL ++ (ns.take 4).map drawOf = draws at dd
  have hex : ((ns.take 4).map drawOf).length ≤ 4 := by rw [List.length_map, List.length_take]; omega
  have hdl : draws.length ≤ 10 := by rw [← hdr, List.length_append]; show 6 + _ ≤ 10; omega
  have F2' := fr_fix F2 [("draws", .ref Dd)] (List.forall_mem_cons.mpr ⟨rfl, List.forall_mem_nil _⟩)
  clear F2
  refine wpC_execs_cons (ls1 (draws := draws) B F2' XB TT D N2 hoc (o2 _ (.head _)).symm dd (by omega) (by rw [← hdr]; exact plain_ok hex) hd hu fun oc' M TB P LN nM nT ms ts g3 nx h3 tk3 T3 B3 D3 F3 N3 V => ?_)
  dsimp only
  have F3' : Fr g3 L h3 (fixM (E4 M TB LN Dd) _) := fr_fix F3 (E4 M TB LN Dd) (by (repeat' (first | exact List.forall_mem_nil _ | (refine List.forall_mem_cons.mpr ⟨by with_unfolding_all rfl, ?_⟩))))
  clear F3 F2' N2
  have ok : EndOk (stAt draws draws.length) := by
    obtain ⟨I, Bn, _⟩ := plain_all hex draws.length (by rw [hdr]; exact Nat.le_refl _)
    rw [hdr] at I Bn
    have : ∀ i, i < 11 → bM i ≤ 100 ∧ bN i ≤ 1000 := by decide +kernel
    exact Bn.endOk I (by omega) (this _ (by omega)).1 (this _ (by omega)).2
  have X3 := XB.keeps B3.stays
  have TT3 := TT.keeps B3.stays
  refine wpC_execs_cons (wpC_any (ls2 F3' X3 TT3 N3 V ok.inv.pos hu fun h4 tk4 ex4 F4 N4 => ?_))
  clear F3' N3
  dsimp only
  refine wpC_execs_cons (ls3 B3 F4 XB TT D3 N4 (V.mono fun q hq => List.mem_append.mpr (.inr hq)) ok hd hu (fun g5 m5 h5 tk5 nx5 T5 B5 F5 N5 => ?_) PassesOwn.never)
  clear F4 N4 X3 TT3
  dsimp only
  have X5 := XB.keeps B5.stays
  have TT5 := TT.keeps B5.stays
  refine wpC_execs_cons (wpC_any ?_)
  (repeat' ((fail_if_success (with_reducible first | refine sFor ?_ | refine sCal ?_ | refine sIte ?_ | refine sLen ?_ | refine sEq ?_)); walk_at "w2"))
  (rename g.get? _ = some _ => e)
  exact F5.keep _ _ (B5.stays _ _ e)
theorem law_runs : WalkLaw := law_walk fun w p loose mean mg mb s sa vs ns X T hI hlen hL => by
  refine enter_law X T fun h₁ tk oc v0 F N hoc => ?_
  refine wpC_mono (law_body (dp := 1 + claimMargin) (un := 4) (s := s) X T hI hlen hL F N hoc (by decide +kernel) (by decide +kernel)) (fun f s' h => ?_) fun _ _ h => h
  obtain ⟨rfl, h⟩ := h
  exact ⟨rfl, h⟩
theorem law_holds : PySem.Challenge.rw_pg0211_01.Holds := head law_runs
end TLawJ
end Mine
theorem PySem.Challenge.cw_pg0211_01_holds : PySem.Challenge.rw_pg0211_01.Holds :=
  Mine.law_holds
