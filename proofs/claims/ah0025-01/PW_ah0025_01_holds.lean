import PyProof.Rows.All
import Wide.All
import OpenK.AllK
import Wide.FinOn
import Lean
import PySem.Challenge.RW_ah0025_01
open PySem PySem.W PyProof.Rows PySem.Spec PySem.Calls
set_option Elab.async false
set_option compiler.extract_closed false
namespace Mine

/-! the head, typed: the top's heap behind the run, and one evaluation of the run by the kernel -/
noncomputable abbrev rowP : Program := PySem.Challenge.rw_ah0025_01.row.toRowW.1
noncomputable def st (i : Nat) : Stmt := (rowP.main.body).getD i default
noncomputable def fA : Stmt → Arguments | .FunctionDef _ a _ _ _ _ _ _ _ _ => a | _ => default
noncomputable def fB : Stmt → List Stmt | .FunctionDef _ _ b _ _ _ _ _ _ _ => b | _ => []
noncomputable def fS : Stmt → Scope | .FunctionDef _ _ _ _ _ _ s _ _ _ => s | _ => default
/-! told as structures: the kit lays no quick twin of what stands in them -/
structure StIs (k : Nat) (a : Arguments) (b : List Stmt) (s : Scope) : Prop where
  h : ∃ n d r t o x p, st k = .FunctionDef n a b d r t s o x p
structure StEq (k : Nat) (x : Stmt) : Prop where
  h : st k = x
structure RestIs (sc : Scope) (fa : Bool) (fl : Str) (mo : List (Str × Const)) (mods : List (Str × Bool × Module)) (pars : List Parse) (abs : List Str) (harv : List Parse) (giv : Given) : Prop where
  h : ∃ b, rowP = ⟨⟨b, sc, fa, fl, mo⟩, mods, pars, abs, harv, giv⟩
structure Bar (s : Str) : Prop where
  h : True
theorem bar_a : Bar (Str.ofString "a") := ⟨trivial⟩
set_option maxRecDepth 100000 in
set_option maxHeartbeats 4000000 in
noncomputable def hd.heap_39 : Params → Frag := (fun (a1 : Arguments) (b1 : List Stmt) (s1 : Scope) (_ : StIs 1 a1 b1 s1) (a2 : Arguments) (b2 : List Stmt) (s2 : Scope) (_ : StIs 2 a2 b2 s2) (a3 : Arguments) (b3 : List Stmt) (s3 : Scope) (_ : StIs 3 a3 b3 s3) (a4 : Arguments) (b4 : List Stmt) (s4 : Scope) (_ : StIs 4 a4 b4 s4) (a15 : Arguments) (b15 : List Stmt) (s15 : Scope) (_ : StIs 15 a15 b15 s15) (a16 : Arguments) (b16 : List Stmt) (s16 : Scope) (_ : StIs 16 a16 b16 s16) (a21 : Arguments) (b21 : List Stmt) (s21 : Scope) (_ : StIs 21 a21 b21 s21) (a23 : Arguments) (b23 : List Stmt) (s23 : Scope) (_ : StIs 23 a23 b23 s23) (a27 : Arguments) (b27 : List Stmt) (s27 : Scope) (_ : StIs 27 a27 b27 s27) (a29 : Arguments) (b29 : List Stmt) (s29 : Scope) (_ : StIs 29 a29 b29 s29) (a31 : Arguments) (b31 : List Stmt) (s31 : Scope) (_ : StIs 31 a31 b31 s31) (a38 : Arguments) (b38 : List Stmt) (s38 : Scope) (_ : StIs 38 a38 b38 s38) (a40 : Arguments) (b40 : List Stmt) (s40 : Scope) (_ : StIs 40 a40 b40 s40) (a41 : Arguments) (b41 : List Stmt) (s41 : Scope) (_ : StIs 41 a41 b41 s41) (a55 : Arguments) (b55 : List Stmt) (s55 : Scope) (_ : StIs 55 a55 b55 s55) (a56 : Arguments) (b56 : List Stmt) (s56 : Scope) (_ : StIs 56 a56 b56 s56) (a57 : Arguments) (b57 : List Stmt) (s57 : Scope) (_ : StIs 57 a57 b57 s57) (a58 : Arguments) (b58 : List Stmt) (s58 : Scope) (_ : StIs 58 a58 b58 s58) (a59 : Arguments) (b59 : List Stmt) (s59 : Scope) (_ : StIs 59 a59 b59 s59) (a60 : Arguments) (b60 : List Stmt) (s60 : Scope) (_ : StIs 60 a60 b60 s60) (a61 : Arguments) (b61 : List Stmt) (s61 : Scope) (_ : StIs 61 a61 b61 s61) (a62 : Arguments) (b62 : List Stmt) (s62 : Scope) (_ : StIs 62 a62 b62 s62) (a64 : Arguments) (b64 : List Stmt) (s64 : Scope) (_ : StIs 64 a64 b64 s64) (a66 : Arguments) (b66 : List Stmt) (s66 : Scope) (_ : StIs 66 a66 b66 s66) (a72 : Arguments) (b72 : List Stmt) (s72 : Scope) (_ : StIs 72 a72 b72 s72) (a74 : Arguments) (b74 : List Stmt) (s74 : Scope) (_ : StIs 74 a74 b74 s74) (a76 : Arguments) (b76 : List Stmt) (s76 : Scope) (_ : StIs 76 a76 b76 s76) (a78 : Arguments) (b78 : List Stmt) (s78 : Scope) (_ : StIs 78 a78 b78 s78) (a79 : Arguments) (b79 : List Stmt) (s79 : Scope) (_ : StIs 79 a79 b79 s79) (a80 : Arguments) (b80 : List Stmt) (s80 : Scope) (_ : StIs 80 a80 b80 s80) (a81 : Arguments) (b81 : List Stmt) (s81 : Scope) (_ : StIs 81 a81 b81 s81) (a82 : Arguments) (b82 : List Stmt) (s82 : Scope) (_ : StIs 82 a82 b82 s82) (a86 : Arguments) (b86 : List Stmt) (s86 : Scope) (_ : StIs 86 a86 b86 s86) (a88 : Arguments) (b88 : List Stmt) (s88 : Scope) (_ : StIs 88 a88 b88 s88) (a91 : Arguments) (b91 : List Stmt) (s91 : Scope) (_ : StIs 91 a91 b91 s91) (a92 : Arguments) (b92 : List Stmt) (s92 : Scope) (_ : StIs 92 a92 b92 s92) (a93 : Arguments) (b93 : List Stmt) (s93 : Scope) (_ : StIs 93 a93 b93 s93) (a94 : Arguments) (b94 : List Stmt) (s94 : Scope) (_ : StIs 94 a94 b94 s94) (a95 : Arguments) (b95 : List Stmt) (s95 : Scope) (_ : StIs 95 a95 b95 s95) (a96 : Arguments) (b96 : List Stmt) (s96 : Scope) (_ : StIs 96 a96 b96 s96) (a97 : Arguments) (b97 : List Stmt) (s97 : Scope) (_ : StIs 97 a97 b97 s97) (_ : Bar (Str.ofString "a")) (P : Params) => ((((nat_lit 2),⟨.none,none,(.dict #[] 0),#[]⟩)::
((nat_lit 3),⟨(.type "dict"),none,(.dict (List.toArray (⟨(PySem.PyData.keyHash P (.ofString "__name__")),(.str (.ofString "__name__") 165),(.str (.ofString "law_ah0025_01") 679)⟩::⟨(PySem.PyData.keyHash P (.ofString "__doc__")),(.str (.ofString "__doc__") 166),.none⟩::⟨(PySem.PyData.keyHash P (.ofString "__package__")),(.str (.ofString "__package__") 167),.none⟩::⟨(PySem.PyData.keyHash P (.ofString "__loader__")),(.str (.ofString "__loader__") 168),(.builtin "__main__.__loader__#opaque")⟩::⟨(PySem.PyData.keyHash P (.ofString "__spec__")),(.str (.ofString "__spec__") 169),.none⟩::⟨(PySem.PyData.keyHash P (.ofString "__annotations__")),(.str (.ofString "__annotations__") 170),(.ref 6)⟩::⟨(PySem.PyData.keyHash P (.ofString "__builtins__")),(.str (.ofString "__builtins__") 171),(.ref 4)⟩::⟨(PySem.PyData.keyHash P (.ofString "__file__")),(.str (.ofString "__file__") 173),(.str (.ofString "/claim/cut.py") 172)⟩::⟨(PySem.PyData.keyHash P (.ofString "__cached__")),(.str (.ofString "__cached__") 174),.none⟩::⟨(PySem.PyData.keyHash P (.ofString "isleap")),(.str (.ofString "isleap") 195),(.ref 21)⟩::⟨(PySem.PyData.keyHash P (.ofString "trunc")),(.str (.ofString "trunc") 204),(.ref 28)⟩::⟨(PySem.PyData.keyHash P (.ofString "midnight")),(.str (.ofString "midnight") 211),(.ref 35)⟩::⟨(PySem.PyData.keyHash P (.ofString "amod")),(.str (.ofString "amod") 220),(.ref 42)⟩::⟨(PySem.PyData.keyHash P (.ofString "EPOCH_gregorian")),(.str (.ofString "EPOCH_gregorian") 224),(.int 1721426 223)⟩::⟨(PySem.PyData.keyHash P (.ofString "INTERCALATION_CYCLE_YEARS")),(.str (.ofString "INTERCALATION_CYCLE_YEARS") 226),(.int 400 225)⟩::⟨(PySem.PyData.keyHash P (.ofString "INTERCALATION_CYCLE_DAYS")),(.str (.ofString "INTERCALATION_CYCLE_DAYS") 228),(.int 146097 227)⟩::⟨(PySem.PyData.keyHash P (.ofString "LEAP_SUPPRESSION_YEARS")),(.str (.ofString "LEAP_SUPPRESSION_YEARS") 230),(.int 100 229)⟩::⟨(PySem.PyData.keyHash P (.ofString "LEAP_SUPPRESSION_DAYS")),(.str (.ofString "LEAP_SUPPRESSION_DAYS") 232),(.int 36524 231)⟩::⟨(PySem.PyData.keyHash P (.ofString "LEAP_CYCLE_YEARS_gregorian")),(.str (.ofString "LEAP_CYCLE_YEARS_gregorian") 234),(.int 4 233)⟩::⟨(PySem.PyData.keyHash P (.ofString "LEAP_CYCLE_DAYS_gregorian")),(.str (.ofString "LEAP_CYCLE_DAYS_gregorian") 236),(.int 1461 235)⟩::⟨(PySem.PyData.keyHash P (.ofString "YEAR_DAYS")),(.str (.ofString "YEAR_DAYS") 238),(.int 365 237)⟩::⟨(PySem.PyData.keyHash P (.ofString "HAVE_30_DAYS")),(.str (.ofString "HAVE_30_DAYS") 243),(.ref 43)⟩::⟨(PySem.PyData.keyHash P (.ofString "legal_date")),(.str (.ofString "legal_date") 253),(.ref 50)⟩::⟨(PySem.PyData.keyHash P (.ofString "to_jd")),(.str (.ofString "to_jd") 263),(.ref 196)⟩::⟨(PySem.PyData.keyHash P (.ofString "to_jd_gregorian")),(.str (.ofString "to_jd_gregorian") 264),(.ref 57)⟩::⟨(PySem.PyData.keyHash P (.ofString "EPOCH_armenian")),(.str (.ofString "EPOCH_armenian") 268),(.int 1922502 267)⟩::⟨(PySem.PyData.keyHash P (.ofString "EPOCH_SARKAWAG")),(.str (.ofString "EPOCH_SARKAWAG") 270),(.int 2117211 269)⟩::⟨(PySem.PyData.keyHash P (.ofString "from_jd")),(.str (.ofString "from_jd") 283),(.ref 252)⟩::⟨(PySem.PyData.keyHash P (.ofString "from_jd_armenian")),(.str (.ofString "from_jd_armenian") 284),(.ref 65)⟩::⟨(PySem.PyData.keyHash P (.ofString "from_gregorian")),(.str (.ofString "from_gregorian") 294),(.ref 259)⟩::⟨(PySem.PyData.keyHash P (.ofString "from_gregorian_armenian")),(.str (.ofString "from_gregorian_armenian") 295),(.ref 73)⟩::⟨(PySem.PyData.keyHash P (.ofString "EPOCH_coptic")),(.str (.ofString "EPOCH_coptic") 299),(.int 1825030 298)⟩::⟨(PySem.PyData.keyHash P (.ofString "to_jd_coptic")),(.str (.ofString "to_jd_coptic") 309),(.ref 80)⟩::⟨(PySem.PyData.keyHash P (.ofString "from_jd_coptic")),(.str (.ofString "from_jd_coptic") 321),(.ref 87)⟩::⟨(PySem.PyData.keyHash P (.ofString "from_gregorian_coptic")),(.str (.ofString "from_gregorian_coptic") 331),(.ref 94)⟩::⟨(PySem.PyData.keyHash P (.ofString "EPOCH_french_republican")),(.str (.ofString "EPOCH_french_republican") 335),(.int 2375840 334)⟩::⟨(PySem.PyData.keyHash P (.ofString "DAYS_IN_YEAR")),(.str (.ofString "DAYS_IN_YEAR") 337),(.int 365 336)⟩::⟨(PySem.PyData.keyHash P (.ofString "LEAP_CYCLE_DAYS_french_republican")),(.str (.ofString "LEAP_CYCLE_DAYS_french_republican") 339),(.int 1461 338)⟩::⟨(PySem.PyData.keyHash P (.ofString "LEAP_CYCLE_YEARS_french_republican")),(.str (.ofString "LEAP_CYCLE_YEARS_french_republican") 341),(.int 4 340)⟩::⟨(PySem.PyData.keyHash P (.ofString "from_jd_french_republican")),(.str (.ofString "from_jd_french_republican") 350),(.ref 102)⟩::⟨(PySem.PyData.keyHash P (.ofString "_from_jd_schematic")),(.str (.ofString "_from_jd_schematic") 373),(.ref 109)⟩::⟨(PySem.PyData.keyHash P (.ofString "from_gregorian_french_republican")),(.str (.ofString "from_gregorian_french_republican") 384),(.ref 117)⟩::⟨(PySem.PyData.keyHash P (.ofString "EPOCH_hebrew")),(.str (.ofString "EPOCH_hebrew") 388),(.int 347996 387)⟩::⟨(PySem.PyData.keyHash P (.ofString "NISAN")),(.str (.ofString "NISAN") 390),(.int 1 389)⟩::⟨(PySem.PyData.keyHash P (.ofString "IYYAR")),(.str (.ofString "IYYAR") 392),(.int 2 391)⟩::⟨(PySem.PyData.keyHash P (.ofString "TAMMUZ")),(.str (.ofString "TAMMUZ") 394),(.int 4 393)⟩::⟨(PySem.PyData.keyHash P (.ofString "ELUL")),(.str (.ofString "ELUL") 396),(.int 6 395)⟩::⟨(PySem.PyData.keyHash P (.ofString "TISHRI")),(.str (.ofString "TISHRI") 398),(.int 7 397)⟩::⟨(PySem.PyData.keyHash P (.ofString "HESHVAN")),(.str (.ofString "HESHVAN") 400),(.int 8 399)⟩::⟨(PySem.PyData.keyHash P (.ofString "KISLEV")),(.str (.ofString "KISLEV") 402),(.int 9 401)⟩::⟨(PySem.PyData.keyHash P (.ofString "TEVETH")),(.str (.ofString "TEVETH") 404),(.int 10 403)⟩::⟨(PySem.PyData.keyHash P (.ofString "ADAR")),(.str (.ofString "ADAR") 406),(.int 12 405)⟩::⟨(PySem.PyData.keyHash P (.ofString "VEADAR")),(.str (.ofString "VEADAR") 408),(.int 13 407)⟩::⟨(PySem.PyData.keyHash P (.ofString "leap")),(.str (.ofString "leap") 415),(.ref 124)⟩::⟨(PySem.PyData.keyHash P (.ofString "year_months")),(.str (.ofString "year_months") 422),(.ref 131)⟩::⟨(PySem.PyData.keyHash P (.ofString "delay_1")),(.str (.ofString "delay_1") 432),(.ref 138)⟩::⟨(PySem.PyData.keyHash P (.ofString "delay_2")),(.str (.ofString "delay_2") 442),(.ref 145)⟩::⟨(PySem.PyData.keyHash P (.ofString "year_days")),(.str (.ofString "year_days") 449),(.ref 152)⟩::⟨(PySem.PyData.keyHash P (.ofString "month_length")),(.str (.ofString "month_length") 457),(.ref 159)⟩::⟨(PySem.PyData.keyHash P (.ofString "month_days")),(.str (.ofString "month_days") 465),(.ref 166)⟩::⟨(PySem.PyData.keyHash P (.ofString "to_jd_hebrew")),(.str (.ofString "to_jd_hebrew") 478),(.ref 173)⟩::⟨(PySem.PyData.keyHash P (.ofString "from_jd_hebrew")),(.str (.ofString "from_jd_hebrew") 492),(.ref 180)⟩::⟨(PySem.PyData.keyHash P (.ofString "from_gregorian_hebrew")),(.str (.ofString "from_gregorian_hebrew") 502),(.ref 187)⟩::⟨(PySem.PyData.keyHash P (.ofString "EPOCH_mayan")),(.str (.ofString "EPOCH_mayan") 506),(.int 584283 505)⟩::⟨(PySem.PyData.keyHash P (.ofString "HAAB")),(.str (.ofString "HAAB") 526),(.ref 188)⟩::⟨(PySem.PyData.keyHash P (.ofString "TZOLKIN")),(.str (.ofString "TZOLKIN") 547),(.ref 189)⟩::⟨(PySem.PyData.keyHash P (.ofString "to_jd_mayan")),(.str (.ofString "to_jd_mayan") 559),(.ref 196)⟩::⟨(PySem.PyData.keyHash P (.ofString "from_jd_mayan")),(.str (.ofString "from_jd_mayan") 573),(.ref 203)⟩::⟨(PySem.PyData.keyHash P (.ofString "from_gregorian_mayan")),(.str (.ofString "from_gregorian_mayan") 584),(.ref 210)⟩::⟨(PySem.PyData.keyHash P (.ofString "to_haab")),(.str (.ofString "to_haab") 595),(.ref 217)⟩::⟨(PySem.PyData.keyHash P (.ofString "to_tzolkin")),(.str (.ofString "to_tzolkin") 605),(.ref 224)⟩::⟨(PySem.PyData.keyHash P (.ofString "lc_to_haab")),(.str (.ofString "lc_to_haab") 617),(.ref 231)⟩::⟨(PySem.PyData.keyHash P (.ofString "lc_to_tzolkin")),(.str (.ofString "lc_to_tzolkin") 629),(.ref 238)⟩::⟨(PySem.PyData.keyHash P (.ofString "lc_to_haab_tzolkin")),(.str (.ofString "lc_to_haab_tzolkin") 642),(.ref 245)⟩::⟨(PySem.PyData.keyHash P (.ofString "EPOCH_positivist")),(.str (.ofString "EPOCH_positivist") 646),(.int 2374480 645)⟩::⟨(PySem.PyData.keyHash P (.ofString "YEAR_EPOCH")),(.str (.ofString "YEAR_EPOCH") 648),(.int 1789 647)⟩::⟨(PySem.PyData.keyHash P (.ofString "from_jd_positivist")),(.str (.ofString "from_jd_positivist") 668),(.ref 252)⟩::⟨(PySem.PyData.keyHash P (.ofString "from_gregorian_positivist")),(.str (.ofString "from_gregorian_positivist") 678),(.ref 259)⟩::⟨(PySem.PyData.keyHash P (.ofString "_law_doors")),(.str (.ofString "_law_doors") 686),(.ref 266)⟩::⟨(PySem.PyData.keyHash P (.ofString "_law_door")),(.str (.ofString "_law_door") 696),(.ref 273)⟩::⟨(PySem.PyData.keyHash P (.ofString "_law_date")),(.str (.ofString "_law_date") 704),(.ref 280)⟩::⟨(PySem.PyData.keyHash P (.ofString "_law_days")),(.str (.ofString "_law_days") 711),(.ref 287)⟩::⟨(PySem.PyData.keyHash P (.ofString "_law_moved")),(.str (.ofString "_law_moved") 720),(.ref 294)⟩::⟨(PySem.PyData.keyHash P (.ofString "_law_ahead")),(.str (.ofString "_law_ahead") 729),(.ref 301)⟩::⟨(PySem.PyData.keyHash P (.ofString "law")),(.str (.ofString "law") 735),(.ref 306)⟩::[])) 85),#[]⟩)::
((nat_lit 15),⟨(.type "tuple"),none,(.seq #[] 0),#[]⟩)::
((nat_lit 17),⟨(.type "tuple"),none,(.seq #[(.str (.ofString "year") 192)] 0),#[]⟩)::
((nat_lit 18),⟨(.type "tuple"),none,(.seq #[] 0),#[]⟩)::
((nat_lit 20),⟨(.type "code"),none,(.fields #[(.str (.ofString "isleap") 189),(.str (.ofString "isleap") 190),(.str (.ofString "/claim/cut.py") 191),(.int 2 0),(.int 1 0),(.int 0 0),(.int 0 0),(.int 3 0),(.ref 15),(.bool true),(.int 181 0),(.ref 16),.none,(.ref 17),(.ref 18),(.ref 19),(.int 193 0),(.int 2 0),(.str (.ofString "/claim/cut.py") 194)]),#[]⟩)::
((nat_lit 21),⟨(.type "function"),none,(.func ⟨(.ofString "isleap"),(.ofString "isleap"),a1,(.stmts b1),s1,3,[],.none,.none,.none,(.str (.ofString "convertdate.utils") 187),none,(.ref 20),.none,0⟩),#[]⟩)::
((nat_lit 22),⟨(.type "tuple"),none,(.seq #[] 0),#[]⟩)::
((nat_lit 24),⟨(.type "tuple"),none,(.seq #[(.str (.ofString "a") 199),(.str (.ofString "b") 200),(.str (.ofString "share") 201)] 0),#[]⟩)::
((nat_lit 25),⟨(.type "tuple"),none,(.seq #[] 0),#[]⟩)::
((nat_lit 27),⟨(.type "code"),none,(.fields #[(.str (.ofString "trunc") 196),(.str (.ofString "trunc") 197),(.str (.ofString "/claim/cut.py") 198),(.int 4 0),(.int 2 0),(.int 0 0),(.int 0 0),(.int 3 0),(.ref 22),(.bool true),(.int 181 0),(.ref 23),.none,(.ref 24),(.ref 25),(.ref 26),(.int 202 0),(.int 4 0),(.str (.ofString "/claim/cut.py") 203)]),#[]⟩)::
((nat_lit 28),⟨(.type "function"),none,(.func ⟨(.ofString "trunc"),(.ofString "trunc"),a2,(.stmts b2),s2,3,[],.none,.none,.none,(.str (.ofString "convertdate.utils") 187),none,(.ref 27),.none,0⟩),#[]⟩)::
((nat_lit 29),⟨(.type "tuple"),none,(.seq #[] 0),#[]⟩)::
((nat_lit 31),⟨(.type "tuple"),none,(.seq #[(.str (.ofString "jd") 208)] 0),#[]⟩)::
((nat_lit 32),⟨(.type "tuple"),none,(.seq #[] 0),#[]⟩)::
((nat_lit 34),⟨(.type "code"),none,(.fields #[(.str (.ofString "midnight") 205),(.str (.ofString "midnight") 206),(.str (.ofString "/claim/cut.py") 207),(.int 7 0),(.int 1 0),(.int 0 0),(.int 0 0),(.int 3 0),(.ref 29),(.bool true),(.int 181 0),(.ref 30),.none,(.ref 31),(.ref 32),(.ref 33),(.int 209 0),(.int 7 0),(.str (.ofString "/claim/cut.py") 210)]),#[]⟩)::
((nat_lit 35),⟨(.type "function"),none,(.func ⟨(.ofString "midnight"),(.ofString "midnight"),a3,(.stmts b3),s3,3,[],.none,.none,.none,(.str (.ofString "convertdate.utils") 187),none,(.ref 34),.none,0⟩),#[]⟩)::
((nat_lit 36),⟨(.type "tuple"),none,(.seq #[] 0),#[]⟩)::
((nat_lit 38),⟨(.type "tuple"),none,(.seq #[(.str (.ofString "a") 215),(.str (.ofString "b") 216),(.str (.ofString "modded") 217)] 0),#[]⟩)::
((nat_lit 39),⟨(.type "tuple"),none,(.seq #[] 0),#[]⟩)::
((nat_lit 41),⟨(.type "code"),none,(.fields #[(.str (.ofString "amod") 212),(.str (.ofString "amod") 213),(.str (.ofString "/claim/cut.py") 214),(.int 9 0),(.int 2 0),(.int 0 0),(.int 0 0),(.int 3 0),(.ref 36),(.bool true),(.int 181 0),(.ref 37),.none,(.ref 38),(.ref 39),(.ref 40),(.int 218 0),(.int 9 0),(.str (.ofString "/claim/cut.py") 219)]),#[]⟩)::
((nat_lit 42),⟨(.type "function"),none,(.func ⟨(.ofString "amod"),(.ofString "amod"),a4,(.stmts b4),s4,3,[],.none,.none,.none,(.str (.ofString "convertdate.utils") 187),none,(.ref 41),.none,0⟩),#[]⟩)::
((nat_lit 43),⟨(.type "tuple"),none,(.seq #[(.int 4 239),(.int 6 240),(.int 9 241),(.int 11 242)] 0),#[]⟩)::
((nat_lit 44),⟨(.type "tuple"),none,(.seq #[] 0),#[]⟩)::
((nat_lit 46),⟨(.type "tuple"),none,(.seq #[(.str (.ofString "year") 247),(.str (.ofString "month") 248),(.str (.ofString "day") 249),(.str (.ofString "daysinmonth") 250)] 0),#[]⟩)::
((nat_lit 47),⟨(.type "tuple"),none,(.seq #[] 0),#[]⟩)::
((nat_lit 49),⟨(.type "code"),none,(.fields #[(.str (.ofString "legal_date") 244),(.str (.ofString "legal_date") 245),(.str (.ofString "/claim/cut.py") 246),(.int 22 0),(.int 3 0),(.int 0 0),(.int 0 0),(.int 3 0),(.ref 44),(.bool true),(.int 181 0),(.ref 45),.none,(.ref 46),(.ref 47),(.ref 48),(.int 251 0),(.int 22 0),(.str (.ofString "/claim/cut.py") 252)]),#[]⟩)::
((nat_lit 50),⟨(.type "function"),none,(.func ⟨(.ofString "legal_date"),(.ofString "legal_date"),a15,(.stmts b15),s15,3,[],.none,.none,.none,(.str (.ofString "convertdate.gregorian") 221),none,(.ref 49),.none,0⟩),#[]⟩)::
((nat_lit 51),⟨(.type "tuple"),none,(.seq #[] 0),#[]⟩)::
((nat_lit 53),⟨(.type "tuple"),none,(.seq #[(.str (.ofString "year") 257),(.str (.ofString "month") 258),(.str (.ofString "day") 259),(.str (.ofString "leap_adj") 260)] 0),#[]⟩)::
((nat_lit 54),⟨(.type "tuple"),none,(.seq #[] 0),#[]⟩)::
((nat_lit 56),⟨(.type "code"),none,(.fields #[(.str (.ofString "to_jd") 254),(.str (.ofString "to_jd") 255),(.str (.ofString "/claim/cut.py") 256),(.int 30 0),(.int 3 0),(.int 0 0),(.int 0 0),(.int 3 0),(.ref 51),(.bool true),(.int 181 0),(.ref 52),.none,(.ref 53),(.ref 54),(.ref 55),(.int 261 0),(.int 30 0),(.str (.ofString "/claim/cut.py") 262)]),#[]⟩)::
((nat_lit 57),⟨(.type "function"),none,(.func ⟨(.ofString "to_jd"),(.ofString "to_jd"),a16,(.stmts b16),s16,3,[],.none,.none,.none,(.str (.ofString "convertdate.gregorian") 221),none,(.ref 56),.none,0⟩),#[]⟩)::
((nat_lit 58),⟨(.type "tuple"),none,(.seq #[.none] 0),#[]⟩)::
((nat_lit 59),⟨(.type "tuple"),none,(.seq #[] 0),#[]⟩)::
((nat_lit 61),⟨(.type "tuple"),none,(.seq #[(.str (.ofString "jd") 274),(.str (.ofString "method") 275),(.str (.ofString "dc") 276),(.str (.ofString "years") 277),(.str (.ofString "yeardays") 278),(.str (.ofString "months") 279),(.str (.ofString "days") 280)] 0),#[]⟩)::
((nat_lit 62),⟨(.type "tuple"),none,(.seq #[] 0),#[]⟩)::
((nat_lit 64),⟨(.type "code"),none,(.fields #[(.str (.ofString "from_jd") 271),(.str (.ofString "from_jd") 272),(.str (.ofString "/claim/cut.py") 273),(.int 43 0),(.int 2 0),(.int 0 0),(.int 0 0),(.int 3 0),(.ref 59),(.bool true),(.int 181 0),(.ref 60),.none,(.ref 61),(.ref 62),(.ref 63),(.int 281 0),(.int 43 0),(.str (.ofString "/claim/cut.py") 282)]),#[]⟩)::
((nat_lit 65),⟨(.type "function"),none,(.func ⟨(.ofString "from_jd"),(.ofString "from_jd"),a21,(.stmts b21),s21,3,[],(.ref 58),.none,.none,(.str (.ofString "convertdate.armenian") 265),none,(.ref 64),.none,0⟩),#[]⟩)::
((nat_lit 66),⟨(.type "tuple"),none,(.seq #[.none] 0),#[]⟩)::
((nat_lit 67),⟨(.type "tuple"),none,(.seq #[] 0),#[]⟩)::
((nat_lit 69),⟨(.type "tuple"),none,(.seq #[(.str (.ofString "year") 288),(.str (.ofString "month") 289),(.str (.ofString "day") 290),(.str (.ofString "method") 291)] 0),#[]⟩)::
((nat_lit 70),⟨(.type "tuple"),none,(.seq #[] 0),#[]⟩)::
((nat_lit 72),⟨(.type "code"),none,(.fields #[(.str (.ofString "from_gregorian") 285),(.str (.ofString "from_gregorian") 286),(.str (.ofString "/claim/cut.py") 287),(.int 64 0),(.int 4 0),(.int 0 0),(.int 0 0),(.int 3 0),(.ref 67),(.bool true),(.int 181 0),(.ref 68),.none,(.ref 69),(.ref 70),(.ref 71),(.int 292 0),(.int 64 0),(.str (.ofString "/claim/cut.py") 293)]),#[]⟩)::
((nat_lit 73),⟨(.type "function"),none,(.func ⟨(.ofString "from_gregorian"),(.ofString "from_gregorian"),a23,(.stmts b23),s23,3,[],(.ref 66),.none,.none,(.str (.ofString "convertdate.armenian") 265),none,(.ref 72),.none,0⟩),#[]⟩)::
((nat_lit 74),⟨(.type "tuple"),none,(.seq #[] 0),#[]⟩)::
((nat_lit 76),⟨(.type "tuple"),none,(.seq #[(.str (.ofString "year") 303),(.str (.ofString "month") 304),(.str (.ofString "day") 305)] 0),#[]⟩)::
((nat_lit 77),⟨(.type "tuple"),none,(.seq #[] 0),#[]⟩)::
((nat_lit 79),⟨(.type "code"),none,(.fields #[(.str (.ofString "to_jd") 300),(.str (.ofString "to_jd") 301),(.str (.ofString "/claim/cut.py") 302),(.int 69 0),(.int 3 0),(.int 0 0),(.int 0 0),(.int 3 0),(.ref 74),(.bool true),(.int 181 0),(.ref 75),.none,(.ref 76),(.ref 77),(.ref 78),(.int 306 0),(.int 69 0),(.str (.ofString "/claim/cut.py") 307)]),#[]⟩)::
((nat_lit 80),⟨(.type "function"),none,(.func ⟨(.ofString "to_jd"),(.ofString "to_jd"),a27,(.stmts b27),s27,3,[],.none,.none,.none,(.str (.ofString "convertdate.coptic") 296),none,(.ref 79),.none,0⟩),#[]⟩)::
((nat_lit 81),⟨(.type "tuple"),none,(.seq #[] 0),#[]⟩)::
((nat_lit 83),⟨(.type "tuple"),none,(.seq #[(.str (.ofString "jdc") 313),(.str (.ofString "year") 314),(.str (.ofString "yday") 315),(.str (.ofString "month") 316),(.str (.ofString "day") 317)] 0),#[]⟩)::
((nat_lit 84),⟨(.type "tuple"),none,(.seq #[] 0),#[]⟩)::
((nat_lit 86),⟨(.type "code"),none,(.fields #[(.str (.ofString "from_jd") 310),(.str (.ofString "from_jd") 311),(.str (.ofString "/claim/cut.py") 312),(.int 72 0),(.int 1 0),(.int 0 0),(.int 0 0),(.int 3 0),(.ref 81),(.bool true),(.int 181 0),(.ref 82),.none,(.ref 83),(.ref 84),(.ref 85),(.int 318 0),(.int 72 0),(.str (.ofString "/claim/cut.py") 319)]),#[]⟩)::
((nat_lit 87),⟨(.type "function"),none,(.func ⟨(.ofString "from_jd"),(.ofString "from_jd"),a29,(.stmts b29),s29,3,[],.none,.none,.none,(.str (.ofString "convertdate.coptic") 296),none,(.ref 86),.none,0⟩),#[]⟩)::
((nat_lit 88),⟨(.type "tuple"),none,(.seq #[] 0),#[]⟩)::
((nat_lit 90),⟨(.type "tuple"),none,(.seq #[(.str (.ofString "year") 325),(.str (.ofString "month") 326),(.str (.ofString "day") 327)] 0),#[]⟩)::
((nat_lit 91),⟨(.type "tuple"),none,(.seq #[] 0),#[]⟩)::
((nat_lit 93),⟨(.type "code"),none,(.fields #[(.str (.ofString "from_gregorian") 322),(.str (.ofString "from_gregorian") 323),(.str (.ofString "/claim/cut.py") 324),(.int 79 0),(.int 3 0),(.int 0 0),(.int 0 0),(.int 3 0),(.ref 88),(.bool true),(.int 181 0),(.ref 89),.none,(.ref 90),(.ref 91),(.ref 92),(.int 328 0),(.int 79 0),(.str (.ofString "/claim/cut.py") 329)]),#[]⟩)::
((nat_lit 94),⟨(.type "function"),none,(.func ⟨(.ofString "from_gregorian"),(.ofString "from_gregorian"),a31,(.stmts b31),s31,3,[],.none,.none,.none,(.str (.ofString "convertdate.coptic") 296),none,(.ref 93),.none,0⟩),#[]⟩)::
((nat_lit 95),⟨(.type "tuple"),none,(.seq #[.none] 0),#[]⟩)::
((nat_lit 96),⟨(.type "tuple"),none,(.seq #[] 0),#[]⟩)::
((nat_lit 98),⟨(.type "tuple"),none,(.seq #[(.str (.ofString "jd") 345),(.str (.ofString "method") 346)] 0),#[]⟩)::
((nat_lit 99),⟨(.type "tuple"),none,(.seq #[] 0),#[]⟩)::
((nat_lit 101),⟨(.type "code"),none,(.fields #[(.str (.ofString "from_jd") 342),(.str (.ofString "from_jd") 343),(.str (.ofString "/claim/cut.py") 344),(.int 87 0),(.int 2 0),(.int 0 0),(.int 0 0),(.int 3 0),(.ref 96),(.bool true),(.int 181 0),(.ref 97),.none,(.ref 98),(.ref 99),(.ref 100),(.int 347 0),(.int 87 0),(.str (.ofString "/claim/cut.py") 348)]),#[]⟩)::
((nat_lit 102),⟨(.type "function"),none,(.func ⟨(.ofString "from_jd"),(.ofString "from_jd"),a38,(.stmts b38),s38,3,[],(.ref 95),.none,.none,(.str (.ofString "convertdate.french_republican") 332),none,(.ref 101),.none,0⟩),#[]⟩)::
((nat_lit 103),⟨(.type "tuple"),none,(.seq #[] 0),#[]⟩)::
((nat_lit 105),⟨(.type "tuple"),none,(.seq #[(.str (.ofString "jd") 354),(.str (.ofString "method") 355),(.str (.ofString "J") 356),(.str (.ofString "y0") 357),(.str (.ofString "y1") 358),(.str (.ofString "y2") 359),(.str (.ofString "y3") 360),(.str (.ofString "y4") 361),(.str (.ofString "y5") 362),(.str (.ofString "intercal_cycle_days") 363),(.str (.ofString "leap_suppression_days") 364),(.str (.ofString "over_cycle_days") 365),(.str (.ofString "leap_suppression_yrs") 366),(.str (.ofString "intercal_cycle_yrs") 367),(.str (.ofString "over_cycle_yrs") 368),(.str (.ofString "year") 369),(.str (.ofString "month") 370)] 0),#[]⟩)::
((nat_lit 106),⟨(.type "tuple"),none,(.seq #[] 0),#[]⟩)::
((nat_lit 108),⟨(.type "code"),none,(.fields #[(.str (.ofString "_from_jd_schematic") 351),(.str (.ofString "_from_jd_schematic") 352),(.str (.ofString "/claim/cut.py") 353),(.int 91 0),(.int 2 0),(.int 0 0),(.int 0 0),(.int 3 0),(.ref 103),(.bool true),(.int 181 0),(.ref 104),.none,(.ref 105),(.ref 106),(.ref 107),(.int 371 0),(.int 91 0),(.str (.ofString "/claim/cut.py") 372)]),#[]⟩)::
((nat_lit 109),⟨(.type "function"),none,(.func ⟨(.ofString "_from_jd_schematic"),(.ofString "_from_jd_schematic"),a40,(.stmts b40),s40,3,[],.none,.none,.none,(.str (.ofString "convertdate.french_republican") 332),none,(.ref 108),.none,0⟩),#[]⟩)::
((nat_lit 110),⟨(.type "tuple"),none,(.seq #[.none] 0),#[]⟩)::
((nat_lit 111),⟨(.type "tuple"),none,(.seq #[] 0),#[]⟩)::
((nat_lit 113),⟨(.type "tuple"),none,(.seq #[(.str (.ofString "year") 377),(.str (.ofString "month") 378),(.str (.ofString "day") 379),(.str (.ofString "method") 380)] 0),#[]⟩)::
((nat_lit 114),⟨(.type "tuple"),none,(.seq #[] 0),#[]⟩)::
((nat_lit 116),⟨(.type "code"),none,(.fields #[(.str (.ofString "from_gregorian") 374),(.str (.ofString "from_gregorian") 375),(.str (.ofString "/claim/cut.py") 376),(.int 140 0),(.int 4 0),(.int 0 0),(.int 0 0),(.int 3 0),(.ref 111),(.bool true),(.int 181 0),(.ref 112),.none,(.ref 113),(.ref 114),(.ref 115),(.int 381 0),(.int 140 0),(.str (.ofString "/claim/cut.py") 382)]),#[]⟩)::
((nat_lit 117),⟨(.type "function"),none,(.func ⟨(.ofString "from_gregorian"),(.ofString "from_gregorian"),a41,(.stmts b41),s41,3,[],(.ref 110),.none,.none,(.str (.ofString "convertdate.french_republican") 332),none,(.ref 116),.none,0⟩),#[]⟩)::
((nat_lit 118),⟨(.type "tuple"),none,(.seq #[] 0),#[]⟩)::
((nat_lit 120),⟨(.type "tuple"),none,(.seq #[(.str (.ofString "year") 412)] 0),#[]⟩)::
((nat_lit 121),⟨(.type "tuple"),none,(.seq #[] 0),#[]⟩)::
((nat_lit 123),⟨(.type "code"),none,(.fields #[(.str (.ofString "leap") 409),(.str (.ofString "leap") 410),(.str (.ofString "/claim/cut.py") 411),(.int 155 0),(.int 1 0),(.int 0 0),(.int 0 0),(.int 3 0),(.ref 118),(.bool true),(.int 181 0),(.ref 119),.none,(.ref 120),(.ref 121),(.ref 122),(.int 413 0),(.int 155 0),(.str (.ofString "/claim/cut.py") 414)]),#[]⟩)::
((nat_lit 124),⟨(.type "function"),none,(.func ⟨(.ofString "leap"),(.ofString "leap"),a55,(.stmts b55),s55,3,[],.none,.none,.none,(.str (.ofString "convertdate.hebrew") 385),none,(.ref 123),.none,0⟩),#[]⟩)::
((nat_lit 125),⟨(.type "tuple"),none,(.seq #[] 0),#[]⟩)::
((nat_lit 127),⟨(.type "tuple"),none,(.seq #[(.str (.ofString "year") 419)] 0),#[]⟩)::
((nat_lit 128),⟨(.type "tuple"),none,(.seq #[] 0),#[]⟩)::
((nat_lit 130),⟨(.type "code"),none,(.fields #[(.str (.ofString "year_months") 416),(.str (.ofString "year_months") 417),(.str (.ofString "/claim/cut.py") 418),(.int 157 0),(.int 1 0),(.int 0 0),(.int 0 0),(.int 3 0),(.ref 125),(.bool true),(.int 181 0),(.ref 126),.none,(.ref 127),(.ref 128),(.ref 129),(.int 420 0),(.int 157 0),(.str (.ofString "/claim/cut.py") 421)]),#[]⟩)::
((nat_lit 131),⟨(.type "function"),none,(.func ⟨(.ofString "year_months"),(.ofString "year_months"),a56,(.stmts b56),s56,3,[],.none,.none,.none,(.str (.ofString "convertdate.hebrew") 385),none,(.ref 130),.none,0⟩),#[]⟩)::
((nat_lit 132),⟨(.type "tuple"),none,(.seq #[] 0),#[]⟩)::
((nat_lit 134),⟨(.type "tuple"),none,(.seq #[(.str (.ofString "year") 426),(.str (.ofString "months") 427),(.str (.ofString "parts") 428),(.str (.ofString "day") 429)] 0),#[]⟩)::
((nat_lit 135),⟨(.type "tuple"),none,(.seq #[] 0),#[]⟩)::
((nat_lit 137),⟨(.type "code"),none,(.fields #[(.str (.ofString "delay_1") 423),(.str (.ofString "delay_1") 424),(.str (.ofString "/claim/cut.py") 425),(.int 161 0),(.int 1 0),(.int 0 0),(.int 0 0),(.int 3 0),(.ref 132),(.bool true),(.int 181 0),(.ref 133),.none,(.ref 134),(.ref 135),(.ref 136),(.int 430 0),(.int 161 0),(.str (.ofString "/claim/cut.py") 431)]),#[]⟩)::
((nat_lit 138),⟨(.type "function"),none,(.func ⟨(.ofString "delay_1"),(.ofString "delay_1"),a57,(.stmts b57),s57,3,[],.none,.none,.none,(.str (.ofString "convertdate.hebrew") 385),none,(.ref 137),.none,0⟩),#[]⟩)::
((nat_lit 139),⟨(.type "tuple"),none,(.seq #[] 0),#[]⟩)::
((nat_lit 141),⟨(.type "tuple"),none,(.seq #[(.str (.ofString "year") 436),(.str (.ofString "last") 437),(.str (.ofString "present") 438),(.str (.ofString "next_") 439)] 0),#[]⟩)::
((nat_lit 142),⟨(.type "tuple"),none,(.seq #[] 0),#[]⟩)::
((nat_lit 144),⟨(.type "code"),none,(.fields #[(.str (.ofString "delay_2") 433),(.str (.ofString "delay_2") 434),(.str (.ofString "/claim/cut.py") 435),(.int 168 0),(.int 1 0),(.int 0 0),(.int 0 0),(.int 3 0),(.ref 139),(.bool true),(.int 181 0),(.ref 140),.none,(.ref 141),(.ref 142),(.ref 143),(.int 440 0),(.int 168 0),(.str (.ofString "/claim/cut.py") 441)]),#[]⟩)::
((nat_lit 145),⟨(.type "function"),none,(.func ⟨(.ofString "delay_2"),(.ofString "delay_2"),a58,(.stmts b58),s58,3,[],.none,.none,.none,(.str (.ofString "convertdate.hebrew") 385),none,(.ref 144),.none,0⟩),#[]⟩)::
((nat_lit 146),⟨(.type "tuple"),none,(.seq #[] 0),#[]⟩)::
((nat_lit 148),⟨(.type "tuple"),none,(.seq #[(.str (.ofString "year") 446)] 0),#[]⟩)::
((nat_lit 149),⟨(.type "tuple"),none,(.seq #[] 0),#[]⟩)::
((nat_lit 151),⟨(.type "code"),none,(.fields #[(.str (.ofString "year_days") 443),(.str (.ofString "year_days") 444),(.str (.ofString "/claim/cut.py") 445),(.int 177 0),(.int 1 0),(.int 0 0),(.int 0 0),(.int 3 0),(.ref 146),(.bool true),(.int 181 0),(.ref 147),.none,(.ref 148),(.ref 149),(.ref 150),(.int 447 0),(.int 177 0),(.str (.ofString "/claim/cut.py") 448)]),#[]⟩)::
((nat_lit 152),⟨(.type "function"),none,(.func ⟨(.ofString "year_days"),(.ofString "year_days"),a59,(.stmts b59),s59,3,[],.none,.none,.none,(.str (.ofString "convertdate.hebrew") 385),none,(.ref 151),.none,0⟩),#[]⟩)::
((nat_lit 153),⟨(.type "tuple"),none,(.seq #[] 0),#[]⟩)::
((nat_lit 155),⟨(.type "tuple"),none,(.seq #[(.str (.ofString "year") 453),(.str (.ofString "month") 454)] 0),#[]⟩)::
((nat_lit 156),⟨(.type "tuple"),none,(.seq #[] 0),#[]⟩)::
((nat_lit 158),⟨(.type "code"),none,(.fields #[(.str (.ofString "month_length") 450),(.str (.ofString "month_length") 451),(.str (.ofString "/claim/cut.py") 452),(.int 179 0),(.int 2 0),(.int 0 0),(.int 0 0),(.int 3 0),(.ref 153),(.bool true),(.int 181 0),(.ref 154),.none,(.ref 155),(.ref 156),(.ref 157),(.int 455 0),(.int 179 0),(.str (.ofString "/claim/cut.py") 456)]),#[]⟩)::
((nat_lit 159),⟨(.type "function"),none,(.func ⟨(.ofString "month_length"),(.ofString "month_length"),a60,(.stmts b60),s60,3,[],.none,.none,.none,(.str (.ofString "convertdate.hebrew") 385),none,(.ref 158),.none,0⟩),#[]⟩)::
((nat_lit 160),⟨(.type "tuple"),none,(.seq #[] 0),#[]⟩)::
((nat_lit 162),⟨(.type "tuple"),none,(.seq #[(.str (.ofString "year") 461),(.str (.ofString "month") 462)] 0),#[]⟩)::
((nat_lit 163),⟨(.type "tuple"),none,(.seq #[] 0),#[]⟩)::
((nat_lit 165),⟨(.type "code"),none,(.fields #[(.str (.ofString "month_days") 458),(.str (.ofString "month_days") 459),(.str (.ofString "/claim/cut.py") 460),(.int 191 0),(.int 2 0),(.int 0 0),(.int 0 0),(.int 3 0),(.ref 160),(.bool true),(.int 181 0),(.ref 161),.none,(.ref 162),(.ref 163),(.ref 164),(.int 463 0),(.int 191 0),(.str (.ofString "/claim/cut.py") 464)]),#[]⟩)::
((nat_lit 166),⟨(.type "function"),none,(.func ⟨(.ofString "month_days"),(.ofString "month_days"),a61,(.stmts b61),s61,3,[],.none,.none,.none,(.str (.ofString "convertdate.hebrew") 385),none,(.ref 165),.none,0⟩),#[]⟩)::
((nat_lit 167),⟨(.type "tuple"),none,(.seq #[] 0),#[]⟩)::
((nat_lit 169),⟨(.type "tuple"),none,(.seq #[(.str (.ofString "year") 469),(.str (.ofString "month") 470),(.str (.ofString "day") 471),(.str (.ofString "months") 472),(.str (.ofString "jd") 473),(.str (.ofString "m") 474)] 0),#[]⟩)::
((nat_lit 170),⟨(.type "tuple"),none,(.seq #[] 0),#[]⟩)::
((nat_lit 172),⟨(.type "code"),none,(.fields #[(.str (.ofString "to_jd") 466),(.str (.ofString "to_jd") 467),(.str (.ofString "/claim/cut.py") 468),(.int 193 0),(.int 3 0),(.int 0 0),(.int 0 0),(.int 3 0),(.ref 167),(.bool true),(.int 181 0),(.ref 168),.none,(.ref 169),(.ref 170),(.ref 171),(.int 475 0),(.int 193 0),(.str (.ofString "/claim/cut.py") 476)]),#[]⟩)::
((nat_lit 173),⟨(.type "function"),none,(.func ⟨(.ofString "to_jd"),(.ofString "to_jd"),a62,(.stmts b62),s62,3,[],.none,.none,.none,(.str (.ofString "convertdate.hebrew") 385),none,(.ref 172),.none,0⟩),#[]⟩)::
((nat_lit 174),⟨(.type "tuple"),none,(.seq #[] 0),#[]⟩)::
((nat_lit 176),⟨(.type "tuple"),none,(.seq #[(.str (.ofString "jd") 482),(.str (.ofString "count") 483),(.str (.ofString "year") 484),(.str (.ofString "i") 485),(.str (.ofString "first") 486),(.str (.ofString "month") 487),(.str (.ofString "day") 488)] 0),#[]⟩)::
((nat_lit 177),⟨(.type "tuple"),none,(.seq #[] 0),#[]⟩)::
((nat_lit 179),⟨(.type "code"),none,(.fields #[(.str (.ofString "from_jd") 479),(.str (.ofString "from_jd") 480),(.str (.ofString "/claim/cut.py") 481),(.int 206 0),(.int 1 0),(.int 0 0),(.int 0 0),(.int 3 0),(.ref 174),(.bool true),(.int 181 0),(.ref 175),.none,(.ref 176),(.ref 177),(.ref 178),(.int 489 0),(.int 206 0),(.str (.ofString "/claim/cut.py") 490)]),#[]⟩)::
((nat_lit 180),⟨(.type "function"),none,(.func ⟨(.ofString "from_jd"),(.ofString "from_jd"),a64,(.stmts b64),s64,3,[],.none,.none,.none,(.str (.ofString "convertdate.hebrew") 385),none,(.ref 179),.none,0⟩),#[]⟩)::
((nat_lit 181),⟨(.type "tuple"),none,(.seq #[] 0),#[]⟩)::
((nat_lit 183),⟨(.type "tuple"),none,(.seq #[(.str (.ofString "year") 496),(.str (.ofString "month") 497),(.str (.ofString "day") 498)] 0),#[]⟩)::
((nat_lit 184),⟨(.type "tuple"),none,(.seq #[] 0),#[]⟩)::
((nat_lit 186),⟨(.type "code"),none,(.fields #[(.str (.ofString "from_gregorian") 493),(.str (.ofString "from_gregorian") 494),(.str (.ofString "/claim/cut.py") 495),(.int 224 0),(.int 3 0),(.int 0 0),(.int 0 0),(.int 3 0),(.ref 181),(.bool true),(.int 181 0),(.ref 182),.none,(.ref 183),(.ref 184),(.ref 185),(.int 499 0),(.int 224 0),(.str (.ofString "/claim/cut.py") 500)]),#[]⟩)::
((nat_lit 187),⟨(.type "function"),none,(.func ⟨(.ofString "from_gregorian"),(.ofString "from_gregorian"),a66,(.stmts b66),s66,3,[],.none,.none,.none,(.str (.ofString "convertdate.hebrew") 385),none,(.ref 186),.none,0⟩),#[]⟩)::
((nat_lit 188),⟨(.type "list"),none,(.seq #[(.str (.ofString "Pop") 507),(.str (.ofString "Wo'") 508),(.str (.ofString "Zip") 509),(.str (.ofString "Sotz'") 510),(.str (.ofString "Sek") 511),(.str (.ofString "Xul") 512),(.str (.ofString "Yaxk'in'") 513),(.str (.ofString "Mol") 514),(.str (.ofString "Ch'en") 515),(.str (.ofString "Yax") 516),(.str (.ofString "Sak'") 517),(.str (.ofString "Keh") 518),(.str (.ofString "Mak") 519),(.str (.ofString "K'ank'in") 520),(.str (.ofString "Muwan'") 521),(.str (.ofString "Pax") 522),(.str (.ofString "K'ayab") 523),(.str (.ofString "Kumk'u") 524),(.str (.ofString "Wayeb'") 525)] 0),#[]⟩)::
((nat_lit 189),⟨(.type "list"),none,(.seq #[(.str (.ofString "Imix'") 527),(.str (.ofString "Ik'") 528),(.str (.ofString "Ak'b'al") 529),(.str (.ofString "K'an") 530),(.str (.ofString "Chikchan") 531),(.str (.ofString "Kimi") 532),(.str (.ofString "Manik'") 533),(.str (.ofString "Lamat") 534),(.str (.ofString "Muluk") 535),(.str (.ofString "Ok") 536),(.str (.ofString "Chuwen") 537),(.str (.ofString "Eb'") 538),(.str (.ofString "B'en") 539),(.str (.ofString "Ix") 540),(.str (.ofString "Men") 541),(.str (.ofString "K'ib'") 542),(.str (.ofString "Kab'an") 543),(.str (.ofString "Etz'nab'") 544),(.str (.ofString "Kawak") 545),(.str (.ofString "Ajaw") 546)] 0),#[]⟩)::
((nat_lit 190),⟨(.type "tuple"),none,(.seq #[] 0),#[]⟩)::
((nat_lit 192),⟨(.type "tuple"),none,(.seq #[(.str (.ofString "baktun") 551),(.str (.ofString "katun") 552),(.str (.ofString "tun") 553),(.str (.ofString "uinal") 554),(.str (.ofString "kin") 555)] 0),#[]⟩)::
((nat_lit 193),⟨(.type "tuple"),none,(.seq #[] 0),#[]⟩)::
((nat_lit 195),⟨(.type "code"),none,(.fields #[(.str (.ofString "to_jd") 548),(.str (.ofString "to_jd") 549),(.str (.ofString "/claim/cut.py") 550),(.int 231 0),(.int 5 0),(.int 0 0),(.int 0 0),(.int 3 0),(.ref 190),(.bool true),(.int 181 0),(.ref 191),.none,(.ref 192),(.ref 193),(.ref 194),(.int 556 0),(.int 231 0),(.str (.ofString "/claim/cut.py") 557)]),#[]⟩)::
((nat_lit 196),⟨(.type "function"),none,(.func ⟨(.ofString "to_jd"),(.ofString "to_jd"),a72,(.stmts b72),s72,3,[],.none,.none,.none,(.str (.ofString "convertdate.mayan") 503),none,(.ref 195),.none,0⟩),#[]⟩)::
((nat_lit 197),⟨(.type "tuple"),none,(.seq #[] 0),#[]⟩)::
((nat_lit 199),⟨(.type "tuple"),none,(.seq #[(.str (.ofString "jd") 563),(.str (.ofString "d") 564),(.str (.ofString "baktun") 565),(.str (.ofString "katun") 566),(.str (.ofString "tun") 567),(.str (.ofString "uinal") 568),(.str (.ofString "kin") 569)] 0),#[]⟩)::
((nat_lit 200),⟨(.type "tuple"),none,(.seq #[] 0),#[]⟩)::
((nat_lit 202),⟨(.type "code"),none,(.fields #[(.str (.ofString "from_jd") 560),(.str (.ofString "from_jd") 561),(.str (.ofString "/claim/cut.py") 562),(.int 234 0),(.int 1 0),(.int 0 0),(.int 0 0),(.int 3 0),(.ref 197),(.bool true),(.int 181 0),(.ref 198),.none,(.ref 199),(.ref 200),(.ref 201),(.int 570 0),(.int 234 0),(.str (.ofString "/claim/cut.py") 571)]),#[]⟩)::
((nat_lit 203),⟨(.type "function"),none,(.func ⟨(.ofString "from_jd"),(.ofString "from_jd"),a74,(.stmts b74),s74,3,[],.none,.none,.none,(.str (.ofString "convertdate.mayan") 503),none,(.ref 202),.none,0⟩),#[]⟩)::
((nat_lit 204),⟨(.type "tuple"),none,(.seq #[] 0),#[]⟩)::
((nat_lit 206),⟨(.type "tuple"),none,(.seq #[(.str (.ofString "year") 577),(.str (.ofString "month") 578),(.str (.ofString "day") 579),(.str (.ofString "jd") 580)] 0),#[]⟩)::
((nat_lit 207),⟨(.type "tuple"),none,(.seq #[] 0),#[]⟩)::
((nat_lit 209),⟨(.type "code"),none,(.fields #[(.str (.ofString "from_gregorian") 574),(.str (.ofString "from_gregorian") 575),(.str (.ofString "/claim/cut.py") 576),(.int 248 0),(.int 3 0),(.int 0 0),(.int 0 0),(.int 3 0),(.ref 204),(.bool true),(.int 181 0),(.ref 205),.none,(.ref 206),(.ref 207),(.ref 208),(.int 581 0),(.int 248 0),(.str (.ofString "/claim/cut.py") 582)]),#[]⟩)::
((nat_lit 210),⟨(.type "function"),none,(.func ⟨(.ofString "from_gregorian"),(.ofString "from_gregorian"),a76,(.stmts b76),s76,3,[],.none,.none,.none,(.str (.ofString "convertdate.mayan") 503),none,(.ref 209),.none,0⟩),#[]⟩)::
((nat_lit 211),⟨(.type "tuple"),none,(.seq #[] 0),#[]⟩)::
((nat_lit 213),⟨(.type "tuple"),none,(.seq #[(.str (.ofString "jd") 588),(.str (.ofString "lcount") 589),(.str (.ofString "day") 590),(.str (.ofString "count") 591),(.str (.ofString "month") 592)] 0),#[]⟩)::
((nat_lit 214),⟨(.type "tuple"),none,(.seq #[] 0),#[]⟩)::
((nat_lit 216),⟨(.type "code"),none,(.fields #[(.str (.ofString "to_haab") 585),(.str (.ofString "to_haab") 586),(.str (.ofString "/claim/cut.py") 587),(.int 252 0),(.int 1 0),(.int 0 0),(.int 0 0),(.int 3 0),(.ref 211),(.bool true),(.int 181 0),(.ref 212),.none,(.ref 213),(.ref 214),(.ref 215),(.int 593 0),(.int 252 0),(.str (.ofString "/claim/cut.py") 594)]),#[]⟩)::
((nat_lit 217),⟨(.type "function"),none,(.func ⟨(.ofString "to_haab"),(.ofString "to_haab"),a78,(.stmts b78),s78,3,[],.none,.none,.none,(.str (.ofString "convertdate.mayan") 503),none,(.ref 216),.none,0⟩),#[]⟩)::
((nat_lit 218),⟨(.type "tuple"),none,(.seq #[] 0),#[]⟩)::
((nat_lit 220),⟨(.type "tuple"),none,(.seq #[(.str (.ofString "jd") 599),(.str (.ofString "lcount") 600),(.str (.ofString "day") 601),(.str (.ofString "name") 602)] 0),#[]⟩)::
((nat_lit 221),⟨(.type "tuple"),none,(.seq #[] 0),#[]⟩)::
((nat_lit 223),⟨(.type "code"),none,(.fields #[(.str (.ofString "to_tzolkin") 596),(.str (.ofString "to_tzolkin") 597),(.str (.ofString "/claim/cut.py") 598),(.int 258 0),(.int 1 0),(.int 0 0),(.int 0 0),(.int 3 0),(.ref 218),(.bool true),(.int 181 0),(.ref 219),.none,(.ref 220),(.ref 221),(.ref 222),(.int 603 0),(.int 258 0),(.str (.ofString "/claim/cut.py") 604)]),#[]⟩)::
((nat_lit 224),⟨(.type "function"),none,(.func ⟨(.ofString "to_tzolkin"),(.ofString "to_tzolkin"),a79,(.stmts b79),s79,3,[],.none,.none,.none,(.str (.ofString "convertdate.mayan") 503),none,(.ref 223),.none,0⟩),#[]⟩)::
((nat_lit 225),⟨(.type "tuple"),none,(.seq #[] 0),#[]⟩)::
((nat_lit 227),⟨(.type "tuple"),none,(.seq #[(.str (.ofString "baktun") 609),(.str (.ofString "katun") 610),(.str (.ofString "tun") 611),(.str (.ofString "uinal") 612),(.str (.ofString "kin") 613),(.str (.ofString "jd") 614)] 0),#[]⟩)::
((nat_lit 228),⟨(.type "tuple"),none,(.seq #[] 0),#[]⟩)::
((nat_lit 230),⟨(.type "code"),none,(.fields #[(.str (.ofString "lc_to_haab") 606),(.str (.ofString "lc_to_haab") 607),(.str (.ofString "/claim/cut.py") 608),(.int 263 0),(.int 5 0),(.int 0 0),(.int 0 0),(.int 3 0),(.ref 225),(.bool true),(.int 181 0),(.ref 226),.none,(.ref 227),(.ref 228),(.ref 229),(.int 615 0),(.int 263 0),(.str (.ofString "/claim/cut.py") 616)]),#[]⟩)::
((nat_lit 231),⟨(.type "function"),none,(.func ⟨(.ofString "lc_to_haab"),(.ofString "lc_to_haab"),a80,(.stmts b80),s80,3,[],.none,.none,.none,(.str (.ofString "convertdate.mayan") 503),none,(.ref 230),.none,0⟩),#[]⟩)::
((nat_lit 232),⟨(.type "tuple"),none,(.seq #[] 0),#[]⟩)::
((nat_lit 234),⟨(.type "tuple"),none,(.seq #[(.str (.ofString "baktun") 621),(.str (.ofString "katun") 622),(.str (.ofString "tun") 623),(.str (.ofString "uinal") 624),(.str (.ofString "kin") 625),(.str (.ofString "jd") 626)] 0),#[]⟩)::
((nat_lit 235),⟨(.type "tuple"),none,(.seq #[] 0),#[]⟩)::
((nat_lit 237),⟨(.type "code"),none,(.fields #[(.str (.ofString "lc_to_tzolkin") 618),(.str (.ofString "lc_to_tzolkin") 619),(.str (.ofString "/claim/cut.py") 620),(.int 266 0),(.int 5 0),(.int 0 0),(.int 0 0),(.int 3 0),(.ref 232),(.bool true),(.int 181 0),(.ref 233),.none,(.ref 234),(.ref 235),(.ref 236),(.int 627 0),(.int 266 0),(.str (.ofString "/claim/cut.py") 628)]),#[]⟩)::
((nat_lit 238),⟨(.type "function"),none,(.func ⟨(.ofString "lc_to_tzolkin"),(.ofString "lc_to_tzolkin"),a81,(.stmts b81),s81,3,[],.none,.none,.none,(.str (.ofString "convertdate.mayan") 503),none,(.ref 237),.none,0⟩),#[]⟩)::
((nat_lit 239),⟨(.type "tuple"),none,(.seq #[] 0),#[]⟩)::
((nat_lit 241),⟨(.type "tuple"),none,(.seq #[(.str (.ofString "baktun") 633),(.str (.ofString "katun") 634),(.str (.ofString "tun") 635),(.str (.ofString "uinal") 636),(.str (.ofString "kin") 637),(.str (.ofString "jd") 638),(.str (.ofString "dates") 639)] 0),#[]⟩)::
((nat_lit 242),⟨(.type "tuple"),none,(.seq #[] 0),#[]⟩)::
((nat_lit 244),⟨(.type "code"),none,(.fields #[(.str (.ofString "lc_to_haab_tzolkin") 630),(.str (.ofString "lc_to_haab_tzolkin") 631),(.str (.ofString "/claim/cut.py") 632),(.int 269 0),(.int 5 0),(.int 0 0),(.int 0 0),(.int 3 0),(.ref 239),(.bool true),(.int 181 0),(.ref 240),.none,(.ref 241),(.ref 242),(.ref 243),(.int 640 0),(.int 269 0),(.str (.ofString "/claim/cut.py") 641)]),#[]⟩)::
((nat_lit 245),⟨(.type "function"),none,(.func ⟨(.ofString "lc_to_haab_tzolkin"),(.ofString "lc_to_haab_tzolkin"),a82,(.stmts b82),s82,3,[],.none,.none,.none,(.str (.ofString "convertdate.mayan") 503),none,(.ref 244),.none,0⟩),#[]⟩)::
((nat_lit 246),⟨(.type "tuple"),none,(.seq #[] 0),#[]⟩)::
((nat_lit 248),⟨(.type "tuple"),none,(.seq #[(.str (.ofString "jd") 652),(.str (.ofString "err") 653),(.str (.ofString "depoch") 654),(.str (.ofString "quadricent") 655),(.str (.ofString "dqc") 656),(.str (.ofString "cent") 657),(.str (.ofString "dcent") 658),(.str (.ofString "quad") 659),(.str (.ofString "dquad") 660),(.str (.ofString "yindex") 661),(.str (.ofString "year") 662),(.str (.ofString "yearday") 663),(.str (.ofString "month") 664)] 0),#[]⟩)::
((nat_lit 249),⟨(.type "tuple"),none,(.seq #[] 0),#[]⟩)::
((nat_lit 251),⟨(.type "code"),none,(.fields #[(.str (.ofString "from_jd") 649),(.str (.ofString "from_jd") 650),(.str (.ofString "/claim/cut.py") 651),(.int 276 0),(.int 1 0),(.int 0 0),(.int 0 0),(.int 3 0),(.ref 246),(.bool true),(.int 181 0),(.ref 247),.none,(.ref 248),(.ref 249),(.ref 250),(.int 665 0),(.int 276 0),(.str (.ofString "/claim/cut.py") 666)]),#[]⟩)::
((nat_lit 252),⟨(.type "function"),none,(.func ⟨(.ofString "from_jd"),(.ofString "from_jd"),a86,(.stmts b86),s86,3,[],.none,.none,.none,(.str (.ofString "convertdate.positivist") 643),none,(.ref 251),.none,0⟩),#[]⟩)::
((nat_lit 253),⟨(.type "tuple"),none,(.seq #[] 0),#[]⟩)::
((nat_lit 255),⟨(.type "tuple"),none,(.seq #[(.str (.ofString "year") 672),(.str (.ofString "month") 673),(.str (.ofString "day") 674)] 0),#[]⟩)::
((nat_lit 256),⟨(.type "tuple"),none,(.seq #[] 0),#[]⟩)::
((nat_lit 258),⟨(.type "code"),none,(.fields #[(.str (.ofString "from_gregorian") 669),(.str (.ofString "from_gregorian") 670),(.str (.ofString "/claim/cut.py") 671),(.int 298 0),(.int 3 0),(.int 0 0),(.int 0 0),(.int 3 0),(.ref 253),(.bool true),(.int 181 0),(.ref 254),.none,(.ref 255),(.ref 256),(.ref 257),(.int 675 0),(.int 298 0),(.str (.ofString "/claim/cut.py") 676)]),#[]⟩)::
((nat_lit 259),⟨(.type "function"),none,(.func ⟨(.ofString "from_gregorian"),(.ofString "from_gregorian"),a88,(.stmts b88),s88,3,[],.none,.none,.none,(.str (.ofString "convertdate.positivist") 643),none,(.ref 258),.none,0⟩),#[]⟩)::
((nat_lit 260),⟨(.type "tuple"),none,(.seq #[] 0),#[]⟩)::
((nat_lit 262),⟨(.type "tuple"),none,(.seq #[] 0),#[]⟩)::
((nat_lit 263),⟨(.type "tuple"),none,(.seq #[] 0),#[]⟩)::
((nat_lit 265),⟨(.type "code"),none,(.fields #[(.str (.ofString "_law_doors") 681),(.str (.ofString "_law_doors") 682),(.str (.ofString "/claim/cut.py") 683),(.int 302 0),(.int 0 0),(.int 0 0),(.int 0 0),(.int 3 0),(.ref 260),(.bool true),(.int 181 0),(.ref 261),.none,(.ref 262),(.ref 263),(.ref 264),(.int 684 0),(.int 302 0),(.str (.ofString "/claim/cut.py") 685)]),#[]⟩)::
((nat_lit 266),⟨(.type "function"),none,(.func ⟨(.ofString "_law_doors"),(.ofString "_law_doors"),a91,(.stmts b91),s91,3,[],.none,.none,.none,(.str (.ofString "law_ah0025_01") 679),none,(.ref 265),.none,0⟩),#[]⟩)::
((nat_lit 267),⟨(.type "tuple"),none,(.seq #[] 0),#[]⟩)::
((nat_lit 269),⟨(.type "tuple"),none,(.seq #[(.str (.ofString "which") 690),(.str (.ofString "year") 691),(.str (.ofString "month") 692),(.str (.ofString "day") 693)] 0),#[]⟩)::
((nat_lit 270),⟨(.type "tuple"),none,(.seq #[] 0),#[]⟩)::
((nat_lit 272),⟨(.type "code"),none,(.fields #[(.str (.ofString "_law_door") 687),(.str (.ofString "_law_door") 688),(.str (.ofString "/claim/cut.py") 689),(.int 304 0),(.int 4 0),(.int 0 0),(.int 0 0),(.int 3 0),(.ref 267),(.bool true),(.int 181 0),(.ref 268),.none,(.ref 269),(.ref 270),(.ref 271),(.int 694 0),(.int 304 0),(.str (.ofString "/claim/cut.py") 695)]),#[]⟩)::
((nat_lit 273),⟨(.type "function"),none,(.func ⟨(.ofString "_law_door"),(.ofString "_law_door"),a92,(.stmts b92),s92,3,[],.none,.none,.none,(.str (.ofString "law_ah0025_01") 679),none,(.ref 272),.none,0⟩),#[]⟩)::
((nat_lit 274),⟨(.type "tuple"),none,(.seq #[] 0),#[]⟩)::
((nat_lit 276),⟨(.type "tuple"),none,(.seq #[(.str (.ofString "year") 700),(.str (.ofString "place") 701)] 0),#[]⟩)::
((nat_lit 277),⟨(.type "tuple"),none,(.seq #[] 0),#[]⟩)::
((nat_lit 279),⟨(.type "code"),none,(.fields #[(.str (.ofString "_law_date") 697),(.str (.ofString "_law_date") 698),(.str (.ofString "/claim/cut.py") 699),(.int 325 0),(.int 2 0),(.int 0 0),(.int 0 0),(.int 3 0),(.ref 274),(.bool true),(.int 181 0),(.ref 275),.none,(.ref 276),(.ref 277),(.ref 278),(.int 702 0),(.int 325 0),(.str (.ofString "/claim/cut.py") 703)]),#[]⟩)::
((nat_lit 280),⟨(.type "function"),none,(.func ⟨(.ofString "_law_date"),(.ofString "_law_date"),a93,(.stmts b93),s93,3,[],.none,.none,.none,(.str (.ofString "law_ah0025_01") 679),none,(.ref 279),.none,0⟩),#[]⟩)::
((nat_lit 281),⟨(.type "tuple"),none,(.seq #[] 0),#[]⟩)::
((nat_lit 283),⟨(.type "tuple"),none,(.seq #[(.str (.ofString "year") 708)] 0),#[]⟩)::
((nat_lit 284),⟨(.type "tuple"),none,(.seq #[] 0),#[]⟩)::
((nat_lit 286),⟨(.type "code"),none,(.fields #[(.str (.ofString "_law_days") 705),(.str (.ofString "_law_days") 706),(.str (.ofString "/claim/cut.py") 707),(.int 327 0),(.int 1 0),(.int 0 0),(.int 0 0),(.int 3 0),(.ref 281),(.bool true),(.int 181 0),(.ref 282),.none,(.ref 283),(.ref 284),(.ref 285),(.int 709 0),(.int 327 0),(.str (.ofString "/claim/cut.py") 710)]),#[]⟩)::
((nat_lit 287),⟨(.type "function"),none,(.func ⟨(.ofString "_law_days"),(.ofString "_law_days"),a94,(.stmts b94),s94,3,[],.none,.none,.none,(.str (.ofString "law_ah0025_01") 679),none,(.ref 286),.none,0⟩),#[]⟩)::
((nat_lit 288),⟨(.type "tuple"),none,(.seq #[] 0),#[]⟩)::
((nat_lit 290),⟨(.type "tuple"),none,(.seq #[(.str (.ofString "year") 715),(.str (.ofString "place") 716),(.str (.ofString "back") 717)] 0),#[]⟩)::
((nat_lit 291),⟨(.type "tuple"),none,(.seq #[] 0),#[]⟩)::
((nat_lit 293),⟨(.type "code"),none,(.fields #[(.str (.ofString "_law_moved") 712),(.str (.ofString "_law_moved") 713),(.str (.ofString "/claim/cut.py") 714),(.int 329 0),(.int 3 0),(.int 0 0),(.int 0 0),(.int 3 0),(.ref 288),(.bool true),(.int 181 0),(.ref 289),.none,(.ref 290),(.ref 291),(.ref 292),(.int 718 0),(.int 329 0),(.str (.ofString "/claim/cut.py") 719)]),#[]⟩)::
((nat_lit 294),⟨(.type "function"),none,(.func ⟨(.ofString "_law_moved"),(.ofString "_law_moved"),a95,(.stmts b95),s95,3,[],.none,.none,.none,(.str (.ofString "law_ah0025_01") 679),none,(.ref 293),.none,0⟩),#[]⟩)::
((nat_lit 295),⟨(.type "tuple"),none,(.seq #[] 0),#[]⟩)::
((nat_lit 297),⟨(.type "tuple"),none,(.seq #[(.str (.ofString "year") 724),(.str (.ofString "place") 725),(.str (.ofString "since") 726)] 0),#[]⟩)::
((nat_lit 298),⟨(.type "tuple"),none,(.seq #[] 0),#[]⟩)::
((nat_lit 300),⟨(.type "code"),none,(.fields #[(.str (.ofString "_law_ahead") 721),(.str (.ofString "_law_ahead") 722),(.str (.ofString "/claim/cut.py") 723),(.int 333 0),(.int 3 0),(.int 0 0),(.int 0 0),(.int 3 0),(.ref 295),(.bool true),(.int 181 0),(.ref 296),.none,(.ref 297),(.ref 298),(.ref 299),(.int 727 0),(.int 333 0),(.str (.ofString "/claim/cut.py") 728)]),#[]⟩)::
((nat_lit 301),⟨(.type "function"),none,(.func ⟨(.ofString "_law_ahead"),(.ofString "_law_ahead"),a96,(.stmts b96),s96,3,[],.none,.none,.none,(.str (.ofString "law_ah0025_01") 679),none,(.ref 300),.none,0⟩),#[]⟩)::
((nat_lit 302),⟨(.type "tuple"),none,(.seq #[] 0),#[]⟩)::
((nat_lit 305),⟨(.type "code"),none,(.fields #[(.str (.ofString "law") 730),(.str (.ofString "law") 731),(.str (.ofString "/claim/cut.py") 732),(.int 339 0),(.int 1 0),(.int 0 0),(.int 0 0),(.int 3 0),(.ref 302),(.bool true),(.int 181 0),(.ref 303),.none,.none,.none,(.ref 304),(.int 733 0),(.int 339 0),(.str (.ofString "/claim/cut.py") 734)]),#[]⟩)::
((nat_lit 306),⟨(.type "function"),none,(.func ⟨(.ofString "law"),(.ofString "law"),a97,(.stmts b97),s97,3,[],.none,.none,.none,(.str (.ofString "law_ah0025_01") 679),none,(.ref 305),.none,0⟩),#[]⟩)::[]) : Frag)) _ _ _ ⟨⟨_, _, _, _, _, _, _, rfl⟩⟩ _ _ _ ⟨⟨_, _, _, _, _, _, _, rfl⟩⟩ _ _ _ ⟨⟨_, _, _, _, _, _, _, rfl⟩⟩ _ _ _ ⟨⟨_, _, _, _, _, _, _, rfl⟩⟩ _ _ _ ⟨⟨_, _, _, _, _, _, _, rfl⟩⟩ _ _ _ ⟨⟨_, _, _, _, _, _, _, rfl⟩⟩ _ _ _ ⟨⟨_, _, _, _, _, _, _, rfl⟩⟩ _ _ _ ⟨⟨_, _, _, _, _, _, _, rfl⟩⟩ _ _ _ ⟨⟨_, _, _, _, _, _, _, rfl⟩⟩ _ _ _ ⟨⟨_, _, _, _, _, _, _, rfl⟩⟩ _ _ _ ⟨⟨_, _, _, _, _, _, _, rfl⟩⟩ _ _ _ ⟨⟨_, _, _, _, _, _, _, rfl⟩⟩ _ _ _ ⟨⟨_, _, _, _, _, _, _, rfl⟩⟩ _ _ _ ⟨⟨_, _, _, _, _, _, _, rfl⟩⟩ _ _ _ ⟨⟨_, _, _, _, _, _, _, rfl⟩⟩ _ _ _ ⟨⟨_, _, _, _, _, _, _, rfl⟩⟩ _ _ _ ⟨⟨_, _, _, _, _, _, _, rfl⟩⟩ _ _ _ ⟨⟨_, _, _, _, _, _, _, rfl⟩⟩ _ _ _ ⟨⟨_, _, _, _, _, _, _, rfl⟩⟩ _ _ _ ⟨⟨_, _, _, _, _, _, _, rfl⟩⟩ _ _ _ ⟨⟨_, _, _, _, _, _, _, rfl⟩⟩ _ _ _ ⟨⟨_, _, _, _, _, _, _, rfl⟩⟩ _ _ _ ⟨⟨_, _, _, _, _, _, _, rfl⟩⟩ _ _ _ ⟨⟨_, _, _, _, _, _, _, rfl⟩⟩ _ _ _ ⟨⟨_, _, _, _, _, _, _, rfl⟩⟩ _ _ _ ⟨⟨_, _, _, _, _, _, _, rfl⟩⟩ _ _ _ ⟨⟨_, _, _, _, _, _, _, rfl⟩⟩ _ _ _ ⟨⟨_, _, _, _, _, _, _, rfl⟩⟩ _ _ _ ⟨⟨_, _, _, _, _, _, _, rfl⟩⟩ _ _ _ ⟨⟨_, _, _, _, _, _, _, rfl⟩⟩ _ _ _ ⟨⟨_, _, _, _, _, _, _, rfl⟩⟩ _ _ _ ⟨⟨_, _, _, _, _, _, _, rfl⟩⟩ _ _ _ ⟨⟨_, _, _, _, _, _, _, rfl⟩⟩ _ _ _ ⟨⟨_, _, _, _, _, _, _, rfl⟩⟩ _ _ _ ⟨⟨_, _, _, _, _, _, _, rfl⟩⟩ _ _ _ ⟨⟨_, _, _, _, _, _, _, rfl⟩⟩ _ _ _ ⟨⟨_, _, _, _, _, _, _, rfl⟩⟩ _ _ _ ⟨⟨_, _, _, _, _, _, _, rfl⟩⟩ _ _ _ ⟨⟨_, _, _, _, _, _, _, rfl⟩⟩ _ _ _ ⟨⟨_, _, _, _, _, _, _, rfl⟩⟩ _ _ _ ⟨⟨_, _, _, _, _, _, _, rfl⟩⟩ bar_a
set_option maxRecDepth 100000 in
set_option maxHeartbeats 4000000 in
noncomputable def hd.view_39 : Program := (fun (x1_0 : Str) (x1_1 : Arguments) (x1_2 : List Stmt) (x1_3 : List PySem.Expr) (x1_4 : Option PySem.Expr) (x1_5 : List TypeParam) (x1_6 : Scope) (x1_7 : Option Scope) (x1_8 : Str) (x1_9 : Pos) (_ : StEq 1 (.FunctionDef x1_0 x1_1 x1_2 x1_3 x1_4 x1_5 x1_6 x1_7 x1_8 x1_9)) (x2_0 : Str) (x2_1 : Arguments) (x2_2 : List Stmt) (x2_3 : List PySem.Expr) (x2_4 : Option PySem.Expr) (x2_5 : List TypeParam) (x2_6 : Scope) (x2_7 : Option Scope) (x2_8 : Str) (x2_9 : Pos) (_ : StEq 2 (.FunctionDef x2_0 x2_1 x2_2 x2_3 x2_4 x2_5 x2_6 x2_7 x2_8 x2_9)) (x3_0 : Str) (x3_1 : Arguments) (x3_2 : List Stmt) (x3_3 : List PySem.Expr) (x3_4 : Option PySem.Expr) (x3_5 : List TypeParam) (x3_6 : Scope) (x3_7 : Option Scope) (x3_8 : Str) (x3_9 : Pos) (_ : StEq 3 (.FunctionDef x3_0 x3_1 x3_2 x3_3 x3_4 x3_5 x3_6 x3_7 x3_8 x3_9)) (x4_0 : Str) (x4_1 : Arguments) (x4_2 : List Stmt) (x4_3 : List PySem.Expr) (x4_4 : Option PySem.Expr) (x4_5 : List TypeParam) (x4_6 : Scope) (x4_7 : Option Scope) (x4_8 : Str) (x4_9 : Pos) (_ : StEq 4 (.FunctionDef x4_0 x4_1 x4_2 x4_3 x4_4 x4_5 x4_6 x4_7 x4_8 x4_9)) (x6_0 : List PySem.Expr) (x6_1 : PySem.Expr) (x6_2 : Pos) (_ : StEq 6 (.Assign x6_0 x6_1 x6_2)) (x7_0 : List PySem.Expr) (x7_1 : PySem.Expr) (x7_2 : Pos) (_ : StEq 7 (.Assign x7_0 x7_1 x7_2)) (x8_0 : List PySem.Expr) (x8_1 : PySem.Expr) (x8_2 : Pos) (_ : StEq 8 (.Assign x8_0 x8_1 x8_2)) (x9_0 : List PySem.Expr) (x9_1 : PySem.Expr) (x9_2 : Pos) (_ : StEq 9 (.Assign x9_0 x9_1 x9_2)) (x10_0 : List PySem.Expr) (x10_1 : PySem.Expr) (x10_2 : Pos) (_ : StEq 10 (.Assign x10_0 x10_1 x10_2)) (x11_0 : List PySem.Expr) (x11_1 : PySem.Expr) (x11_2 : Pos) (_ : StEq 11 (.Assign x11_0 x11_1 x11_2)) (x12_0 : List PySem.Expr) (x12_1 : PySem.Expr) (x12_2 : Pos) (_ : StEq 12 (.Assign x12_0 x12_1 x12_2)) (x13_0 : List PySem.Expr) (x13_1 : PySem.Expr) (x13_2 : Pos) (_ : StEq 13 (.Assign x13_0 x13_1 x13_2)) (x14_0 : List PySem.Expr) (x14_1 : PySem.Expr) (x14_2 : Pos) (_ : StEq 14 (.Assign x14_0 x14_1 x14_2)) (x15_0 : Str) (x15_1 : Arguments) (x15_2 : List Stmt) (x15_3 : List PySem.Expr) (x15_4 : Option PySem.Expr) (x15_5 : List TypeParam) (x15_6 : Scope) (x15_7 : Option Scope) (x15_8 : Str) (x15_9 : Pos) (_ : StEq 15 (.FunctionDef x15_0 x15_1 x15_2 x15_3 x15_4 x15_5 x15_6 x15_7 x15_8 x15_9)) (x17_0 : List PySem.Expr) (x17_1 : PySem.Expr) (x17_2 : Pos) (_ : StEq 17 (.Assign x17_0 x17_1 x17_2)) (x19_0 : List PySem.Expr) (x19_1 : PySem.Expr) (x19_2 : Pos) (_ : StEq 19 (.Assign x19_0 x19_1 x19_2)) (x20_0 : List PySem.Expr) (x20_1 : PySem.Expr) (x20_2 : Pos) (_ : StEq 20 (.Assign x20_0 x20_1 x20_2)) (x22_0 : List PySem.Expr) (x22_1 : PySem.Expr) (x22_2 : Pos) (_ : StEq 22 (.Assign x22_0 x22_1 x22_2)) (x24_0 : List PySem.Expr) (x24_1 : PySem.Expr) (x24_2 : Pos) (_ : StEq 24 (.Assign x24_0 x24_1 x24_2)) (x26_0 : List PySem.Expr) (x26_1 : PySem.Expr) (x26_2 : Pos) (_ : StEq 26 (.Assign x26_0 x26_1 x26_2)) (x28_0 : List PySem.Expr) (x28_1 : PySem.Expr) (x28_2 : Pos) (_ : StEq 28 (.Assign x28_0 x28_1 x28_2)) (x30_0 : List PySem.Expr) (x30_1 : PySem.Expr) (x30_2 : Pos) (_ : StEq 30 (.Assign x30_0 x30_1 x30_2)) (x32_0 : List PySem.Expr) (x32_1 : PySem.Expr) (x32_2 : Pos) (_ : StEq 32 (.Assign x32_0 x32_1 x32_2)) (x34_0 : List PySem.Expr) (x34_1 : PySem.Expr) (x34_2 : Pos) (_ : StEq 34 (.Assign x34_0 x34_1 x34_2)) (x35_0 : List PySem.Expr) (x35_1 : PySem.Expr) (x35_2 : Pos) (_ : StEq 35 (.Assign x35_0 x35_1 x35_2)) (x36_0 : List PySem.Expr) (x36_1 : PySem.Expr) (x36_2 : Pos) (_ : StEq 36 (.Assign x36_0 x36_1 x36_2)) (x37_0 : List PySem.Expr) (x37_1 : PySem.Expr) (x37_2 : Pos) (_ : StEq 37 (.Assign x37_0 x37_1 x37_2)) (x39_0 : List PySem.Expr) (x39_1 : PySem.Expr) (x39_2 : Pos) (_ : StEq 39 (.Assign x39_0 x39_1 x39_2)) (x40_0 : Str) (x40_1 : Arguments) (x40_2 : List Stmt) (x40_3 : List PySem.Expr) (x40_4 : Option PySem.Expr) (x40_5 : List TypeParam) (x40_6 : Scope) (x40_7 : Option Scope) (x40_8 : Str) (x40_9 : Pos) (_ : StEq 40 (.FunctionDef x40_0 x40_1 x40_2 x40_3 x40_4 x40_5 x40_6 x40_7 x40_8 x40_9)) (x42_0 : List PySem.Expr) (x42_1 : PySem.Expr) (x42_2 : Pos) (_ : StEq 42 (.Assign x42_0 x42_1 x42_2)) (x44_0 : List PySem.Expr) (x44_1 : PySem.Expr) (x44_2 : Pos) (_ : StEq 44 (.Assign x44_0 x44_1 x44_2)) (x45_0 : List PySem.Expr) (x45_1 : PySem.Expr) (x45_2 : Pos) (_ : StEq 45 (.Assign x45_0 x45_1 x45_2)) (x46_0 : List PySem.Expr) (x46_1 : PySem.Expr) (x46_2 : Pos) (_ : StEq 46 (.Assign x46_0 x46_1 x46_2)) (x47_0 : List PySem.Expr) (x47_1 : PySem.Expr) (x47_2 : Pos) (_ : StEq 47 (.Assign x47_0 x47_1 x47_2)) (x48_0 : List PySem.Expr) (x48_1 : PySem.Expr) (x48_2 : Pos) (_ : StEq 48 (.Assign x48_0 x48_1 x48_2)) (x49_0 : List PySem.Expr) (x49_1 : PySem.Expr) (x49_2 : Pos) (_ : StEq 49 (.Assign x49_0 x49_1 x49_2)) (x50_0 : List PySem.Expr) (x50_1 : PySem.Expr) (x50_2 : Pos) (_ : StEq 50 (.Assign x50_0 x50_1 x50_2)) (x51_0 : List PySem.Expr) (x51_1 : PySem.Expr) (x51_2 : Pos) (_ : StEq 51 (.Assign x51_0 x51_1 x51_2)) (x52_0 : List PySem.Expr) (x52_1 : PySem.Expr) (x52_2 : Pos) (_ : StEq 52 (.Assign x52_0 x52_1 x52_2)) (x53_0 : List PySem.Expr) (x53_1 : PySem.Expr) (x53_2 : Pos) (_ : StEq 53 (.Assign x53_0 x53_1 x53_2)) (x54_0 : List PySem.Expr) (x54_1 : PySem.Expr) (x54_2 : Pos) (_ : StEq 54 (.Assign x54_0 x54_1 x54_2)) (x55_0 : Str) (x55_1 : Arguments) (x55_2 : List Stmt) (x55_3 : List PySem.Expr) (x55_4 : Option PySem.Expr) (x55_5 : List TypeParam) (x55_6 : Scope) (x55_7 : Option Scope) (x55_8 : Str) (x55_9 : Pos) (_ : StEq 55 (.FunctionDef x55_0 x55_1 x55_2 x55_3 x55_4 x55_5 x55_6 x55_7 x55_8 x55_9)) (x56_0 : Str) (x56_1 : Arguments) (x56_2 : List Stmt) (x56_3 : List PySem.Expr) (x56_4 : Option PySem.Expr) (x56_5 : List TypeParam) (x56_6 : Scope) (x56_7 : Option Scope) (x56_8 : Str) (x56_9 : Pos) (_ : StEq 56 (.FunctionDef x56_0 x56_1 x56_2 x56_3 x56_4 x56_5 x56_6 x56_7 x56_8 x56_9)) (x57_0 : Str) (x57_1 : Arguments) (x57_2 : List Stmt) (x57_3 : List PySem.Expr) (x57_4 : Option PySem.Expr) (x57_5 : List TypeParam) (x57_6 : Scope) (x57_7 : Option Scope) (x57_8 : Str) (x57_9 : Pos) (_ : StEq 57 (.FunctionDef x57_0 x57_1 x57_2 x57_3 x57_4 x57_5 x57_6 x57_7 x57_8 x57_9)) (x58_0 : Str) (x58_1 : Arguments) (x58_2 : List Stmt) (x58_3 : List PySem.Expr) (x58_4 : Option PySem.Expr) (x58_5 : List TypeParam) (x58_6 : Scope) (x58_7 : Option Scope) (x58_8 : Str) (x58_9 : Pos) (_ : StEq 58 (.FunctionDef x58_0 x58_1 x58_2 x58_3 x58_4 x58_5 x58_6 x58_7 x58_8 x58_9)) (x59_0 : Str) (x59_1 : Arguments) (x59_2 : List Stmt) (x59_3 : List PySem.Expr) (x59_4 : Option PySem.Expr) (x59_5 : List TypeParam) (x59_6 : Scope) (x59_7 : Option Scope) (x59_8 : Str) (x59_9 : Pos) (_ : StEq 59 (.FunctionDef x59_0 x59_1 x59_2 x59_3 x59_4 x59_5 x59_6 x59_7 x59_8 x59_9)) (x60_0 : Str) (x60_1 : Arguments) (x60_2 : List Stmt) (x60_3 : List PySem.Expr) (x60_4 : Option PySem.Expr) (x60_5 : List TypeParam) (x60_6 : Scope) (x60_7 : Option Scope) (x60_8 : Str) (x60_9 : Pos) (_ : StEq 60 (.FunctionDef x60_0 x60_1 x60_2 x60_3 x60_4 x60_5 x60_6 x60_7 x60_8 x60_9)) (x61_0 : Str) (x61_1 : Arguments) (x61_2 : List Stmt) (x61_3 : List PySem.Expr) (x61_4 : Option PySem.Expr) (x61_5 : List TypeParam) (x61_6 : Scope) (x61_7 : Option Scope) (x61_8 : Str) (x61_9 : Pos) (_ : StEq 61 (.FunctionDef x61_0 x61_1 x61_2 x61_3 x61_4 x61_5 x61_6 x61_7 x61_8 x61_9)) (x63_0 : List PySem.Expr) (x63_1 : PySem.Expr) (x63_2 : Pos) (_ : StEq 63 (.Assign x63_0 x63_1 x63_2)) (x65_0 : List PySem.Expr) (x65_1 : PySem.Expr) (x65_2 : Pos) (_ : StEq 65 (.Assign x65_0 x65_1 x65_2)) (x67_0 : List PySem.Expr) (x67_1 : PySem.Expr) (x67_2 : Pos) (_ : StEq 67 (.Assign x67_0 x67_1 x67_2)) (x69_0 : List PySem.Expr) (x69_1 : PySem.Expr) (x69_2 : Pos) (_ : StEq 69 (.Assign x69_0 x69_1 x69_2)) (x70_0 : List PySem.Expr) (x70_1 : PySem.Expr) (x70_2 : Pos) (_ : StEq 70 (.Assign x70_0 x70_1 x70_2)) (x71_0 : List PySem.Expr) (x71_1 : PySem.Expr) (x71_2 : Pos) (_ : StEq 71 (.Assign x71_0 x71_1 x71_2)) (x72_0 : Str) (x72_1 : Arguments) (x72_2 : List Stmt) (x72_3 : List PySem.Expr) (x72_4 : Option PySem.Expr) (x72_5 : List TypeParam) (x72_6 : Scope) (x72_7 : Option Scope) (x72_8 : Str) (x72_9 : Pos) (_ : StEq 72 (.FunctionDef x72_0 x72_1 x72_2 x72_3 x72_4 x72_5 x72_6 x72_7 x72_8 x72_9)) (x73_0 : List PySem.Expr) (x73_1 : PySem.Expr) (x73_2 : Pos) (_ : StEq 73 (.Assign x73_0 x73_1 x73_2)) (x75_0 : List PySem.Expr) (x75_1 : PySem.Expr) (x75_2 : Pos) (_ : StEq 75 (.Assign x75_0 x75_1 x75_2)) (x77_0 : List PySem.Expr) (x77_1 : PySem.Expr) (x77_2 : Pos) (_ : StEq 77 (.Assign x77_0 x77_1 x77_2)) (x78_0 : Str) (x78_1 : Arguments) (x78_2 : List Stmt) (x78_3 : List PySem.Expr) (x78_4 : Option PySem.Expr) (x78_5 : List TypeParam) (x78_6 : Scope) (x78_7 : Option Scope) (x78_8 : Str) (x78_9 : Pos) (_ : StEq 78 (.FunctionDef x78_0 x78_1 x78_2 x78_3 x78_4 x78_5 x78_6 x78_7 x78_8 x78_9)) (x79_0 : Str) (x79_1 : Arguments) (x79_2 : List Stmt) (x79_3 : List PySem.Expr) (x79_4 : Option PySem.Expr) (x79_5 : List TypeParam) (x79_6 : Scope) (x79_7 : Option Scope) (x79_8 : Str) (x79_9 : Pos) (_ : StEq 79 (.FunctionDef x79_0 x79_1 x79_2 x79_3 x79_4 x79_5 x79_6 x79_7 x79_8 x79_9)) (x80_0 : Str) (x80_1 : Arguments) (x80_2 : List Stmt) (x80_3 : List PySem.Expr) (x80_4 : Option PySem.Expr) (x80_5 : List TypeParam) (x80_6 : Scope) (x80_7 : Option Scope) (x80_8 : Str) (x80_9 : Pos) (_ : StEq 80 (.FunctionDef x80_0 x80_1 x80_2 x80_3 x80_4 x80_5 x80_6 x80_7 x80_8 x80_9)) (x81_0 : Str) (x81_1 : Arguments) (x81_2 : List Stmt) (x81_3 : List PySem.Expr) (x81_4 : Option PySem.Expr) (x81_5 : List TypeParam) (x81_6 : Scope) (x81_7 : Option Scope) (x81_8 : Str) (x81_9 : Pos) (_ : StEq 81 (.FunctionDef x81_0 x81_1 x81_2 x81_3 x81_4 x81_5 x81_6 x81_7 x81_8 x81_9)) (x82_0 : Str) (x82_1 : Arguments) (x82_2 : List Stmt) (x82_3 : List PySem.Expr) (x82_4 : Option PySem.Expr) (x82_5 : List TypeParam) (x82_6 : Scope) (x82_7 : Option Scope) (x82_8 : Str) (x82_9 : Pos) (_ : StEq 82 (.FunctionDef x82_0 x82_1 x82_2 x82_3 x82_4 x82_5 x82_6 x82_7 x82_8 x82_9)) (x84_0 : List PySem.Expr) (x84_1 : PySem.Expr) (x84_2 : Pos) (_ : StEq 84 (.Assign x84_0 x84_1 x84_2)) (x85_0 : List PySem.Expr) (x85_1 : PySem.Expr) (x85_2 : Pos) (_ : StEq 85 (.Assign x85_0 x85_1 x85_2)) (x86_0 : Str) (x86_1 : Arguments) (x86_2 : List Stmt) (x86_3 : List PySem.Expr) (x86_4 : Option PySem.Expr) (x86_5 : List TypeParam) (x86_6 : Scope) (x86_7 : Option Scope) (x86_8 : Str) (x86_9 : Pos) (_ : StEq 86 (.FunctionDef x86_0 x86_1 x86_2 x86_3 x86_4 x86_5 x86_6 x86_7 x86_8 x86_9)) (x87_0 : List PySem.Expr) (x87_1 : PySem.Expr) (x87_2 : Pos) (_ : StEq 87 (.Assign x87_0 x87_1 x87_2)) (x88_0 : Str) (x88_1 : Arguments) (x88_2 : List Stmt) (x88_3 : List PySem.Expr) (x88_4 : Option PySem.Expr) (x88_5 : List TypeParam) (x88_6 : Scope) (x88_7 : Option Scope) (x88_8 : Str) (x88_9 : Pos) (_ : StEq 88 (.FunctionDef x88_0 x88_1 x88_2 x88_3 x88_4 x88_5 x88_6 x88_7 x88_8 x88_9)) (x89_0 : List PySem.Expr) (x89_1 : PySem.Expr) (x89_2 : Pos) (_ : StEq 89 (.Assign x89_0 x89_1 x89_2)) (x91_0 : Str) (x91_1 : Arguments) (x91_2 : List Stmt) (x91_3 : List PySem.Expr) (x91_4 : Option PySem.Expr) (x91_5 : List TypeParam) (x91_6 : Scope) (x91_7 : Option Scope) (x91_8 : Str) (x91_9 : Pos) (_ : StEq 91 (.FunctionDef x91_0 x91_1 x91_2 x91_3 x91_4 x91_5 x91_6 x91_7 x91_8 x91_9)) (x92_0 : Str) (x92_1 : Arguments) (x92_2 : List Stmt) (x92_3 : List PySem.Expr) (x92_4 : Option PySem.Expr) (x92_5 : List TypeParam) (x92_6 : Scope) (x92_7 : Option Scope) (x92_8 : Str) (x92_9 : Pos) (_ : StEq 92 (.FunctionDef x92_0 x92_1 x92_2 x92_3 x92_4 x92_5 x92_6 x92_7 x92_8 x92_9)) (x93_0 : Str) (x93_1 : Arguments) (x93_2 : List Stmt) (x93_3 : List PySem.Expr) (x93_4 : Option PySem.Expr) (x93_5 : List TypeParam) (x93_6 : Scope) (x93_7 : Option Scope) (x93_8 : Str) (x93_9 : Pos) (_ : StEq 93 (.FunctionDef x93_0 x93_1 x93_2 x93_3 x93_4 x93_5 x93_6 x93_7 x93_8 x93_9)) (x94_0 : Str) (x94_1 : Arguments) (x94_2 : List Stmt) (x94_3 : List PySem.Expr) (x94_4 : Option PySem.Expr) (x94_5 : List TypeParam) (x94_6 : Scope) (x94_7 : Option Scope) (x94_8 : Str) (x94_9 : Pos) (_ : StEq 94 (.FunctionDef x94_0 x94_1 x94_2 x94_3 x94_4 x94_5 x94_6 x94_7 x94_8 x94_9)) (x95_0 : Str) (x95_1 : Arguments) (x95_2 : List Stmt) (x95_3 : List PySem.Expr) (x95_4 : Option PySem.Expr) (x95_5 : List TypeParam) (x95_6 : Scope) (x95_7 : Option Scope) (x95_8 : Str) (x95_9 : Pos) (_ : StEq 95 (.FunctionDef x95_0 x95_1 x95_2 x95_3 x95_4 x95_5 x95_6 x95_7 x95_8 x95_9)) (x96_0 : Str) (x96_1 : Arguments) (x96_2 : List Stmt) (x96_3 : List PySem.Expr) (x96_4 : Option PySem.Expr) (x96_5 : List TypeParam) (x96_6 : Scope) (x96_7 : Option Scope) (x96_8 : Str) (x96_9 : Pos) (_ : StEq 96 (.FunctionDef x96_0 x96_1 x96_2 x96_3 x96_4 x96_5 x96_6 x96_7 x96_8 x96_9)) (x97_0 : Str) (x97_1 : Arguments) (x97_2 : List Stmt) (x97_3 : List PySem.Expr) (x97_4 : Option PySem.Expr) (x97_5 : List TypeParam) (x97_6 : Scope) (x97_7 : Option Scope) (x97_8 : Str) (x97_9 : Pos) (_ : StEq 97 (.FunctionDef x97_0 x97_1 x97_2 x97_3 x97_4 x97_5 x97_6 x97_7 x97_8 x97_9)) (z0 : Scope) (z1 : Bool) (z2 : Str) (z3 : List (Str × Const)) (z4 : List (Str × Bool × Module)) (z5 : List Parse) (z6 : List Str) (z7 : List Parse) (z8 : Given) (_ : RestIs z0 z1 z2 z3 z4 z5 z6 z7 z8) (_ : Bar (Str.ofString "a")) => (⟨⟨((.FunctionDef x1_0 x1_1 x1_2 x1_3 x1_4 x1_5 x1_6 x1_7 x1_8 x1_9)::(.FunctionDef x2_0 x2_1 x2_2 x2_3 x2_4 x2_5 x2_6 x2_7 x2_8 x2_9)::(.FunctionDef x3_0 x3_1 x3_2 x3_3 x3_4 x3_5 x3_6 x3_7 x3_8 x3_9)::(.FunctionDef x4_0 x4_1 x4_2 x4_3 x4_4 x4_5 x4_6 x4_7 x4_8 x4_9)::(.Assign x6_0 x6_1 x6_2)::(.Assign x7_0 x7_1 x7_2)::(.Assign x8_0 x8_1 x8_2)::(.Assign x9_0 x9_1 x9_2)::(.Assign x10_0 x10_1 x10_2)::(.Assign x11_0 x11_1 x11_2)::(.Assign x12_0 x12_1 x12_2)::(.Assign x13_0 x13_1 x13_2)::(.Assign x14_0 x14_1 x14_2)::(.FunctionDef x15_0 x15_1 x15_2 x15_3 x15_4 x15_5 x15_6 x15_7 x15_8 x15_9)::(.Assign x17_0 x17_1 x17_2)::(.Assign x19_0 x19_1 x19_2)::(.Assign x20_0 x20_1 x20_2)::(.Assign x22_0 x22_1 x22_2)::(.Assign x24_0 x24_1 x24_2)::(.Assign x26_0 x26_1 x26_2)::(.Assign x28_0 x28_1 x28_2)::(.Assign x30_0 x30_1 x30_2)::(.Assign x32_0 x32_1 x32_2)::(.Assign x34_0 x34_1 x34_2)::(.Assign x35_0 x35_1 x35_2)::(.Assign x36_0 x36_1 x36_2)::(.Assign x37_0 x37_1 x37_2)::(.Assign x39_0 x39_1 x39_2)::(.FunctionDef x40_0 x40_1 x40_2 x40_3 x40_4 x40_5 x40_6 x40_7 x40_8 x40_9)::(.Assign x42_0 x42_1 x42_2)::(.Assign x44_0 x44_1 x44_2)::(.Assign x45_0 x45_1 x45_2)::(.Assign x46_0 x46_1 x46_2)::(.Assign x47_0 x47_1 x47_2)::(.Assign x48_0 x48_1 x48_2)::(.Assign x49_0 x49_1 x49_2)::(.Assign x50_0 x50_1 x50_2)::(.Assign x51_0 x51_1 x51_2)::(.Assign x52_0 x52_1 x52_2)::(.Assign x53_0 x53_1 x53_2)::(.Assign x54_0 x54_1 x54_2)::(.FunctionDef x55_0 x55_1 x55_2 x55_3 x55_4 x55_5 x55_6 x55_7 x55_8 x55_9)::(.FunctionDef x56_0 x56_1 x56_2 x56_3 x56_4 x56_5 x56_6 x56_7 x56_8 x56_9)::(.FunctionDef x57_0 x57_1 x57_2 x57_3 x57_4 x57_5 x57_6 x57_7 x57_8 x57_9)::(.FunctionDef x58_0 x58_1 x58_2 x58_3 x58_4 x58_5 x58_6 x58_7 x58_8 x58_9)::(.FunctionDef x59_0 x59_1 x59_2 x59_3 x59_4 x59_5 x59_6 x59_7 x59_8 x59_9)::(.FunctionDef x60_0 x60_1 x60_2 x60_3 x60_4 x60_5 x60_6 x60_7 x60_8 x60_9)::(.FunctionDef x61_0 x61_1 x61_2 x61_3 x61_4 x61_5 x61_6 x61_7 x61_8 x61_9)::(.Assign x63_0 x63_1 x63_2)::(.Assign x65_0 x65_1 x65_2)::(.Assign x67_0 x67_1 x67_2)::(.Assign x69_0 x69_1 x69_2)::(.Assign x70_0 x70_1 x70_2)::(.Assign x71_0 x71_1 x71_2)::(.FunctionDef x72_0 x72_1 x72_2 x72_3 x72_4 x72_5 x72_6 x72_7 x72_8 x72_9)::(.Assign x73_0 x73_1 x73_2)::(.Assign x75_0 x75_1 x75_2)::(.Assign x77_0 x77_1 x77_2)::(.FunctionDef x78_0 x78_1 x78_2 x78_3 x78_4 x78_5 x78_6 x78_7 x78_8 x78_9)::(.FunctionDef x79_0 x79_1 x79_2 x79_3 x79_4 x79_5 x79_6 x79_7 x79_8 x79_9)::(.FunctionDef x80_0 x80_1 x80_2 x80_3 x80_4 x80_5 x80_6 x80_7 x80_8 x80_9)::(.FunctionDef x81_0 x81_1 x81_2 x81_3 x81_4 x81_5 x81_6 x81_7 x81_8 x81_9)::(.FunctionDef x82_0 x82_1 x82_2 x82_3 x82_4 x82_5 x82_6 x82_7 x82_8 x82_9)::(.Assign x84_0 x84_1 x84_2)::(.Assign x85_0 x85_1 x85_2)::(.FunctionDef x86_0 x86_1 x86_2 x86_3 x86_4 x86_5 x86_6 x86_7 x86_8 x86_9)::(.Assign x87_0 x87_1 x87_2)::(.FunctionDef x88_0 x88_1 x88_2 x88_3 x88_4 x88_5 x88_6 x88_7 x88_8 x88_9)::(.Assign x89_0 x89_1 x89_2)::(.FunctionDef x91_0 x91_1 x91_2 x91_3 x91_4 x91_5 x91_6 x91_7 x91_8 x91_9)::(.FunctionDef x92_0 x92_1 x92_2 x92_3 x92_4 x92_5 x92_6 x92_7 x92_8 x92_9)::(.FunctionDef x93_0 x93_1 x93_2 x93_3 x93_4 x93_5 x93_6 x93_7 x93_8 x93_9)::(.FunctionDef x94_0 x94_1 x94_2 x94_3 x94_4 x94_5 x94_6 x94_7 x94_8 x94_9)::(.FunctionDef x95_0 x95_1 x95_2 x95_3 x95_4 x95_5 x95_6 x95_7 x95_8 x95_9)::(.FunctionDef x96_0 x96_1 x96_2 x96_3 x96_4 x96_5 x96_6 x96_7 x96_8 x96_9)::(.FunctionDef x97_0 x97_1 x97_2 x97_3 x97_4 x97_5 x97_6 x97_7 x97_8 x97_9)::[]) , z0, z1, z2, z3⟩, z4, z5, z6, z7, z8⟩ : Program)) _ _ _ _ _ _ _ _ _ _ ⟨rfl⟩ _ _ _ _ _ _ _ _ _ _ ⟨rfl⟩ _ _ _ _ _ _ _ _ _ _ ⟨rfl⟩ _ _ _ _ _ _ _ _ _ _ ⟨rfl⟩ _ _ _ ⟨rfl⟩ _ _ _ ⟨rfl⟩ _ _ _ ⟨rfl⟩ _ _ _ ⟨rfl⟩ _ _ _ ⟨rfl⟩ _ _ _ ⟨rfl⟩ _ _ _ ⟨rfl⟩ _ _ _ ⟨rfl⟩ _ _ _ ⟨rfl⟩ _ _ _ _ _ _ _ _ _ _ ⟨rfl⟩ _ _ _ ⟨rfl⟩ _ _ _ ⟨rfl⟩ _ _ _ ⟨rfl⟩ _ _ _ ⟨rfl⟩ _ _ _ ⟨rfl⟩ _ _ _ ⟨rfl⟩ _ _ _ ⟨rfl⟩ _ _ _ ⟨rfl⟩ _ _ _ ⟨rfl⟩ _ _ _ ⟨rfl⟩ _ _ _ ⟨rfl⟩ _ _ _ ⟨rfl⟩ _ _ _ ⟨rfl⟩ _ _ _ ⟨rfl⟩ _ _ _ _ _ _ _ _ _ _ ⟨rfl⟩ _ _ _ ⟨rfl⟩ _ _ _ ⟨rfl⟩ _ _ _ ⟨rfl⟩ _ _ _ ⟨rfl⟩ _ _ _ ⟨rfl⟩ _ _ _ ⟨rfl⟩ _ _ _ ⟨rfl⟩ _ _ _ ⟨rfl⟩ _ _ _ ⟨rfl⟩ _ _ _ ⟨rfl⟩ _ _ _ ⟨rfl⟩ _ _ _ ⟨rfl⟩ _ _ _ _ _ _ _ _ _ _ ⟨rfl⟩ _ _ _ _ _ _ _ _ _ _ ⟨rfl⟩ _ _ _ _ _ _ _ _ _ _ ⟨rfl⟩ _ _ _ _ _ _ _ _ _ _ ⟨rfl⟩ _ _ _ _ _ _ _ _ _ _ ⟨rfl⟩ _ _ _ _ _ _ _ _ _ _ ⟨rfl⟩ _ _ _ _ _ _ _ _ _ _ ⟨rfl⟩ _ _ _ ⟨rfl⟩ _ _ _ ⟨rfl⟩ _ _ _ ⟨rfl⟩ _ _ _ ⟨rfl⟩ _ _ _ ⟨rfl⟩ _ _ _ ⟨rfl⟩ _ _ _ _ _ _ _ _ _ _ ⟨rfl⟩ _ _ _ ⟨rfl⟩ _ _ _ ⟨rfl⟩ _ _ _ ⟨rfl⟩ _ _ _ _ _ _ _ _ _ _ ⟨rfl⟩ _ _ _ _ _ _ _ _ _ _ ⟨rfl⟩ _ _ _ _ _ _ _ _ _ _ ⟨rfl⟩ _ _ _ _ _ _ _ _ _ _ ⟨rfl⟩ _ _ _ _ _ _ _ _ _ _ ⟨rfl⟩ _ _ _ ⟨rfl⟩ _ _ _ ⟨rfl⟩ _ _ _ _ _ _ _ _ _ _ ⟨rfl⟩ _ _ _ ⟨rfl⟩ _ _ _ _ _ _ _ _ _ _ ⟨rfl⟩ _ _ _ ⟨rfl⟩ _ _ _ _ _ _ _ _ _ _ ⟨rfl⟩ _ _ _ _ _ _ _ _ _ _ ⟨rfl⟩ _ _ _ _ _ _ _ _ _ _ ⟨rfl⟩ _ _ _ _ _ _ _ _ _ _ ⟨rfl⟩ _ _ _ _ _ _ _ _ _ _ ⟨rfl⟩ _ _ _ _ _ _ _ _ _ _ ⟨rfl⟩ _ _ _ _ _ _ _ _ _ _ ⟨rfl⟩ _ _ _ _ _ _ _ _ _ ⟨⟨_, rfl⟩⟩ bar_a
noncomputable abbrev hd.loose : List Str := [Str.ofString "to_jd_gregorian", Str.ofString "from_jd_armenian", Str.ofString "from_gregorian_armenian", Str.ofString "to_jd_coptic", Str.ofString "from_jd_coptic", Str.ofString "from_gregorian_coptic", Str.ofString "from_jd_french_republican", Str.ofString "from_gregorian_french_republican", Str.ofString "to_jd_hebrew", Str.ofString "from_jd_hebrew", Str.ofString "from_gregorian_hebrew", Str.ofString "HAAB", Str.ofString "TZOLKIN", Str.ofString "to_jd_mayan", Str.ofString "from_jd_mayan", Str.ofString "from_gregorian_mayan", Str.ofString "from_jd_positivist", Str.ofString "from_gregorian_positivist"]

noncomputable abbrev hd.keys : List Addr := [2, 3, 15, 17, 18, 20, 21, 22, 24, 25, 27, 28, 29, 31, 32, 34, 35, 36, 38, 39, 41, 42, 43, 44, 46, 47, 49, 50, 51, 53, 54, 56, 57, 58, 59, 61, 62, 64, 65, 66, 67, 69, 70, 72, 73, 74, 76, 77, 79, 80, 81, 83, 84, 86, 87, 88, 90, 91, 93, 94, 95, 96, 98, 99, 101, 102, 103, 105, 106, 108, 109, 110, 111, 113, 114, 116, 117, 118, 120, 121, 123, 124, 125, 127, 128, 130, 131, 132, 134, 135, 137, 138, 139, 141, 142, 144, 145, 146, 148, 149, 151, 152, 153, 155, 156, 158, 159, 160, 162, 163, 165, 166, 167, 169, 170, 172, 173, 174, 176, 177, 179, 180, 181, 183, 184, 186, 187, 188, 189, 190, 192, 193, 195, 196, 197, 199, 200, 202, 203, 204, 206, 207, 209, 210, 211, 213, 214, 216, 217, 218, 220, 221, 223, 224, 225, 227, 228, 230, 231, 232, 234, 235, 237, 238, 239, 241, 242, 244, 245, 246, 248, 249, 251, 252, 253, 255, 256, 258, 259, 260, 262, 263, 265, 266, 267, 269, 270, 272, 273, 274, 276, 277, 279, 280, 281, 283, 284, 286, 287, 288, 290, 291, 293, 294, 295, 297, 298, 300, 301, 302, 305, 306]
theorem hd.keysIs : ∀ P, hd.keys = (hd.heap_39 P).map (·.1) := fun _ => by kernel_rfl!
structure DefIs (d : DefRec) : Prop where
  h : defOf hd.view_39 PySem.Challenge.rw_ah0025_01.row.name = some (d, [])
set_option maxRecDepth 100000 in
set_option maxHeartbeats 4000000 in
noncomputable def hd.d : DefRec := (fun (d : DefRec) (_ : DefIs d) (_ : Bar (Str.ofString "a")) => d) _ ⟨rfl⟩ bar_a
set_option maxRecDepth 100000 in
theorem hd.isDef : defOf hd.view_39 PySem.Challenge.rw_ah0025_01.row.name = some (hd.d, []) := by kernel_rfl!
set_option maxRecDepth 100000 in
theorem hd.theDef : PySem.Challenge.rw_ah0025_01.row.prog.theDef PySem.Challenge.rw_ah0025_01.row.name = some (hd.d.params, hd.d.body, hd.d.scope) := by kernel_rfl!
set_option maxRecDepth 100000 in
theorem hd.kw : kwWritten? hd.d.params.kwonlyargs hd.d.params.kw_defaults = some [] := by kernel_rfl!
theorem hd.wr : (!PySem.Challenge.rw_ah0025_01.row.writes || PySem.Challenge.rw_ah0025_01.row.records.isEmpty) = true := by kernel_rfl!
theorem hd.ok : (chainsOk hd.view_39 && opensWell PySem.Challenge.rw_ah0025_01.row.prog && (frees PySem.Challenge.rw_ah0025_01.row.toRowW && PySem.Challenge.rw_ah0025_01.row.within.isEmpty)) = true := by kernel_rfl!
set_option maxRecDepth 100000 in
theorem hd.bare : PySem.Challenge.rw_ah0025_01.row.prog.bare := ⟨rfl, rfl, rfl, rfl, rfl, by decide +kernel⟩
theorem hd.over {r : OpenRow} {q : Program} {loose : List Str} {K : Params → Frag} {as : List Addr} {d : DefRec} {N : Nat} (e : ∀ P, as = (K P).map (·.1))
    (left : LeftO r.prog q loose (fun s => xlAt q [] s && recOk (RowW.records r.toRowW) s) (fun s => as.map s.heap.get?) (fun w => (K w.params).map fun p => some p.2) N)
    (h1 : defOf q r.name = some (d, [])) (h2 : r.prog.theDef r.name = some (d.params, d.body, d.scope)) (h3 : kwWritten? d.params.kwonlyargs d.params.kw_defaults = some [])
    (h4 : (!r.writes || r.records.isEmpty) = true) (k1 : r.wellSaid = true) (ok : (chainsOk q && opensWell r.prog && (frees r.toRowW && r.within.isEmpty)) = true) (hb : r.prog.bare) (hw : r.toRowW.promised)
    (call : WalkO q loose (XL q []) (InK K) r.toRowW d [] fun f vs => PySem.call f vs) : r.Holds :=
  holds_open left (InK.of e) InK.keeps (fun s e => xl_of s (Bool.and_eq_true_iff.mp e).1) XL.keeps h1 h2 h3 (fun z e => recFacts_of (Bool.and_eq_true_iff.mp e).2) h4 k1 ok hb hw call
theorem hd.looks : OpenLaw.wellSaid PySem.Challenge.rw_ah0025_01 = true := by
  rw [PySem.W.Fast.te9446332074065402090]
  kernel_rfl
theorem hd.top (left : LeftO PySem.Challenge.rw_ah0025_01.row.prog hd.view_39 hd.loose (fun s => xlAt hd.view_39 [] s && recOk (RowW.records PySem.Challenge.rw_ah0025_01.row.toRowW) s) (fun s => hd.keys.map s.heap.get?) (fun w => (hd.heap_39 w.params).map fun p => some p.2) 3906)
    (call : WalkO hd.view_39 hd.loose (XL hd.view_39 []) (Hook.says (kHook hd.heap_39 hd.keys hd.keysIs)) PySem.Challenge.rw_ah0025_01.row.toRowW hd.d [] fun f vs => PySem.call f vs) : PySem.Challenge.rw_ah0025_01.Holds := by
  w_on
  refine holds_law hd.looks fun said => ?_
  refine hd.over hd.keysIs left hd.isDef hd.theDef hd.kw hd.wr said hd.ok hd.bare ?hw call
  case hw => w_witness2
set_option maxRecDepth 100000 in
theorem hd.opens : opening PySem.Challenge.rw_ah0025_01.row.prog = plainProg PySem.Challenge.rw_ah0025_01.row.prog.main.scope.names := by kernel_rfl
set_option maxRecDepth 100000 in
theorem hd.fence (s : Shared) : fenceModules? PySem.Challenge.rw_ah0025_01.row.prog s = some s := by kernel_rfl
set_option maxRecDepth 100000 in
set_option maxHeartbeats 4000000 in
/-- the top's run, from the booted heap on: one evaluation by the kernel, the library's quick functions put in -/
theorem hd.left0 (w : World) (os : OsState) : (topFrom treeTable PySem.Challenge.rw_ah0025_01.row.prog w 3906 ⟨boot_heap w.params, ⟨[]⟩, boot_drawn, boot_toks, os⟩).map (fun s => (openSeen hd.view_39 hd.loose (importedModules PySem.Challenge.rw_ah0025_01.row.prog.main.body) (fun s => xlAt hd.view_39 [] s && recOk (RowW.records PySem.Challenge.rw_ah0025_01.row.toRowW) s) true s, hd.keys.map s.heap.get?)) = some (openGood hd.view_39 hd.loose, (hd.heap_39 w.params).map fun p => some p.2) := by
  unfold topFrom
  rw [PySem.W.Fast.te4187177175401517315, PySem.W.Fast.te14082659384304107361]
  kernel_rfl
theorem hd.boots {p : Program} {N : Nat} {β : Type} {f : Shared → β} {r : World → β} (e : opening p = plainProg p.main.scope.names) (n : Nat.ble 600 N = true) (k : ∀ s, fenceModules? p s = some s)
    (h : ∀ w os, (topFrom treeTable p w N ⟨boot_heap w.params, ⟨[]⟩, boot_drawn, boot_toks, os⟩).map f = some (r w)) (w : World) : (openEnds treeTable p w N).map f = some (r w) := by
  obtain ⟨s, es, b⟩ := Option.map_eq_some_iff.mp (boot_open e n k w)
  have b1 := congrArg Prod.fst b
  have b2 := congrArg (fun x => x.2.1) b
  have b3 := congrArg (fun x => x.2.2.1) b
  have b4 := congrArg (fun x => x.2.2.2) b
  obtain ⟨h1, g1, d1, t1, os⟩ := s
  replace h := h w os
  generalize boot_heap w.params = z1 at b1 b2 b3 b4 h
  have c1 : h1 = z1 := b1
  have c2 : g1 = ⟨[]⟩ := b2
  have c3 : d1 = boot_drawn := b3
  have c4 : t1 = boot_toks := b4
  subst c1 c2 c3 c4
  show (Option.bind (fencedOpening treeTable p w N) (topFrom treeTable p w N)).map f = some (r w)
  rw [es]
  exact h
theorem hd.left : LeftO PySem.Challenge.rw_ah0025_01.row.prog hd.view_39 hd.loose (fun s => xlAt hd.view_39 [] s && recOk (RowW.records PySem.Challenge.rw_ah0025_01.row.toRowW) s) (fun s => hd.keys.map s.heap.get?) (fun w => (hd.heap_39 w.params).map fun p => some p.2) 3906 := hd.boots hd.opens rfl hd.fence hd.left0

noncomputable abbrev ProgX : Program := PySem.Challenge.rw_ah0025_01.row.prog
noncomputable abbrev LooseX : List Str := (looseW hd.view_39
      [Str.ofString "to_jd_gregorian", Str.ofString "from_jd_armenian", Str.ofString "from_gregorian_armenian",
        Str.ofString "to_jd_coptic", Str.ofString "from_jd_coptic", Str.ofString "from_gregorian_coptic",
        Str.ofString "from_jd_french_republican", Str.ofString "from_gregorian_french_republican",
        Str.ofString "to_jd_hebrew", Str.ofString "from_jd_hebrew", Str.ofString "from_gregorian_hebrew",
        Str.ofString "HAAB", Str.ofString "TZOLKIN", Str.ofString "to_jd_mayan", Str.ofString "from_jd_mayan",
        Str.ofString "from_gregorian_mayan", Str.ofString "from_jd_positivist",
        Str.ofString "from_gregorian_positivist"])

/-- what is asked of a call's caller and of what it is handed back -/
noncomputable abbrev Post : Type := Heap → Addr → (Str → Option Value) → Heap → List Env → Shared → (Value → Shared → Prop) → (Value → Shared → Prop) → Prop

/-- a contract: whoever calls f with vs, having made `news`, gets what P says -/
noncomputable def Says (w : World) (f : Addr) (d : Nat) (vs : List Value) (news : List (Addr × Obj)) (P : Post) : Prop :=
  ∀ (mean : ExcName → Option Value) (mg mb : Str → Option Value) (dp un : Nat) (gd : Option (List Code)) (cn : Str) (cs : Scope) (a : Addr) (ccd : Value) (cl : List (Str × Addr)) (outer : List Env) (A₀ : Around) (base h₀ : Heap) (L : Addr) (m : Str → Option Value) (s : Shared) (Q E : Value → Shared → Prop),
    Below A₀ base outer h₀ → Fr h₀ L s.heap m → (hd.heap_39 w.params).In h₀ → News h₀ L s.heap news → Top hd.view_39 LooseX mean mg mb h₀ → cs.kind = .function →
    dp + d < recursionLimit → un + 8 * d < cLine → P h₀ L m base (envX cn cs L a ccd cl :: outer) s Q E →
      wpAny (model ProgX w) (ktrTop dp un gd cn cs L a ccd cl outer) (call (.ref f) vs) Q E s

theorem use_says {w : World} {f : Addr} {d : Nat} {vs : List Value} {news : List (Addr × Obj)} {P : Post} (h : Says w f d vs news P)
    {mean : ExcName → Option Value} {mg mb : Str → Option Value} {dp un : Nat} {gd : Option (List Code)} {cn : Str} {cs : Scope} {a : Addr} {ccd : Value} {cl : List (Str × Addr)} {outer : List Env} {A₀ : Around} {base h₀ : Heap} {L : Addr} {m : Str → Option Value} {s : Shared} {Q E : Value → Shared → Prop}
    (B : Below A₀ base outer h₀) (F : Fr h₀ L s.heap m) (X : (hd.heap_39 w.params).In h₀) (N : News h₀ L s.heap news) (T : Top hd.view_39 LooseX mean mg mb h₀) (hk : cs.kind = .function)
    (hd : dp + d < recursionLimit) (hu : un + 8 * d < cLine) (r : P h₀ L m base (envX cn cs L a ccd cl :: outer) s Q E) :
    wpAny (model ProgX w) (ktrTop dp un gd cn cs L a ccd cl outer) (call (.ref f) vs) Q E s :=
  h _ _ _ _ _ _ _ _ _ _ _ _ _ _ _ _ _ _ _ _ B F X N T hk hd hu r

/-- it hands back R, with nothing more made -/
noncomputable def RetS (R : Tok → Value) (news : List (Addr × Obj)) : Post := fun h₀ L m _ _ s Q _ =>
  ∀ (t : Tok) (h' : Heap) (tk' : Nat), Fr h₀ L h' m → News h₀ L h' news → Q (R t) { s with heap := h', toks := tk' }
/-- it raises ValueError -/
noncomputable def RaiV (news : List (Addr × Obj)) : Post := fun h₀ L m base fr s _ E =>
  ∀ (g : Heap) (e t : Addr) (vs : List Value) (h' : Heap) (tk' : Nat), Fr h₀ L g m → RaisedS base g fr e (.type "ValueError") t vs news h' → g.UpToSlots h' → E (.ref e) { s with heap := h', toks := tk' }
noncomputable abbrev tupOf (vs : List Value) : Obj := { cls := .type "tuple", data := .seq vs.toArray }
/-- it hands back a new tuple of the ints xs -/
noncomputable def RetL (xs : List Int) (news : List (Addr × Obj)) : Post := fun h₀ L m _ _ s Q _ =>
  ∀ (vs : List Value) (D : Addr) (h' : Heap) (tk' : Nat), IntsAre vs xs → Fr h₀ L h' m → News h₀ L h' ((D, tupOf vs) :: news) → (∀ p ∈ news, p.1 < D) → Q (.ref D) { s with heap := h', toks := tk' }

/-- it hands back a new pair of an int and a text -/
noncomputable def RetIS (c : Int) (x : Str) (news : List (Addr × Obj)) : Post := fun h₀ L m _ _ s Q _ =>
  ∀ (t1 t2 : Tok) (D : Addr) (h' : Heap) (tk' : Nat), Fr h₀ L h' m → News h₀ L h' ((D, tupOf [.int c t1, .str x t2]) :: news) → (∀ p ∈ news, p.1 < D) → Q (.ref D) { s with heap := h', toks := tk' }

section
variable {h₀ h' base : Heap} {L : Addr} {m : Str → Option Value} {news news' : List (Addr × Obj)} {s : Shared} {Q E : Value → Shared → Prop} {fr : List Env} {t : Tok} {tk' : Nat}
theorem retI {x y : Int} (r : RetS (fun t => .int x t) news h₀ L m base fr s Q E) (F : Fr h₀ L h' m) (N : News h₀ L h' news') (hs : ∀ p ∈ news, p ∈ news') (e : y = x) : Q (.int y t) { s with heap := h', toks := tk' } := by
  subst e; exact r _ _ _ F fun p hp => N p (hs p hp)
theorem retB {x y : Bool} (r : RetS (fun _ => .bool x) news h₀ L m base fr s Q E) (F : Fr h₀ L h' m) (N : News h₀ L h' news') (hs : ∀ p ∈ news, p ∈ news') (e : y = x) : Q (.bool y) { s with heap := h', toks := tk' } := by
  subst e; exact r 0 _ _ F fun p hp => N p (hs p hp)
theorem retL {xs : List Int} {vs : List Value} {D : Addr} (r : RetL xs news h₀ L m base fr s Q E) (F : Fr h₀ L h' m) (N : News h₀ L h' news') (hm : (D, tupOf vs) ∈ news') (hs : ∀ p ∈ news, p ∈ news') (hl : ∀ p ∈ news, p.1 < D)
    (hi : IntsAre vs xs) : Q (.ref D) { s with heap := h', toks := tk' } := by
  refine r vs D h' tk' hi F (fun p hp => ?_) hl
  rcases List.mem_cons.mp hp with rfl | hp
  · exact N _ hm
  · exact N p (hs p hp)
theorem retS {x y : Str} (r : RetS (fun t => .str x t) news h₀ L m base fr s Q E) (F : Fr h₀ L h' m) (N : News h₀ L h' news') (hs : ∀ p ∈ news, p ∈ news') (e : y = x) : Q (.str y t) { s with heap := h', toks := tk' } := by
  subst e; exact r _ _ _ F fun p hp => N p (hs p hp)
theorem retIS {c c' : Int} {x x' : Str} {t1 t2 : Tok} {D : Addr} (r : RetIS c x news h₀ L m base fr s Q E) (F : Fr h₀ L h' m) (N : News h₀ L h' news') (hm : (D, tupOf [.int c' t1, .str x' t2]) ∈ news') (hs : ∀ p ∈ news, p ∈ news') (hl : ∀ p ∈ news, p.1 < D)
    (e1 : c' = c) (e2 : x' = x) : Q (.ref D) { s with heap := h', toks := tk' } := by
  subst e1 e2
  refine r t1 t2 D h' tk' F (fun p hp => ?_) hl
  rcases List.mem_cons.mp hp with rfl | hp
  · exact N _ hm
  · exact N p (hs p hp)
theorem RetIS.of {c : Int} {x : Str} (h : ∀ (t1 t2 : Tok) (D : Addr) (h' : Heap) (tk' : Nat), Fr h₀ L h' m → News h₀ L h' ((D, tupOf [.int c t1, .str x t2]) :: news) → (∀ p ∈ news, p.1 < D) → Q (.ref D) { s with heap := h', toks := tk' }) : RetIS c x news h₀ L m base fr s Q E := h
theorem RetS.of {R : Tok → Value} (h : ∀ (t : Tok) (h' : Heap) (tk' : Nat), Fr h₀ L h' m → News h₀ L h' news → Q (R t) { s with heap := h', toks := tk' }) : RetS R news h₀ L m base fr s Q E := h
theorem RetL.of {xs : List Int} (h : ∀ (vs : List Value) (D : Addr) (h' : Heap) (tk' : Nat), IntsAre vs xs → Fr h₀ L h' m → News h₀ L h' ((D, tupOf vs) :: news) → (∀ p ∈ news, p.1 < D) → Q (.ref D) { s with heap := h', toks := tk' }) : RetL xs news h₀ L m base fr s Q E := h
theorem ints2 {vs : List Value} {a b : Int} (h : IntsAre vs [a, b]) : ∃ t1 t2, vs = [.int a t1, .int b t2] := by
  cases h with | cons _ t1 h => cases h with | cons _ t2 h => cases h; exact ⟨_, _, rfl⟩
theorem ints3 {vs : List Value} {a b c : Int} (h : IntsAre vs [a, b, c]) : ∃ t1 t2 t3, vs = [.int a t1, .int b t2, .int c t3] := by
  cases h with | cons _ t1 h => cases h with | cons _ t2 h => cases h with | cons _ t3 h => cases h; exact ⟨_, _, _, rfl⟩
theorem ints5 {vs : List Value} {a b c d e : Int} (h : IntsAre vs [a, b, c, d, e]) : ∃ t1 t2 t3 t4 t5, vs = [.int a t1, .int b t2, .int c t3, .int d t4, .int e t5] := by
  cases h with | cons _ t1 h => cases h with | cons _ t2 h => cases h with | cons _ t3 h => cases h with | cons _ t4 h => cases h with | cons _ t5 h => cases h; exact ⟨_, _, _, _, _, rfl⟩
theorem RetL.of2 {a b : Int} (h : ∀ (t1 t2 : Tok) (D : Addr) (h' : Heap) (tk' : Nat), Fr h₀ L h' m → News h₀ L h' ((D, tupOf [.int a t1, .int b t2]) :: news) → (∀ p ∈ news, p.1 < D) → Q (.ref D) { s with heap := h', toks := tk' }) : RetL [a, b] news h₀ L m base fr s Q E := fun vs D h' tk' hi F N hl => by
  obtain ⟨t1, t2, rfl⟩ := ints2 hi
  exact h t1 t2 D h' tk' F N hl
theorem RaiV.of (h : ∀ (g : Heap) (e t : Addr) (vs : List Value) (h' : Heap) (tk' : Nat), Fr h₀ L g m → RaisedS base g fr e (.type "ValueError") t vs news h' → RaisedK base fr e (.type "ValueError") t vs news h' → g.UpToSlots h' → E (.ref e) { s with heap := h', toks := tk' }) : RaiV news h₀ L m base fr s Q E :=
  fun g e t vs h' tk' F S U => h g e t vs h' tk' F S S.toK U
theorem raisedS_sub {G : Heap} {e t : Addr} {cls : Value} {vs : List Value} (R : RaisedS base G fr e cls t vs news' h') (hs : ∀ p ∈ news, p ∈ news') : RaisedS base G fr e cls t vs news h' := by
  obtain ⟨⟨B, hB, hBG, hl, hfl, hnew⟩, htup⟩ := R
  exact ⟨⟨B, hB, hBG, fun q hq => hl q (hs q hq), hfl, hnew⟩, htup⟩
theorem endRai {g : Heap} {e t' : Addr} {vs : List Value} (r : RaiV news h₀ L m base fr s Q E) (F : Fr h₀ L g m) (S : RaisedS base g fr e (.type "ValueError") t' vs news' h') (U : g.UpToSlots h') (hs : ∀ p ∈ news, p ∈ news') : E (.ref e) { s with heap := h', toks := tk' } :=
  r _ _ _ _ _ _ F (raisedS_sub S hs) U
end

/-! cutting a body in two -/
theorem wp_cut {M : Model} {Γ : PySem.Ctx} {env : Env} {l2 : List Stmt} {Q : Flow → Pos → Shared → Prop} {E : Value → Pos → Shared → Prop} : ∀ (l1 : List Stmt) (p : Pos) (s : Shared),
    Sem.wp M Γ (execs l1 env) (fun f p' s' => match f with | .next => Sem.wp M Γ (execs l2 env) Q E p' s' | f => Q f p' s') E p s → Sem.wp M Γ (execs (l1 ++ l2) env) Q E p s
  | [], _, _, h => h
  | st :: l1, p, s, h => by
    rw [List.cons_append, execs_cons, Sem.wp_bind']
    rw [execs_cons, Sem.wp_bind'] at h
    refine Sem.wp_mono M Γ _ (fun f p' s' h' => ?_) (fun _ _ _ h' => h') _ _ h
    cases f
    · exact wp_cut l1 p' s' h'
    all_goals exact h'
theorem execs_cut {M : Model} {A : Around} {env : Env} {Q : Flow → Shared → Prop} {E : Value → Shared → Prop} {s : Shared} {l : List Stmt} (n : Nat) (Mid : Shared → Prop)
    (h1 : wpAny M A (execs (l.take n) env) (fun f s' => match f with | .next => Mid s' | f => Q f s') E s)
    (h2 : ∀ s', Mid s' → wpAny M A (execs (l.drop n) env) Q E s') : wpAny M A (execs l env) Q E s := fun Γ p hΓ => by
  have e := wp_cut (M := M) (Γ := Γ) (env := env) (l2 := l.drop n) (Q := fun a _ s' => Q a s') (E := fun e _ s' => E e s') (l.take n) p s ?_
  · rw [List.take_append_drop] at e; exact e
  refine Sem.wp_mono M Γ _ (fun f p' s' h' => ?_) (fun _ _ _ h' => h') _ _ (h1 Γ p hΓ)
  cases f
  · exact h2 s' h' Γ p' hΓ
  all_goals exact h'
/-- between two pieces: the frame's map tells P, the ledger stands -/
noncomputable def MidF (g : Heap) (L : Addr) (news : List (Addr × Obj)) (P : (Str → Option Value) → Prop) (s s' : Shared) : Prop :=
  ∃ h' tk' m', s' = { s with heap := h', toks := tk' } ∧ Fr g L h' m' ∧ News g L h' news ∧ P m'
theorem MidF.intro {g h' : Heap} {L : Addr} {news news' : List (Addr × Obj)} {P : (Str → Option Value) → Prop} {s : Shared} {tk' : Nat} {m' : Str → Option Value} (F : Fr g L h' m') (N : News g L h' news') (hs : ∀ p ∈ news, p ∈ news') (p : P m') :
    MidF g L news P s { s with heap := h', toks := tk' } := ⟨h', tk', m', rfl, F, fun q hq => N q (hs q hq), p⟩
theorem knows {g h : Heap} {L : Addr} {m : Str → Option Value} {x : Str} {v : Value} (F : Fr g L h m) (e : m x = some v) : Fr g L h (fun y => if y = x then some v else m y) := by
  have : (fun y => if y = x then some v else m y) = m := by
    funext y
    by_cases h : y = x
    · simp only [h, if_true]; exact e.symm
    · simp only [h, if_false]
  rw [this]; exact F
theorem pj0 {a0 b : Prop} (h : a0 ∧ b) : a0 := h.1
theorem pj1 {a0 a1 b : Prop} (h : a0 ∧ a1 ∧ b) : a1 := h.2.1
theorem pj2 {a0 a1 a2 b : Prop} (h : a0 ∧ a1 ∧ a2 ∧ b) : a2 := h.2.2.1
theorem pj3 {a0 a1 a2 a3 b : Prop} (h : a0 ∧ a1 ∧ a2 ∧ a3 ∧ b) : a3 := h.2.2.2.1
theorem pj4 {a0 a1 a2 a3 a4 b : Prop} (h : a0 ∧ a1 ∧ a2 ∧ a3 ∧ a4 ∧ b) : a4 := h.2.2.2.2.1
theorem pj5 {a0 a1 a2 a3 a4 a5 b : Prop} (h : a0 ∧ a1 ∧ a2 ∧ a3 ∧ a4 ∧ a5 ∧ b) : a5 := h.2.2.2.2.2.1
theorem pj6 {a0 a1 a2 a3 a4 a5 a6 b : Prop} (h : a0 ∧ a1 ∧ a2 ∧ a3 ∧ a4 ∧ a5 ∧ a6 ∧ b) : a6 := h.2.2.2.2.2.2.1
theorem pj7 {a0 a1 a2 a3 a4 a5 a6 a7 b : Prop} (h : a0 ∧ a1 ∧ a2 ∧ a3 ∧ a4 ∧ a5 ∧ a6 ∧ a7 ∧ b) : a7 := h.2.2.2.2.2.2.2.1
theorem pj8 {a0 a1 a2 a3 a4 a5 a6 a7 a8 b : Prop} (h : a0 ∧ a1 ∧ a2 ∧ a3 ∧ a4 ∧ a5 ∧ a6 ∧ a7 ∧ a8 ∧ b) : a8 := h.2.2.2.2.2.2.2.2.1
theorem pj9 {a0 a1 a2 a3 a4 a5 a6 a7 a8 a9 b : Prop} (h : a0 ∧ a1 ∧ a2 ∧ a3 ∧ a4 ∧ a5 ∧ a6 ∧ a7 ∧ a8 ∧ a9 ∧ b) : a9 := h.2.2.2.2.2.2.2.2.2.1
theorem pj10 {a0 a1 a2 a3 a4 a5 a6 a7 a8 a9 a10 b : Prop} (h : a0 ∧ a1 ∧ a2 ∧ a3 ∧ a4 ∧ a5 ∧ a6 ∧ a7 ∧ a8 ∧ a9 ∧ a10 ∧ b) : a10 := h.2.2.2.2.2.2.2.2.2.2.1
theorem pj11 {a0 a1 a2 a3 a4 a5 a6 a7 a8 a9 a10 a11 b : Prop} (h : a0 ∧ a1 ∧ a2 ∧ a3 ∧ a4 ∧ a5 ∧ a6 ∧ a7 ∧ a8 ∧ a9 ∧ a10 ∧ a11 ∧ b) : a11 := h.2.2.2.2.2.2.2.2.2.2.2.1
theorem pj12 {a0 a1 a2 a3 a4 a5 a6 a7 a8 a9 a10 a11 a12 b : Prop} (h : a0 ∧ a1 ∧ a2 ∧ a3 ∧ a4 ∧ a5 ∧ a6 ∧ a7 ∧ a8 ∧ a9 ∧ a10 ∧ a11 ∧ a12 ∧ b) : a12 := h.2.2.2.2.2.2.2.2.2.2.2.2.1
theorem pj13 {a0 a1 a2 a3 a4 a5 a6 a7 a8 a9 a10 a11 a12 a13 b : Prop} (h : a0 ∧ a1 ∧ a2 ∧ a3 ∧ a4 ∧ a5 ∧ a6 ∧ a7 ∧ a8 ∧ a9 ∧ a10 ∧ a11 ∧ a12 ∧ a13 ∧ b) : a13 := h.2.2.2.2.2.2.2.2.2.2.2.2.2.1
theorem pj14 {a0 a1 a2 a3 a4 a5 a6 a7 a8 a9 a10 a11 a12 a13 a14 b : Prop} (h : a0 ∧ a1 ∧ a2 ∧ a3 ∧ a4 ∧ a5 ∧ a6 ∧ a7 ∧ a8 ∧ a9 ∧ a10 ∧ a11 ∧ a12 ∧ a13 ∧ a14 ∧ b) : a14 := h.2.2.2.2.2.2.2.2.2.2.2.2.2.2.1
theorem pj15 {a0 a1 a2 a3 a4 a5 a6 a7 a8 a9 a10 a11 a12 a13 a14 a15 b : Prop} (h : a0 ∧ a1 ∧ a2 ∧ a3 ∧ a4 ∧ a5 ∧ a6 ∧ a7 ∧ a8 ∧ a9 ∧ a10 ∧ a11 ∧ a12 ∧ a13 ∧ a14 ∧ a15 ∧ b) : a15 := h.2.2.2.2.2.2.2.2.2.2.2.2.2.2.2.1
theorem pj16 {a0 a1 a2 a3 a4 a5 a6 a7 a8 a9 a10 a11 a12 a13 a14 a15 a16 b : Prop} (h : a0 ∧ a1 ∧ a2 ∧ a3 ∧ a4 ∧ a5 ∧ a6 ∧ a7 ∧ a8 ∧ a9 ∧ a10 ∧ a11 ∧ a12 ∧ a13 ∧ a14 ∧ a15 ∧ a16 ∧ b) : a16 := h.2.2.2.2.2.2.2.2.2.2.2.2.2.2.2.2.1
theorem pj17 {a0 a1 a2 a3 a4 a5 a6 a7 a8 a9 a10 a11 a12 a13 a14 a15 a16 a17 b : Prop} (h : a0 ∧ a1 ∧ a2 ∧ a3 ∧ a4 ∧ a5 ∧ a6 ∧ a7 ∧ a8 ∧ a9 ∧ a10 ∧ a11 ∧ a12 ∧ a13 ∧ a14 ∧ a15 ∧ a16 ∧ a17 ∧ b) : a17 := h.2.2.2.2.2.2.2.2.2.2.2.2.2.2.2.2.2.1
theorem pj18 {a0 a1 a2 a3 a4 a5 a6 a7 a8 a9 a10 a11 a12 a13 a14 a15 a16 a17 a18 b : Prop} (h : a0 ∧ a1 ∧ a2 ∧ a3 ∧ a4 ∧ a5 ∧ a6 ∧ a7 ∧ a8 ∧ a9 ∧ a10 ∧ a11 ∧ a12 ∧ a13 ∧ a14 ∧ a15 ∧ a16 ∧ a17 ∧ a18 ∧ b) : a18 := h.2.2.2.2.2.2.2.2.2.2.2.2.2.2.2.2.2.2.1
/-- the walk's post held as one word -/
theorem opq {α : Type} {M : Model} {A : Around} {p : Sem α} {Q : α → Shared → Prop} {E : Value → Shared → Prop} {s : Shared} (h : ∀ Q' : α → Shared → Prop, (∀ f s', Q f s' → Q' f s') → wpAny M A p Q' E s) : wpAny M A p Q E s := h Q fun _ _ x => x
theorem cutF {M : Model} {A : Around} {env : Env} {Q : Flow → Shared → Prop} {E : Value → Shared → Prop} {s : Shared} {l : List Stmt} {g : Heap} {L : Addr} {news : List (Addr × Obj)} (N : News g L s.heap news) (n : Nat) (P : (Str → Option Value) → Prop)
    (h1 : wpAny M A (execs (l.take n) env) (fun f s' => match f with | .next => MidF g L news P s s' | f => Q f s') E s)
    (h2 : ∀ h' tk' m', Fr g L h' m' → News g L h' news → P m' → wpAny M A (execs (l.drop n) env) Q E { s with heap := h', toks := tk' }) : wpAny M A (execs l env) Q E s :=
  execs_cut n _ h1 fun s' ⟨h', tk', m', e, F, N, p⟩ => e ▸ h2 h' tk' m' F N p
theorem knows5 {g h : Heap} {L : Addr} {m : Str → Option Value} {x1 x2 x3 x4 x5 : Str} {v1 v2 v3 v4 v5 : Value} (F : Fr g L h m) (e1 : m x1 = some v1) (e2 : m x2 = some v2) (e3 : m x3 = some v3) (e4 : m x4 = some v4) (e5 : m x5 = some v5) :
    Fr g L h (fun y => if y = x1 then some v1 else if y = x2 then some v2 else if y = x3 then some v3 else if y = x4 then some v4 else if y = x5 then some v5 else m y) := by
  have : (fun y => if y = x1 then some v1 else if y = x2 then some v2 else if y = x3 then some v3 else if y = x4 then some v4 else if y = x5 then some v5 else m y) = m := by
    funext y
    (repeat' split) <;> simp_all
  rw [this]; exact F
/-- the frame's name x holds the int i -/
noncomputable def HasI (m : Str → Option Value) (x : Str) (i : Int) : Prop := ∃ t, m x = some (.int i t)
theorem HasI.of {m : Str → Option Value} {x : Str} {i j : Int} {t : Tok} (h : m x = some (.int i t)) (e : i = j) : HasI m x j := by subst e; exact ⟨_, h⟩

/-! a def with a try of its own, called out of the lowest frame -/
section
variable {prog : Program} {w : World} {A₀ A : Around} {s : Shared} {h₀ : Heap} {env : Env} {L : Addr} {m : Str → Option Value} {news : List (Addr × Obj)} {K : Frag} {p : Program} {loose : List Str} {mean : ExcName → Option Value} {mg mb : Str → Option Value}
    {R : Result → Shared → Prop} {name qual : Str} {params : Arguments} {body : List Stmt} {scope : Scope} {dV kV doc pm cdv ct oc : Value} {an od : Option Addr} {osl : Array (Option Value)} {f : Addr} {args : Args} {binds : List (Str × Value)}
theorem one_frame {b : Addr} (hf : env.frame = some L) (hb : b ∈ [env].filterMap (·.frame)) : b = L := by
  obtain ⟨e, he, hq⟩ := List.mem_filterMap.mp hb
  rw [List.mem_singleton.mp he, hf] at hq
  exact (Option.some.inj hq).symm
theorem enterT (B : Below A₀ h₀ [] h₀) (F : Fr h₀ L s.heap m) (X₀ : K.In h₀) (N : News h₀ L s.heap news) (T : Top p loose mean mg mb h₀) (hA : A.frames = some [env]) (hf : env.frame = some L) (hke : env.scope.kind = .function)
    (ho : K.lookup f = some ⟨oc, od, .func (fnOf name qual params body scope dV kV doc pm an cdv ct), osl⟩) (hcd : codeIn K cdv qual = true) (hroom : A.depth < recursionLimit)
    (hbind : BindsTo s (fnOf name qual params body scope dV kV doc pm an cdv ct) args binds) (hloc : ∀ y ∈ binds, scope.names.lookup y.1 = some .local)
    (h : ∀ g L' h₁, Fr h₀ L g m → Fr g L' h₁ (fun y => binds.reverse.lookup y) → News g L' h₁ news → Below A h₀ [env] g → K.In g → Top p loose mean mg mb g → KtsDicts ([env].filterMap (·.frame)) g →
      wpAny (model prog w) (A.deeper (envOf qual scope L' f cdv)) (execs body (envOf qual scope L' f cdv))
        (fun fl s' => LeaveS0 ([env].filterMap (·.frame)) h₀ L m g R (match fl with | .ret v => v | _ => .none) s')
        (fun e s' => wpAny (model prog w) (A.deeper (envOf qual scope L' f cdv)) (leaving (envOf qual scope L' f cdv) e) (fun _ s'' => R (.error e) s'') (fun e' s'' => R (.error e') s'') s')
        { s with heap := h₁, toks := s.toks + binds.length })
    (hco : scope.isCoroutine = false) (hgen : scope.isGenerator = false) (hk : scope.kind = .function)
    (hcell : ∀ x ∈ scope.names, x.2 ≠ .cell) : codeAny (model prog w) A (.call (.ref f) args) R s := by
  obtain ⟨FG, BG, st, _⟩ := groundX (R := R) B F N hA hf hke
  obtain ⟨oL, es, ep, hLg, hLd, hLk, hLf⟩ := FG.ns
  have nL₀ : h₀.get? L = none := kts_self F
  refine codeAny_call_def (fd := fnOf name qual params body scope dV kV doc pm an cdv ct) (body := body) (binds := binds) hroom ((X₀.keeps F.keep) _ _ ho) rfl (T.nolimit.keeps F.keep) (codeRec_of (X₀.keeps F.keep) hcd) rfl hbind hcell hloc (fun h₁ hns hk₁ => ?_) hco hgen hk
  have hin : Fr (hideAll s.heap (news.map (·.1))) s.heap.objs.size h₁ (fun y => binds.reverse.lookup y) := ⟨hns, fun b o e => hk₁ b o (of_hideAll _ e), Nat.le_of_eq (hideAll_size _ _)⟩
  have nin : News (hideAll s.heap (news.map (·.1))) s.heap.objs.size h₁ news := fun q hq => ⟨hk₁ _ _ (N q hq).1, Nat.ne_of_lt (Heap.lt_size (N q hq).1), hideAll_none _ (List.mem_map_of_mem hq)⟩
  have dicts : KtsDicts ([env].filterMap (·.frame)) (hideAll s.heap (news.map (·.1))) := fun b hb => by
    rw [one_frame hf hb]
    exact ⟨oL, es, ep, hLg, hLd⟩
  refine wpAny_mono (h _ _ h₁ FG hin nin BG (X₀.keeps st) (T.keeps st) dicts) (fun fl s' hl => ?_) fun _ _ y => y
  obtain ⟨g', L', m', news', T', F', N', back⟩ := hl
  obtain ⟨sl, hs⟩ := T'.up hLg
  refine back ⟨⟨_, es, ep, F'.keep _ _ hs, hLd, hLk, hLf⟩, fun b o e => F'.keep b o (T'.other b o (st b o e) fun q => ?_), F.above⟩ fun q hq => ⟨(N' q hq).1, fun z => ?_, ?_⟩
  · rw [one_frame hf q, nL₀] at e
    cases e
  · have z' := (N' q hq).2.2
    rw [z, hs] at z'
    cases z'
  · cases z : h₀.get? q.1 with
    | none => rfl
    | some o =>
      obtain ⟨sl', hs'⟩ := T'.up (st _ _ z)
      have z' := (N' q hq).2.2
      rw [hs'] at z'
      cases z'
end
/-- a contract for calls out of the lowest frame -/
noncomputable def SaysT (w : World) (f : Addr) (d : Nat) (vs : List Value) (news : List (Addr × Obj)) (P : Post) : Prop :=
  ∀ (mean : ExcName → Option Value) (mg mb : Str → Option Value) (dp un : Nat) (gd : Option (List Code)) (cn : Str) (cs : Scope) (a : Addr) (ccd : Value) (cl : List (Str × Addr)) (A₀ : Around) (h₀ : Heap) (L : Addr) (m : Str → Option Value) (s : Shared) (Q E : Value → Shared → Prop),
    Below A₀ h₀ [] h₀ → Fr h₀ L s.heap m → (hd.heap_39 w.params).In h₀ → News h₀ L s.heap news → Top hd.view_39 LooseX mean mg mb h₀ → cs.kind = .function →
    dp + d < recursionLimit → un + 8 * d < cLine → P h₀ L m h₀ [envX cn cs L a ccd cl] s Q E →
      wpAny (model ProgX w) (ktrTop dp un gd cn cs L a ccd cl []) (call (.ref f) vs) Q E s
theorem use_saysT {w : World} {f : Addr} {d : Nat} {vs : List Value} {news : List (Addr × Obj)} {P : Post} (h : SaysT w f d vs news P)
    {mean : ExcName → Option Value} {mg mb : Str → Option Value} {dp un : Nat} {gd : Option (List Code)} {cn : Str} {cs : Scope} {a : Addr} {ccd : Value} {cl : List (Str × Addr)} {A₀ : Around} {h₀ : Heap} {L : Addr} {m : Str → Option Value} {s : Shared} {Q E : Value → Shared → Prop}
    (B : Below A₀ h₀ [] h₀) (F : Fr h₀ L s.heap m) (X : (hd.heap_39 w.params).In h₀) (N : News h₀ L s.heap news) (T : Top hd.view_39 LooseX mean mg mb h₀) (hk : cs.kind = .function)
    (hd : dp + d < recursionLimit) (hu : un + 8 * d < cLine) (r : P h₀ L m h₀ [envX cn cs L a ccd cl] s Q E) :
    wpAny (model ProgX w) (ktrTop dp un gd cn cs L a ccd cl []) (call (.ref f) vs) Q E s :=
  h _ _ _ _ _ _ _ _ _ _ _ _ _ _ _ _ _ _ B F X N T hk hd hu r

theorem i3 {a b c a' b' c' : Int} {t1 t2 t3 : Tok} (e1 : a = a') (e2 : b = b') (e3 : c = c') : IntsAre [.int a t1, .int b t2, .int c t3] [a', b', c'] := by
  subst e1 e2 e3; exact .cons _ _ (.cons _ _ (.cons _ _ .nil))
theorem i2 {a b a' b' : Int} {t1 t2 : Tok} (e1 : a = a') (e2 : b = b') : IntsAre [.int a t1, .int b t2] [a', b'] := by
  subst e1 e2; exact .cons _ _ (.cons _ _ .nil)
theorem i5 {a b c d e a' b' c' d' e' : Int} {t1 t2 t3 t4 t5 : Tok} (e1 : a = a') (e2 : b = b') (e3 : c = c') (e4 : d = d') (e5 : e = e') : IntsAre [.int a t1, .int b t2, .int c t3, .int d t4, .int e t5] [a', b', c', d', e'] := by
  subst e1 e2 e3 e4 e5; exact .cons _ _ (.cons _ _ (.cons _ _ (.cons _ _ (.cons _ _ .nil))))

set_option maxRecDepth 100000 in
set_option maxHeartbeats 8000000 in
theorem fillX (w : World) (h : Heap) (X : (hd.heap_39 w.params).In h) : PySem.Challenge.rw_ah0025_01.foot = PySem.Challenge.rw_ah0025_01.foot ∧ (hd.heap_39 w.params).In h := by
  k_fill
  exact ⟨rfl, X⟩
set_option maxRecDepth 100000
set_option maxHeartbeats 4000000
local macro_rules | `(tactic| walk_at "m ent") => `(tactic| ((case kA => exact rfl); (case kF => exact rfl); (case kK => first | assumption | exact rfl); (case k1 => k_asm); (case k2 => k_asm); (case k3 => k_asm); (case k4 => k_asm); (case k5 => k_asm); (case k6 => k_is); (case k7 => k_is); (case k8 => ktr_room); (case k9 => first | exact BindsTo.of_eq rfl | exact binds_K (by k_in) rfl (by k_is) rfl rfl rfl); (case c5 => decide); (case kB => exact locs rfl); (case c2 => exact rfl); (case c3 => exact rfl); (case c4 => exact rfl)))
local macro_rules | `(tactic| walk_at "m enter") => `(tactic| (refine' code_def ?k1 ?k2 ?k3 ?k4 ?k5 ?kA ?kF ?kK ?k6 ?k7 ?k8 ?k9 ?kB ?_ ?c2 ?c3 ?c4 ?c5; walk_at "m ent"; k_whole; intro g' L' h' FG' F' N' B' X' T'; (try dsimp only); (try k_lift B'); (try k_fold)))
local macro_rules | `(tactic| walk_at "eval Call Name") => `(tactic| (k_here; (with_reducible show wpAny _ _ (eval (Expr.Call (Expr.Name _ _) _ [] _) _) _ _ _); (fail_if_success (with_reducible show wpAny _ _ (eval (Expr.Call (Expr.Name "range" _) _ _ _) _) _ _ _)); refine Call_ ?_))
local macro_rules | `(tactic| walk_at "m go") => `(tactic| (intro mean mg mb dp un gd cn cs a ccd cl outer A₀ base h₀ L m s Q E B F X N T hk hd' hu hret; refine wpAny_call ?_; k_dflt (walk_at "m enter"); k_steps))
local macro_rules | `(tactic| walk_at "m sub") => `(tactic| (intro p9 hp9; repeat (first | with_reducible exact hp9 | with_reducible refine List.mem_cons_of_mem _ ?_)))
local macro_rules | `(tactic| walk_at "m pre") => `(tactic| first | assumption | omega)
local macro_rules | `(tactic| walk_at "m mem") => `(tactic| repeat (first | with_reducible exact List.Mem.head _ | exact List.Mem.head _ | with_reducible refine List.mem_cons_of_mem _ ?_ | refine List.mem_cons_of_mem _ ?_))
local macro_rules | `(tactic| walk_at "m look") => `(tactic| first | with_reducible exact if_pos rfl | (with_reducible refine' Eq.trans (if_neg ?mn) ?mr; (case mn => decide +kernel); (case mr => walk_at "m look")) | exact rfl)
local macro_rules | `(tactic| walk_at "eval Name") => `(tactic| (k_here; k_dflt (first
  | (refine' nameX_L ?k1 ?k2 ?_ ?kk ?kl ?kd; (case kl => kernel_rfl!); (case kk => first | exact rfl | assumption); (case kd => kernel_rfl!); (case k1 => with_reducible assumption); (case k2 => walk_at "m look"); k_whole)
  | (refine' nameX_K ?k1 ?k2 (topRead_of ?k3) ?k4 ?_ ?kk ?kl ?kd; (case kl => kernel_rfl!); (case kk => first | exact rfl | assumption); (case kd => kernel_rfl!); (case k1 => with_reducible assumption); (case k2 => with_reducible assumption); (case k3 => with_reducible assumption); (case k4 => k_is); k_whole))))
local macro_rules | `(tactic| walk_at "m lt") => `(tactic| assumption)
local macro_rules | `(tactic| walk_at "m int") => `(tactic| (refine retI (by assumption) (by assumption) (by assumption) ?hs ?_; (case hs => walk_at "m sub")))
local macro_rules | `(tactic| walk_at "m bool") => `(tactic| (refine retB (by assumption) (by assumption) (by assumption) ?hs ?_; (case hs => walk_at "m sub")))
local macro_rules | `(tactic| walk_at "m raise") => `(tactic| (refine endRai (by assumption) (by assumption) (by assumption) (by assumption) ?hs; (case hs => walk_at "m sub")))
local macro_rules | `(tactic| walk_at "m tup") => `(tactic| (refine' retL (by assumption) (by assumption) (by assumption) ?hm ?hs ?hl ?_; (case hm => walk_at "m mem"); (case hs => walk_at "m sub"); (case hl => walk_at "m lt")))
local macro_rules | `(tactic| walk_at "m backS") => `(tactic| (refine RetS.of ?_; intro t9 h9 tk9 F9 N9))
local macro_rules | `(tactic| walk_at "m backL") => `(tactic| (refine RetL.of ?_; intro vs9 D9 h9 tk9 i9 F9 N9 l9))
local macro_rules | `(tactic| walk_at "m backR") => `(tactic| (refine RaiV.of ?_; intro g9 e9 t9 vs9 h9 tk9 F9 S9 R9 U9))
local macro_rules | `(tactic| walk_at "leaving ref") => `(tactic| (k_here; first | (refine' leave_raiseS ?k1 ?k0 ?k2 ?k3 ?_; (case k0 => first | assumption | exact Heap.MadeExc.of (by assumption)); (case k2 => assumption); (case k1 => assumption); (case k3 => k_asm); k_whole; intro h' t' S' R' U'; (try dsimp only at S' R' U' ⊢)) | (refine' leave_onS ?k1 ?k2 ?k3 ?k4 ?_; (case k3 => assumption); (case k2 => assumption); (case k1 => assumption); (case k4 => assumption); k_whole; intro h' S' R' U'; (try dsimp only at S' R' U' ⊢))))
local macro_rules | `(tactic| walk_at "m backL2") => `(tactic| (refine RetL.of2 ?_; intro t9 u9 D9 h9 tk9 F9 N9 l9))
local macro_rules | `(tactic| walk_at "m in") => `(tactic| (intro mean mg mb dp un gd cn cs a ccd cl outer A₀ base h₀ L m s Q E B F X N T hk hd' hu hret; refine wpAny_call ?_; k_dflt (walk_at "m enter")))
local macro_rules | `(tactic| walk_at "m lists") => `(tactic| first | dsimp only [List.take_succ_cons, List.take_zero, List.drop_succ_cons, List.drop_zero] | simp only [List.take_succ_cons, List.take_zero, List.drop_succ_cons, List.drop_zero])
local macro_rules | `(tactic| walk_at "m mid") => `(tactic| (refine MidF.intro (by assumption) (by assumption) ?hs ?_; (case hs => walk_at "m sub")))
local macro_rules | `(tactic| walk_at "storeName") => `(tactic| (k_here; dsimp only))
local macro_rules | `(tactic| walk_at "m backI") => `(tactic| (refine RetIS.of ?_; intro t9 u9 D9 h9 tk9 F9 N9 l9))
local macro_rules | `(tactic| walk_at "m pair") => `(tactic| (refine' retIS (by assumption) (by assumption) (by assumption) ?hm ?hs ?hl ?_ ?_; (case hm => walk_at "m mem"); (case hs => walk_at "m sub"); (case hl => walk_at "m lt")))
local macro_rules | `(tactic| walk_at "m str") => `(tactic| (refine retS (by assumption) (by assumption) (by assumption) ?hs ?_; (case hs => walk_at "m sub")))
local macro_rules | `(tactic| walk_at "m enterT") => `(tactic| (refine' enterT ?k1 ?k2 ?k3 ?k4 ?k5 ?kA ?kF ?kK ?k6 ?k7 ?k8 ?k9 ?kB ?_ ?c2 ?c3 ?c4 ?c5; walk_at "m ent"; k_whole; intro g' L' h' FG' F' N' B' X' T' D'; (try dsimp only); (try k_lift B'); (try k_fold)))
local macro_rules | `(tactic| walk_at "m inT") => `(tactic| (intro mean mg mb dp un gd cn cs a ccd cl A₀ h₀ L m s Q E B F X N T hk hd' hu hret; refine wpAny_call ?_; k_dflt (walk_at "m enterT")))
local macro_rules | `(tactic| walk_at "m uc0") => `(tactic| ((case k1 => k_asm); (case k2 => k_asm); (case k3 => k_asm); (case k4 => k_asm); (case k5 => k_asm); (case kK => first | exact rfl | assumption); (case kd => ktr_room); (case ku => ktr_units)))
local macro_rules | `(tactic| walk_at "m uc1") => `(tactic| (walk_at "m uc0"; (case p0 => walk_at "m pre")))
local macro_rules | `(tactic| walk_at "m uc2") => `(tactic| (walk_at "m uc1"; (case p1 => walk_at "m pre")))
local macro_rules | `(tactic| walk_at "m uc3") => `(tactic| (walk_at "m uc2"; (case p2 => walk_at "m pre")))
local macro_rules | `(tactic| walk_at "m ud") => `(tactic| ((try dsimp only); (try k_fold)))
theorem offP1 : True := by
  w_top off
  trivial
noncomputable def isleapF (y : Int) : Bool := y.fmod 4 == 0 && (y.fmod 100 != 0 || y.fmod 400 == 0)
theorem isleap_c (w : World) (y : Int) (t : Tok) (news : List (Addr × Obj)) : Says w 21 1 [.int y t] news (RetS (fun _ => .bool (isleapF y)) news) := by
  walk_at "m go"
  all_goals walk_at "m bool"
  all_goals (unfold isleapF; simp_all)
theorem trunc_c (w : World) (a b : Int) (t u : Tok) (news : List (Addr × Obj)) (hb : 0 < b) (hb2 : b < 1073741824) : Says w 28 1 [.int a t, .int b u] news (RetS (fun t => .int (a.tdiv b) t) news) := by
  have eb : (if b < 0 then -b else b) = b := if_neg (by omega)
  have db : decide (b < 0) = false := decide_eq_false (by omega)
  have neg : ∀ c : Int, 0 ≤ c → -(c.fdiv b) = (-c).tdiv b := fun c hc => by
    rw [Int.neg_tdiv, Int.tdiv_eq_ediv_of_nonneg hc, Int.fdiv_eq_ediv_of_nonneg _ (by omega)]
  have pos : ∀ c : Int, 0 ≤ c → c.fdiv b = c.tdiv b := fun c hc => by
    rw [Int.tdiv_eq_ediv_of_nonneg hc, Int.fdiv_eq_ediv_of_nonneg _ (by omega)]
  walk_at "m go"
  all_goals walk_at "m int"
  · rename ((decide _ == decide _) = true) => h
    rw [db] at h
    have ha : ¬ a < 0 := by simpa using h
    rw [eb, if_neg ha]
    exact pos a (by omega)
  · rename ((decide _ == decide _) = false) => h
    rw [db] at h
    have ha : a < 0 := by simpa using h
    rw [eb, if_pos ha, neg (-a) (by omega), Int.neg_neg]
theorem midnight_c (w : World) (a : Int) (t : Tok) (news : List (Addr × Obj)) : Says w 35 1 [.int a t] news (RetS (fun t => .int (if 0 < a then a else a + 1) t) news) := by
  walk_at "m go"
  all_goals walk_at "m int"
  all_goals (split <;> first | rfl | contradiction)
theorem amod_c (w : World) (a b : Int) (t u : Tok) (news : List (Addr × Obj)) (hb : 0 < b) (hb2 : b < 1073741824) : Says w 42 1 [.int a t, .int b u] news (RetS (fun t => .int (if a.fmod b = 0 then b else a.fmod b) t) news) := by
  walk_at "m go"
  all_goals walk_at "m int"
  all_goals (split <;> first | rfl | contradiction)
theorem lawdays_c (w : World) (a : Int) (t : Tok) (news : List (Addr × Obj)) : Says w 287 1 [.int a t] news (RetS (fun t => .int (if a.fmod 4 = 3 then 366 else 365) t) news) := by
  walk_at "m go"
  all_goals walk_at "m int"
  all_goals (split <;> first | rfl | contradiction)

local macro_rules | `(tactic| walk_at "call ref") => `(tactic| (k_here; (with_reducible show wpAny _ _ (PySem.call (Value.ref 21) _ _) _ _ _); (refine' use_says (isleap_c _ _ _ _ ) ?k1 ?k2 ?k3 ?k4 ?k5 ?kK ?kd ?ku ?_); walk_at "m uc0"; walk_at "m backS"; walk_at "m ud"))
local macro_rules | `(tactic| walk_at "call ref") => `(tactic| (k_here; (with_reducible show wpAny _ _ (PySem.call (Value.ref 28) _ _) _ _ _); (refine' use_says (trunc_c _ _ _ _ _ _ ?p0 ?p1) ?k1 ?k2 ?k3 ?k4 ?k5 ?kK ?kd ?ku ?_); walk_at "m uc2"; walk_at "m backS"; walk_at "m ud"))
local macro_rules | `(tactic| walk_at "call ref") => `(tactic| (k_here; (with_reducible show wpAny _ _ (PySem.call (Value.ref 35) _ _) _ _ _); (refine' use_says (midnight_c _ _ _ _ ) ?k1 ?k2 ?k3 ?k4 ?k5 ?kK ?kd ?ku ?_); walk_at "m uc0"; walk_at "m backS"; walk_at "m ud"))
local macro_rules | `(tactic| walk_at "call ref") => `(tactic| (k_here; (with_reducible show wpAny _ _ (PySem.call (Value.ref 42) _ _) _ _ _); (refine' use_says (amod_c _ _ _ _ _ _ ?p0 ?p1) ?k1 ?k2 ?k3 ?k4 ?k5 ?kK ?kd ?ku ?_); walk_at "m uc2"; walk_at "m backS"; walk_at "m ud"))
local macro_rules | `(tactic| walk_at "call ref") => `(tactic| (k_here; (with_reducible show wpAny _ _ (PySem.call (Value.ref 287) _ _) _ _ _); (refine' use_says (lawdays_c _ _ _ _ ) ?k1 ?k2 ?k3 ?k4 ?k5 ?kK ?kd ?ku ?_); walk_at "m uc0"; walk_at "m backS"; walk_at "m ud"))
theorem offP2 : True := by
  w_top off
  trivial
theorem len_small {v : Int} (h1 : -100 ≤ v) (h2 : v ≤ 100) : (Str.ofString (toString v)).length ≤ 10 := by
  have key : ∀ k : Fin 201, (Str.ofString (toString ((k.val : Int) - 100))).length ≤ 10 := by decide +kernel
  have := key ⟨(v + 100).toNat, by omega⟩
  have e : (((⟨(v + 100).toNat, by omega⟩ : Fin 201).val : Int) - 100) = v := by
    show (((v + 100).toNat : Int) - 100) = v
    omega
  rw [e] at this
  exact this
theorem log_small {v : Int} (h1 : -100 ≤ v) (h2 : v ≤ 100) : v.natAbs.log2 < 1920 := by
  have h3 : v.natAbs < 2 ^ 7 := by omega
  by_cases h0 : v.natAbs = 0
  · rw [h0]; decide +kernel
  · have := (Nat.log2_lt h0).mpr h3
    omega
local macro_rules | `(tactic| kfm_len) => `(tactic| exact len_small (by assumption) (by assumption))
local macro_rules | `(tactic| kfm_hd) => `(tactic| exact log_small (by assumption) (by assumption))
theorem fmt2 {w : World} {A : Around} {E : Value → Shared → Prop} {s : Shared} {mo d : Int} {t u v : Tok} {Q : Value → Shared → Prop} (h1 : -100 ≤ mo) (h2 : mo ≤ 100) (h3 : -100 ≤ d) (h4 : d ≤ 100)
    (hQ : ∀ (T : Str) (t' : Tok) (k : Nat), Q (.str T t') { s with toks := k }) : wpAny (model ProgX w) A (call (.builtin "str.format") [.str (Str.ofString "Month {} doesn't have a day {}") t, .int mo u, .int d v]) Q E s := by
  refine' KFm.call_k ?kfmF ?kfmg ?kfmm ?_
  case kfmF => kfm_eq
  case kfmg => exact KFm.args_3 _ _ _
  case kfmm => k_dflt kfm_run
  intro t' k
  exact hQ _ _ _
local macro_rules | `(tactic| walk_at "call builtin:str.format") => `(tactic| (k_here; (with_reducible show wpAny _ _ (PySem.call (Value.builtin "str.format") [Value.str _ _, Value.int _ _, Value.int _ _] _) _ _ _); (refine' fmt2 ?f1 ?f2 ?f3 ?f4 ?_); (case f1 => omega); (case f2 => omega); (case f3 => omega); (case f4 => omega); intro _ _ _))
noncomputable def dimF (y m : Int) : Int := if m = 2 then (if isleapF y then 29 else 28) else if ([4, 6, 9, 11] : List Int).any (· == m) then 30 else 31
/-- a month, a day near it -/
noncomputable def Near (m d : Int) : Prop := 1 ≤ m ∧ m ≤ 12 ∧ -100 ≤ d ∧ d ≤ 100
noncomputable def Fits (y m d : Int) : Prop := 1 ≤ d ∧ d ≤ dimF y m
noncomputable def Misses (y m d : Int) : Prop := d < 1 ∨ dimF y m < d

theorem tup30 {w : World} {h : Heap} (X : (hd.heap_39 w.params).In h) : ∃ items : Array Value, IsTup h 43 items ∧ IntsAre items.toList [4, 6, 9, 11] := by
  have e := X 43 _ (by k_is)
  exact ⟨_, ⟨_, e, rfl, _, rfl⟩, .cons _ _ (.cons _ _ (.cons _ _ (.cons _ _ .nil)))⟩
theorem in30 {w : World} {A : Around} {E : Value → Shared → Prop} {s : Shared} {h₀ : Heap} {L : Addr} {m : Str → Option Value} {x : Int} {u : Tok} {Q : Value → Shared → Prop} (F : Fr h₀ L s.heap m) (X : (hd.heap_39 w.params).In h₀)
    (h : Q (.bool (([4, 6, 9, 11] : List Int).any (· == x))) s) : wpAny (model ProgX w) A (compareOp .In (.int x u) (.ref 43)) Q E s := by
  obtain ⟨items, h1, h2⟩ := tup30 X
  exact in_tuple_ints (F.tup h1) h2 h
local macro_rules | `(tactic| walk_at "compareOp In int ref") => `(tactic| (k_here; refine in30 (by assumption) (by assumption) ?_))
theorem legal_ok (w : World) (y mo d : Int) (t u v : Tok) (news : List (Addr × Obj)) (_h0 : Near mo d) (h : Fits y mo d) : Says w 50 2 [.int y t, .int mo u, .int d v] news (RetS (fun _ => .bool true) news) := by
  obtain ⟨h1, h2⟩ := h
  unfold dimF at h2
  by_cases hm : mo = 2
  · rw [if_pos hm] at h2
    have hm' : (mo == 2) = true := by simpa using hm
    clear hm
    cases hl : isleapF y
    · rw [hl, if_neg Bool.false_ne_true] at h2
      walk_at "m go"
      all_goals walk_at "m bool"
      all_goals rfl
    · rw [hl, if_pos rfl] at h2
      walk_at "m go"
      all_goals walk_at "m bool"
      all_goals rfl
  · rw [if_neg hm] at h2
    have hm' : (mo == 2) = false := by simpa using hm
    clear hm
    cases h3 : ([4, 6, 9, 11] : List Int).any (· == mo)
    · rw [h3, if_neg Bool.false_ne_true] at h2
      walk_at "m go"
      all_goals walk_at "m bool"
      all_goals rfl
    · rw [h3, if_pos rfl] at h2
      walk_at "m go"
      all_goals walk_at "m bool"
      all_goals rfl
theorem legal_bad (w : World) (y mo d : Int) (t u v : Tok) (news : List (Addr × Obj)) (h0 : Near mo d) (h : Misses y mo d) : Says w 50 2 [.int y t, .int mo u, .int d v] news (RaiV news) := by
  obtain ⟨h4, h5, h6, h7⟩ := h0
  unfold Misses dimF at h
  by_cases hm : mo = 2
  · rw [if_pos hm] at h
    have hm' : (mo == 2) = true := by simpa using hm
    clear hm
    cases hl : isleapF y
    · rw [hl, if_neg Bool.false_ne_true] at h
      walk_at "m go"
      all_goals walk_at "m raise"
    · rw [hl, if_pos rfl] at h
      walk_at "m go"
      all_goals walk_at "m raise"
  · rw [if_neg hm] at h
    have hm' : (mo == 2) = false := by simpa using hm
    clear hm
    cases h3 : ([4, 6, 9, 11] : List Int).any (· == mo)
    · rw [h3, if_neg Bool.false_ne_true] at h
      walk_at "m go"
      all_goals walk_at "m raise"
    · rw [h3, if_pos rfl] at h
      walk_at "m go"
      all_goals walk_at "m raise"

local macro_rules | `(tactic| walk_at "call ref") => `(tactic| (k_here; (with_reducible show wpAny _ _ (PySem.call (Value.ref 50) _ _) _ _ _); (refine' use_says (legal_ok _ _ _ _ _ _ _ _ ?p0 ?p1) ?k1 ?k2 ?k3 ?k4 ?k5 ?kK ?kd ?ku ?_); walk_at "m uc2"; walk_at "m backS"; walk_at "m ud"))
local macro_rules | `(tactic| walk_at "call ref") => `(tactic| (k_here; (with_reducible show wpAny _ _ (PySem.call (Value.ref 50) _ _) _ _ _); (refine' use_says (legal_bad _ _ _ _ _ _ _ _ ?p0 ?p1) ?k1 ?k2 ?k3 ?k4 ?k5 ?kK ?kd ?ku ?_); walk_at "m uc2"; walk_at "m backR"; walk_at "m ud"))
theorem offP3 : True := by
  w_top off
  trivial
noncomputable def jdF (y m d : Int) : Int := 1721426 - 1 + 365 * (y - 1) + (y - 1).fdiv 4 + -((y - 1).fdiv 100) + (y - 1).fdiv 400 + ((367 * m - 362).fdiv 12 + (if m ≤ 2 then 0 else if isleapF y then -1 else -2) + d)
theorem tojd_ok (w : World) (y mo d : Int) (t u v : Tok) (news : List (Addr × Obj)) (h0 : Near mo d) (h : Fits y mo d) : Says w 57 3 [.int y t, .int mo u, .int d v] news (RetS (fun t => .int (jdF y mo d) t) news) := by
  walk_at "m in"
  refine cutF (by assumption) 2 (fun m => m (Str.ofString "year") = some (.int y t) ∧ m (Str.ofString "month") = some (.int mo u) ∧ m (Str.ofString "day") = some (.int d v) ∧ HasI m (Str.ofString "leap_adj") (if mo ≤ 2 then 0 else if isleapF y then -1 else -2)) ?_ ?_
  · refine opq fun Q hQ => ?_
    walk_at "m lists"
    k_steps
    all_goals (refine hQ .next _ ?_; walk_at "m mid"; refine ⟨rfl, rfl, rfl, HasI.of rfl ?_⟩)
    all_goals simp_all
  · walk_at "m lists"
    rintro h' tk' m' F N ⟨e1, e2, e3, t4, e4⟩
    have F2 := knows5 F e1 e2 e3 e4 e4
    clear F e1 e2 e3 e4
    k_steps
    all_goals walk_at "m int"
    all_goals rfl
theorem tojd_bad (w : World) (y mo d : Int) (t u v : Tok) (news : List (Addr × Obj)) (h0 : Near mo d) (h : Misses y mo d) : Says w 57 3 [.int y t, .int mo u, .int d v] news (RaiV news) := by
  walk_at "m go"
  all_goals walk_at "m raise"

local macro_rules | `(tactic| walk_at "call ref") => `(tactic| (k_here; (with_reducible show wpAny _ _ (PySem.call (Value.ref 57) _ _) _ _ _); (refine' use_says (tojd_ok _ _ _ _ _ _ _ _ ?p0 ?p1) ?k1 ?k2 ?k3 ?k4 ?k5 ?kK ?kd ?ku ?_); walk_at "m uc2"; walk_at "m backS"; walk_at "m ud"))
local macro_rules | `(tactic| walk_at "call ref") => `(tactic| (k_here; (with_reducible show wpAny _ _ (PySem.call (Value.ref 57) _ _) _ _ _); (refine' use_says (tojd_bad _ _ _ _ _ _ _ _ ?p0 ?p1) ?k1 ?k2 ?k3 ?k4 ?k5 ?kK ?kd ?ku ?_); walk_at "m uc2"; walk_at "m backR"; walk_at "m ud"))
theorem offP4 : True := by
  w_top off
  trivial
noncomputable def armNy (J : Int) : Int := (J - 1922502 - 1).tdiv 365
noncomputable def armNm (J : Int) : Int := ((J - 1922502 - 1).fmod 365).tdiv 30
noncomputable def armN (J : Int) : List Int := [armNy J, armNm J + 1, J - 1922502 - 365 * armNy J - 30 * armNm J]
noncomputable def armSy (J : Int) : Int := (4 * (J - 2117211)).tdiv 1461
noncomputable def armSd (J : Int) : Int := J - 2117211 - (365 * armSy J + (armSy J).tdiv 4)
noncomputable def armT (y p : Int) : List Int := [y + 533, (p - 1).tdiv 30 + 1, p - 30 * (p - 1).tdiv 30]
noncomputable def armS (J : Int) : List Int := if armSd J = 0 then (if (armSy J).fmod 4 = 0 then armT (armSy J - 1) 366 else armT (armSy J - 1) 365) else armT (armSy J) (armSd J)
theorem armN_ok (w : World) (J : Int) (t : Tok) (news : List (Addr × Obj)) (h : 1922502 ≤ J) : Says w 65 2 [.int J t, .none] news (RetL (armN J) news) := by
  walk_at "m go"
  all_goals walk_at "m tup"
  all_goals exact i3 rfl rfl rfl
theorem armN_bad (w : World) (J : Int) (t : Tok) (news : List (Addr × Obj)) (h : J < 1922502) : Says w 65 2 [.int J t, .none] news (RaiV news) := by
  walk_at "m go"
  all_goals walk_at "m raise"
theorem armS_ok (w : World) (J : Int) (t u : Tok) (news : List (Addr × Obj)) (h : 2117211 ≤ J) : Says w 65 2 [.int J t, .str (Str.ofString "sarkawag") u] news (RetL (armS J) news) := by
  walk_at "m go"
  all_goals walk_at "m tup"
  all_goals unfold armS
  · rw [if_pos (show armSd J = 0 by assumption), if_pos (show (armSy J).fmod 4 = 0 by assumption)]
    exact i3 rfl rfl rfl
  · rw [if_pos (show armSd J = 0 by assumption), if_neg (show ¬ (armSy J).fmod 4 = 0 by assumption)]
    exact i3 rfl rfl rfl
  · rw [if_neg (show ¬ armSd J = 0 by assumption)]
    exact i3 rfl rfl rfl
theorem armS_bad (w : World) (J : Int) (t u : Tok) (news : List (Addr × Obj)) (h : J < 2117211) : Says w 65 2 [.int J t, .str (Str.ofString "sarkawag") u] news (RaiV news) := by
  walk_at "m go"
  all_goals walk_at "m raise"

local macro_rules | `(tactic| walk_at "call ref") => `(tactic| (k_here; (with_reducible show wpAny _ _ (PySem.call (Value.ref 65) _ _) _ _ _); (refine' use_says (armN_ok _ _ _ _ ?p0) ?k1 ?k2 ?k3 ?k4 ?k5 ?kK ?kd ?ku ?_); walk_at "m uc1"; walk_at "m backL"; walk_at "m ud"))
local macro_rules | `(tactic| walk_at "call ref") => `(tactic| (k_here; (with_reducible show wpAny _ _ (PySem.call (Value.ref 65) _ _) _ _ _); (refine' use_says (armN_bad _ _ _ _ ?p0) ?k1 ?k2 ?k3 ?k4 ?k5 ?kK ?kd ?ku ?_); walk_at "m uc1"; walk_at "m backR"; walk_at "m ud"))
local macro_rules | `(tactic| walk_at "call ref") => `(tactic| (k_here; (with_reducible show wpAny _ _ (PySem.call (Value.ref 65) _ _) _ _ _); (refine' use_says (armS_ok _ _ _ _ _ ?p0) ?k1 ?k2 ?k3 ?k4 ?k5 ?kK ?kd ?ku ?_); walk_at "m uc1"; walk_at "m backL"; walk_at "m ud"))
local macro_rules | `(tactic| walk_at "call ref") => `(tactic| (k_here; (with_reducible show wpAny _ _ (PySem.call (Value.ref 65) _ _) _ _ _); (refine' use_says (armS_bad _ _ _ _ _ ?p0) ?k1 ?k2 ?k3 ?k4 ?k5 ?kK ?kd ?ku ?_); walk_at "m uc1"; walk_at "m backR"; walk_at "m ud"))
theorem offP4b : True := by
  w_top off
  trivial
theorem armGN_ok (w : World) (y mo d : Int) (t u v : Tok) (news : List (Addr × Obj)) (h0 : Near mo d) (h : Fits y mo d) (h1 : 1922502 ≤ jdF y mo d) : Says w 73 4 [.int y t, .int mo u, .int d v] news (RetL (armN (jdF y mo d)) news) := by
  walk_at "m go"
  all_goals walk_at "m tup"
  all_goals assumption
theorem armGN_low (w : World) (y mo d : Int) (t u v : Tok) (news : List (Addr × Obj)) (h0 : Near mo d) (h : Fits y mo d) (h1 : jdF y mo d < 1922502) : Says w 73 4 [.int y t, .int mo u, .int d v] news (RaiV news) := by
  walk_at "m go"
  all_goals walk_at "m raise"
theorem armGN_bad (w : World) (y mo d : Int) (t u v : Tok) (news : List (Addr × Obj)) (h0 : Near mo d) (h : Misses y mo d) : Says w 73 4 [.int y t, .int mo u, .int d v] news (RaiV news) := by
  walk_at "m go"
  all_goals walk_at "m raise"
theorem armGS_ok (w : World) (y mo d : Int) (t u v x : Tok) (news : List (Addr × Obj)) (h0 : Near mo d) (h : Fits y mo d) (h1 : 2117211 ≤ jdF y mo d) : Says w 73 4 [.int y t, .int mo u, .int d v, .str (Str.ofString "sarkawag") x] news (RetL (armS (jdF y mo d)) news) := by
  walk_at "m go"
  all_goals walk_at "m tup"
  all_goals assumption
theorem armGS_low (w : World) (y mo d : Int) (t u v x : Tok) (news : List (Addr × Obj)) (h0 : Near mo d) (h : Fits y mo d) (h1 : jdF y mo d < 2117211) : Says w 73 4 [.int y t, .int mo u, .int d v, .str (Str.ofString "sarkawag") x] news (RaiV news) := by
  walk_at "m go"
  all_goals walk_at "m raise"
theorem armGS_bad (w : World) (y mo d : Int) (t u v x : Tok) (news : List (Addr × Obj)) (h0 : Near mo d) (h : Misses y mo d) : Says w 73 4 [.int y t, .int mo u, .int d v, .str (Str.ofString "sarkawag") x] news (RaiV news) := by
  walk_at "m go"
  all_goals walk_at "m raise"

local macro_rules | `(tactic| walk_at "call ref") => `(tactic| (k_here; (with_reducible show wpAny _ _ (PySem.call (Value.ref 73) _ _) _ _ _); (refine' use_says (armGN_ok _ _ _ _ _ _ _ _ ?p0 ?p1 ?p2) ?k1 ?k2 ?k3 ?k4 ?k5 ?kK ?kd ?ku ?_); walk_at "m uc3"; walk_at "m backL"; walk_at "m ud"))
local macro_rules | `(tactic| walk_at "call ref") => `(tactic| (k_here; (with_reducible show wpAny _ _ (PySem.call (Value.ref 73) _ _) _ _ _); (refine' use_says (armGN_low _ _ _ _ _ _ _ _ ?p0 ?p1 ?p2) ?k1 ?k2 ?k3 ?k4 ?k5 ?kK ?kd ?ku ?_); walk_at "m uc3"; walk_at "m backR"; walk_at "m ud"))
local macro_rules | `(tactic| walk_at "call ref") => `(tactic| (k_here; (with_reducible show wpAny _ _ (PySem.call (Value.ref 73) _ _) _ _ _); (refine' use_says (armGN_bad _ _ _ _ _ _ _ _ ?p0 ?p1) ?k1 ?k2 ?k3 ?k4 ?k5 ?kK ?kd ?ku ?_); walk_at "m uc2"; walk_at "m backR"; walk_at "m ud"))
local macro_rules | `(tactic| walk_at "call ref") => `(tactic| (k_here; (with_reducible show wpAny _ _ (PySem.call (Value.ref 73) _ _) _ _ _); (refine' use_says (armGS_ok _ _ _ _ _ _ _ _ _ ?p0 ?p1 ?p2) ?k1 ?k2 ?k3 ?k4 ?k5 ?kK ?kd ?ku ?_); walk_at "m uc3"; walk_at "m backL"; walk_at "m ud"))
local macro_rules | `(tactic| walk_at "call ref") => `(tactic| (k_here; (with_reducible show wpAny _ _ (PySem.call (Value.ref 73) _ _) _ _ _); (refine' use_says (armGS_low _ _ _ _ _ _ _ _ _ ?p0 ?p1 ?p2) ?k1 ?k2 ?k3 ?k4 ?k5 ?kK ?kd ?ku ?_); walk_at "m uc3"; walk_at "m backR"; walk_at "m ud"))
local macro_rules | `(tactic| walk_at "call ref") => `(tactic| (k_here; (with_reducible show wpAny _ _ (PySem.call (Value.ref 73) _ _) _ _ _); (refine' use_says (armGS_bad _ _ _ _ _ _ _ _ _ ?p0 ?p1) ?k1 ?k2 ?k3 ?k4 ?k5 ?kK ?kd ?ku ?_); walk_at "m uc2"; walk_at "m backR"; walk_at "m ud"))
theorem offP5 : True := by
  w_top off
  trivial
noncomputable def copJ (y m d : Int) : Int := d + (m - 1) * 30 + (y - 1) * 365 + y.fdiv 4 + 1825030 - 1
theorem coptic_tojd_c (w : World) (y m d : Int) (t u v : Tok) (news : List (Addr × Obj)) : Says w 80 1 [.int y t, .int m u, .int d v] news (RetS (fun t => .int (copJ y m d) t) news) := by
  walk_at "m go"
  all_goals walk_at "m int"
  all_goals rfl
local macro_rules | `(tactic| walk_at "call ref") => `(tactic| (k_here; (with_reducible show wpAny _ _ (PySem.call (Value.ref 80) _ _) _ _ _); (refine' use_says (coptic_tojd_c _ _ _ _ _ _ _ _ ) ?k1 ?k2 ?k3 ?k4 ?k5 ?kK ?kd ?ku ?_); walk_at "m uc0"; walk_at "m backS"; walk_at "m ud"))
noncomputable def copY (J : Int) : Int := (4 * (J - 1825030) + 1463).fdiv 1461
noncomputable def copD (J : Int) : Int := J - copJ (copY J) 1 1
noncomputable def cop (J : Int) : List Int := [copY J, (copD J).fdiv 30 + 1, copD J - ((copD J).fdiv 30 + 1 - 1) * 30 + 1]
theorem coptic_c (w : World) (J : Int) (t : Tok) (news : List (Addr × Obj)) : Says w 87 2 [.int J t] news (RetL (cop J) news) := by
  walk_at "m go"
  all_goals walk_at "m tup"
  all_goals exact i3 rfl rfl rfl
local macro_rules | `(tactic| walk_at "call ref") => `(tactic| (k_here; (with_reducible show wpAny _ _ (PySem.call (Value.ref 87) _ _) _ _ _); (refine' use_says (coptic_c _ _ _ _ ) ?k1 ?k2 ?k3 ?k4 ?k5 ?kK ?kd ?ku ?_); walk_at "m uc0"; walk_at "m backL"; walk_at "m ud"))
theorem copticG_ok (w : World) (y mo d : Int) (t u v : Tok) (news : List (Addr × Obj)) (h0 : Near mo d) (h : Fits y mo d) : Says w 94 4 [.int y t, .int mo u, .int d v] news (RetL (cop (jdF y mo d)) news) := by
  walk_at "m go"
  all_goals walk_at "m tup"
  all_goals assumption
theorem copticG_bad (w : World) (y mo d : Int) (t u v : Tok) (news : List (Addr × Obj)) (h0 : Near mo d) (h : Misses y mo d) : Says w 94 4 [.int y t, .int mo u, .int d v] news (RaiV news) := by
  walk_at "m go"
  all_goals walk_at "m raise"

local macro_rules | `(tactic| walk_at "call ref") => `(tactic| (k_here; (with_reducible show wpAny _ _ (PySem.call (Value.ref 94) _ _) _ _ _); (refine' use_says (copticG_ok _ _ _ _ _ _ _ _ ?p0 ?p1) ?k1 ?k2 ?k3 ?k4 ?k5 ?kK ?kd ?ku ?_); walk_at "m uc2"; walk_at "m backL"; walk_at "m ud"))
local macro_rules | `(tactic| walk_at "call ref") => `(tactic| (k_here; (with_reducible show wpAny _ _ (PySem.call (Value.ref 94) _ _) _ _ _); (refine' use_says (copticG_bad _ _ _ _ _ _ _ _ ?p0 ?p1) ?k1 ?k2 ?k3 ?k4 ?k5 ?kK ?kd ?ku ?_); walk_at "m uc2"; walk_at "m backR"; walk_at "m ud"))
theorem offP6 : True := by
  w_top off
  trivial
theorem in_mixS {w : World} {A : Around} {E : Value → Shared → Prop} {s : Shared} {h₀ : Heap} {L D : Addr} {news : List (Addr × Obj)} {n : Int} {z x : Str} {t u k : Tok} {b : Bool} {Q : Value → Shared → Prop}
    (N : News h₀ L s.heap news) (hm : (D, tupOf [.int n t, .str z u]) ∈ news) (hu : A.units + 8 < cLine) (hb : (z == x) = b) (hz : (PyData.str z).canLay0 = true) (hx : (PyData.str x).canLay0 = true) (h : Q (.bool b) s) :
    wpAny (model ProgX w) A (compareOp .In (.str x k) (.ref D)) Q E s := by
  refine SeqAt.in_tuple_reads (xs := [.int n, .str z]) (d := .str x) (.tuple (N.get hm) rfl rfl (.cons (.int n t) (.cons (.str z u) .nil))) (.str x k) ?_ hx ?_ ?_
  · simp only [PyData.canLayAll0, hz, Bool.and_true]; rfl
  · have : min (PyData.depthAll [PyData.int n, PyData.str z]) (PyData.str x).depth ≤ 1 := Nat.le_trans (Nat.min_le_right _ _) (by show 0 ≤ 1; omega)
    omega
  · subst hb
    have e : ([PyData.int n, PyData.str z].any fun y => PyData.eqv y (.str x)) = (z == x) := by
      simp only [List.any_cons, List.any_nil, PyData.eqv, Bool.or_false, Bool.false_or]
    rw [e]; exact h
theorem in_mixI {w : World} {A : Around} {E : Value → Shared → Prop} {s : Shared} {h₀ : Heap} {L D : Addr} {news : List (Addr × Obj)} {n x : Int} {z : Str} {t u k : Tok} {b : Bool} {Q : Value → Shared → Prop}
    (N : News h₀ L s.heap news) (hm : (D, tupOf [.int n t, .str z u]) ∈ news) (hu : A.units + 8 < cLine) (hb : (n == x) = b) (hz : (PyData.str z).canLay0 = true) (hx : (PyData.int x).canLay0 = true) (h : Q (.bool b) s) :
    wpAny (model ProgX w) A (compareOp .In (.int x k) (.ref D)) Q E s := by
  refine SeqAt.in_tuple_reads (xs := [.int n, .str z]) (d := .int x) (.tuple (N.get hm) rfl rfl (.cons (.int n t) (.cons (.str z u) .nil))) (.int x k) ?_ hx ?_ ?_
  · simp only [PyData.canLayAll0, hz, Bool.and_true]; rfl
  · have : min (PyData.depthAll [PyData.int n, PyData.str z]) (PyData.int x).depth ≤ 1 := Nat.le_trans (Nat.min_le_right _ _) (by show 0 ≤ 1; omega)
    omega
  · subst hb
    have e : ([PyData.int n, PyData.str z].any fun y => PyData.eqv y (.int x)) = (n == x) := by
      simp only [List.any_cons, List.any_nil, PyData.eqv, Bool.or_false, Bool.false_or]
    rw [e]; exact h
local macro_rules | `(tactic| walk_at "m inc") => `(tactic| ((case k1 => assumption); (case k2 => k_dflt k_mem); (case k3 => ktr_units); (case k4 => decide +kernel); (case k5 => decide +kernel); (case k6 => decide +kernel)))
local macro_rules | `(tactic| walk_at "compareOp In str ref") => `(tactic| (k_here; (with_reducible show wpAny _ _ (compareOp CmpOp.In (Value.str _ _) (Value.ref _)) _ _ _); first | (refine' in_mixS (b := true) ?k1 ?k2 ?k3 ?k4 ?k5 ?k6 ?_; walk_at "m inc") | (refine' in_mixS (b := false) ?k1 ?k2 ?k3 ?k4 ?k5 ?k6 ?_; walk_at "m inc")))
local macro_rules | `(tactic| walk_at "compareOp In int ref") => `(tactic| (k_here; (with_reducible show wpAny _ _ (compareOp CmpOp.In (Value.int _ _) (Value.ref _)) _ _ _); first | (refine' in_mixI (b := true) ?k1 ?k2 ?k3 ?k4 ?k5 ?k6 ?_; walk_at "m inc") | (refine' in_mixI (b := false) ?k1 ?k2 ?k3 ?k4 ?k5 ?k6 ?_; walk_at "m inc")))
noncomputable def frA (k : Nat) (J : Int) : Int × Int :=
  match k with
  | 0 => (J - 2375840 + 365, -1)
  | 1 => if J - 2375840 ≤ 365 * 12 + 3 then (J - 2375840 + 365, -1) else
      (((J - 2375840 - 365 * 12 - 3).fmod 1460969).fmod 146097 |>.fmod 36524, (J - 2375840 - 365 * 12 - 3).tdiv 1460969 * 4000 + ((J - 2375840 - 365 * 12 - 3).fmod 1460969).tdiv 146097 * 400 + (((J - 2375840 - 365 * 12 - 3).fmod 1460969).fmod 146097).tdiv 36524 * 100 + 12)
  | _ => if J - 2375840 ≤ 365 * 17 + 4 then (J - 2375840 + 365, -1) else
      ((J - 2375840 - 365 * 16 - 4).fmod 46751, (J - 2375840 - 365 * 16 - 4).tdiv 46751 * 128 + 16)
noncomputable def frB (J : Int) : Int := if J.fmod 1461 = 1461 - 1 then 1460 else J.fmod 1461
noncomputable def frC (b : Int) : Int := if b = 365 * 4 then 365 else b.fmod 365
noncomputable def frD (b : Int) : Int := if b = 365 * 4 then b.tdiv 365 - 1 else b.tdiv 365
noncomputable def frT (J Y : Int) : List Int := [Y + J.tdiv 1461 * 4 + frD (frB J) + 1, (frC (frB J)).tdiv 30 + 1, frC (frB J) - (frC (frB J)).tdiv 30 * 30 + 1]
noncomputable def fr (k : Nat) (J : Int) : List Int := frT (frA k J).1 (frA k J).2
noncomputable def FrMid (k : Nat) (J : Int) (m : Str → Option Value) : Prop := HasI m (Str.ofString "J") (frA k J).1 ∧ ∃ a b c d, HasI m (Str.ofString "y0") a ∧ HasI m (Str.ofString "y1") b ∧ HasI m (Str.ofString "y2") c ∧ HasI m (Str.ofString "y5") d ∧ a + b + c + d = (frA k J).2
theorem frA_1 {J : Int} (hc : ¬ J - 2375840 ≤ 365 * 12 + 3) : frA 1 J = (((J - 2375840 - 365 * 12 - 3).fmod 1460969).fmod 146097 |>.fmod 36524, (J - 2375840 - 365 * 12 - 3).tdiv 1460969 * 4000 + ((J - 2375840 - 365 * 12 - 3).fmod 1460969).tdiv 146097 * 400 + (((J - 2375840 - 365 * 12 - 3).fmod 1460969).fmod 146097).tdiv 36524 * 100 + 12) := if_neg hc
theorem frA_2 {J : Int} (hc : ¬ J - 2375840 ≤ 365 * 17 + 4) : frA 2 J = ((J - 2375840 - 365 * 16 - 4).fmod 46751, (J - 2375840 - 365 * 16 - 4).tdiv 46751 * 128 + 16) := if_neg hc
noncomputable def FrT1 (J a b c d : Int) (m : Str → Option Value) : Prop := HasI m (Str.ofString "J") (frB J) ∧ HasI m (Str.ofString "y0") a ∧ HasI m (Str.ofString "y1") b ∧ HasI m (Str.ofString "y2") c ∧ HasI m (Str.ofString "y5") d ∧ HasI m (Str.ofString "y3") (J.tdiv 1461 * 4)
noncomputable def FrT2 (J a b c d : Int) (m : Str → Option Value) : Prop := HasI m (Str.ofString "J") (frC (frB J)) ∧ HasI m (Str.ofString "y0") a ∧ HasI m (Str.ofString "y1") b ∧ HasI m (Str.ofString "y2") c ∧ HasI m (Str.ofString "y5") d ∧ HasI m (Str.ofString "y3") (J.tdiv 1461 * 4) ∧ HasI m (Str.ofString "y4") (frD (frB J))
noncomputable def FrM (k : Nat) (J : Int) (v : Value) : Prop := (((∃ t, v = .int 4 t) ∨ (∃ t, v = .str (Str.ofString "continuous") t)) ∧ frA k J = (J - 2375840 + 365, -1)) ∨
  ((∃ t, v = .str (Str.ofString "romme") t) ∧ frA k J = (((J - 2375840 - 365 * 12 - 3).fmod 1460969).fmod 146097 |>.fmod 36524, (J - 2375840 - 365 * 12 - 3).tdiv 1460969 * 4000 + ((J - 2375840 - 365 * 12 - 3).fmod 1460969).tdiv 146097 * 400 + (((J - 2375840 - 365 * 12 - 3).fmod 1460969).fmod 146097).tdiv 36524 * 100 + 12)) ∨
  ((∃ t, v = .str (Str.ofString "madler") t) ∧ frA k J = ((J - 2375840 - 365 * 16 - 4).fmod 46751, (J - 2375840 - 365 * 16 - 4).tdiv 46751 * 128 + 16))
noncomputable def FrMid5 (k : Nat) (J : Int) (m : Str → Option Value) : Prop := (∃ t, m (Str.ofString "J") = some (.int (J - 2375840) t)) ∧ (∃ t, m (Str.ofString "y0") = some (.int 0 t)) ∧ (∃ t, m (Str.ofString "y1") = some (.int 0 t)) ∧ (∃ t, m (Str.ofString "y2") = some (.int 0 t)) ∧ (∃ t, m (Str.ofString "y5") = some (.int 0 t)) ∧
  m (Str.ofString "leap_suppression_days") = some .none ∧ ∃ v, m (Str.ofString "method") = some v ∧ FrM k J v
theorem knows7 {g h : Heap} {L : Addr} {m : Str → Option Value} {x1 x2 x3 x4 x5 x6 x7 : Str} {v1 v2 v3 v4 v5 v6 v7 : Value} (F : Fr g L h m) (e1 : m x1 = some v1) (e2 : m x2 = some v2) (e3 : m x3 = some v3) (e4 : m x4 = some v4) (e5 : m x5 = some v5) (e6 : m x6 = some v6) (e7 : m x7 = some v7) :
    Fr g L h (fun y => if y = x1 then some v1 else if y = x2 then some v2 else if y = x3 then some v3 else if y = x4 then some v4 else if y = x5 then some v5 else if y = x6 then some v6 else if y = x7 then some v7 else m y) := by
  have : (fun y => if y = x1 then some v1 else if y = x2 then some v2 else if y = x3 then some v3 else if y = x4 then some v4 else if y = x5 then some v5 else if y = x6 then some v6 else if y = x7 then some v7 else m y) = m := by
    funext y
    (repeat' split) <;> simp_all
  rw [this]; exact F
noncomputable def FrMid4 (J : Int) (z : Str) (m : Str → Option Value) : Prop := (∃ t, m (Str.ofString "J") = some (.int (J - 2375840) t)) ∧ (∃ t, m (Str.ofString "y0") = some (.int 0 t)) ∧ (∃ t, m (Str.ofString "y1") = some (.int 0 t)) ∧ (∃ t, m (Str.ofString "y2") = some (.int 0 t)) ∧ (∃ t, m (Str.ofString "y5") = some (.int 0 t)) ∧
  m (Str.ofString "leap_suppression_days") = some .none ∧ ∃ t, m (Str.ofString "method") = some (.str z t)
theorem fr_all (w : World) (J : Int) (t u : Tok) (news : List (Addr × Obj)) (h : 2375840 ≤ J) (k : Nat) (z : Str)
    (hz : (k = 0 ∧ z = Str.ofString "continuous") ∨ (k = 1 ∧ z = Str.ofString "romme") ∨ (k = 2 ∧ z = Str.ofString "madler")) : Says w 109 2 [.int J t, .str z u] news (RetL (fr k J) news) := by
  walk_at "m in"
  refine cutF (by assumption) 4 (FrMid4 J z) ?_ ?_
  · refine opq fun Q hQ => ?_
    walk_at "m lists"
    clear hz
    k_steps
    all_goals (refine hQ .next _ ?_; walk_at "m mid")
    all_goals exact ⟨⟨_, rfl⟩, ⟨_, rfl⟩, ⟨_, rfl⟩, ⟨_, rfl⟩, ⟨_, rfl⟩, rfl, _, rfl⟩
  walk_at "m lists"
  rintro h' tk' m' F N ⟨⟨tJ, eJ⟩, ⟨t0, e0⟩, ⟨t1, e1⟩, ⟨t2, e2⟩, ⟨t5, e5⟩, el, tm, em⟩
  have F2 := knows7 F em el e0 e1 e2 e5 eJ
  clear F em el e0 e1 e2 e5 eJ
  refine cutF N 1 (FrMid5 k J) ?_ ?_
  · refine opq fun Q hQ => ?_
    rcases hz with ⟨rfl, rfl⟩ | ⟨rfl, rfl⟩ | ⟨rfl, rfl⟩
    · walk_at "m lists"
      k_steps
      all_goals (refine hQ .next _ ?_; walk_at "m mid")
      all_goals exact ⟨⟨_, rfl⟩, ⟨_, rfl⟩, ⟨_, rfl⟩, ⟨_, rfl⟩, ⟨_, rfl⟩, rfl, _, rfl, .inl ⟨.inr ⟨_, rfl⟩, rfl⟩⟩
    · walk_at "m lists"
      by_cases hc : J - 2375840 ≤ 365 * 12 + 3
      · k_steps
        all_goals (refine hQ .next _ ?_; walk_at "m mid")
        all_goals exact ⟨⟨_, rfl⟩, ⟨_, rfl⟩, ⟨_, rfl⟩, ⟨_, rfl⟩, ⟨_, rfl⟩, rfl, _, rfl, .inl ⟨.inl ⟨_, rfl⟩, if_pos hc⟩⟩
      · k_steps
        all_goals (refine hQ .next _ ?_; walk_at "m mid")
        all_goals exact ⟨⟨_, rfl⟩, ⟨_, rfl⟩, ⟨_, rfl⟩, ⟨_, rfl⟩, ⟨_, rfl⟩, rfl, _, rfl, .inr (.inl ⟨⟨_, rfl⟩, if_neg hc⟩)⟩
    · walk_at "m lists"
      by_cases hc : J - 2375840 ≤ 365 * 17 + 4
      · k_steps
        all_goals (refine hQ .next _ ?_; walk_at "m mid")
        all_goals exact ⟨⟨_, rfl⟩, ⟨_, rfl⟩, ⟨_, rfl⟩, ⟨_, rfl⟩, ⟨_, rfl⟩, rfl, _, rfl, .inl ⟨.inl ⟨_, rfl⟩, if_pos hc⟩⟩
      · k_steps
        all_goals (refine hQ .next _ ?_; walk_at "m mid")
        all_goals exact ⟨⟨_, rfl⟩, ⟨_, rfl⟩, ⟨_, rfl⟩, ⟨_, rfl⟩, ⟨_, rfl⟩, rfl, _, rfl, .inr (.inr ⟨⟨_, rfl⟩, if_neg hc⟩)⟩
  clear hz N F2
  walk_at "m lists"
  rintro h' tk' m' F N ⟨⟨tJ, eJ⟩, ⟨t0, e0⟩, ⟨t1, e1⟩, ⟨t2, e2⟩, ⟨t5, e5⟩, el, v, em, hv⟩
  have F2 := knows7 F em el e0 e1 e2 e5 eJ
  clear F em el e0 e1 e2 e5 eJ
  refine cutF N 2 (FrMid k J) ?_ ?_
  · walk_at "m lists"
    refine opq fun Q hQ => ?_
    rcases hv with ⟨⟨t9, rfl⟩ | ⟨t9, rfl⟩, e⟩ | ⟨⟨t9, rfl⟩, e⟩ | ⟨⟨t9, rfl⟩, e⟩
    · k_steps
      all_goals (refine hQ .next _ ?_; walk_at "m mid"; unfold FrMid; rw [e])
      all_goals exact ⟨⟨_, rfl⟩, _, _, _, _, ⟨_, rfl⟩, ⟨_, rfl⟩, ⟨_, rfl⟩, ⟨_, rfl⟩, rfl⟩
    · k_steps
      all_goals (refine hQ .next _ ?_; walk_at "m mid"; unfold FrMid; rw [e])
      all_goals exact ⟨⟨_, rfl⟩, _, _, _, _, ⟨_, rfl⟩, ⟨_, rfl⟩, ⟨_, rfl⟩, ⟨_, rfl⟩, rfl⟩
    · k_steps
      all_goals (refine hQ .next _ ?_; walk_at "m mid"; unfold FrMid; rw [e])
      all_goals exact ⟨⟨_, rfl⟩, _, _, _, _, ⟨_, rfl⟩, ⟨_, rfl⟩, ⟨_, rfl⟩, ⟨_, rfl⟩, rfl⟩
    · k_steps
      all_goals (refine hQ .next _ ?_; walk_at "m mid"; unfold FrMid; rw [e])
      all_goals exact ⟨⟨_, rfl⟩, _, _, _, _, ⟨_, rfl⟩, ⟨_, rfl⟩, ⟨_, rfl⟩, ⟨_, rfl⟩, by omega⟩
  · walk_at "m lists"
    clear hv N F2
    rintro h' tk' m' F N ⟨⟨tJ, eJ⟩, a, b, c, d, ⟨t0, e0⟩, ⟨t1, e1⟩, ⟨t2, e2⟩, ⟨t5, e5⟩, hs⟩
    have F2 := knows5 F e0 e1 e2 e5 eJ
    clear F e0 e1 e2 e5 eJ
    rename RetL _ _ _ _ _ _ _ _ _ _ => hr
    unfold fr at hr
    generalize (frA k J).1 = J1 at hs hr F2 ⊢
    generalize (frA k J).2 = Y at hs hr F2 ⊢
    unfold frT at hr
    refine cutF N 2 (FrT1 J1 a b c d) ?_ ?_
    · refine opq fun Q hQ => ?_
      walk_at "m lists"
      k_steps
      all_goals (refine hQ .next _ ?_; walk_at "m mid"; refine ⟨HasI.of rfl ?_, ⟨_, rfl⟩, ⟨_, rfl⟩, ⟨_, rfl⟩, ⟨_, rfl⟩, ⟨_, rfl⟩⟩)
      · exact (if_pos (by assumption)).symm
      · exact (if_neg (by assumption)).symm
    walk_at "m lists"
    clear N F2
    rintro h' tk' m' F N ⟨⟨tJ, eJ⟩, ⟨t0, e0⟩, ⟨t1, e1⟩, ⟨t2, e2⟩, ⟨t5, e5⟩, ⟨t3, e3⟩⟩
    have F2 := knows7 F e0 e1 e2 e5 e3 eJ eJ
    clear F e0 e1 e2 e5 e3 eJ
    refine cutF N 2 (FrT2 J1 a b c d) ?_ ?_
    · refine opq fun Q hQ => ?_
      walk_at "m lists"
      unfold FrT2 at hQ
      generalize frB J1 = B1 at hQ F2
      k_steps
      all_goals (refine hQ .next _ ?_; walk_at "m mid"; refine ⟨HasI.of rfl ?_, ⟨_, rfl⟩, ⟨_, rfl⟩, ⟨_, rfl⟩, ⟨_, rfl⟩, ⟨_, rfl⟩, HasI.of rfl ?_⟩)
      · exact (if_pos (by assumption)).symm
      · exact (if_pos (by assumption)).symm
      · exact (if_neg (by assumption)).symm
      · exact (if_neg (by assumption)).symm
    walk_at "m lists"
    clear N F2
    rintro h' tk' m' F N ⟨⟨tJ, eJ⟩, ⟨t0, e0⟩, ⟨t1, e1⟩, ⟨t2, e2⟩, ⟨t5, e5⟩, ⟨t3, e3⟩, ⟨t4, e4⟩⟩
    have F2 := knows7 F e0 e1 e2 e5 e3 e4 eJ
    clear F e0 e1 e2 e5 e3 e4 eJ
    generalize frC (frB J1) = C1 at hr F2
    generalize frD (frB J1) = D1 at hr F2
    k_steps
    all_goals (walk_at "m tup")
    exact i3 (by omega) rfl rfl
theorem fr0_ok (w : World) (J : Int) (t u : Tok) (news : List (Addr × Obj)) (h : 2375840 ≤ J) : Says w 109 2 [.int J t, .str (Str.ofString "continuous") u] news (RetL (fr 0 J) news) := fr_all w J t u news h 0 _ (.inl ⟨rfl, rfl⟩)
theorem fr1_ok (w : World) (J : Int) (t u : Tok) (news : List (Addr × Obj)) (h : 2375840 ≤ J) : Says w 109 2 [.int J t, .str (Str.ofString "romme") u] news (RetL (fr 1 J) news) := fr_all w J t u news h 1 _ (.inr (.inl ⟨rfl, rfl⟩))
theorem fr2_ok (w : World) (J : Int) (t u : Tok) (news : List (Addr × Obj)) (h : 2375840 ≤ J) : Says w 109 2 [.int J t, .str (Str.ofString "madler") u] news (RetL (fr 2 J) news) := fr_all w J t u news h 2 _ (.inr (.inr ⟨rfl, rfl⟩))

theorem fr_low (w : World) (J : Int) (z : Str) (t u : Tok) (news : List (Addr × Obj)) (h : J < 2375840) : Says w 109 2 [.int J t, .str z u] news (RaiV news) := by
  walk_at "m go"
  all_goals walk_at "m raise"

local macro_rules | `(tactic| walk_at "call ref") => `(tactic| (k_here; (with_reducible show wpAny _ _ (PySem.call (Value.ref 109) [Value.int _ _, Value.str (Str.ofString "continuous") _] _) _ _ _); (refine' use_says (fr0_ok _ _ _ _ _ ?p0) ?k1 ?k2 ?k3 ?k4 ?k5 ?kK ?kd ?ku ?_); walk_at "m uc1"; walk_at "m backL"; walk_at "m ud"))
local macro_rules | `(tactic| walk_at "call ref") => `(tactic| (k_here; (with_reducible show wpAny _ _ (PySem.call (Value.ref 109) [Value.int _ _, Value.str (Str.ofString "romme") _] _) _ _ _); (refine' use_says (fr1_ok _ _ _ _ _ ?p0) ?k1 ?k2 ?k3 ?k4 ?k5 ?kK ?kd ?ku ?_); walk_at "m uc1"; walk_at "m backL"; walk_at "m ud"))
local macro_rules | `(tactic| walk_at "call ref") => `(tactic| (k_here; (with_reducible show wpAny _ _ (PySem.call (Value.ref 109) [Value.int _ _, Value.str (Str.ofString "madler") _] _) _ _ _); (refine' use_says (fr2_ok _ _ _ _ _ ?p0) ?k1 ?k2 ?k3 ?k4 ?k5 ?kK ?kd ?ku ?_); walk_at "m uc1"; walk_at "m backL"; walk_at "m ud"))
local macro_rules | `(tactic| walk_at "call ref") => `(tactic| (k_here; (with_reducible show wpAny _ _ (PySem.call (Value.ref 109) _ _) _ _ _); (refine' use_says (fr_low _ _ _ _ _ _ ?p0) ?k1 ?k2 ?k3 ?k4 ?k5 ?kK ?kd ?ku ?_); walk_at "m uc1"; walk_at "m backR"; walk_at "m ud"))
theorem offP6b : True := by
  w_top off
  trivial
local macro_rules | `(tactic| walk_at "call ref") => `(tactic| (k_here; (with_reducible show wpAny _ _ (PySem.call (Value.ref 102) _ _) _ _ _); (show wpAny _ _ (PySem.call (Value.ref 102) [Value.int _ _] [(Str.ofString "method", Value.str _ _)]) _ _ _); (refine wpAny_call ?_); k_dflt (walk_at "m enter")))
theorem frG0_ok (w : World) (y mo d : Int) (t u v x : Tok) (news : List (Addr × Obj)) (h0 : Near mo d) (h : Fits y mo d) (h1 : 2375840 ≤ jdF y mo d) : Says w 117 4 [.int y t, .int mo u, .int d v, .str (Str.ofString "continuous") x] news (RetL (fr 0 (jdF y mo d)) news) := by
  walk_at "m go"
  all_goals walk_at "m tup"
  all_goals assumption
theorem frG0_low (w : World) (y mo d : Int) (t u v x : Tok) (news : List (Addr × Obj)) (h0 : Near mo d) (h : Fits y mo d) (h1 : jdF y mo d < 2375840) : Says w 117 4 [.int y t, .int mo u, .int d v, .str (Str.ofString "continuous") x] news (RaiV news) := by
  walk_at "m go"
  all_goals walk_at "m raise"
theorem frG1_ok (w : World) (y mo d : Int) (t u v x : Tok) (news : List (Addr × Obj)) (h0 : Near mo d) (h : Fits y mo d) (h1 : 2375840 ≤ jdF y mo d) : Says w 117 4 [.int y t, .int mo u, .int d v, .str (Str.ofString "romme") x] news (RetL (fr 1 (jdF y mo d)) news) := by
  walk_at "m go"
  all_goals walk_at "m tup"
  all_goals assumption
theorem frG1_low (w : World) (y mo d : Int) (t u v x : Tok) (news : List (Addr × Obj)) (h0 : Near mo d) (h : Fits y mo d) (h1 : jdF y mo d < 2375840) : Says w 117 4 [.int y t, .int mo u, .int d v, .str (Str.ofString "romme") x] news (RaiV news) := by
  walk_at "m go"
  all_goals walk_at "m raise"
theorem frG2_ok (w : World) (y mo d : Int) (t u v x : Tok) (news : List (Addr × Obj)) (h0 : Near mo d) (h : Fits y mo d) (h1 : 2375840 ≤ jdF y mo d) : Says w 117 4 [.int y t, .int mo u, .int d v, .str (Str.ofString "madler") x] news (RetL (fr 2 (jdF y mo d)) news) := by
  walk_at "m go"
  all_goals walk_at "m tup"
  all_goals assumption
theorem frG2_low (w : World) (y mo d : Int) (t u v x : Tok) (news : List (Addr × Obj)) (h0 : Near mo d) (h : Fits y mo d) (h1 : jdF y mo d < 2375840) : Says w 117 4 [.int y t, .int mo u, .int d v, .str (Str.ofString "madler") x] news (RaiV news) := by
  walk_at "m go"
  all_goals walk_at "m raise"
theorem frG_bad (w : World) (y mo d : Int) (z : Str) (t u v x : Tok) (news : List (Addr × Obj)) (h0 : Near mo d) (h : Misses y mo d) : Says w 117 4 [.int y t, .int mo u, .int d v, .str z x] news (RaiV news) := by
  walk_at "m go"
  all_goals walk_at "m raise"

local macro_rules | `(tactic| walk_at "call ref") => `(tactic| (k_here; (with_reducible show wpAny _ _ (PySem.call (Value.ref 117) _ _) _ _ _); (refine' use_says (frG_bad _ _ _ _ _ _ _ _ _ _ ?p0 ?p1) ?k1 ?k2 ?k3 ?k4 ?k5 ?kK ?kd ?ku ?_); walk_at "m uc2"; walk_at "m backR"; walk_at "m ud"))
local macro_rules | `(tactic| walk_at "call ref") => `(tactic| (k_here; (with_reducible show wpAny _ _ (PySem.call (Value.ref 117) [Value.int _ _, Value.int _ _, Value.int _ _, Value.str (Str.ofString "continuous") _] _) _ _ _); (refine' use_says (frG0_ok _ _ _ _ _ _ _ _ _ ?p0 ?p1 ?p2) ?k1 ?k2 ?k3 ?k4 ?k5 ?kK ?kd ?ku ?_); walk_at "m uc3"; walk_at "m backL"; walk_at "m ud"))
local macro_rules | `(tactic| walk_at "call ref") => `(tactic| (k_here; (with_reducible show wpAny _ _ (PySem.call (Value.ref 117) [Value.int _ _, Value.int _ _, Value.int _ _, Value.str (Str.ofString "continuous") _] _) _ _ _); (refine' use_says (frG0_low _ _ _ _ _ _ _ _ _ ?p0 ?p1 ?p2) ?k1 ?k2 ?k3 ?k4 ?k5 ?kK ?kd ?ku ?_); walk_at "m uc3"; walk_at "m backR"; walk_at "m ud"))
local macro_rules | `(tactic| walk_at "call ref") => `(tactic| (k_here; (with_reducible show wpAny _ _ (PySem.call (Value.ref 117) [Value.int _ _, Value.int _ _, Value.int _ _, Value.str (Str.ofString "romme") _] _) _ _ _); (refine' use_says (frG1_ok _ _ _ _ _ _ _ _ _ ?p0 ?p1 ?p2) ?k1 ?k2 ?k3 ?k4 ?k5 ?kK ?kd ?ku ?_); walk_at "m uc3"; walk_at "m backL"; walk_at "m ud"))
local macro_rules | `(tactic| walk_at "call ref") => `(tactic| (k_here; (with_reducible show wpAny _ _ (PySem.call (Value.ref 117) [Value.int _ _, Value.int _ _, Value.int _ _, Value.str (Str.ofString "romme") _] _) _ _ _); (refine' use_says (frG1_low _ _ _ _ _ _ _ _ _ ?p0 ?p1 ?p2) ?k1 ?k2 ?k3 ?k4 ?k5 ?kK ?kd ?ku ?_); walk_at "m uc3"; walk_at "m backR"; walk_at "m ud"))
local macro_rules | `(tactic| walk_at "call ref") => `(tactic| (k_here; (with_reducible show wpAny _ _ (PySem.call (Value.ref 117) [Value.int _ _, Value.int _ _, Value.int _ _, Value.str (Str.ofString "madler") _] _) _ _ _); (refine' use_says (frG2_ok _ _ _ _ _ _ _ _ _ ?p0 ?p1 ?p2) ?k1 ?k2 ?k3 ?k4 ?k5 ?kK ?kd ?ku ?_); walk_at "m uc3"; walk_at "m backL"; walk_at "m ud"))
local macro_rules | `(tactic| walk_at "call ref") => `(tactic| (k_here; (with_reducible show wpAny _ _ (PySem.call (Value.ref 117) [Value.int _ _, Value.int _ _, Value.int _ _, Value.str (Str.ofString "madler") _] _) _ _ _); (refine' use_says (frG2_low _ _ _ _ _ _ _ _ _ ?p0 ?p1 ?p2) ?k1 ?k2 ?k3 ?k4 ?k5 ?kK ?kd ?ku ?_); walk_at "m uc3"; walk_at "m backR"; walk_at "m ud"))
theorem offP7 : True := by
  w_top off
  trivial
noncomputable def may (J : Int) : List Int := [(J - 584283).fdiv 144000, ((J - 584283).fmod 144000).fdiv 7200, (((J - 584283).fmod 144000).fmod 7200).fdiv 360, ((((J - 584283).fmod 144000).fmod 7200).fmod 360).fdiv 20, ((((J - 584283).fmod 144000).fmod 7200).fmod 360).fmod 20]
theorem mayan_ok (w : World) (J : Int) (t : Tok) (news : List (Addr × Obj)) (h : 584283 ≤ J) : Says w 203 1 [.int J t] news (RetL (may J) news) := by
  walk_at "m go"
  all_goals walk_at "m tup"
  all_goals exact i5 rfl rfl rfl rfl rfl
theorem mayan_low (w : World) (J : Int) (t : Tok) (news : List (Addr × Obj)) (h : J < 584283) : Says w 203 1 [.int J t] news (RaiV news) := by
  walk_at "m go"
  all_goals walk_at "m raise"
local macro_rules | `(tactic| walk_at "call ref") => `(tactic| (k_here; (with_reducible show wpAny _ _ (PySem.call (Value.ref 203) _ _) _ _ _); (refine' use_says (mayan_ok _ _ _ _ ?p0) ?k1 ?k2 ?k3 ?k4 ?k5 ?kK ?kd ?ku ?_); walk_at "m uc1"; walk_at "m backL"; walk_at "m ud"))
local macro_rules | `(tactic| walk_at "call ref") => `(tactic| (k_here; (with_reducible show wpAny _ _ (PySem.call (Value.ref 203) _ _) _ _ _); (refine' use_says (mayan_low _ _ _ _ ?p0) ?k1 ?k2 ?k3 ?k4 ?k5 ?kK ?kd ?ku ?_); walk_at "m uc1"; walk_at "m backR"; walk_at "m ud"))
theorem mayanG_ok (w : World) (y mo d : Int) (t u v : Tok) (news : List (Addr × Obj)) (h0 : Near mo d) (h : Fits y mo d) (h1 : 584283 ≤ jdF y mo d) : Says w 210 4 [.int y t, .int mo u, .int d v] news (RetL (may (jdF y mo d)) news) := by
  walk_at "m go"
  all_goals walk_at "m tup"
  all_goals assumption
theorem mayanG_low (w : World) (y mo d : Int) (t u v : Tok) (news : List (Addr × Obj)) (h0 : Near mo d) (h : Fits y mo d) (h1 : jdF y mo d < 584283) : Says w 210 4 [.int y t, .int mo u, .int d v] news (RaiV news) := by
  walk_at "m go"
  all_goals walk_at "m raise"
theorem mayanG_bad (w : World) (y mo d : Int) (t u v : Tok) (news : List (Addr × Obj)) (h0 : Near mo d) (h : Misses y mo d) : Says w 210 4 [.int y t, .int mo u, .int d v] news (RaiV news) := by
  walk_at "m go"
  all_goals walk_at "m raise"
theorem hebG_bad (w : World) (y mo d : Int) (t u v : Tok) (news : List (Addr × Obj)) (h0 : Near mo d) (h : Misses y mo d) : Says w 187 4 [.int y t, .int mo u, .int d v] news (RaiV news) := by
  walk_at "m go"
  all_goals walk_at "m raise"
theorem posG_bad (w : World) (y mo d : Int) (t u v : Tok) (news : List (Addr × Obj)) (h0 : Near mo d) (h : Misses y mo d) : Says w 259 4 [.int y t, .int mo u, .int d v] news (RaiV news) := by
  walk_at "m go"
  all_goals walk_at "m raise"

local macro_rules | `(tactic| walk_at "call ref") => `(tactic| (k_here; (with_reducible show wpAny _ _ (PySem.call (Value.ref 210) _ _) _ _ _); (refine' use_says (mayanG_ok _ _ _ _ _ _ _ _ ?p0 ?p1 ?p2) ?k1 ?k2 ?k3 ?k4 ?k5 ?kK ?kd ?ku ?_); walk_at "m uc3"; walk_at "m backL"; walk_at "m ud"))
local macro_rules | `(tactic| walk_at "call ref") => `(tactic| (k_here; (with_reducible show wpAny _ _ (PySem.call (Value.ref 210) _ _) _ _ _); (refine' use_says (mayanG_low _ _ _ _ _ _ _ _ ?p0 ?p1 ?p2) ?k1 ?k2 ?k3 ?k4 ?k5 ?kK ?kd ?ku ?_); walk_at "m uc3"; walk_at "m backR"; walk_at "m ud"))
local macro_rules | `(tactic| walk_at "call ref") => `(tactic| (k_here; (with_reducible show wpAny _ _ (PySem.call (Value.ref 210) _ _) _ _ _); (refine' use_says (mayanG_bad _ _ _ _ _ _ _ _ ?p0 ?p1) ?k1 ?k2 ?k3 ?k4 ?k5 ?kK ?kd ?ku ?_); walk_at "m uc2"; walk_at "m backR"; walk_at "m ud"))
local macro_rules | `(tactic| walk_at "call ref") => `(tactic| (k_here; (with_reducible show wpAny _ _ (PySem.call (Value.ref 187) _ _) _ _ _); (refine' use_says (hebG_bad _ _ _ _ _ _ _ _ ?p0 ?p1) ?k1 ?k2 ?k3 ?k4 ?k5 ?kK ?kd ?ku ?_); walk_at "m uc2"; walk_at "m backR"; walk_at "m ud"))
local macro_rules | `(tactic| walk_at "call ref") => `(tactic| (k_here; (with_reducible show wpAny _ _ (PySem.call (Value.ref 259) _ _) _ _ _); (refine' use_says (posG_bad _ _ _ _ _ _ _ _ ?p0 ?p1) ?k1 ?k2 ?k3 ?k4 ?k5 ?kK ?kd ?ku ?_); walk_at "m uc2"; walk_at "m backR"; walk_at "m ud"))
theorem offP9 : True := by
  w_top off
  trivial
noncomputable def dateF (y p : Int) : List Int := [y, (p - 1).fdiv 30 + 1, (p - 1).fmod 30 + 1]
noncomputable def daysF (y : Int) : Int := if y.fmod 4 = 3 then 366 else 365
noncomputable def movY (y p b : Int) : Int := if b < p then y else y - 1
noncomputable def movP (y p b : Int) : Int := if b < p then p - b else p - b + daysF (y - 1)
noncomputable def aheadF (y p s : Int) : List Int := if s - 1 ≤ y ∧ p = 366 then dateF (y + 1) 1 else if s ≤ y ∧ y.fmod 4 = 0 then dateF y (p + 1) else dateF y p
theorem date_c (w : World) (y p : Int) (t u : Tok) (news : List (Addr × Obj)) : Says w 280 1 [.int y t, .int p u] news (RetL (dateF y p) news) := by
  walk_at "m go"
  all_goals walk_at "m tup"
  all_goals exact i3 rfl rfl rfl
theorem moved_c (w : World) (y p b : Int) (t u v : Tok) (news : List (Addr × Obj)) : Says w 294 2 [.int y t, .int p u, .int b v] news (RetL [movY y p b, movP y p b] news) := by
  walk_at "m go"
  all_goals walk_at "m tup"
  all_goals (refine i2 ?_ ?_ <;> simp only [movY, movP, daysF] <;> (repeat' split) <;> first | rfl | contradiction | omega)
local macro_rules | `(tactic| walk_at "call ref") => `(tactic| (k_here; (with_reducible show wpAny _ _ (PySem.call (Value.ref 280) _ _) _ _ _); (refine' use_says (date_c _ _ _ _ _ _ ) ?k1 ?k2 ?k3 ?k4 ?k5 ?kK ?kd ?ku ?_); walk_at "m uc0"; walk_at "m backL"; walk_at "m ud"))
theorem ahead_c (w : World) (y p s : Int) (t u v : Tok) (news : List (Addr × Obj)) : Says w 301 2 [.int y t, .int p u, .int s v] news (RetL (aheadF y p s) news) := by
  walk_at "m go"
  all_goals walk_at "m tup"
  all_goals (rename IntsAre _ _ => i9; refine (congrArg (IntsAre _) ?_).mp i9; unfold aheadF)
  · rw [if_pos ⟨by assumption, by assumption⟩]
  · rw [if_neg (fun h => by have := h.2; contradiction), if_pos ⟨by assumption, by assumption⟩]
  · rw [if_neg (fun h => by have := h.2; contradiction), if_neg (fun h => by have := h.2; contradiction)]
  · rw [if_neg (fun h => by have := h.2; contradiction), if_neg (fun h => by have := h.1; contradiction)]
  · rw [if_neg (fun h => by have := h.1; contradiction), if_neg (fun h => by have := h.1; omega)]

local macro_rules | `(tactic| walk_at "call ref") => `(tactic| (k_here; (with_reducible show wpAny _ _ (PySem.call (Value.ref 294) _ _) _ _ _); (refine' use_says (moved_c _ _ _ _ _ _ _ _ ) ?k1 ?k2 ?k3 ?k4 ?k5 ?kK ?kd ?ku ?_); walk_at "m uc0"; walk_at "m backL2"; walk_at "m ud"))
local macro_rules | `(tactic| walk_at "call ref") => `(tactic| (k_here; (with_reducible show wpAny _ _ (PySem.call (Value.ref 301) _ _) _ _ _); (refine' use_says (ahead_c _ _ _ _ _ _ _ _ ) ?k1 ?k2 ?k3 ?k4 ?k5 ?kK ?kd ?ku ?_); walk_at "m uc0"; walk_at "m backL"; walk_at "m ud"))
theorem offP10 : True := by
  w_top off
  trivial
theorem door_bad (w : World) (z : Str) (y mo d : Int) (t u v x : Tok) (news : List (Addr × Obj)) (h0 : Near mo d) (h : Misses y mo d) : SaysT w 273 6 [.str z x, .int y t, .int mo u, .int d v] news (RetL [] news) := by
  walk_at "m inT"
  k_steps
  all_goals walk_at "m tup"
  all_goals exact .nil

theorem offPD : True := by
  w_top off
  trivial
noncomputable def toldN (J : Int) : List Int := if J < 1922502 then [] else armN J
noncomputable def toldS (J : Int) : List Int := if J < 2117211 then [] else armS J
noncomputable def toldF (i : Nat) (J : Int) : List Int := if J < 2375840 then [] else fr i J
noncomputable def toldM (J : Int) : List Int := if J < 584283 then [] else may J

theorem offP10b : True := by
  w_top off
  trivial
theorem door_loose (w : World) (y mo d : Int) (t u v x : Tok) (news : List (Addr × Obj)) (h0 : Near mo d) (h : Fits y mo d) : SaysT w 273 6 [.str (Str.ofString "loose") x, .int y t, .int mo u, .int d v] news (RetL (toldN (jdF y mo d)) news) := by
  unfold toldN
  by_cases h1 : jdF y mo d < 1922502
  · rw [if_pos h1]
    walk_at "m inT"
    k_steps
    all_goals walk_at "m tup"
    all_goals exact .nil
  · rw [if_neg h1]
    have h2 : 1922502 ≤ jdF y mo d := Int.not_lt.mp h1
    walk_at "m inT"
    k_steps
    all_goals walk_at "m tup"
    all_goals assumption
theorem door_fixed (w : World) (y mo d : Int) (t u v x : Tok) (news : List (Addr × Obj)) (h0 : Near mo d) (h : Fits y mo d) : SaysT w 273 6 [.str (Str.ofString "fixed") x, .int y t, .int mo u, .int d v] news (RetL (toldS (jdF y mo d)) news) := by
  unfold toldS
  by_cases h1 : jdF y mo d < 2117211
  · rw [if_pos h1]
    walk_at "m inT"
    k_steps
    all_goals walk_at "m tup"
    all_goals exact .nil
  · rw [if_neg h1]
    have h2 : 2117211 ≤ jdF y mo d := Int.not_lt.mp h1
    walk_at "m inT"
    k_steps
    all_goals walk_at "m tup"
    all_goals assumption
theorem door_coptic (w : World) (y mo d : Int) (t u v x : Tok) (news : List (Addr × Obj)) (h0 : Near mo d) (h : Fits y mo d) : SaysT w 273 6 [.str (Str.ofString "coptic") x, .int y t, .int mo u, .int d v] news (RetL (cop (jdF y mo d)) news) := by
  walk_at "m inT"
  k_steps
  all_goals walk_at "m tup"
  all_goals assumption
theorem door_fourth (w : World) (y mo d : Int) (t u v x : Tok) (news : List (Addr × Obj)) (h0 : Near mo d) (h : Fits y mo d) : SaysT w 273 6 [.str (Str.ofString "fourth") x, .int y t, .int mo u, .int d v] news (RetL (toldF 0 (jdF y mo d)) news) := by
  unfold toldF
  by_cases h1 : jdF y mo d < 2375840
  · rw [if_pos h1]
    walk_at "m inT"
    k_steps
    all_goals walk_at "m tup"
    all_goals exact .nil
  · rw [if_neg h1]
    have h2 : 2375840 ≤ jdF y mo d := Int.not_lt.mp h1
    walk_at "m inT"
    k_steps
    all_goals walk_at "m tup"
    all_goals assumption
theorem door_romme (w : World) (y mo d : Int) (t u v x : Tok) (news : List (Addr × Obj)) (h0 : Near mo d) (h : Fits y mo d) : SaysT w 273 6 [.str (Str.ofString "romme") x, .int y t, .int mo u, .int d v] news (RetL (toldF 1 (jdF y mo d)) news) := by
  unfold toldF
  by_cases h1 : jdF y mo d < 2375840
  · rw [if_pos h1]
    walk_at "m inT"
    k_steps
    all_goals walk_at "m tup"
    all_goals exact .nil
  · rw [if_neg h1]
    have h2 : 2375840 ≤ jdF y mo d := Int.not_lt.mp h1
    walk_at "m inT"
    k_steps
    all_goals walk_at "m tup"
    all_goals assumption
theorem door_madler (w : World) (y mo d : Int) (t u v x : Tok) (news : List (Addr × Obj)) (h0 : Near mo d) (h : Fits y mo d) : SaysT w 273 6 [.str (Str.ofString "madler") x, .int y t, .int mo u, .int d v] news (RetL (toldF 2 (jdF y mo d)) news) := by
  unfold toldF
  by_cases h1 : jdF y mo d < 2375840
  · rw [if_pos h1]
    walk_at "m inT"
    k_steps
    all_goals walk_at "m tup"
    all_goals exact .nil
  · rw [if_neg h1]
    have h2 : 2375840 ≤ jdF y mo d := Int.not_lt.mp h1
    walk_at "m inT"
    k_steps
    all_goals walk_at "m tup"
    all_goals assumption
theorem door_long (w : World) (y mo d : Int) (t u v x : Tok) (news : List (Addr × Obj)) (h0 : Near mo d) (h : Fits y mo d) : SaysT w 273 6 [.str (Str.ofString "long count") x, .int y t, .int mo u, .int d v] news (RetL (toldM (jdF y mo d)) news) := by
  unfold toldM
  by_cases h1 : jdF y mo d < 584283
  · rw [if_pos h1]
    walk_at "m inT"
    k_steps
    all_goals walk_at "m tup"
    all_goals exact .nil
  · rw [if_neg h1]
    have h2 : 584283 ≤ jdF y mo d := Int.not_lt.mp h1
    walk_at "m inT"
    k_steps
    all_goals walk_at "m tup"
    all_goals assumption

theorem offP11 : True := by
  w_top off
  trivial
noncomputable def strsOf (K : Frag) (a : Addr) : List Str := match K.lookup a with
  | some o => (match o.data with
    | .seq xs _ => xs.toList.filterMap fun v => match v with | .str s _ => some s | _ => none
    | _ => [])
  | none => []
noncomputable def haabW (w : World) : List Str := strsOf (hd.heap_39 w.params) 188
noncomputable def tzolW (w : World) : List Str := strsOf (hd.heap_39 w.params) 189
theorem haab_tab {w : World} {h : Heap} (X : (hd.heap_39 w.params).In h) : ∃ vs : List Value, h.IsList 188 vs.toArray ∧ StrsAre vs (haabW w) := by
  have e := X 188 _ (by k_is)
  refine ⟨_, ⟨_, e, rfl, _, rfl⟩, ?_⟩
  repeat (first | exact StrsAre.nil | refine StrsAre.cons _ _ ?_)
theorem tzol_tab {w : World} {h : Heap} (X : (hd.heap_39 w.params).In h) : ∃ vs : List Value, h.IsList 189 vs.toArray ∧ StrsAre vs (tzolW w) := by
  have e := X 189 _ (by k_is)
  refine ⟨_, ⟨_, e, rfl, _, rfl⟩, ?_⟩
  repeat (first | exact StrsAre.nil | refine StrsAre.cons _ _ ?_)
theorem haab_len (w : World) : (haabW w).length = 19 := by kernel_rfl!
theorem tzol_len (w : World) : (tzolW w).length = 20 := by kernel_rfl!
theorem haab_short (w : World) : ((haabW w).all fun x => decide (x.length ≤ 20)) = true := by kernel_rfl!
theorem tzol_short (w : World) : ((tzolW w).all fun x => decide (x.length ≤ 20)) = true := by kernel_rfl!
/-- the name at the place i -/
noncomputable def haabN (w : World) (i : Int) : Str := (haabW w).getD i.toNat Str.empty
noncomputable def tzolN (w : World) (i : Int) : Str := (tzolW w).getD i.toNat Str.empty
theorem getD_short {l : List Str} (h : (l.all fun x => decide (x.length ≤ 20)) = true) (k : Nat) : (l.getD k Str.empty).length ≤ 20 := by
  by_cases hk : k < l.length
  · have e : l.getD k Str.empty = l[k] := by simp [List.getD, hk]
    rw [e]
    exact of_decide_eq_true (List.all_eq_true.mp h _ (List.getElem_mem hk))
  · have e : l.getD k Str.empty = Str.empty := by simp [List.getD, Nat.not_lt.mp hk]
    rw [e]; decide
theorem haabN_short (w : World) (i : Int) : (haabN w i).length ≤ 20 := getD_short (haab_short w) _
theorem tzolN_short (w : World) (i : Int) : (tzolN w i).length ≤ 20 := getD_short (tzol_short w) _
theorem haab_okS (w : World) : ((haabW w).all PyData.strOk) = true := by kernel_rfl!
theorem tzol_okS (w : World) : ((tzolW w).all PyData.strOk) = true := by kernel_rfl!
theorem getD_okS {l : List Str} (h : l.all PyData.strOk = true) (k : Nat) : PyData.strOk (l.getD k Str.empty) = true := by
  by_cases hk : k < l.length
  · have e : l.getD k Str.empty = l[k] := by simp [List.getD, hk]
    rw [e]
    exact List.all_eq_true.mp h _ (List.getElem_mem hk)
  · have e : l.getD k Str.empty = Str.empty := by simp [List.getD, Nat.not_lt.mp hk]
    rw [e]; decide +kernel
theorem haabN_okS (w : World) (i : Int) : PyData.strOk (haabN w i) = true := getD_okS (haab_okS w) _
theorem tzolN_okS (w : World) (i : Int) : PyData.strOk (tzolN w i) = true := getD_okS (tzol_okS w) _
section
variable {w : World} {A : Around} {E : Value → Shared → Prop} {s : Shared} {h₀ : Heap} {L : Addr} {m : Str → Option Value} {value slice : PySem.Expr} {i : Int} {u : Tok} {Q : Value → Shared → Prop}
theorem haab_item (F : Fr h₀ L s.heap m) (X : (hd.heap_39 w.params).In h₀) (h0 : 0 ≤ i) (h1 : i < 19) (h : ∀ t', Q (.str (haabN w i) t') s)
    (hs : subscripted slice false (.ref 188) (.int i u) = operate [.ref 188, .int i u] (getItem (.ref 188) (.int i u)) := by with_unfolding_all rfl) :
    wpAny (model ProgX w) A (subscriptTail value slice (.ref 188) (.int i u)) Q E s := by
  obtain ⟨vs, hl, hw⟩ := haab_tab (X.keeps F.keep)
  exact KTb.item_list hl hw h0 (by rw [haab_len]; exact h1) (by omega) (fun t' _ => h t') hs
theorem tzol_item (F : Fr h₀ L s.heap m) (X : (hd.heap_39 w.params).In h₀) (h0 : 0 ≤ i) (h1 : i < 20) (h : ∀ t', Q (.str (tzolN w i) t') s)
    (hs : subscripted slice false (.ref 189) (.int i u) = operate [.ref 189, .int i u] (getItem (.ref 189) (.int i u)) := by with_unfolding_all rfl) :
    wpAny (model ProgX w) A (subscriptTail value slice (.ref 189) (.int i u)) Q E s := by
  obtain ⟨vs, hl, hw⟩ := tzol_tab (X.keeps F.keep)
  exact KTb.item_list hl hw h0 (by rw [tzol_len]; exact h1) (by omega) (fun t' _ => h t') hs
end
local macro_rules | `(tactic| walk_at "subscriptTail") => `(tactic| (k_here; (with_reducible show wpAny _ _ (subscriptTail _ _ (Value.ref 188) (Value.int _ _)) _ _ _); (with_unfolding_all refine' haab_item ?k1 ?k2 ?k3 ?k4 ?_ ?ks; (case k1 => assumption); (case k2 => assumption); (case k3 => walk_at "m idx"); (case k4 => walk_at "m idx"); (case ks => rfl)); intro t9))
local macro_rules | `(tactic| walk_at "subscriptTail") => `(tactic| (k_here; (with_reducible show wpAny _ _ (subscriptTail _ _ (Value.ref 189) (Value.int _ _)) _ _ _); (with_unfolding_all refine' tzol_item ?k1 ?k2 ?k3 ?k4 ?_ ?ks; (case k1 => assumption); (case k2 => assumption); (case k3 => walk_at "m idx"); (case k4 => walk_at "m idx"); (case ks => rfl)); intro t9))
noncomputable def midF (J : Int) : Int := if 0 < J then J else J + 1
theorem fm_lo (a : Int) {b : Int} (h : 0 < b) : 0 ≤ a.fmod b := Int.fmod_nonneg_of_pos a h
theorem fm_hi (a : Int) {b : Int} (h : 0 < b) : a.fmod b < b := Int.fmod_lt_of_pos a h
theorem fd_e (a : Int) {b : Int} (h : 0 ≤ b) : a.fdiv b = a / b := Int.fdiv_eq_ediv_of_nonneg a h
theorem haab_lo (x : Int) : 0 ≤ (x.fmod 365).fdiv 20 := by
  have h1 := fm_lo x (b := 365) (by decide)
  rw [fd_e _ (by decide)]; omega
theorem haab_hi (x : Int) : (x.fmod 365).fdiv 20 < 19 := by
  have h1 := fm_hi x (b := 365) (by decide)
  rw [fd_e _ (by decide)]; omega
theorem tzol_lo (x : Int) : 0 ≤ (if x.fmod 20 = 0 then 20 else x.fmod 20) - 1 := by
  have h1 := fm_lo x (b := 20) (by decide)
  split <;> omega
theorem tzol_hi (x : Int) : (if x.fmod 20 = 0 then 20 else x.fmod 20) - 1 < 20 := by
  have h1 := fm_hi x (b := 20) (by decide)
  split <;> omega
local macro_rules | `(tactic| walk_at "m idx") => `(tactic| first | exact haab_lo _ | exact haab_hi _ | exact tzol_lo _ | exact tzol_hi _)
noncomputable def haabD (J : Int) : Int := (midF J - 584283 + 348).fmod 365
noncomputable def tzolC (J : Int) : Int := if (midF J - 584283 + 4).fmod 13 = 0 then 13 else (midF J - 584283 + 4).fmod 13
noncomputable def tzolI (J : Int) : Int := (if (midF J - 584283 + 20).fmod 20 = 0 then 20 else (midF J - 584283 + 20).fmod 20) - 1
theorem haab_c (w : World) (J : Int) (t : Tok) (news : List (Addr × Obj)) : Says w 217 2 [.int J t] news (RetIS ((haabD J).fmod 20) (haabN w ((haabD J).fdiv 20)) news) := by
  walk_at "m go"
  all_goals walk_at "m pair"
  all_goals rfl
theorem tzol_c (w : World) (J : Int) (t : Tok) (news : List (Addr × Obj)) : Says w 224 2 [.int J t] news (RetIS (tzolC J) (tzolN w (tzolI J)) news) := by
  walk_at "m go"
  all_goals walk_at "m pair"
  all_goals rfl

local macro_rules | `(tactic| walk_at "call ref") => `(tactic| (k_here; (with_reducible show wpAny _ _ (PySem.call (Value.ref 217) _ _) _ _ _); (refine' use_says (haab_c _ _ _ _ ) ?k1 ?k2 ?k3 ?k4 ?k5 ?kK ?kd ?ku ?_); walk_at "m uc0"; walk_at "m backI"; walk_at "m ud"))
local macro_rules | `(tactic| walk_at "call ref") => `(tactic| (k_here; (with_reducible show wpAny _ _ (PySem.call (Value.ref 224) _ _) _ _ _); (refine' use_says (tzol_c _ _ _ _ ) ?k1 ?k2 ?k3 ?k4 ?k5 ?kK ?kd ?ku ?_); walk_at "m uc0"; walk_at "m backI"; walk_at "m ud"))
theorem offP12 : True := by
  w_top off
  trivial
noncomputable def lcJ (b k t u n : Int) : Int := 584283 + b * 144000 + k * 7200 + t * 360 + u * 20 + n
theorem mtojd_c (w : World) (b k t u n : Int) (t1 t2 t3 t4 t5 : Tok) (news : List (Addr × Obj)) : Says w 196 1 [.int b t1, .int k t2, .int t t3, .int u t4, .int n t5] news (RetS (fun tt => .int (lcJ b k t u n) tt) news) := by
  walk_at "m go"
  all_goals walk_at "m int"
  all_goals rfl
local macro_rules | `(tactic| walk_at "call ref") => `(tactic| (k_here; (with_reducible show wpAny _ _ (PySem.call (Value.ref 196) _ _) _ _ _); (refine' use_says (mtojd_c _ _ _ _ _ _ _ _ _ _ _ _ ) ?k1 ?k2 ?k3 ?k4 ?k5 ?kK ?kd ?ku ?_); walk_at "m uc0"; walk_at "m backS"; walk_at "m ud"))
theorem lch_c (w : World) (b k t u n : Int) (t1 t2 t3 t4 t5 : Tok) (news : List (Addr × Obj)) : Says w 231 3 [.int b t1, .int k t2, .int t t3, .int u t4, .int n t5] news (RetIS ((haabD (lcJ b k t u n)).fmod 20) (haabN w ((haabD (lcJ b k t u n)).fdiv 20)) news) := by
  walk_at "m go"
  all_goals walk_at "m pair"
  all_goals rfl
theorem lct_c (w : World) (b k t u n : Int) (t1 t2 t3 t4 t5 : Tok) (news : List (Addr × Obj)) : Says w 238 3 [.int b t1, .int k t2, .int t t3, .int u t4, .int n t5] news (RetIS (tzolC (lcJ b k t u n)) (tzolN w (tzolI (lcJ b k t u n))) news) := by
  walk_at "m go"
  all_goals walk_at "m pair"
  all_goals rfl

local macro_rules | `(tactic| walk_at "call ref") => `(tactic| (k_here; (with_reducible show wpAny _ _ (PySem.call (Value.ref 231) _ _) _ _ _); (refine' use_says (lch_c _ _ _ _ _ _ _ _ _ _ _ _ ) ?k1 ?k2 ?k3 ?k4 ?k5 ?kK ?kd ?ku ?_); walk_at "m uc0"; walk_at "m backI"; walk_at "m ud"))
local macro_rules | `(tactic| walk_at "call ref") => `(tactic| (k_here; (with_reducible show wpAny _ _ (PySem.call (Value.ref 238) _ _) _ _ _); (refine' use_says (lct_c _ _ _ _ _ _ _ _ _ _ _ _ ) ?k1 ?k2 ?k3 ?k4 ?k5 ?kK ?kd ?ku ?_); walk_at "m uc0"; walk_at "m backI"; walk_at "m ud"))
theorem offPF : True := by
  w_top off
  trivial
/-! a str's format, bound and called -/
namespace SF
open PySem PySem.Calls
noncomputable def bnd (x : Str) (t : Tok) : Obj := { cls := .type "builtin_function_or_method", data := .fields #[.builtin "str.format", .str x t] }
theorem slot_get : Slot "method_descriptor" "__get__" "method_descriptor.__get__" :=
  .of (owner := "method_descriptor") (n := "__get__") (by rw [typeLookup_type, builtinLookup_eq_fast]; kernel_rfl) (by decide +kernel) (by decide +kernel) (by decide +kernel)
    (by first | exact .inl (by decide +kernel) | exact .inr (by decide +kernel)) (by rw [isSubtype_type]; kernel_rfl)
theorem entry_get : entryFor table "method_descriptor.__get__" = some Builtin.«method_descriptor.__get__» := entryFor_of_tree (by kernel_rfl)
theorem args_get (a b c : Value) : argsOk "method_descriptor.__get__" ⟨[a, b, c], []⟩ := by unfold argsOk; kernel_rfl
theorem no_set : typeLookup (.type "method_descriptor") "__set__" = pure none := by rw [typeLookup_type, builtinLookup_eq_fast]; kernel_rfl
theorem no_del : typeLookup (.type "method_descriptor") "__delete__" = pure none := by rw [typeLookup_type, builtinLookup_eq_fast]; kernel_rfl
theorem lk : typeLookup (.type "str") "format" = pure (some (.builtin "str.format")) := by rw [typeLookup_type, builtinLookup_eq_fast]; kernel_rfl
theorem told : Manifest.toldItsClass.contains "str.format" = false := by decide +kernel
section
variable {prog : Program} {w : World} {M : Model} {A : Around} {E : Value → Shared → Prop} {h : Heap} {g : Array GenState} {d : Drawn} {t : Nat} {os : OsState} {x : Str} {u : Tok}
theorem run_get {P : Fin → Shared → Prop} (hq : P (.done (.ret (.ref h.objs.size))) ⟨h.push (bnd x u), g, d, t, os⟩) :
    wpAny M A (Builtin.«method_descriptor.__get__» ⟨[.builtin "str.format", .str x u, .type "str"], []⟩) P E ⟨h, g, d, t, os⟩ := by
  have hT : (⟨h, g, d, t, os⟩ : Shared).TypeIs (.str x u) "str" := rfl
  unfold Builtin.«method_descriptor.__get__»
  refine wpAny_bind (wpAny_of_eq (a := (.builtin "str.format", some (.str x u), some (.type "str"))) (by first | rfl | kernel_rfl) ?_)
  dsimp only
  rw [told]
  refine KFB.if_not rfl ?_
  refine wpAny_bind (wpAny_of_eq (a := ()) (by first | rfl | kernel_rfl) ?_)
  exact wpAny_bind (wpAny_newObj_type (wpAny_pure hq))
theorem get_call {R : Result → Shared → Prop} (hq : R (.ok (.ret (.ref h.objs.size))) ⟨h.push (bnd x u), g, d, t, os⟩) :
    codeAny (model prog w) A (.call (.builtin "method_descriptor.__get__") ⟨[.builtin "str.format", .str x u, .type "str"], []⟩) R ⟨h, g, d, t, os⟩ :=
  codeAny_call_builtin slot_get.plain entry_get (slot_get.check _ _ _ _ _ _ _ _ (show (⟨h, g, d, t, os⟩ : Shared).TypeIs (.builtin "str.format") "method_descriptor" from F.type_str_format_m) (args_get _ _ _) (run_get hq))
theorem class_entry {tk : Tok} {Q : Fin → Shared → Prop} (hq : Q (.done (.ret (.ref h.objs.size))) ⟨h.push (bnd x u), g, d, t, os⟩) :
    wpAny (model prog w) A (Builtin.«object.__getattribute__» ⟨[.str x u, .str "format" tk], []⟩) Q E ⟨h, g, d, t, os⟩ := by
  have hT : (⟨h, g, d, t, os⟩ : Shared).TypeIs (.str x u) "str" := rfl
  have hT5 : (⟨h, g, d, t, os⟩ : Shared).TypeIs (.builtin "str.format") "method_descriptor" := F.type_str_format_m
  have f4 := lk
  have f5 := F.type_str_format_m
  have f6 := slot_get.lookup
  have f7 := no_set
  have f8 := no_del
  repeat (any_goals (first | assumption | wp_step))
  refine get_call ?_
  repeat (any_goals (first | assumption | wp_step))
theorem class_call {tk : Tok} {R : Result → Shared → Prop} (hq : R (.ok (.ret (.ref h.objs.size))) ⟨h.push (bnd x u), g, d, t, os⟩) :
    codeAny (model prog w) A (.call (.builtin "object.__getattribute__") ⟨[.str x u, .str "format" tk], []⟩) R ⟨h, g, d, t, os⟩ :=
  codeAny_call_builtin F.slot_str_getattribute.plain F.entry_object_getattribute (F.slot_str_getattribute.check _ _ _ _ _ _ _ _ (show (⟨h, g, d, t, os⟩ : Shared).TypeIs (.str x u) "str" from rfl) (F.args_object_getattribute_2 _ _) (class_entry hq))
theorem by_str {tk : Tok} {Q : Value → Shared → Prop} (hq : Q (.ref h.objs.size) ⟨h.push (bnd x u), g, d, t, os⟩) : wpAny (model prog w) A (getAttrBy (.str x u) (.str "format" tk) true true) Q E ⟨h, g, d, t, os⟩ := by
  have hT : (⟨h, g, d, t, os⟩ : Shared).TypeIs (.str x u) "str" := rfl
  have f2 := F.slot_str_getattribute.lookup
  have f3 := F.slot_str_getattribute.bind (.str x u)
  repeat (any_goals (first | assumption | wp_step))
  refine class_call ?_
  repeat (any_goals (first | assumption | wp_step))
theorem attr {Q : Value → Shared → Prop} (hq : Q (.ref h.objs.size) ⟨h.push (bnd x u), g, d, t + 1, os⟩) : wpAny (model prog w) A (getAttr (.str x u) "format" true) Q E ⟨h, g, d, t, os⟩ := by
  unfold getAttr
  refine' wpAny_bind (wpAny_mkText (by_str hq))
end
section
variable {prog : Program} {w : World} {A : Around} {E : Value → Shared → Prop} {s : Shared} {h₀ : Heap} {L : Addr} {m : Str → Option Value} {news : List (Addr × Obj)} {env : Env} {o e : PySem.Expr} {apos pos p : Pos} {x : Str} {t : Tok} {u : Addr} {Q : Value → Shared → Prop}
theorem keeps {M : Model} {h : Heap} (ho : h.get? u = some (bnd x t)) : Looks M h (keeperOf (.ref u)) .machine := fun A Q E s k q => by
  unfold keeperOf
  refine wpAny_bind (wpAny_load (k _ _ ho) ?_)
  simp only [bnd, show (Value.type "builtin_function_or_method" != Value.type "method") = true by decide, show (Value.type "builtin_function_or_method" == Value.type "builtin_function_or_method" || Value.type "builtin_function_or_method" == Value.type "method-wrapper") = true by decide, if_true]
  exact wpAny_pure q
theorem callWith_star {M : Model} (h : wpAny M A (eval e env) (fun v s₁ => StarOf M A E v (fun vs s₂ => s₂.heap.get? u = some (bnd x t) ∧ wpAny M A (call (.ref u) vs) Q E s₂) s₁) E s) :
    wpAny M A (callWith pos (.ref u) [] (backTo pos (starEach [.Starred e p] env)) []) Q E s := by
  rw [show starEach [.Starred e p] env = [(true, eval e env)] from rfl]
  exact ks_call (P := fun h => h.get? u = some (bnd x t)) rfl (fun h ho => ⟨_, .inr (.inl rfl), keeps ho⟩) (ks_lone h)
noncomputable def FmtAt (prog : Program) (w : World) (A : Around) (h₀ : Heap) (L : Addr) (env : Env) (e : PySem.Expr) (Q : Value → Shared → Prop) (E : Value → Shared → Prop) (ov : Value) (s₁ : Shared) : Prop :=
  ∃ x t m news, ov = .str x t ∧ Fr h₀ L s₁.heap m ∧ News h₀ L s₁.heap news ∧ ∀ u h' tk', Fr h₀ L h' m → News h₀ L h' ((u, bnd x t) :: news) → (∀ p ∈ news, p.1 < u) →
      wpAny (model prog w) A (eval e env) (fun v s₂ => StarOf (model prog w) A E v (fun vs s₃ => s₃.heap.get? u = some (bnd x t) ∧ wpAny (model prog w) A (call (.ref u) vs) Q E s₃) s₂) E { s₁ with heap := h', toks := tk' }
theorem Call_star (_F : Fr h₀ L s.heap m) (hbase : attributeBase o "format" env (eval o env) = eval o env)
    (h : wpAny (model prog w) A (eval o env) (fun ov s₁ => FmtAt prog w A h₀ L env e Q E ov s₁) E s) :
    wpAny (model prog w) A (eval (.Call (.Attribute o "format" apos) [.Starred e p] [] pos) env) Q E s := by
  rw [arm_eval_Call, hbase]
  refine wpAny_bind (wpAny_mono h (fun ov s₁ h₁ => ?_) fun _ _ e => e)
  obtain ⟨x, t, m, news, rfl, F, N, h₁⟩ := h₁
  refine wpAny_bind (wpAny_standAt ?_)
  unfold methodCall
  rw [show methodCallForm ([Expr.Starred e p].length + ([] : List Keyword).length) (backTo pos (starEach [.Starred e p] env)) (backToKw pos (keywordEach [] env)) = false from rfl]
  refine wpAny_bind (wpAny_holding ?_)
  unfold calleeOf
  rw [if_neg Bool.false_ne_true]
  obtain ⟨hh, g, d, tk, os⟩ := s₁
  refine wpAny_bind (attr (wpAny_pure ?_))
  refine wpAny_bind (wpAny_of_eq (a := pos) rfl ?_)
  exact callWith_star (h₁ _ _ _ (F.push _) (News.push F N _ rfl) fun q hq => Heap.lt_size (N q hq).1)
theorem check_fmt {b c d e : Value} : checkBoundCall "str.format" ⟨[.str x t, b, c, d, e], []⟩ = pure () := by
  first | rfl | kernel_rfl | (unfold checkBoundCall; rw [signature?_of (id := "str.format") (n := ['t', 'a', 'm', 'r', 'o', 'f']) (o := ['r', 't', 's']) (by kernel_rfl) F.owner_str]; kernel_rfl)
theorem quiet_fmt {as : Args} : (Code.builtin "str.format" as).quiet = true := Code.quiet_builtin _ (by decide +kernel)
theorem call_of {a b c d : Value} {T : Str} (ho : s.heap.get? u = some (bnd x t))
    (tree : ∀ {P : PySem.Fin → Shared → Prop} {E' : Value → Shared → Prop} {A' : Around} {s : Shared}, (∀ t' k, P (.done (.ret (.str T t'))) { s with toks := k }) → wpAny (model prog w) A' (Builtin.«str.format» ⟨[.str x t, a, b, c, d], []⟩) P E' s)
    (h : ∀ t' k, Q (.str T t') { s with toks := k }) : wpAny (model prog w) A (call (.ref u) [a, b, c, d]) Q E s := by
  refine wpAny_call (codeAny_of_tree ?_)
  show wpAny _ A.in1 (callAny (.ref u) ⟨[a, b, c, d], []⟩) _ _ s
  simp only [callAny]
  refine wpAny_bind (wpAny_load ho ?_)
  simp only [bnd, show (Value.type "builtin_function_or_method" == Value.type "method" || Value.type "builtin_function_or_method" == Value.type "builtin_function_or_method" || Value.type "builtin_function_or_method" == Value.type "method-wrapper") = true by decide, if_true]
  refine KFB.if_so (by decide) ?_
  refine wpAny_bind (wpAny_of_eq (a := ()) check_fmt ?_)
  refine wpAny_bind (wpAny_pure (wpAny_pure ?_))
  exact ⟨quiet_fmt, codeAny_builtin F.entry_str_format_m (tree fun t' k => h t' k)⟩
open Builtin Builtin.Str in
theorem field_0 {id : String} {byName : Str → Sem Value} {a : Array Value} {num : Numbering} {v : Value} {Q : Value × Numbering → Shared → Prop} (hn : num = .unset ∨ num = .manual) (ha : a[0]? = some v) (h : Q (v, .manual) s) : wpAny (model prog w) A (fieldObject id (some a) byName [48] num) Q E s := by
  rcases hn with rfl | rfl
  all_goals
    unfold fieldObject
    refine wpAny_bind (wpAny_of_eq (a := some 0) rfl ?_)
    refine wpAny_bind (wpAny_of_eq (a := (some 0, .manual)) rfl ?_)
    simp only [ha, pure_bind]
    rw [KPc.range_list]
    exact wpAny_bind (wpAny_pure (wpAny_pure h))
open Builtin Builtin.Str in
theorem field_1 {id : String} {byName : Str → Sem Value} {a : Array Value} {num : Numbering} {v : Value} {Q : Value × Numbering → Shared → Prop} (hn : num = .unset ∨ num = .manual) (ha : a[1]? = some v) (h : Q (v, .manual) s) : wpAny (model prog w) A (fieldObject id (some a) byName [49] num) Q E s := by
  rcases hn with rfl | rfl
  all_goals
    unfold fieldObject
    refine wpAny_bind (wpAny_of_eq (a := some 1) rfl ?_)
    refine wpAny_bind (wpAny_of_eq (a := (some 1, .manual)) rfl ?_)
    simp only [ha, pure_bind]
    rw [KPc.range_list]
    exact wpAny_bind (wpAny_pure (wpAny_pure h))
open Builtin Builtin.Str in
theorem field_2 {id : String} {byName : Str → Sem Value} {a : Array Value} {num : Numbering} {v : Value} {Q : Value × Numbering → Shared → Prop} (hn : num = .unset ∨ num = .manual) (ha : a[2]? = some v) (h : Q (v, .manual) s) : wpAny (model prog w) A (fieldObject id (some a) byName [50] num) Q E s := by
  rcases hn with rfl | rfl
  all_goals
    unfold fieldObject
    refine wpAny_bind (wpAny_of_eq (a := some 2) rfl ?_)
    refine wpAny_bind (wpAny_of_eq (a := (some 2, .manual)) rfl ?_)
    simp only [ha, pure_bind]
    rw [KPc.range_list]
    exact wpAny_bind (wpAny_pure (wpAny_pure h))
open Builtin Builtin.Str in
theorem field_3 {id : String} {byName : Str → Sem Value} {a : Array Value} {num : Numbering} {v : Value} {Q : Value × Numbering → Shared → Prop} (hn : num = .unset ∨ num = .manual) (ha : a[3]? = some v) (h : Q (v, .manual) s) : wpAny (model prog w) A (fieldObject id (some a) byName [51] num) Q E s := by
  rcases hn with rfl | rfl
  all_goals
    unfold fieldObject
    refine wpAny_bind (wpAny_of_eq (a := some 3) rfl ?_)
    refine wpAny_bind (wpAny_of_eq (a := (some 3, .manual)) rfl ?_)
    simp only [ha, pure_bind]
    rw [KPc.range_list]
    exact wpAny_bind (wpAny_pure (wpAny_pure h))
end
local macro_rules | `(tactic| walk_at "sf num") => `(tactic| first | exact Or.inl rfl | exact Or.inr rfl)
local macro_rules | `(tactic| walk_at "sf field") => `(tactic| ((first | refine wpAny_bind (field_0 (by walk_at "sf num") (by rfl) ?_) | refine wpAny_bind (field_1 (by walk_at "sf num") (by rfl) ?_) | refine wpAny_bind (field_2 (by walk_at "sf num") (by rfl) ?_) | refine wpAny_bind (field_3 (by walk_at "sf num") (by rfl) ?_)); (refine wpAny_bind (wpAny_holding (wpAny_of_eq (a := _) rfl ?_))); kpc_if; (refine wpAny_bind (wpAny_pure ?_)); kfm_val; (refine wpAny_bind (wpAny_of_eq (a := some _) rfl ?_)); (refine wpAny_pure ?_); (refine KFm.after_field (by kpc_g) (by kpc_text) (by kpc_obj) (by kfm_len) (by kpc_obj) (by kfm_cat2) (by kfm_rest) ?_); intro _ _))
local macro_rules | `(tactic| walk_at "sf turns") => `(tactic| (refine KPc.turn ?_; kpc_if; (first | kfm_close | (kpc_check; walk_at "sf field"; walk_at "sf turns") | (kpc_check; kfm_lit; walk_at "sf turns"))))
noncomputable abbrev T4 (c : Int) (x : Str) (d : Int) (y : Str) : Str := (((((Str.ofString (toString c) ++ Str.ofString " ") ++ x) ++ Str.ofString " ") ++ Str.ofString (toString d)) ++ Str.ofString " ") ++ y
open Builtin Builtin.Str in
theorem tree {prog : Program} {w : World} {A : Around} {E : Value → Shared → Prop} {s : Shared} {P : PySem.Fin → Shared → Prop} {c d : Int} {x y : Str} {t t1 t2 t3 t4 : Tok} (c0 : 0 ≤ c) (c1 : c ≤ 20) (d0 : 0 ≤ d) (d1 : d ≤ 20) (hx : x.length ≤ 20) (hy : y.length ≤ 20)
    (h : ∀ t' k, P (.done (.ret (.str (T4 c x d y) t'))) { s with toks := k }) : wpAny (model prog w) A (Builtin.«str.format» ⟨[.str (Str.ofString "{0} {1} {2} {3}") t, .int c t1, .str x t2, .int d t3, .str y t4], []⟩) P E s := by
  rw [show Str.ofString "{0} {1} {2} {3}" = _ from by kfm_eq]
  unfold Builtin.«str.format»
  refine wpAny_bind (wpAny_of_eq (a := (_, _, _)) rfl ?_)
  refine wpAny_bind ?_
  unfold Builtin.Str.buildString
  refine wpAny_bind ?_
  rw [KPc.range_list]
  refine KFm.start ?_
  intro _ _
  walk_at "sf turns"
end SF

theorem offP12b : True := by
  w_top off
  trivial
local macro_rules | `(tactic| walk_at "eval Call Attribute") => `(tactic| (k_here; (with_reducible show wpAny _ _ (eval (Expr.Call (Expr.Attribute _ _ _) [Expr.Starred _ _] _ _) _) _ _ _); (with_unfolding_all refine' SF.Call_star ?hF ?hb ?_); (case hF => k_asm); (case hb => rfl)))
theorem tzolC_lo (J : Int) : 0 ≤ tzolC J := by
  have h := fm_lo (midF J - 584283 + 4) (b := 13) (by decide)
  unfold tzolC; split <;> omega
theorem tzolC_hi (J : Int) : tzolC J ≤ 20 := by
  have h := fm_hi (midF J - 584283 + 4) (b := 13) (by decide)
  unfold tzolC; split <;> omega
theorem lcb_c (w : World) (b k t u n : Int) (t1 t2 t3 t4 t5 : Tok) (news : List (Addr × Obj)) : Says w 245 3 [.int b t1, .int k t2, .int t t3, .int u t4, .int n t5] news (RetS (fun tt => .str (SF.T4 (tzolC (lcJ b k t u n)) (tzolN w (tzolI (lcJ b k t u n))) ((haabD (lcJ b k t u n)).fmod 20) (haabN w ((haabD (lcJ b k t u n)).fdiv 20))) tt) news) := by
  walk_at "m go"
  refine ⟨_, _, _, _, rfl, by k_asm, by k_asm, ?_⟩
  intro u h' tk' F' N' l'
  k_steps
  · exact News.get (by assumption) (List.Mem.head _)
  · refine SF.call_of (News.get (by assumption) (List.Mem.head _)) (fun h => SF.tree (tzolC_lo _) (tzolC_hi _) (fm_lo _ (by decide)) (Int.le_of_lt (fm_hi _ (by decide))) (tzolN_short _ _) (haabN_short _ _) h) ?_
    intro t8 k8
    k_steps
    all_goals walk_at "m str"
    all_goals rfl

local macro_rules | `(tactic| walk_at "call ref") => `(tactic| (k_here; (with_reducible show wpAny _ _ (PySem.call (Value.ref 245) _ _) _ _ _); (refine' use_says (lcb_c _ _ _ _ _ _ _ _ _ _ _ _ ) ?k1 ?k2 ?k3 ?k4 ?k5 ?kK ?kd ?ku ?_); walk_at "m uc0"; walk_at "m backS"; walk_at "m ud"))
theorem offPL : True := by
  w_top off
  trivial
/-! the plain law: no program in sight -/
theorem l3 {a b c a' b' c' : Int} (e1 : a = a') (e2 : b = b') (e3 : c = c') : ([a, b, c] : List Int) = [a', b', c'] := by rw [e1, e2, e3]
theorem l5 {a b c d e a' b' c' d' e' : Int} (e1 : a = a') (e2 : b = b') (e3 : c = c') (e4 : d = d') (e5 : e = e') : ([a, b, c, d, e] : List Int) = [a', b', c', d', e'] := by rw [e1, e2, e3, e4, e5]
theorem td_e {a : Int} (b : Int) (h : 0 ≤ a) : a.tdiv b = a / b := Int.tdiv_eq_ediv_of_nonneg h
theorem fm_e (a : Int) {b : Int} (h : 0 ≤ b) : a.fmod b = a % b := Int.fmod_eq_emod_of_nonneg a h

theorem cop_split (J : Int) : ∃ q r D : Int, 0 ≤ r ∧ r ≤ 3 ∧ 0 ≤ D ∧ (D ≤ 364 ∨ (r = 3 ∧ D = 365)) ∧ copY J = 4 * q + r ∧ copD J = D ∧ J = 1825030 + 1461 * q + 365 * r - 365 + D := by
  refine ⟨copY J / 4, copY J % 4, copD J, ?_, ?_, ?_, ?_, ?_, rfl, ?_⟩
  all_goals (simp only [copD, copJ, copY, fd_e _ (show (0 : Int) ≤ 1461 by decide), fd_e _ (show (0 : Int) ≤ 4 by decide)]; omega)
theorem place_eq (D : Int) : 30 * (D.fdiv 30 + 1 - 1) + (D - (D.fdiv 30 + 1 - 1) * 30 + 1) = D + 1 := by omega
theorem count_eq (J : Int) : 365 * (copY J - 1) + (copY J).fdiv 4 + (copD J + 1) - 97473 = J - 1922502 := by
  unfold copD copJ; omega
theorem range_ok (J : Int) : 1 ≤ (copD J).fdiv 30 + 1 ∧ (copD J).fdiv 30 + 1 ≤ 13 ∧ 1 ≤ copD J - ((copD J).fdiv 30 + 1 - 1) * 30 + 1 ∧ copD J - ((copD J).fdiv 30 + 1 - 1) * 30 + 1 ≤ 30 ∧ copD J + 1 ≤ daysF (copY J) := by
  obtain ⟨q, r, D, h1, h2, h3, h4, eY, eD, _⟩ := cop_split J
  unfold daysF
  rw [eY, eD, fd_e _ (by decide), fm_e _ (by decide)]
  refine ⟨by omega, by omega, by omega, by omega, ?_⟩
  split <;> omega

/-- told and due, the loose Armenian date -/
noncomputable def dueN (c : Int) : List Int := if 0 < c then dateF ((c - 1).fdiv 365) ((c - 1).fmod 365 + 1) else []
theorem loose_law (J : Int) (hJ : J - 1922502 ≠ 0) : toldN J = dueN (J - 1922502) := by
  unfold toldN dueN
  by_cases h : J < 1922502
  · rw [if_pos h, if_neg (by omega)]
  · rw [if_neg h, if_pos (by omega)]
    unfold armN armNy armNm dateF
    rw [td_e _ (by omega), fm_e _ (by decide), td_e _ (by omega), fd_e _ (by decide), fd_e _ (by decide), fm_e _ (by decide)]
    exact l3 rfl (by omega) (by omega)

theorem armS_val {k j w J : Int} (hk : 0 ≤ k) (hj : 0 ≤ j) (hj3 : j ≤ 3) (hw : 1 ≤ w) (hw2 : w ≤ 365 ∨ (j = 3 ∧ w = 366)) (e : J - 2117211 = 1461 * k + 365 * j + w) : armS J = dateF (4 * k + j + 533) w := by
  have hy : armSy J = if w = 366 then 4 * k + j + 1 else 4 * k + j := by
    unfold armSy
    rw [e, td_e _ (by omega)]
    split <;> omega
  have hd : armSd J = if w = 366 then 0 else w := by
    unfold armSd
    rw [hy, e]
    split
    · rw [td_e _ (by omega)]; omega
    · rw [td_e _ (by omega)]; omega
  unfold armS armT dateF
  by_cases h6 : w = 366
  · rw [if_pos h6] at hy hd
    have hm : (armSy J).fmod 4 = 0 := by rw [hy, fm_e _ (by decide)]; omega
    rw [if_pos hd, if_pos hm, hy, h6, td_e _ (by decide), fd_e _ (by decide), fm_e _ (by decide)]
    exact l3 (by omega) (by omega) (by omega)
  · rw [if_neg h6] at hy hd
    rw [if_neg (by omega), hy, hd, td_e _ (by omega), fd_e _ (by decide), fm_e _ (by decide)]
    exact l3 (by omega) (by omega) (by omega)
noncomputable def dueS (f w : Int) : List Int := if 533 ≤ f then dateF f w else []
/-- the day of J, moved back by s days: year 4k+j of the Coptic count, its day c+1 -/
theorem mov_split (J s : Int) (hs0 : 0 < s) (hs1 : s ≤ 365) : ∃ k j c : Int, 0 ≤ j ∧ j ≤ 3 ∧ 0 ≤ c ∧ (c ≤ 364 ∨ (j = 3 ∧ c = 365)) ∧ movY (copY J) (copD J + 1) s = 4 * k + j ∧ movP (copY J) (copD J + 1) s = c + 1 ∧ J = 1824665 + s + (1461 * k + 365 * j + c) := by
  obtain ⟨q, r, D, h1, h2, h3, h4, eY, eD, eJ⟩ := cop_split J
  unfold movY movP daysF
  rw [eY, eD, eJ]
  clear eY eD eJ J
  by_cases hD : s < D + 1
  · simp only [if_pos hD]
    exact ⟨q, r, D - s, h1, h2, by omega, by omega, rfl, by omega, by omega⟩
  · simp only [if_neg hD]
    rw [fm_e _ (by decide)]
    by_cases hr : r = 0
    · subst hr
      have h5 : D ≤ 364 := by omega
      clear h1 h2 h4
      rw [if_pos (show (4 * q + 0 - 1) % 4 = 3 by omega)]
      exact ⟨q - 1, 3, D + 366 - s, by decide, by decide, by omega, by omega, by omega, by omega, by omega⟩
    · have h5 : D ≤ 364 := by omega
      clear h4
      rw [if_neg (show ¬ (4 * q + r - 1) % 4 = 3 by omega)]
      exact ⟨q, r - 1, D + 365 - s, by omega, by omega, by omega, by omega, by omega, by omega, by omega⟩
theorem fixed_law (J : Int) (hJ : J - 1922502 ≠ 194709) : toldS J = dueS (movY (copY J) (copD J + 1) 347 - 267) (movP (copY J) (copD J + 1) 347) := by
  obtain ⟨k, j, c, h1, h2, h3, h4, eY, eD, eJ⟩ := mov_split J 347 (by decide) (by decide)
  unfold toldS dueS
  rw [eY, eD]
  clear eY eD
  by_cases hl : J < 2117211
  · rw [if_pos hl, if_neg (by omega)]
  · rw [if_neg hl, if_pos (by omega), armS_val (k := k - 200) (j := j) (w := c + 1) (by omega) h1 h2 (by omega) (by omega) (by omega)]
    congr 1; omega

theorem frT_val {k Y J j c : Int} (hk : 0 ≤ k) (e : J = 1461 * k + 365 * j + c) (hj : 0 ≤ j) (hj3 : j ≤ 3) (hc : 0 ≤ c) (hc2 : c ≤ 364 ∨ (j = 3 ∧ c = 365)) : frT J Y = dateF (Y + 4 * k + j + 1) (c + 1) := by
  subst e
  have hb : frB (1461 * k + 365 * j + c) = 365 * j + c := by
    clear hk
    unfold frB
    rw [fm_e _ (by decide)]
    split <;> omega
  have hd : frD (365 * j + c) = j := by
    unfold frD
    split
    · rw [td_e _ (by omega)]; omega
    · rw [td_e _ (by omega)]; omega
  have hcc : frC (365 * j + c) = c := by
    unfold frC
    split
    · omega
    · rw [fm_e _ (by decide)]; omega
  unfold frT dateF
  rw [hb, hd, hcc, td_e _ (by omega), td_e _ hc, fd_e _ (by decide), fm_e _ (by decide)]
  exact l3 (by omega) (by omega) (by omega)
/-- the French day: k, j, c -/
theorem french_split (J : Int) : ∃ k j c : Int, 0 ≤ j ∧ j ≤ 3 ∧ 0 ≤ c ∧ (c ≤ 364 ∨ (j = 3 ∧ c = 365)) ∧ movY (copY J) (copD J + 1) 13 - 1508 = 4 * k + j ∧ movP (copY J) (copD J + 1) 13 = c + 1 ∧ J - 2375840 + 365 = 1461 * k + 365 * j + c := by
  obtain ⟨k, j, c, h1, h2, h3, h4, eY, eD, eJ⟩ := mov_split J 13 (by decide) (by decide)
  exact ⟨k - 377, j, c, h1, h2, h3, h4, by rw [eY]; clear eY eD eJ h1 h2 h3 h4; omega, eD, by subst eJ; clear eY eD h1 h2 h3 h4; omega⟩
noncomputable def dueF (f : Int) (l : List Int) : List Int := if 1 ≤ f then l else []
theorem fourth_law (J : Int) : toldF 0 J = dueF (movY (copY J) (copD J + 1) 13 - 1508) (dateF (movY (copY J) (copD J + 1) 13 - 1508) (movP (copY J) (copD J + 1) 13)) := by
  obtain ⟨k, j, c, h1, h2, h3, h4, eY, eP, eJ⟩ := french_split J
  unfold toldF dueF
  rw [eY, eP]
  by_cases hl : J < 2375840
  · rw [if_pos hl, if_neg (by omega)]
  · rw [if_neg hl, if_pos (by omega)]
    show frT (J - 2375840 + 365) (-1) = _
    rw [frT_val (k := k) (j := j) (c := c) (by omega) (by omega) h1 h2 h3 h4]
    congr 1; omega
/-- one day ahead in leap years: the French date by the cycle that begins at year 4n -/
theorem ahead_hi {k j c X n : Int} (h1 : 0 ≤ j) (h2 : j ≤ 3) (h3 : 0 ≤ c) (h4 : c ≤ 364 ∨ (j = 3 ∧ c = 365)) (eX : X = 1461 * (k - n) + 365 * (j - 1) + c) (hX : 0 < X) :
    frT X (4 * n) = aheadF (4 * k + j) (c + 1) (4 * n + 4) := by
  subst eX
  unfold aheadF
  rw [fm_e _ (by decide)]
  by_cases a1 : c = 365
  · subst a1
    have e3 : j = 3 := by omega
    subst e3
    rw [if_pos ⟨by omega, rfl⟩, frT_val (k := k - n) (j := 3) (c := 0) (by omega) (by omega) (by decide) (by decide) (by decide) (.inl (by decide))]
    congr 1; omega
  · have h5 : c ≤ 364 := by omega
    clear h4
    rw [if_neg (fun h => a1 (by omega))]
    by_cases a2 : j = 0
    · subst a2
      rw [if_pos ⟨by omega, by omega⟩, frT_val (k := k - n - 1) (j := 3) (c := c + 1) (by omega) (by omega) (by decide) (by decide) (by omega) (by omega)]
      congr 1; omega
    · rw [if_neg (fun h => a2 (by omega)), frT_val (k := k - n) (j := j - 1) (c := c) (by omega) rfl (by omega) (by omega) h3 (.inl h5)]
      congr 1; omega
theorem ahead_lo {k j c X s : Int} (h1 : 0 ≤ j) (h2 : j ≤ 3) (h3 : 0 ≤ c) (h4 : c ≤ 364 ∨ (j = 3 ∧ c = 365)) (hk : 0 ≤ k) (eX : X = 1461 * k + 365 * j + c) (hs : 4 * k + j < s) (hc : c = 365 → 4 * k + j + 1 < s) :
    frT X (-1) = aheadF (4 * k + j) (c + 1) s := by
  unfold aheadF
  rw [if_neg (fun h => by have := hc (by omega); omega), if_neg (fun h => by omega), frT_val hk eX h1 h2 h3 h4]
  congr 1; omega
theorem tf0 {X M : Int} (h0 : 0 ≤ X) (h1 : X < M) : X.tdiv M = 0 ∧ X.fmod M = X := ⟨Int.tdiv_eq_zero_of_lt h0 h1, Int.fmod_eq_of_lt h0 h1⟩
theorem romme_law (J : Int) (hf : ¬ 98 < movY (copY J) (copD J + 1) 13 - 1508) : toldF 1 J = dueF (movY (copY J) (copD J + 1) 13 - 1508) (aheadF (movY (copY J) (copD J + 1) 13 - 1508) (movP (copY J) (copD J + 1) 13) 16) := by
  obtain ⟨k, j, c, h1, h2, h3, h4, eY, eP, eJ⟩ := french_split J
  rw [eY] at hf
  rw [eY, eP]
  clear eY eP
  unfold toldF dueF
  by_cases hl : J < 2375840
  · rw [if_pos hl, if_neg (by omega)]
  · rw [if_neg hl, if_pos (by omega)]
    unfold fr
    by_cases hc : J - 2375840 ≤ 365 * 12 + 3
    · rw [show frA 1 J = (J - 2375840 + 365, -1) from if_pos hc]
      exact ahead_lo h1 h2 h3 h4 (by omega) eJ (by omega) (fun h => by omega)
    · have e := frA_1 hc
      have hX : 0 < J - 2375840 - 365 * 12 - 3 := by clear h1 h2 h3 h4 eJ hf hl; omega
      have hB : J - 2375840 - 365 * 12 - 3 < 36524 := by omega
      have eX : J - 2375840 - 365 * 12 - 3 = 1461 * (k - 3) + 365 * (j - 1) + c := by clear h1 h2 h3 h4 hf hl hc hX hB e; omega
      have z := tf0 (Int.le_of_lt hX) (Int.lt_trans hB (show (36524 : Int) < 1460969 by decide))
      have z' := tf0 (Int.le_of_lt hX) (Int.lt_trans hB (show (36524 : Int) < 146097 by decide))
      have z'' := tf0 (Int.le_of_lt hX) hB
      rw [z.1, z.2, z'.1, z'.2, z''.1, z''.2] at e
      rw [e]
      exact ahead_hi h1 h2 h3 h4 eX hX
theorem madler_law (J : Int) (hf : ¬ 126 < movY (copY J) (copD J + 1) 13 - 1508) : toldF 2 J = dueF (movY (copY J) (copD J + 1) 13 - 1508) (aheadF (movY (copY J) (copD J + 1) 13 - 1508) (movP (copY J) (copD J + 1) 13) 20) := by
  obtain ⟨k, j, c, h1, h2, h3, h4, eY, eP, eJ⟩ := french_split J
  rw [eY] at hf
  rw [eY, eP]
  clear eY eP
  unfold toldF dueF
  by_cases hl : J < 2375840
  · rw [if_pos hl, if_neg (by omega)]
  · rw [if_neg hl, if_pos (by omega)]
    unfold fr
    by_cases hc : J - 2375840 ≤ 365 * 17 + 4
    · rw [show frA 2 J = (J - 2375840 + 365, -1) from if_pos hc]
      exact ahead_lo h1 h2 h3 h4 (by omega) eJ (by omega) (fun h => by omega)
    · have e := frA_2 hc
      have hX : 0 < J - 2375840 - 365 * 16 - 4 := by clear h1 h2 h3 h4 eJ hf hl; omega
      have hB : J - 2375840 - 365 * 16 - 4 < 46751 := by omega
      have eX : J - 2375840 - 365 * 16 - 4 = 1461 * (k - 4) + 365 * (j - 1) + c := by clear h1 h2 h3 h4 hf hl hc hX hB e; omega
      have z := tf0 (Int.le_of_lt hX) hB
      rw [z.1, z.2] at e
      rw [e]
      exact ahead_hi h1 h2 h3 h4 eX hX

theorem offPL2 : True := by
  w_top off
  trivial
noncomputable def mayB (m : Int) : List Int := [m.fdiv 144000, (m.fdiv 7200).fmod 20, (m.fdiv 360).fmod 20, (m.fdiv 20).fmod 18, m.fmod 20]
noncomputable def dueM (m : Int) : List Int := if 0 ≤ m then mayB m else []
theorem long_law (J : Int) : toldM J = dueM (J - 584283) := by
  unfold toldM dueM
  by_cases h : J < 584283
  · rw [if_pos h, if_neg (by omega)]
  · rw [if_neg h, if_pos (by omega)]
    unfold may mayB
    simp (disch := decide) only [fd_e, fm_e]
    exact l5 rfl (by omega) (by omega) (by omega) (by omega)
theorem lc_back (J : Int) : lcJ ((J - 584283).fdiv 144000) (((J - 584283).fmod 144000).fdiv 7200) ((((J - 584283).fmod 144000).fmod 7200).fdiv 360) (((((J - 584283).fmod 144000).fmod 7200).fmod 360).fdiv 20) (((((J - 584283).fmod 144000).fmod 7200).fmod 360).fmod 20) = J := by
  unfold lcJ
  simp (disch := decide) only [fd_e, fm_e]
  omega
theorem haab_law (J : Int) (h : 0 ≤ J - 584283) : haabD J = (J - 1922502 + 112).fmod 365 := by
  unfold haabD midF
  rw [if_pos (by omega), fm_e _ (by decide), fm_e _ (by decide)]
  omega
theorem tzolC_law (J : Int) (h : 0 ≤ J - 584283) : tzolC J = (12 * (J - 584283).fdiv 144000 + 11 * ((J - 584283).fmod 144000).fdiv 7200 + 9 * (((J - 584283).fmod 144000).fmod 7200).fdiv 360 + 7 * ((((J - 584283).fmod 144000).fmod 7200).fmod 360).fdiv 20 + ((((J - 584283).fmod 144000).fmod 7200).fmod 360).fmod 20 + 3).fmod 13 + 1 := by
  have e : (if 0 < J then J else J + 1) = J := if_pos (by omega)
  unfold tzolC midF
  rw [e]
  simp (disch := decide) only [fd_e, fm_e]
  split <;> omega
theorem tzolI_law (J : Int) (h : 0 ≤ J - 584283) : tzolI J = (((((J - 584283).fmod 144000).fmod 7200).fmod 360).fmod 20 + 19).fmod 20 := by
  have e : (if 0 < J then J else J + 1) = J := if_pos (by omega)
  unfold tzolI midF
  rw [e]
  simp (disch := decide) only [fd_e, fm_e]
  split <;> omega

theorem offP18 : True := by
  w_top off
  trivial
/-! tuples compared -/
theorem tup_reads {h : Heap} {D : Addr} {vs : List Value} {ns : List Int} (ht : h.get? D = some (tupOf vs)) (hi : IntsAre vs ns) : Reads h (.ref D) (.tuple (ns.map PyData.int)) [] :=
  .tuple ht rfl rfl (by simpa using readsAll_of_ints hi)
theorem shaped_tup (ns : List Int) : SeqAt.shaped (.tuple (ns.map PyData.int)) = true := by
  have h1 := W.depthAll_ints ns
  have h2 : PyData.depth (.tuple (ns.map PyData.int)) ≤ 64 := by simp only [PyData.depth]; omega
  show (PyData.canLay0 (.tuple (ns.map PyData.int)) && decide (PyData.depth (.tuple (ns.map PyData.int)) ≤ 64)) = true
  rw [Bool.and_eq_true]
  exact ⟨by simp only [PyData.canLay0]; exact W.canLayAll0_ints ns, decide_eq_true h2⟩
section
variable {prog : Program} {w : World} {A : Around} {E : Value → Shared → Prop} {s : Shared} {h₀ : Heap} {L D1 D2 : Addr} {news : List (Addr × Obj)} {vs us : List Value} {ns ms : List Int} {Q : Value → Shared → Prop}
theorem ne_tups (N : News h₀ L s.heap news) (m1 : (D1, tupOf vs) ∈ news) (m2 : (D2, tupOf us) ∈ news) (i1 : IntsAre vs ns) (i2 : IntsAre us ms) (hu : A.units + 64 < cLine) (e : ns = ms) (h : Q (.bool false) s) : wpAny (model prog w) A (compareOp .NotEq (.ref D1) (.ref D2)) Q E s :=
  ne_dataH_same (tup_reads (N.get m1) i1) (tup_reads (N.get m2) i2) (shaped_tup ns) (shaped_tup ms) hu (by simp only [SeqAt.noMix]; exact noMix_ints ns ms) (by simp only [PySem.Spec.same]; rw [same_ints, decide_eq_true e]; exact h)
theorem eq_tups (N : News h₀ L s.heap news) (m1 : (D1, tupOf vs) ∈ news) (m2 : (D2, tupOf us) ∈ news) (i1 : IntsAre vs ns) (i2 : IntsAre us ms) (hu : A.units + 64 < cLine) (e : ns ≠ ms) (h : Q (.bool false) s) : wpAny (model prog w) A (compareOp .Eq (.ref D1) (.ref D2)) Q E s :=
  eq_dataH_same (tup_reads (N.get m1) i1) (tup_reads (N.get m2) i2) (shaped_tup ns) (shaped_tup ms) hu (by simp only [SeqAt.noMix]; exact noMix_ints ns ms) (by simp only [PySem.Spec.same]; rw [same_ints, decide_eq_false e]; exact h)
theorem pair_reads {h : Heap} {D : Addr} {c : Int} {x : Str} {t u : Tok} (ht : h.get? D = some (tupOf [.int c t, .str x u])) : Reads h (.ref D) (.tuple [.int c, .str x]) [] :=
  .tuple ht rfl rfl (.cons (.int c t) (.cons (.str x u) .nil))
theorem shaped_pair (c : Int) {x : Str} (hx : PyData.strOk x = true) : SeqAt.shaped (.tuple [.int c, .str x]) = true := by
  have h1 : PyData.canLay0 (.tuple [.int c, .str x]) = true := by simp only [PyData.canLay0, PyData.canLayAll0, hx, Bool.and_true]
  have h2 : PyData.depth (.tuple [.int c, .str x]) ≤ 64 := by simp [PyData.depth, PyData.depthAll]
  show (PyData.canLay0 (.tuple [.int c, .str x]) && decide (PyData.depth (.tuple [.int c, .str x]) ≤ 64)) = true
  rw [h1, decide_eq_true h2]; rfl
theorem ne_pairs {c c' : Int} {x x' : Str} {t u t' u' : Tok} (N : News h₀ L s.heap news) (m1 : (D1, tupOf [.int c t, .str x u]) ∈ news) (m2 : (D2, tupOf [.int c' t', .str x' u']) ∈ news) (hx : PyData.strOk x = true) (hu : A.units + 64 < cLine) (e1 : c = c') (e2 : x = x') (h : Q (.bool false) s) :
    wpAny (model prog w) A (compareOp .NotEq (.ref D1) (.ref D2)) Q E s := by
  subst e1 e2
  refine ne_dataH_same (pair_reads (N.get m1)) (pair_reads (N.get m2)) (shaped_pair c hx) (shaped_pair c hx) hu (by simp [SeqAt.noMix, SeqAt.noMixAll]) ?_
  have z : PySem.Spec.same (.tuple [.int c, .str x]) (.tuple [.int c, .str x]) = true := by simp [PySem.Spec.same, PySem.Spec.sameAll]
  rw [z]; exact h
end

theorem offP19 : True := by
  w_top off
  trivial
noncomputable def doorsL : List Str := [Str.ofString "loose", Str.ofString "fixed", Str.ofString "coptic", Str.ofString "fourth", Str.ofString "romme", Str.ofString "madler", Str.ofString "long count", Str.ofString "hebrew", Str.ofString "positivist"]
/-- it hands back a new list of these texts -/
noncomputable def RetW (ys : List Str) (news : List (Addr × Obj)) : Post := fun h₀ L m _ _ s Q _ =>
  ∀ (vs : List Value) (D : Addr) (h' : Heap) (tk' : Nat), StrsAre vs ys → Fr h₀ L h' m → News h₀ L h' ((D, W.listOf vs.toArray 0) :: news) → (∀ p ∈ news, p.1 < D) → Q (.ref D) { s with heap := h', toks := tk' }
section
variable {h₀ h' base : Heap} {L : Addr} {m : Str → Option Value} {news news' : List (Addr × Obj)} {s : Shared} {Q E : Value → Shared → Prop} {fr : List Env} {tk' : Nat}
theorem retW {ys : List Str} {vs : List Value} {D : Addr} (r : RetW ys news h₀ L m base fr s Q E) (F : Fr h₀ L h' m) (N : News h₀ L h' news') (hm : (D, W.listOf vs.toArray 0) ∈ news') (hs : ∀ p ∈ news, p ∈ news') (hl : ∀ p ∈ news, p.1 < D)
    (hi : StrsAre vs ys) : Q (.ref D) { s with heap := h', toks := tk' } := by
  refine r vs D h' tk' hi F (fun p hp => ?_) hl
  rcases List.mem_cons.mp hp with rfl | hp
  · exact N _ hm
  · exact N p (hs p hp)
theorem RetW.of {ys : List Str} (h : ∀ (vs : List Value) (D : Addr) (h' : Heap) (tk' : Nat), StrsAre vs ys → Fr h₀ L h' m → News h₀ L h' ((D, W.listOf vs.toArray 0) :: news) → (∀ p ∈ news, p.1 < D) → Q (.ref D) { s with heap := h', toks := tk' }) : RetW ys news h₀ L m base fr s Q E := h
end
theorem doors_c (w : World) (news : List (Addr × Obj)) : Says w 266 1 [] news (RetW doorsL news) := by
  walk_at "m go"
  all_goals (refine' retW (by assumption) (by assumption) (by assumption) ?hm ?hs ?hl ?_; (case hm => walk_at "m mem"); (case hs => walk_at "m sub"); (case hl => walk_at "m lt"))
  all_goals exact .cons _ _ (.cons _ _ (.cons _ _ (.cons _ _ (.cons _ _ (.cons _ _ (.cons _ _ (.cons _ _ (.cons _ _ .nil))))))))

theorem offP20 : True := by
  w_top off
  trivial
noncomputable def bodyOf (K : Frag) (a : Addr) : List Stmt := match K.lookup a with
  | some o => (match o.data with | .func fd => (match fd.body with | .stmts b => b | _ => []) | _ => [])
  | none => []
noncomputable def scopeOf (K : Frag) (a : Addr) : Scope := match K.lookup a with
  | some o => (match o.data with | .func fd => fd.scope | _ => default)
  | none => default
noncomputable def lawBody (w : World) : List Stmt := bodyOf (hd.heap_39 w.params) 306
noncomputable def lawScope (w : World) : Scope := scopeOf (hd.heap_39 w.params) 306
noncomputable def forBody : List Stmt → List Stmt
  | _ :: .For _ _ b _ _ :: _ => b
  | _ => []
noncomputable def turnBody (w : World) : List Stmt := forBody (lawBody w)
noncomputable abbrev lawEnv (w : World) (L a : Addr) (ccd : Value) : Env := envOfC (Str.ofString "law") (lawScope w) L a ccd
noncomputable abbrev lawTop (w : World) (dp un : Nat) (gd : Option (List Code)) (L a : Addr) (ccd : Value) : Around := ktrTop dp un gd (Str.ofString "law") (lawScope w) L a ccd (cellsFrom (L + 1) (lawScope w).names []) []
noncomputable abbrev envS (sc : Scope) (L a : Addr) (ccd : Value) : Env := envOfC (Str.ofString "law") sc L a ccd
noncomputable abbrev topS (sc : Scope) (dp un : Nat) (gd : Option (List Code)) (L a : Addr) (ccd : Value) : Around := ktrTop dp un gd (Str.ofString "law") sc L a ccd (cellsFrom (L + 1) sc.names []) []
/-! the turn's body and the law's scope as they are written, each by unification -/
noncomputable def lawLit : List Stmt := (fun (a : Arguments) (b : List Stmt) (s : Scope) (_ : StIs 97 a b s) (_ : Bar (Str.ofString "a")) => b) _ _ _ ⟨⟨_, _, _, _, _, _, _, rfl⟩⟩ bar_a
noncomputable def scopeLit : Scope := (fun (a : Arguments) (b : List Stmt) (s : Scope) (_ : StIs 97 a b s) (_ : Bar (Str.ofString "a")) => s) _ _ _ ⟨⟨_, _, _, _, _, _, _, rfl⟩⟩ bar_a
structure ForIs (b : List Stmt) : Prop where
  h : ∃ s t i o p r, lawLit = s :: .For t i b o p :: r
noncomputable def turnLit : List Stmt := (fun (b : List Stmt) (_ : ForIs b) (_ : Bar (Str.ofString "a")) => b) _ ⟨⟨_, _, _, _, _, _, rfl⟩⟩ bar_a
theorem turn_is (w : World) : turnBody w = turnLit := by kernel_rfl!
theorem scope_lit (w : World) : lawScope w = scopeLit := by kernel_rfl!
/-- what stands in the law's frame between two pieces of a turn -/
structure Law (w : World) (mean : ExcName → Option Value) (mg mb : Str → Option Value) (A₀ : Around) (h₀ : Heap) : Prop where
  B : Below A₀ h₀ [] h₀
  X : (hd.heap_39 w.params).In h₀
  T : Top hd.view_39 LooseX mean mg mb h₀
theorem here {K : Frag} {a : Addr} (o : Obj) (h : K.lookup a = some o) : K.lookup a = some o := h
/-- between two pieces: the frame's map and the ledger tell P -/
inductive MidN (g : Heap) (L : Addr) (P : (Str → Option Value) → List (Addr × Obj) → Prop) (s s' : Shared) : Prop where
  | mk (h' : Heap) (tk' : Nat) (m' : Str → Option Value) (news' : List (Addr × Obj)) (e : s' = { s with heap := h', toks := tk' }) (F : Fr g L h' m') (N : News g L h' news') (p : P m' news') : MidN g L P s s'
theorem MidN.intro {g h' : Heap} {L : Addr} {news : List (Addr × Obj)} {P : (Str → Option Value) → List (Addr × Obj) → Prop} {s : Shared} {tk' : Nat} {m' : Str → Option Value} (F : Fr g L h' m') (N : News g L h' news) (news' : List (Addr × Obj)) (hs : ∀ p ∈ news', p ∈ news) (p : P m' news') :
    MidN g L P s { s with heap := h', toks := tk' } := ⟨h', tk', m', news', rfl, F, fun q hq => N q (hs q hq), p⟩
noncomputable def Go (P : Shared → Prop) (f : Flow) (s' : Shared) : Prop := f = .next ∧ P s'
theorem ints_pick {prog : Program} {w : World} {A : Around} {E : Value → Shared → Prop} {s : Shared} {value slice : PySem.Expr} {l : Addr} {vs : List Value} {ns : List Int} {k : Int} {u : Tok} {Q : Value → Shared → Prop} (hl : s.heap.IsList l vs.toArray) (hi : IntsAre vs ns)
    (h0 : 0 ≤ k) (h1 : k < (ns.length : Int)) (h2 : ns.length ≤ 100) (h : ∀ t, Q (.int (ns.getD k.toNat 0) t) s)
    (hs : subscripted slice false (.ref l) (.int k u) = operate [.ref l, .int k u] (getItem (.ref l) (.int k u)) := by with_unfolding_all rfl) :
    wpAny (model prog w) A (subscriptTail value slice (.ref l) (.int k u)) Q E s := by
  have hlt : k.toNat < ns.length := by omega
  obtain ⟨t, hx⟩ := hi.get k.toNat (ns.getD k.toNat 0) (by rw [List.getD_eq_getElem?_getD, List.getElem?_eq_getElem hlt]; rfl)
  exact tail_any hl.typeIs slot_list_getitem.lookup (wpAny_getItem_list (x := .int _ t) hl h0 (by omega) (by simpa using hx) (h t)) hs
noncomputable def LoopBack (g : Heap) (L : Addr) (I : Addr) (it : Obj) (news : List (Addr × Obj)) (P : (Str → Option Value) → Prop) (s : Shared) (f : Flow) (s₂ : Shared) : Prop :=
  (f = .next ∨ f = .cont) ∧ ∃ h' tk' m', s₂ = { s with heap := h', toks := tk' } ∧ Fr g L h' m' ∧ News g L h' ((I, it) :: news) ∧ P m'
theorem list_inv {prog : Program} {w : World} {A : Around} {E : Value → Shared → Prop} {s : Shared} {env : Env} {h₀ : Heap} {x : Str} {body : List Stmt} {Q : Flow → Shared → Prop} {I : Addr} {lp : Addr × Obj} {news : List (Addr × Obj)} (P : (Str → Option Value) → Prop)
    (hlp : lp ∈ news) (hI : ∀ p ∈ news, p.1 < I) : ∀ (vs : List Value) (m : Str → Option Value), P m →
    (∀ v ∈ vs, ∀ (it : Obj) (h : Heap) (tk : Nat) (m : Str → Option Value), P m → Fr h₀ env.locals h (fun y => if y = x then some v else m y) → News h₀ env.locals h ((I, it) :: news) →
      wpAny (model prog w) A (execs body env) (LoopBack h₀ env.locals I it news P { s with heap := h, toks := tk }) E { s with heap := h, toks := tk }) →
    (∀ m h tk, P m → Fr h₀ env.locals h m → News h₀ env.locals h news → Q .next { s with heap := h, toks := tk }) →
    ListRest prog w A E h₀ env x body Q s I lp vs m news
  | [], m, hP, _, done => ListRest.zero fun h tk F N => done m h tk hP F N
  | v :: r, m, hP, turn, done => ListRest.succ fun it h tk _ F N => by
    refine wpAny_mono (turn v (.head _) it h tk m hP F N) (fun f s₂ hb => ?_) fun _ _ e => e
    obtain ⟨hf, h', tk', m', e, F', N', hP'⟩ := hb
    have fin : UnrEnd h₀ env.locals { s with heap := h, toks := tk } I it (fun m' n' => lp ∈ n' ∧ ListRest prog w A E h₀ env x body Q s I lp r m' n') s₂ :=
      ⟨h', tk', m', news, e, F', N', (fun p hp => Nat.ne_of_lt (hI p hp)), hlp, list_inv P hlp hI r m' hP' (fun v hv => turn v (.tail _ hv)) done⟩
    rcases hf with rfl | rfl <;> exact fin
theorem map2 {m : Str → Option Value} {x1 x2 : Str} {v1 v2 : Value} (e1 : m x1 = some v1) (e2 : m x2 = some v2) : m = fun y => if y = x1 then some v1 else if y = x2 then some v2 else m y := by
  funext y
  (repeat' split) <;> simp_all
theorem strs_mem {v : Value} {vs : List Value} {ys : List Str} (hs : StrsAre vs ys) (h : v ∈ vs) : ∃ z t, v = .str z t ∧ z ∈ ys := by
  induction hs with
  | nil => cases h
  | cons y t _ ih =>
    rcases List.mem_cons.mp h with rfl | h
    · exact ⟨y, t, rfl, List.mem_cons_self⟩
    · obtain ⟨z, t', e, hm⟩ := ih h
      exact ⟨z, t', e, List.mem_cons_of_mem _ hm⟩

theorem offP21 : True := by
  w_top off
  trivial
local macro_rules | `(tactic| walk_at "subscriptTail Name") => `(tactic| (k_here; (with_reducible show wpAny _ _ (subscriptTail _ _ (Value.ref _) (Value.int _ _)) _ _ _); (with_unfolding_all refine' ints_pick ?k1 ?k2 ?k3 ?k4 ?k5 ?_ ?ks; (case k1 => is_list); (case k2 => assumption); (case k3 => omega); (case k4 => omega); (case k5 => omega); (case ks => rfl)); intro t9))
noncomputable def febF (y : Int) : Int := if isleapF y then 29 else 28
theorem feb_eq (y : Int) : (y.fmod 4 = 0 ∧ (0 < y.fmod 25 ∨ y.fmod 16 = 0)) ↔ isleapF y = true := by
  unfold isleapF
  simp only [fm_e _ (show (0 : Int) ≤ 4 by decide), fm_e _ (show (0 : Int) ≤ 25 by decide), fm_e _ (show (0 : Int) ≤ 16 by decide), fm_e _ (show (0 : Int) ≤ 100 by decide), fm_e _ (show (0 : Int) ≤ 400 by decide), Bool.and_eq_true, Bool.or_eq_true, beq_iff_eq, bne_iff_ne, ne_eq]
  omega
inductive seg1a_M (L : Nat) (I : Nat) (DN : Nat) (it : Obj) (o3 : Obj) (vs : List Value) (ns : List Int) (at' : Int) (ta : Tok) (m' : Str → Option Value) (news' : List (Addr × Obj)) : Prop where
  | mk (o1' o2' t1 t2 : _) (q0z : news' = [(I, it), (DN, W.listOf vs.toArray 0), (L + 1 + 1 + 1, o3), (L + 1 + 1, o2'), (L + 1, o1')]) (q1z : o1'.data = .cell (some (.int (1793 + ns.getD at'.toNat 0) t1))) (q2z : o2'.data = .cell (some (.int (1 + (ns.getD (at' + 1).toNat 0).fmod 12) t2))) (q3z : m' (Str.ofString "at") = some (.int at' ta)) (q4z : m' (Str.ofString "numbers") = some (.ref DN)) (q5z : HasI m' (Str.ofString "february") (febF (1793 + ns.getD at'.toNat 0))) : seg1a_M L I DN it o3 vs ns at' ta m' news'
theorem seg1a (w : World) (mean : ExcName → Option Value) (mg mb : Str → Option Value) (dp un : Nat) (gd : Option (List Code)) (a : Addr) (ccd : Value) (A₀ : Around) (h₀ : Heap) (L : Nat) (bd : List Stmt) (sc : Scope) (hbd : turnBody w = bd) (hsc : lawScope w = sc) (m : Str → Option Value) (s : Shared)
    (I DN : Nat) (it o1 o2 o3 : Obj) (vs : List Value) (ns : List Int) (at' : Int) (ta : Tok) (v1 v2 v3 : Option Value)
    (B : Below A₀ h₀ [] h₀) (X : (hd.heap_39 w.params).In h₀) (T : Top hd.view_39 LooseX mean mg mb h₀) (hd' : dp + 20 < recursionLimit) (hu : un + 8 * 20 < cLine)
    (F : Fr h₀ L s.heap m) (N : News h₀ L s.heap [(I, it), (DN, W.listOf vs.toArray 0), (L + 1 + 1 + 1, o3), (L + 1 + 1, o2), (L + 1, o1)]) (d1 : o1.data = .cell v1) (d2 : o2.data = .cell v2) (d3 : o3.data = .cell v3)
    (l1 : L + 1 + 1 + 1 < DN) (l2 : DN < I) (hi : IntsAre vs ns) (ha : m (Str.ofString "at") = some (.int at' ta)) (hn : m (Str.ofString "numbers") = some (.ref DN)) (a0 : 0 ≤ at') (a1 : at' + 2 < (ns.length : Int)) (a2 : ns.length ≤ 15) :
    wpAny (model ProgX w) (topS sc dp un gd L a ccd) (execs (bd.take 3) (envS sc L a ccd)) (Go (MidN h₀ L (seg1a_M L I DN it o3 vs ns at' ta) s)) (fun _ _ => False) s := by
  refine opq fun Q hQ => ?_
  obtain rfl : bd = turnLit := hbd.symm.trans (turn_is w)
  obtain rfl : sc = scopeLit := hsc.symm.trans (scope_lit w)
  clear hbd hsc
  dsimp only [envS, topS, turnLit, scopeLit]
  walk_at "m lists"
  have F2 := knows (knows F ha) (show (fun y => if y = Str.ofString "at" then some (Value.int at' ta) else m y) (Str.ofString "numbers") = some (.ref DN) from (if_neg (by decide +kernel)).trans hn)
  clear F
  k_steps
  all_goals refine hQ _ _ ⟨rfl, MidN.intro (by assumption) (by assumption) _ (fun _ h => h) ⟨_, _, _, _, rfl, by assumption, by assumption, rfl, rfl, HasI.of rfl ?_⟩⟩
  · exact (if_pos ((feb_eq _).mp ⟨by assumption, .inl (by assumption)⟩)).symm
  · exact (if_pos ((feb_eq _).mp ⟨by assumption, .inr (by assumption)⟩)).symm
  · refine (if_neg fun h => ?_).symm
    rcases ((feb_eq _).mpr h).2 with z | z <;> contradiction
  · refine (if_neg fun h => ?_).symm
    have z := ((feb_eq _).mpr h).1
    contradiction
noncomputable def lenF (y m : Int) : Int := ([31, febF y, 31, 30, 31, 30, 31, 31, 30, 31, 30, 31] : List Int).getD (m - 1).toNat 0
theorem len_eq (y x : Int) : lenF y (1 + x.fmod 12) = dimF y (1 + x.fmod 12) ∧ 28 ≤ dimF y (1 + x.fmod 12) ∧ dimF y (1 + x.fmod 12) ≤ 31 := by
  have h0 := fm_lo x (b := 12) (by decide)
  have h1 := fm_hi x (b := 12) (by decide)
  generalize x.fmod 12 = z at *
  obtain ⟨n, rfl⟩ := Int.eq_ofNat_of_zero_le h0
  have key : ∀ (n : Fin 12) (b : Bool), ([31, if b then 29 else 28, 31, 30, 31, 30, 31, 31, 30, 31, 30, 31] : List Int).getD (1 + ((n.val : Nat) : Int) - 1).toNat 0 = (if 1 + ((n.val : Nat) : Int) = 2 then (if b then 29 else 28) else if ([4, 6, 9, 11] : List Int).any (· == 1 + ((n.val : Nat) : Int)) then 30 else 31) ∧
      28 ≤ (if 1 + ((n.val : Nat) : Int) = 2 then (if b then (29 : Int) else 28) else if ([4, 6, 9, 11] : List Int).any (· == 1 + ((n.val : Nat) : Int)) then 30 else 31) ∧ (if 1 + ((n.val : Nat) : Int) = 2 then (if b then (29 : Int) else 28) else if ([4, 6, 9, 11] : List Int).any (· == 1 + ((n.val : Nat) : Int)) then 30 else 31) ≤ 31 := by decide +kernel
  exact key ⟨n, Int.ofNat_lt.mp h1⟩ (isleapF y)
noncomputable def moreF (x l : Int) : Int := x.fdiv l
noncomputable def missF (q l : Int) : Int := if q.fmod 2 = 0 then l + 1 + (q.fdiv 2).fmod 50 else -((q.fdiv 2).fmod 50)
inductive seg1b_M (L : Nat) (I : Nat) (DN : Nat) (it : Obj) (o1 : Obj) (o2 : Obj) (o3 : Obj) (vs : List Value) (at' : Int) (y : Int) (z : Int) (ta : Tok) (m' : Str → Option Value) (news' : List (Addr × Obj)) : Prop where
  | mk  (q0z : news' = [(I, it), (DN, W.listOf vs.toArray 0), (L + 1 + 1 + 1, o3), (L + 1 + 1, o2), (L + 1, o1)]) (q1z : m' (Str.ofString "at") = some (.int at' ta)) (q2z : m' (Str.ofString "numbers") = some (.ref DN)) (q3z : HasI m' (Str.ofString "length") (dimF y (1 + z.fmod 12))) : seg1b_M L I DN it o1 o2 o3 vs at' y z ta m' news'
theorem seg1b (w : World) (mean : ExcName → Option Value) (mg mb : Str → Option Value) (dp un : Nat) (gd : Option (List Code)) (a : Addr) (ccd : Value) (A₀ : Around) (h₀ : Heap) (L : Nat) (bd : List Stmt) (sc : Scope) (hbd : turnBody w = bd) (hsc : lawScope w = sc) (m : Str → Option Value) (s : Shared)
    (I DN : Nat) (it o1 o2 o3 : Obj) (vs : List Value) (ns : List Int) (at' y z : Int) (ta t1 t2 tf : Tok) (v3 : Option Value)
    (B : Below A₀ h₀ [] h₀) (X : (hd.heap_39 w.params).In h₀) (T : Top hd.view_39 LooseX mean mg mb h₀) (hd' : dp + 20 < recursionLimit) (hu : un + 8 * 20 < cLine)
    (F : Fr h₀ L s.heap m) (N : News h₀ L s.heap [(I, it), (DN, W.listOf vs.toArray 0), (L + 1 + 1 + 1, o3), (L + 1 + 1, o2), (L + 1, o1)]) (d1 : o1.data = .cell (some (.int y t1))) (d2 : o2.data = .cell (some (.int (1 + z.fmod 12) t2))) (d3 : o3.data = .cell v3)
    (l1 : L + 1 + 1 + 1 < DN) (l2 : DN < I) (hi : IntsAre vs ns) (ha : m (Str.ofString "at") = some (.int at' ta)) (hn : m (Str.ofString "numbers") = some (.ref DN)) (hf : m (Str.ofString "february") = some (.int (febF y) tf)) (a0 : 0 ≤ at') (a1 : at' + 2 < (ns.length : Int)) (a2 : ns.length ≤ 15) :
    wpAny (model ProgX w) (topS sc dp un gd L a ccd) (execs ((bd.drop 3).take 1) (envS sc L a ccd)) (Go (MidN h₀ L (seg1b_M L I DN it o1 o2 o3 vs at' y z ta) s)) (fun _ _ => False) s := by
  refine opq fun Q hQ => ?_
  obtain rfl : bd = turnLit := hbd.symm.trans (turn_is w)
  obtain rfl : sc = scopeLit := hsc.symm.trans (scope_lit w)
  clear hbd hsc
  dsimp only [envS, topS, turnLit, scopeLit]
  walk_at "m lists"
  have hz0 := fm_lo z (b := 12) (by decide)
  have hz1 := fm_hi z (b := 12) (by decide)
  have F2 := knows5 F hf ha hn hn hn
  clear F
  k_steps
  all_goals refine hQ _ _ ⟨rfl, MidN.intro (by assumption) (by assumption) _ (fun _ h => List.mem_cons_of_mem _ h) ⟨rfl, rfl, rfl, HasI.of rfl (len_eq y z).1⟩⟩
inductive seg1c_M (L : Nat) (I : Nat) (DN : Nat) (it : Obj) (o1 : Obj) (o2 : Obj) (vs : List Value) (ns : List Int) (at' : Int) (len : Int) (m' : Str → Option Value) (news' : List (Addr × Obj)) : Prop where
  | mk (o3' t3 : _) (q0z : news' = [(I, it), (DN, W.listOf vs.toArray 0), (L + 1 + 1 + 1, o3'), (L + 1 + 1, o2), (L + 1, o1)]) (q1z : o3'.data = .cell (some (.int ((ns.getD (at' + 2).toNat 0).fmod len + 1) t3))) (q2z : m' (Str.ofString "numbers") = some (.ref DN)) (q3z : HasI m' (Str.ofString "missing") (missF ((ns.getD (at' + 2).toNat 0).fdiv len) len)) : seg1c_M L I DN it o1 o2 vs ns at' len m' news'
theorem seg1c (w : World) (mean : ExcName → Option Value) (mg mb : Str → Option Value) (dp un : Nat) (gd : Option (List Code)) (a : Addr) (ccd : Value) (A₀ : Around) (h₀ : Heap) (L : Nat) (bd : List Stmt) (sc : Scope) (hbd : turnBody w = bd) (hsc : lawScope w = sc) (m : Str → Option Value) (s : Shared)
    (I DN : Nat) (it o1 o2 o3 : Obj) (vs : List Value) (ns : List Int) (at' len : Int) (ta tl : Tok) (v3 : Option Value)
    (B : Below A₀ h₀ [] h₀) (X : (hd.heap_39 w.params).In h₀) (T : Top hd.view_39 LooseX mean mg mb h₀) (hd' : dp + 20 < recursionLimit) (hu : un + 8 * 20 < cLine)
    (F : Fr h₀ L s.heap m) (N : News h₀ L s.heap [(I, it), (DN, W.listOf vs.toArray 0), (L + 1 + 1 + 1, o3), (L + 1 + 1, o2), (L + 1, o1)]) (d3 : o3.data = .cell v3)
    (l1 : L + 1 + 1 + 1 < DN) (l2 : DN < I) (hi : IntsAre vs ns) (ha : m (Str.ofString "at") = some (.int at' ta)) (hn : m (Str.ofString "numbers") = some (.ref DN)) (hl : m (Str.ofString "length") = some (.int len tl)) (a0 : 0 ≤ at') (a1 : at' + 2 < (ns.length : Int)) (a2 : ns.length ≤ 15) (hl0 : 28 ≤ len) (hl1 : len ≤ 31) :
    wpAny (model ProgX w) (topS sc dp un gd L a ccd) (execs ((bd.drop 4).take 3) (envS sc L a ccd)) (Go (MidN h₀ L (seg1c_M L I DN it o1 o2 vs ns at' len) s)) (fun _ _ => False) s := by
  refine opq fun Q hQ => ?_
  obtain rfl : bd = turnLit := hbd.symm.trans (turn_is w)
  obtain rfl : sc = scopeLit := hsc.symm.trans (scope_lit w)
  clear hbd hsc
  dsimp only [envS, topS, turnLit, scopeLit]
  walk_at "m lists"
  have F2 := knows5 F hl ha hn hn hn
  clear F
  have z1 : @LT.lt Nat _ (L + 1 + 1 + 1) s.heap.objs.size := Heap.lt_size (N _ (.tail _ (.tail _ (.head _)))).1
  have z2 : @LT.lt Nat _ (L + 1 + 1) s.heap.objs.size := by omega
  have z3 : @LT.lt Nat _ DN s.heap.objs.size := Heap.lt_size (N _ (.tail _ (.head _))).1
  have z4 : @LT.lt Nat _ I s.heap.objs.size := Heap.lt_size (N _ (.head _)).1
  k_steps
  all_goals refine hQ _ _ ⟨rfl, MidN.intro (by assumption) (by assumption) _ (fun _ h => List.mem_cons_of_mem _ h) ⟨_, _, rfl, by assumption, rfl, HasI.of rfl ?_⟩⟩
  · exact (if_pos (by assumption)).symm
  · exact (if_neg (by assumption)).symm
theorem near_fits {y z x : Int} : Near (1 + z.fmod 12) (x.fmod (dimF y (1 + z.fmod 12)) + 1) ∧ Fits y (1 + z.fmod 12) (x.fmod (dimF y (1 + z.fmod 12)) + 1) := by
  have h0 := fm_lo z (b := 12) (by decide)
  have h1 := fm_hi z (b := 12) (by decide)
  obtain ⟨_, h2, h3⟩ := len_eq y z
  have h4 := fm_lo x (b := dimF y (1 + z.fmod 12)) (by omega)
  have h5 := fm_hi x (b := dimF y (1 + z.fmod 12)) (by omega)
  exact ⟨⟨by omega, by omega, by omega, by omega⟩, ⟨by omega, by omega⟩⟩
theorem near_misses {y z q : Int} : Near (1 + z.fmod 12) (missF q (dimF y (1 + z.fmod 12))) ∧ Misses y (1 + z.fmod 12) (missF q (dimF y (1 + z.fmod 12))) := by
  have h0 := fm_lo z (b := 12) (by decide)
  have h1 := fm_hi z (b := 12) (by decide)
  obtain ⟨_, h2, h3⟩ := len_eq y z
  have h4 := fm_lo (q.fdiv 2) (b := 50) (by decide)
  have h5 := fm_hi (q.fdiv 2) (b := 50) (by decide)
  unfold missF
  split
  · exact ⟨⟨by omega, by omega, by omega, by omega⟩, .inr (by omega)⟩
  · exact ⟨⟨by omega, by omega, by omega, by omega⟩, .inl (by omega)⟩

local macro_rules | `(tactic| walk_at "call ref") => `(tactic| (k_here; (with_reducible show wpAny _ _ (PySem.call (Value.ref 266) _ _) _ _ _); (show wpAny _ _ (PySem.call (Value.ref 266) [] _) _ _ _); (refine' use_says (doors_c _ _) ?k1 ?k2 ?k3 ?k4 ?k5 ?kK ?kd ?ku ?_); walk_at "m uc0"; (refine RetW.of ?_; intro vs9 D9 h9 tk9 i9 F9 N9 l9); walk_at "m ud"))
local macro_rules | `(tactic| walk_at "call ref") => `(tactic| (k_here; (with_reducible show wpAny _ _ (PySem.call (Value.ref 273) [Value.str _ _, Value.int _ _, Value.int _ _, Value.int _ _] _) _ _ _); (refine' use_saysT (door_bad _ _ _ _ _ _ _ _ _ _ ?p0 ?p1) ?k1 ?k2 ?k3 ?k4 ?k5 ?kK ?kd ?ku ?_); walk_at "m uc2"; walk_at "m backL"; walk_at "m ud"))
theorem offP22 : True := by
  w_top off
  trivial
local macro_rules | `(tactic| walk_at "exec For") => `(tactic| (k_here; (with_reducible show wpAny _ _ (exec (Stmt.For (Expr.Name _ _) (Expr.Call (Expr.Name "_law_doors" _) _ _ _) _ [] _) _) _ _ _); (rename Fr _ _ _ _ => lF'); (with_unfolding_all refine' For_invVF lF' ?k1 ?k2 ?_; (case k1 => kernel_rfl!); (case k2 => exact rfl); k_whole)))
local macro_rules | `(tactic| walk_at "compareOp NotEq ref ref") => `(tactic| (k_here; (with_reducible show wpAny _ _ (compareOp CmpOp.NotEq (Value.ref _) (Value.ref _)) _ _ _); (refine' ne_tups (by assumption) ?m1 ?m2 ?i1 ?i2 ?hu ?e ?_); (case m1 => walk_at "m mem"); (case m2 => walk_at "m mem"); (case i1 => first | assumption | exact IntsAre.nil); (case i2 => first | assumption | exact IntsAre.nil); (case hu => ktr_units); (case e => first | assumption | rfl)))
theorem seg2 (w : World) (mean : ExcName → Option Value) (mg mb : Str → Option Value) (dp un : Nat) (gd : Option (List Code)) (a : Addr) (ccd : Value) (A₀ : Around) (h₀ : Heap) (L : Nat) (bd : List Stmt) (sc : Scope) (hbd : turnBody w = bd) (hsc : lawScope w = sc) (m : Str → Option Value) (s : Shared)
    (I DN : Nat) (it on o1 o2 o3 : Obj) (y mo ms : Int) (t1 t2 tm : Tok)
    (B : Below A₀ h₀ [] h₀) (X : (hd.heap_39 w.params).In h₀) (T : Top hd.view_39 LooseX mean mg mb h₀) (hd' : dp + 20 < recursionLimit) (hu : un + 8 * 20 < cLine)
    (F : Fr h₀ L s.heap m) (N : News h₀ L s.heap [(I, it), (DN, on), (L + 1 + 1 + 1, o3), (L + 1 + 1, o2), (L + 1, o1)]) (d1 : o1.data = .cell (some (.int y t1))) (d2 : o2.data = .cell (some (.int mo t2)))
    (l1 : L + 1 + 1 + 1 < DN) (l2 : DN < I) (hn : m (Str.ofString "numbers") = some (.ref DN)) (hm : m (Str.ofString "missing") = some (.int ms tm)) (h1 : Near mo ms) (h2 : Misses y mo ms) :
    wpAny (model ProgX w) (topS sc dp un gd L a ccd) (execs ((bd.drop 7).take 1) (envS sc L a ccd)) (Go (MidN h₀ L (fun m' news' => news' = [(I, it), (DN, on), (L + 1 + 1 + 1, o3), (L + 1 + 1, o2), (L + 1, o1)] ∧ m' (Str.ofString "numbers") = some (.ref DN)) s)) (fun _ _ => False) s := by
  refine opq fun Q hQ => ?_
  obtain rfl : bd = turnLit := hbd.symm.trans (turn_is w)
  obtain rfl : sc = scopeLit := hsc.symm.trans (scope_lit w)
  clear hbd hsc
  dsimp only [envS, topS, turnLit, scopeLit]
  walk_at "m lists"
  have F2 := knows5 F hm hn hn hn hn
  clear F
  k_steps
  rename StrsAre _ _ => hv
  refine' iter_listUnr (n := 0) rfl ?F ?N ?hm ?hc ?hd ?rest
  case F => assumption
  case N => assumption
  case hm => exact List.Mem.head _
  case hc => rfl
  case hd => rfl
  case rest =>
  intro I2 lI
  refine list_inv (fun m => m (Str.ofString "missing") = some (.int ms tm) ∧ m (Str.ofString "numbers") = some (.ref DN)) (List.Mem.head _) lI _ _ ⟨rfl, rfl⟩ ?_ ?_
  · rintro v hvm it2 h2' tk2 m2 ⟨e1, e2⟩ F3 N3
    obtain ⟨z, t, rfl, _⟩ := strs_mem hv hvm
    rw [map2 e1 e2] at F3
    refine opq fun Q2 hQ2 => ?_
    k_steps
    exact hQ2 _ _ ⟨.inl rfl, _, _, _, rfl, by assumption, News.perm (by assumption) (fun _ h => List.Mem.tail _ (List.Mem.tail _ h)), rfl, rfl⟩
  · rintro m2 h2' tk2 ⟨e1, e2⟩ F3 N3
    k_steps
    refine hQ _ _ ⟨rfl, MidN.intro F3 N3 _ (fun _ h => List.Mem.tail _ h) ⟨rfl, e2⟩⟩

theorem offP23 : True := by
  w_top off
  trivial
/-! the dict comprehension of a turn -/
inductive ToldT (f : Str → List Int) : List Str → List (Str × Value) → List (Addr × Obj) → Prop
  | nil : ToldT f [] [] []
  | snoc {l kvs T z D vs} : ToldT f l kvs T → IntsAre vs (f z) → ToldT f (l ++ [z]) (stored kvs z (.ref D)) ((D, tupOf vs) :: T)
theorem ToldT.len {f : Str → List Int} {l : List Str} {kvs : List (Str × Value)} {T : List (Addr × Obj)} (h : ToldT f l kvs T) : kvs.length ≤ l.length := by
  induction h with
  | nil => exact Nat.le_refl _
  | @snoc l kvs T z D vs _ _ ih =>
    have e := stored_length_le kvs z (.ref D)
    rw [List.length_append, List.length_singleton]; omega
section
variable {prog : Program} {w : World} {A : Around} {s : Shared} {h₀ : Heap} {L : Addr} {m : Str → Option Value} {R : Result → Shared → Prop}
/-- what stands ahead of a turn of the comprehension -/
inductive ToldI (prog : Program) (w : World) (f : Str → List Int) (C I ax D : Addr) (vs : List Value) (ys : List Str) (base : List (Addr × Obj)) (h₀ : Heap) (L : Addr) (m : Str → Option Value) (s : Shared) (k : Nat) (s' : Shared) : Prop where
  | mk (H : Heap) (tk : Nat) (mC' : Str → Option Value) (kvs : List (Str × Value)) (T : List (Addr × Obj)) (j : Nat) (e : s' = { s with heap := H, toks := tk }) (q1 : k = ys.length - j) (q2 : j ≤ ys.length) (q3 : H.IsListIter I ax j ∧ H.IsList ax vs.toArray) (q4 : Fr h₀ L H m)
      (q5 : News h₀ L H (T ++ base)) (q6 : H.Ns C mC') (q7 : H.DictOf (strKind prog w) D kvs) (q8 : ToldT f (ys.take j) kvs T) (q9 : ∀ p ∈ T ++ base, p.1 ≠ C ∧ p.1 ≠ D ∧ p.1 ≠ I) : ToldI prog w f C I ax D vs ys base h₀ L m s k s'
theorem told_loop {f : Str → List Int} {kx vx iter : PySem.Expr} {x : Str} {px pos : Pos} {scope : Scope} {cenv : Env} {I ax C D : Addr} {vs : List Value} {ys : List Str} {base : List (Addr × Obj)} {mC : Str → Option Value}
    (hh : A.handled = none) (hs : StrsAre vs ys) (hsz : ys.length ≤ sizeLine) (hax : ax ≠ I) (hC : cenv.locals = C) (hCI : C ≠ I) (hCD : C ≠ D) (hDI : D ≠ I) (hxC : ax ≠ C) (hxD : ax ≠ D)
    (hx : cenv.kindOf x = some .local) (hp : (cenv.scope.kind == .class || (cenv.scope.kind == .module && cenv.locals != cenv.globals)) = false)
    (hLC : L ≠ C) (hLD : L ≠ D) (hLI : L ≠ I) (nC : h₀.get? C = none) (nD : h₀.get? D = none) (nI : h₀.get? I = none)
    (hb : ∀ p ∈ base, p.1 ≠ C ∧ p.1 ≠ D ∧ p.1 ≠ I) (hbx : ∃ o, (ax, o) ∈ base)
    (F : Fr h₀ L s.heap m) (N : News h₀ L s.heap base) (hn : s.heap.Ns C mC) (hd : s.heap.DictOf (strKind prog w) D []) (hst : s.heap.IsListIter I ax 0 ∧ s.heap.IsList ax vs.toArray)
    (key : ∀ z t H tk mC' E', H.Ns C mC' → mC' x = some (.str z t) → wpAny (model prog w) A (eval kx cenv) (fun kv s₃ => kv = .str z t ∧ s₃ = { s with heap := H, toks := tk }) E' { s with heap := H, toks := tk })
    (val : ∀ z t H tk mC' oC oD oI T E', z ∈ ys → Fr h₀ L H m → News h₀ L H ((C, oC) :: (D, oD) :: (I, oI) :: (T ++ base)) → H.Ns C mC' → mC' x = some (.str z t) →
      wpAny (model prog w) A (eval vx cenv) (fun y s₃ => ∃ D9 vs9 h' tk', y = .ref D9 ∧ s₃ = { s with heap := h', toks := tk' } ∧ IntsAre vs9 (f z) ∧ Fr h₀ L h' m ∧ News h₀ L h' ((D9, tupOf vs9) :: (C, oC) :: (D, oD) :: (I, oI) :: (T ++ base)) ∧
        ∀ p ∈ (C, oC) :: (D, oD) :: (I, oI) :: (T ++ base), p.1 < D9) E' { s with heap := H, toks := tk })
    (done : ∀ H tk kvs T mC', ToldT f ys kvs T → Fr h₀ L H m → News h₀ L H (T ++ base) → H.DictOf (strKind prog w) D kvs → H.Ns C mC' → (∀ p ∈ T, p.1 ≠ C ∧ p.1 ≠ D) → R (.ok .next) { s with heap := H, toks := tk })
    (ht : ∀ v, letOwnedTupleGo (.Name x px) (.ref I) v = pure () := by intro _; rfl) :
    codeAny (model prog w) A (.compLoop (.DictComp kx vx [⟨.Name x px, iter, [], 0⟩] scope pos) 0 (.ref I) (.ref D) cenv) R s := by
  subst hC
  have W := Walks.list (prog := prog) (w := w) (A := A) hh I ax hax vs.toArray
  obtain ⟨oax, hoax⟩ := hbx
  refine codeAny_compLoop_testsD
    (ToldI prog w f cenv.locals I ax D vs ys base h₀ L m s) ?_ (ys.length - 0)
    ⟨s.heap, s.toks, mC, [], [], 0, rfl, rfl, Nat.zero_le _, hst, F, N, hn, hd, .nil, hb⟩ ht
  rintro k s' ⟨H, tk, mC', kvs, T, j, rfl, rfl, hj, st, F, N, hn, hd, ho, ha⟩
  have hlen : vs.toArray.size = ys.length := by simp [hs.length]
  by_cases hlt : j < ys.length
  · refine W.item j _ _ _ (by omega) st fun v h₁ tk₁ hPv st₁ hk₁ => ?_
    obtain ⟨t, hv⟩ := hs.at (show ys[j]? = some ys[j] by simp [hlt])
    have hv' : v = .str ys[j] t := by
      have e1 : vs[j]? = some v := by simpa using hPv
      rw [e1] at hv; exact Option.some.inj hv
    subst hv'
    have up₁ : ∀ b o, b ≠ I → H.get? b = some o → h₁.get? b = some o := fun b o hb e => hk₁ b o (by simpa using hb) e
    refine wpAny_assign_Name (wpAny_storeName_local hx (hn.at' fun o e => up₁ _ o hCI e) (fun h₂ hn₂ hs₂ => ?_) hp)
    have up₂ : ∀ b o, b ≠ cenv.locals → b ≠ I → H.get? b = some o → h₂.get? b = some o := fun b o hbC hbI e => hs₂.extBut b o hbC (up₁ b o hbI e)
    have some₁ : ∀ b : Addr, b ≠ cenv.locals → h₁.get? b = h₂.get? b := fun b hbC => (hs₂.2 b hbC).symm
    have notC : ∀ b o, h₀.get? b = some o → b ≠ cenv.locals ∧ b ≠ D ∧ b ≠ I := fun b o e => ⟨by (rintro rfl; rw [nC] at e; cases e), by (rintro rfl; rw [nD] at e; cases e), by (rintro rfl; rw [nI] at e; cases e)⟩
    have F₂ : Fr h₀ L h₂ m := ⟨F.ns.at' fun o e => up₂ _ o hLC hLI e, fun b o e => up₂ b o (notC b o e).1 (notC b o e).2.2 (F.keep b o e), F.above⟩
    have N₂ : News h₀ L h₂ (T ++ base) := fun p hp => ⟨up₂ _ _ (ha p hp).1 (ha p hp).2.2 (N p hp).1, (N p hp).2⟩
    have hd₂ : h₂.DictOf (strKind prog w) D kvs := hd.at fun o e => up₂ D o (Ne.symm hCD) hDI e
    have st₂ : h₂.IsListIter I ax (j + 1) ∧ h₂.IsList ax vs.toArray := W.frame _ _ _ st₁ fun b hb o e => hs₂.extBut b o (by rcases List.mem_cons.mp hb with rfl | hb; exact Ne.symm hCI; rw [List.mem_singleton.mp hb]; exact hxC) e
    obtain ⟨oC, _, _, hoC, -⟩ := id hn₂
    obtain ⟨oD, _, _, hoD, -⟩ := id hd₂
    obtain ⟨oI, hoI, -⟩ := id st₂.1
    have NF : News h₀ L h₂ ((cenv.locals, oC) :: (D, oD) :: (I, oI) :: (T ++ base)) := by
      intro p hp
      rcases List.mem_cons.mp hp with rfl | hp
      · exact ⟨hoC, Ne.symm hLC, nC⟩
      rcases List.mem_cons.mp hp with rfl | hp
      · exact ⟨hoD, Ne.symm hLD, nD⟩
      rcases List.mem_cons.mp hp with rfl | hp
      · exact ⟨hoI, Ne.symm hLI, nI⟩
      exact N₂ p hp
    refine wpAny_mono (Q := fun ok s₃ => ok = true ∧ s₃ = _) (wpAny_pure ⟨rfl, rfl⟩) (fun ok s₃ h₃ => ?_) fun _ _ e => e
    obtain ⟨rfl, rfl⟩ := h₃
    simp only [if_true]
    refine wpAny_mono (key ys[j] t _ _ _ _ hn₂ (by simp)) (fun kv s₄ h₄ => ?_) fun _ _ e => e
    obtain ⟨rfl, rfl⟩ := h₄
    refine wpAny_mono (val ys[j] t _ _ _ oC oD oI T _ (List.getElem_mem hlt) F₂ NF hn₂ (by simp)) (fun y s₅ h₅ => ?_) fun _ _ e => e
    obtain ⟨D9, vs9, h₅, tk₅, rfl, rfl, i9, F₅, N₅, l9⟩ := h₅
    have hd₅ : h₅.DictOf (strKind prog w) D kvs := hd₂.at fun o e => by
      rw [hoD] at e; cases e; exact (N₅ (D, oD) (.tail _ (.tail _ (.head _)))).1
    have hn₅ : h₅.Ns cenv.locals _ := hn₂.at' fun o e => by
      rw [hoC] at e; cases e; exact (N₅ (cenv.locals, oC) (.tail _ (.head _))).1
    have st₅ : h₅.IsListIter I ax (j + 1) ∧ h₅.IsList ax vs.toArray := W.frame _ _ _ st₂ fun b hb o e => by
      rcases List.mem_cons.mp hb with rfl | hb
      · rw [hoI] at e; cases e; exact (N₅ (b, oI) (.tail _ (.tail _ (.tail _ (.head _))))).1
      · rw [List.mem_singleton.mp hb] at e ⊢
        have e1 := (N₂ (ax, oax) (List.mem_append_right _ hoax)).1
        rw [e1] at e; cases e
        exact (N₅ (ax, oax) (.tail _ (.tail _ (.tail _ (.tail _ (List.mem_append_right _ hoax)))))).1
    have hkv : kvs.length ≤ sizeLine := by
      have e1 := ho.len
      have e2 : (ys.take j).length ≤ ys.length := by rw [List.length_take]; exact Nat.min_le_right _ _
      omega
    refine wpAny_dictSet_pairs (hsz := hkv) (k := ys[j]) (by simp [PySem.strKind, Value.isStrOf]) hd₅ fun h₆ hl₆ hs₆ => ?_
    have q9 : D9 ≠ cenv.locals ∧ D9 ≠ D ∧ D9 ≠ I := ⟨Nat.ne_of_gt (l9 _ (.head _)), Nat.ne_of_gt (l9 _ (.tail _ (.head _))), Nat.ne_of_gt (l9 _ (.tail _ (.tail _ (.head _))))⟩
    have ha' : ∀ p ∈ ((D9, tupOf vs9) :: T) ++ base, p.1 ≠ cenv.locals ∧ p.1 ≠ D ∧ p.1 ≠ I := fun p hp => by
      rcases List.mem_cons.mp hp with rfl | hp
      · exact q9
      · exact ha p hp
    refine ⟨ys.length - (j + 1), by omega, h₆, _, _, stored kvs ys[j] (.ref D9), (D9, tupOf vs9) :: T, j + 1, rfl, rfl, hlt, ?_, ?_, ?_, hn₅.sameBut hs₆ hCD, hl₆, ?_, ha'⟩
    · exact W.frame _ _ _ st₅ fun b hb o e => hs₆.extBut b o (by rcases List.mem_cons.mp hb with rfl | hb; exact Ne.symm hDI; rw [List.mem_singleton.mp hb]; exact hxD) e
    · exact ⟨F₅.ns.sameBut hs₆ hLD, fun b o e => hs₆.extBut b o (notC b o e).2.1 (F₅.keep b o e), F₅.above⟩
    · intro p hp
      have e := N₅ p (by
        rcases List.mem_cons.mp hp with rfl | hp
        · exact .head _
        · exact .tail _ (.tail _ (.tail _ (.tail _ hp))))
      exact ⟨hs₆.extBut _ _ (ha' p hp).2.1 e.1, e.2⟩
    · have e : ys.take (j + 1) = ys.take j ++ [ys[j]] := by rw [List.take_add_one]; simp [hlt]
      rw [e]; exact .snoc ho i9
  · have hin : j = ys.length := by omega
    subst hin
    refine W.done _ _ _ (by rw [hlen]; exact st) fun h₁ tk₁ hk₁ => ?_
    have up₁ : ∀ b o, b ≠ I → H.get? b = some o → h₁.get? b = some o := fun b o hb e => hk₁ b o (by simpa using hb) e
    refine done h₁ tk₁ kvs T mC' (by simpa using ho) ⟨F.ns.at' fun o e => up₁ _ o hLI e, fun b o e => up₁ b o (by rintro rfl; rw [nI] at e; cases e) (F.keep b o e), F.above⟩ (fun p hp => ⟨up₁ _ _ (ha p hp).2.2 (N p hp).1, (N p hp).2⟩)
      (hd.at fun o e => up₁ D o hDI e) (hn.at' fun o e => up₁ _ o hCI e) fun p hp => ⟨(ha p (List.mem_append_left _ hp)).1, (ha p (List.mem_append_left _ hp)).2.1⟩
local macro_rules | `(tactic| walk_at "m na") => `(tactic| first | omega | (show @Ne Nat _ _; omega) | (show @LE.le Nat _ _ _; omega) | (show @LT.lt Nat _ _ _; omega))
theorem told_assign {E : Value → Shared → Prop} {f : Str → List Int} {kx vx iter : PySem.Expr} {x y : Str} {px py pos spos : Pos} {scope : Scope} {env : Env} {cl : List (Str × Addr)} {Q : Flow → Shared → Prop} {ys : List Str}
    (hh : A.handled = none) (hsw : swapsWith (.DictComp kx vx [⟨.Name x px, iter, [], 0⟩] scope pos) (some (.Name y py)) spos.line env = pure true) (hL : env.locals = L)
    (hclos : closureFor scope env = pure cl) (hcell : ∀ z ∈ scope.names, z.2 ≠ .cell) (hkind : scope.kind = .function)
    (hnames : ∀ z ∈ scope.names, z.2 = .local → scope.names.lookup z.1 = some .local) (hx : scope.names.lookup x = some .local)
    (hy : env.kindOf y = some .local) (hp : (env.scope.kind == .class || (env.scope.kind == .module && env.locals != env.globals)) = false) (hsz : ys.length ≤ sizeLine)
    (h : wpAny (model prog w) A (eval iter env) (fun xv s₁ => ∃ ax vs oax base h₁ tk₁, xv = .ref ax ∧ s₁ = { s with heap := h₁, toks := tk₁ } ∧ h₁.IsList ax vs.toArray ∧ StrsAre vs ys ∧ (ax, oax) ∈ base ∧ Fr h₀ L h₁ m ∧ News h₀ L h₁ base ∧
      (∀ C z t H tk mC' E', H.Ns C mC' → mC' x = some (.str z t) → wpAny (model prog w) A (eval kx (compEnvC scope cl C env)) (fun kv s₃ => kv = .str z t ∧ s₃ = { s with heap := H, toks := tk }) E' { s with heap := H, toks := tk }) ∧
      (∀ C D I z t H tk mC' oC oD oI T E', z ∈ ys → Fr h₀ L H m → News h₀ L H ((C, oC) :: (D, oD) :: (I, oI) :: (T ++ base)) → H.Ns C mC' → mC' x = some (.str z t) →
        wpAny (model prog w) A (eval vx (compEnvC scope cl C env)) (fun y s₃ => ∃ D9 vs9 h' tk', y = .ref D9 ∧ s₃ = { s with heap := h', toks := tk' } ∧ IntsAre vs9 (f z) ∧ Fr h₀ L h' m ∧ News h₀ L h' ((D9, tupOf vs9) :: (C, oC) :: (D, oD) :: (I, oI) :: (T ++ base)) ∧
          ∀ p ∈ (C, oC) :: (D, oD) :: (I, oI) :: (T ++ base), p.1 < D9) E' { s with heap := H, toks := tk }) ∧
      (∀ D oD H tk kvs T, ToldT f ys kvs T → oD.IsDictOf (PySem.strKind prog w) kvs → Fr h₀ L H (fun z => if z = y then some (.ref D) else m z) → News h₀ L H ((D, oD) :: (T ++ base)) → Q .next { s with heap := H, toks := tk })) E s)
    (hs : ∀ x, foldedSetIterable iter env x = pure x) (ht : ∀ v I, letOwnedTupleGo (.Name x px) (.ref I) v = pure () := by intro _ _; rfl) :
    wpAny (model prog w) A (exec (.Assign [.Name y py] (.DictComp kx vx [⟨.Name x px, iter, [], 0⟩] scope pos) spos) env) Q E s := by
  subst hL
  rw [exec_Assign_Name_used _ _ _ _ hsw]
  refine wpAny_bind (wpAny_standAt (wpAny_bind ?_))
  show wpAny _ A (do let _ ← comprehension (.DictComp kx vx [⟨.Name x px, iter, [], 0⟩] scope pos) scope env _ newDict false (eval iter env) (some (assign (.Name y py) env))) _ _ s
  refine wpAny_bind (wpAny_mono (wpAny_comprehension_free (use := some (assign (.Name y py) env)) (Q := fun _ s' => Q .next s') rfl hs hclos hkind hnames
    (wpAny_mono h (fun xv s₁ h₁ => ?_) fun _ _ e => e)) (fun _ s' hq => wpAny_pure (wpAny_pure hq)) fun _ _ e => e)
  obtain ⟨ax, vs, oax, base, h₁, tk₁, rfl, rfl, hl, hi, hb, F, N, hkey, hval, hQ⟩ := h₁
  have old : ∀ (g : Heap) (b : Addr), g.objs.size ≤ b → g.get? b = none := fun g a ha => by
    cases e : g.get? a with
    | none => rfl
    | some o' => exact absurd (Heap.lt_size e) (Nat.not_lt.mpr ha)
  have h0le : ∀ b : Addr, h₁.objs.size ≤ b → h₀.get? b = none := fun b hb' => by
    cases e : h₀.get? b with
    | none => rfl
    | some o' => exact absurd (Heap.lt_size (F.keep _ _ e)) (Nat.not_lt.mpr hb')
  have hlt : @LT.lt Nat _ ax h₁.objs.size := by obtain ⟨_, e, _⟩ := hl; exact Heap.lt_size e
  have hLlt : @LT.lt Nat _ env.locals h₁.objs.size := F.ns.lt
  refine wpAny_pyIter_list hl ?_
  generalize hH1 : h₁.push { cls := .type "list_iterator", data := .fields #[.ref ax, .int 0 0] } = H1
  have hz1 : @Eq Nat H1.objs.size (h₁.objs.size + 1) := by rw [← hH1, Heap.size_push]
  have up1 : ∀ b o, h₁.get? b = some o → H1.get? b = some o := fun b o e => hH1 ▸ Heap.get?_push_of_some _ e
  have st1 : H1.IsListIter h₁.objs.size ax 0 ∧ H1.IsList ax vs.toArray := by
    rw [← hH1]; exact ⟨⟨_, Heap.get?_push_size _ rfl, rfl, rfl⟩, hl.push _⟩
  refine wpAny_newObj_type (wpAny_newFunctionEnv hcell (by intro y hy; simp at hy) (fun H3 hns₃ hsb₃ => ?_) hkind)
  dsimp only at hns₃ hsb₃ ⊢
  have hnew : (H1.push { cls := .type "dict", dict := none, data := .dict #[] }).DictOf (PySem.strKind prog w) H1.objs.size [] := Heap.DictOf.new H1
  generalize hH2 : H1.push { cls := .type "dict", dict := none, data := .dict #[] } = H2 at hns₃ hsb₃ hnew ⊢
  have hz2 : @Eq Nat H2.objs.size (h₁.objs.size + 1 + 1) := by rw [← hH2, Heap.size_push, hz1]
  have up3 : ∀ b o, H1.get? b = some o → H3.get? b = some o := fun b o e => hsb₃.extBut b o (by have q9 : @LT.lt Nat _ b H1.objs.size := Heap.lt_size e; walk_at "m na") (Heap.get?_push_of_some _ (hH2 ▸ Heap.get?_push_of_some _ e))
  have hacc : H3.DictOf (PySem.strKind prog w) H1.objs.size [] := hnew.at fun o e => hsb₃.extBut _ _ (by walk_at "m na") (Heap.get?_push_of_some _ e)
  have st3 : H3.IsListIter h₁.objs.size ax 0 ∧ H3.IsList ax vs.toArray := ⟨st1.1.at fun o e => up3 _ o e, st1.2.at fun o e => up3 _ o e⟩
  have F3 : Fr h₀ env.locals H3 m := F.keeps fun b o e => up3 b o (up1 b o e)
  have N3 : News h₀ env.locals H3 base := N.grown fun b o e => up3 b o (up1 b o e)
  have hbb : ∀ p ∈ base, p.1 < h₁.objs.size := fun p hp => Heap.lt_size (N p hp).1
  have loop : ∀ s₃ : Shared, s₃ = { s with heap := H3, toks := tk₁ + ([] : List (Str × Value)).length } →
      codeAny (model prog w) A (.compLoop (.DictComp kx vx [⟨.Name x px, iter, [], 0⟩] scope pos) 0 (.ref h₁.objs.size) (.ref H1.objs.size) (compEnvC scope cl H2.objs.size env))
        (compPost (model prog w) A E (some (assign (.Name y py) env)) (fun _ s' => Q .next s') (.ref H1.objs.size) H2.objs.size) s₃ := by
    rintro s₃ rfl
    refine told_loop (s := { s with heap := H3, toks := tk₁ + ([] : List (Str × Value)).length }) (m := m) (h₀ := h₀) (L := env.locals) (base := base) (f := f) (C := H2.objs.size) hh hi hsz (by walk_at "m na") rfl (by walk_at "m na") (by walk_at "m na") (by walk_at "m na") (by walk_at "m na") (by walk_at "m na") (lookup_relabel_local hx) (by simp [compEnvC, relabel, hkind])
      (by walk_at "m na") (by walk_at "m na") (by walk_at "m na") (h0le _ (by walk_at "m na")) (h0le _ (by walk_at "m na")) (h0le _ (by walk_at "m na")) (fun p hp => by have q9 : @LT.lt Nat _ p.1 h₁.objs.size := hbb p hp; exact ⟨by walk_at "m na", by walk_at "m na", by walk_at "m na"⟩) ⟨oax, hb⟩ F3 N3 hns₃ hacc st3
      (fun z t H tk mC' E' a b => hkey _ z t H tk mC' E' a b) (fun z t H tk mC' oC oD oI T E' a b c d e => hval _ _ _ z t H tk mC' oC oD oI T E' a b c d e) ?_ (fun v => ht v _)
    intro H tk kvs T mC' hT F4 N4 hd4 hn4 hq4
    show wpAny _ A (assign (.Name y py) env (.ref H1.objs.size)) _ _ _
    refine wpAny_assign_Name (wpAny_storeName_local hy F4.ns (fun h₅ hn₅ hs₅ => ?_) hp)
    have hCL : H2.objs.size ≠ env.locals := by walk_at "m na"
    refine ⟨mC', hn4.sameBut hs₅ hCL, fun h₆ hs₆ => ?_⟩
    have F5 := F4.set hn₅ hs₅
    have F6 : Fr h₀ env.locals h₆ _ := ⟨F5.ns.sameBut hs₆ (Ne.symm hCL), fun b o e => hs₆.extBut b o (by rintro rfl; rw [h0le _ (by walk_at "m na")] at e; cases e) (F5.keep b o e), F5.above⟩
    obtain ⟨oD, hoD, hD⟩ := Heap.dictOf_iff.mp hd4
    have keep6 : ∀ b o, b ≠ env.locals → b ≠ H2.objs.size → H.get? b = some o → h₆.get? b = some o := fun b o n1 n2 e => hs₆.extBut b o n2 (hs₅.extBut b o n1 e)
    refine hQ _ oD h₆ _ kvs T hT hD F6 ?_
    intro p hp
    rcases List.mem_cons.mp hp with rfl | hp
    · exact ⟨keep6 _ _ (by show H1.objs.size ≠ _; walk_at "m na") (by show H1.objs.size ≠ _; walk_at "m na") hoD, by show H1.objs.size ≠ _; walk_at "m na", h0le _ (by show _ ≤ H1.objs.size; walk_at "m na")⟩
    · have e := N4 p hp
      refine ⟨keep6 _ _ e.2.1 ?_ e.1, e.2⟩
      rcases List.mem_append.mp hp with hp | hp
      · exact (hq4 p hp).1
      · have q9 : @LT.lt Nat _ p.1 h₁.objs.size := hbb p hp; walk_at "m na"
  exact codeAny_compStart_dict (loop _ rfl) ((Walks.list (prog := prog) (w := w) (A := A) hh h₁.objs.size ax (by walk_at "m na") vs.toArray).self 0 _ _ _ st3 (loop _ rfl))
end

theorem offP24a : True := by
  w_top off
  trivial
noncomputable def toldOf (J : Int) (z : Str) : List Int := if z = Str.ofString "loose" then toldN J else if z = Str.ofString "fixed" then toldS J else if z = Str.ofString "coptic" then cop J else if z = Str.ofString "fourth" then toldF 0 J
  else if z = Str.ofString "romme" then toldF 1 J else if z = Str.ofString "madler" then toldF 2 J else toldM J
theorem door_told (w : World) (y mo d : Int) (t u v x : Tok) (z : Str) (news : List (Addr × Obj)) (hz : z ∈ doorsL.take 7) (h0 : Near mo d) (h : Fits y mo d) : SaysT w 273 6 [.str z x, .int y t, .int mo u, .int d v] news (RetL (toldOf (jdF y mo d) z) news) := by
  have e : toldOf (jdF y mo d) z = toldOf (jdF y mo d) z := rfl
  simp only [doorsL, List.take_succ_cons, List.take_zero, List.mem_cons, List.not_mem_nil, or_false] at hz
  rcases hz with rfl | rfl | rfl | rfl | rfl | rfl | rfl
  · exact door_loose w y mo d t u v x news h0 h
  · exact door_fixed w y mo d t u v x news h0 h
  · exact door_coptic w y mo d t u v x news h0 h
  · exact door_fourth w y mo d t u v x news h0 h
  · exact door_romme w y mo d t u v x news h0 h
  · exact door_madler w y mo d t u v x news h0 h
  · exact door_long w y mo d t u v x news h0 h
theorem doors_vs {vs : List Value} (h : StrsAre vs doorsL) : ∃ a b c d e f g i j, vs = [.str (Str.ofString "loose") a, .str (Str.ofString "fixed") b, .str (Str.ofString "coptic") c, .str (Str.ofString "fourth") d, .str (Str.ofString "romme") e, .str (Str.ofString "madler") f, .str (Str.ofString "long count") g, .str (Str.ofString "hebrew") i, .str (Str.ofString "positivist") j] := by
  unfold doorsL at h
  rcases h with _ | ⟨_, a, _ | ⟨_, b, _ | ⟨_, c, _ | ⟨_, d, _ | ⟨_, e, _ | ⟨_, f, _ | ⟨_, g, _ | ⟨_, i, _ | ⟨_, j, _ | _⟩⟩⟩⟩⟩⟩⟩⟩⟩
  exact ⟨a, b, c, d, e, f, g, i, j, rfl⟩
theorem ToldT.inv' {f : Str → List Int} {ys : List Str} {kvs : List (Str × Value)} {T : List (Addr × Obj)} (h : ToldT f ys kvs T) : ∀ l z, ys = l ++ [z] → ∃ kvs' T' D vs, kvs = stored kvs' z (.ref D) ∧ T = (D, tupOf vs) :: T' ∧ IntsAre vs (f z) ∧ ToldT f l kvs' T' := by
  intro l z e
  cases h with
  | nil => cases l <;> cases e
  | snoc h i =>
    obtain ⟨rfl, e2⟩ := List.append_inj' e rfl
    cases e2
    exact ⟨_, _, _, _, rfl, rfl, i, h⟩
theorem ToldT.nil' {f : Str → List Int} {kvs : List (Str × Value)} {T : List (Addr × Obj)} (h : ToldT f [] kvs T) : kvs = [] ∧ T = [] := by
  generalize e : ([] : List Str) = ys at h
  cases h with
  | nil => exact ⟨rfl, rfl⟩
  | @snoc l kvs T z D vs h i => cases l <;> cases e
noncomputable abbrev told7 (D1 D2 D3 D4 D5 D6 D7 : Addr) : List (Str × Value) := [(Str.ofString "loose", .ref D1), (Str.ofString "fixed", .ref D2), (Str.ofString "coptic", .ref D3), (Str.ofString "fourth", .ref D4), (Str.ofString "romme", .ref D5), (Str.ofString "madler", .ref D6), (Str.ofString "long count", .ref D7)]
theorem told_parts {J : Int} {kvs : List (Str × Value)} {T : List (Addr × Obj)} (h : ToldT (toldOf J) (doorsL.take 7) kvs T) : ∃ D1 D2 D3 D4 D5 D6 D7 v1 v2 v3 v4 v5 v6 v7, kvs = told7 D1 D2 D3 D4 D5 D6 D7 ∧
    T = [(D7, tupOf v7), (D6, tupOf v6), (D5, tupOf v5), (D4, tupOf v4), (D3, tupOf v3), (D2, tupOf v2), (D1, tupOf v1)] ∧
    IntsAre v1 (toldN J) ∧ IntsAre v2 (toldS J) ∧ IntsAre v3 (cop J) ∧ IntsAre v4 (toldF 0 J) ∧ IntsAre v5 (toldF 1 J) ∧ IntsAre v6 (toldF 2 J) ∧ IntsAre v7 (toldM J) := by
  obtain ⟨k7, T7, D7, v7, rfl, rfl, i7, h⟩ := ToldT.inv' h [Str.ofString "loose", Str.ofString "fixed", Str.ofString "coptic", Str.ofString "fourth", Str.ofString "romme", Str.ofString "madler"] (Str.ofString "long count") rfl
  obtain ⟨k6, T6, D6, v6, rfl, rfl, i6, h⟩ := ToldT.inv' h [Str.ofString "loose", Str.ofString "fixed", Str.ofString "coptic", Str.ofString "fourth", Str.ofString "romme"] (Str.ofString "madler") rfl
  obtain ⟨k5, T5, D5, v5, rfl, rfl, i5, h⟩ := ToldT.inv' h [Str.ofString "loose", Str.ofString "fixed", Str.ofString "coptic", Str.ofString "fourth"] (Str.ofString "romme") rfl
  obtain ⟨k4, T4, D4, v4, rfl, rfl, i4, h⟩ := ToldT.inv' h [Str.ofString "loose", Str.ofString "fixed", Str.ofString "coptic"] (Str.ofString "fourth") rfl
  obtain ⟨k3, T3, D3, v3, rfl, rfl, i3, h⟩ := ToldT.inv' h [Str.ofString "loose", Str.ofString "fixed"] (Str.ofString "coptic") rfl
  obtain ⟨k2, T2, D2, v2, rfl, rfl, i2, h⟩ := ToldT.inv' h [Str.ofString "loose"] (Str.ofString "fixed") rfl
  obtain ⟨k1, T1, D1, v1, rfl, rfl, i1, h⟩ := ToldT.inv' h [] (Str.ofString "loose") rfl
  obtain ⟨rfl, rfl⟩ := h.nil'
  exact ⟨D1, D2, D3, D4, D5, D6, D7, v1, v2, v3, v4, v5, v6, v7, by kernel_rfl!, rfl, i1, i2, i3, i4, i5, i6, i7⟩

theorem offP24 : True := by
  w_top off
  trivial
local macro_rules | `(tactic| walk_at "eval Name") => `(tactic| (k_here; (with_reducible show wpAny _ _ (eval (Expr.Name _ _) (compEnvC _ _ _ _)) _ _ _); first | (refine wpAny_Name (wpAny_loadName_local rfl (by kernel_rfl!) (by assumption) (by assumption) ?_) (by decide)) | (refine' lcf_cell (by assumption) ?c ?m ?d ?_ ?a ?b; (case a => rfl); (case b => rfl); (case c => rfl); (case m => assumption); (case d => assumption)) | (refine' lcf_free (by assumption) ?c ?m ?d ?_ ?a ?b; (case a => rfl); (case b => rfl); (case c => rfl); (case m => assumption); (case d => assumption))))
inductive seg3_M (w : World) (L : Nat) (I : Nat) (DN : Nat) (it : Obj) (on : Obj) (o1 : Obj) (o2 : Obj) (o3 : Obj) (y : Int) (mo : Int) (d : Int) (m' : Str → Option Value) (news' : List (Addr × Obj)) : Prop where
  | mk (D oD kvs T' : _) (q0z : news' = (D, oD) :: (T' ++ [(I, it), (DN, on), (L + 1 + 1 + 1, o3), (L + 1 + 1, o2), (L + 1, o1)])) (q1z : m' (Str.ofString "numbers") = some (.ref DN)) (q2z : m' (Str.ofString "told") = some (.ref D)) (q3z : ToldT (toldOf (jdF y mo d)) (doorsL.take 7) kvs T') (q4z : oD.IsDictOf (PySem.strKind ProgX w) kvs) : seg3_M w L I DN it on o1 o2 o3 y mo d m' news'
theorem seg3 (w : World) (mean : ExcName → Option Value) (mg mb : Str → Option Value) (dp un : Nat) (gd : Option (List Code)) (a : Addr) (ccd : Value) (A₀ : Around) (h₀ : Heap) (L : Nat) (bd : List Stmt) (sc : Scope) (hbd : turnBody w = bd) (hsc : lawScope w = sc) (m : Str → Option Value) (s : Shared)
    (I DN : Nat) (it on o1 o2 o3 : Obj) (y mo d : Int) (t1 t2 t3 : Tok)
    (B : Below A₀ h₀ [] h₀) (X : (hd.heap_39 w.params).In h₀) (T : Top hd.view_39 LooseX mean mg mb h₀) (hd' : dp + 20 < recursionLimit) (hu : un + 8 * 20 < cLine)
    (F : Fr h₀ L s.heap m) (N : News h₀ L s.heap [(I, it), (DN, on), (L + 1 + 1 + 1, o3), (L + 1 + 1, o2), (L + 1, o1)]) (d1 : o1.data = .cell (some (.int y t1))) (d2 : o2.data = .cell (some (.int mo t2))) (d3 : o3.data = .cell (some (.int d t3)))
    (l1 : L + 1 + 1 + 1 < DN) (l2 : DN < I) (hn : m (Str.ofString "numbers") = some (.ref DN)) (h1 : Near mo d) (h2 : Fits y mo d) :
    wpAny (model ProgX w) (topS sc dp un gd L a ccd) (execs ((bd.drop 8).take 1) (envS sc L a ccd)) (Go (MidN h₀ L (seg3_M w L I DN it on o1 o2 o3 y mo d) s)) (fun _ _ => False) s := by
  refine opq fun Q hQ => ?_
  obtain rfl : bd = turnLit := hbd.symm.trans (turn_is w)
  obtain rfl : sc = scopeLit := hsc.symm.trans (scope_lit w)
  clear hbd hsc
  dsimp only [envS, topS, turnLit, scopeLit]
  walk_at "m lists"
  obtain ⟨mF, F2, hnF⟩ : ∃ mF, Fr h₀ L s.heap mF ∧ mF (Str.ofString "numbers") = some (.ref DN) := ⟨m, F, hn⟩
  clear F hn
  walk_at "execs cons"
  refine' told_assign (m := mF) (h₀ := h₀) (L := L) (f := toldOf (jdF y mo d)) (ys := doorsL.take 7) ?hh ?hsw ?hL ?hclos ?hcell ?hkind ?hnames ?hx ?hy ?hp ?hsz ?h ?hs
  case hsw => with_unfolding_all rfl
  case hL => with_unfolding_all rfl
  case hh => with_unfolding_all rfl
  case hclos => with_unfolding_all rfl
  case hcell => decide
  case hkind => rfl
  case hnames => decide
  case hx => with_unfolding_all rfl
  case hy => with_unfolding_all rfl
  case hp => with_unfolding_all rfl
  case hs => intro _; with_unfolding_all rfl
  case hsz => decide
  case h =>
  k_steps
  rename StrsAre _ _ => hv
  obtain ⟨a1, a2, a3, a4, a5, a6, a7, a8, a9, rfl⟩ := doors_vs hv
  rename News _ _ _ _ => nD
  have hz7 : StrsAre [.str (Str.ofString "loose") a1, .str (Str.ofString "fixed") a2, .str (Str.ofString "coptic") a3, .str (Str.ofString "fourth") a4, .str (Str.ofString "romme") a5, .str (Str.ofString "madler") a6, .str (Str.ofString "long count") a7] (doorsL.take 7) := .cons _ _ (.cons _ _ (.cons _ _ (.cons _ _ (.cons _ _ (.cons _ _ (.cons _ _ .nil))))))
  generalize hzs : [Value.str (Str.ofString "loose") a1, .str (Str.ofString "fixed") a2, .str (Str.ofString "coptic") a3, .str (Str.ofString "fourth") a4, .str (Str.ofString "romme") a5, .str (Str.ofString "madler") a6, .str (Str.ofString "long count") a7] = zs at hz7
  refine' kmk_slice_lit (s := { s with heap := _, toks := _ }) (zs := zs) (by k_asm) nD (by kmk_list) (by first | exact .none | exact .int _ _) (by first | exact .none | exact .int _ _) (by subst hzs; rfl) ?z1 (by with_unfolding_all rfl) (by with_unfolding_all (intro _; rfl)) (by show (9 : Nat) ≤ sizeLine; decide)
  intro D5 h5 F5 N5 l5
  refine' ⟨D5, zs, W.listOf zs.toArray 0, [(D5, W.listOf zs.toArray 0), (I, it), (DN, on), (L + 1 + 1 + 1, o3), (L + 1 + 1, o2), (L + 1, o1)], h5, _, rfl, rfl, N5.isList (List.Mem.head _), hz7, List.Mem.head _, F5, N5.perm ?_, ?_, ?_, ?_⟩
  · intro p hp
    rcases List.mem_cons.mp hp with rfl | hp
    · exact .head _
    · exact .tail _ (.tail _ hp)
  · intro C z t H tk mC' E' hn hm
    exact wpAny_Name (wpAny_loadName_local rfl (by kernel_rfl!) hn hm ⟨rfl, rfl⟩) (by decide)
  · intro C D I' z t H tk mC' oC oD oI T' E' hz FH NH hn hm
    refine wpAny_Call_NameR ?_
    refine Name_function_global rfl (by kernel_rfl!) (loadGlobal_global (T.g.keeps FH.keep) (mg_of X T.g (v := .ref 273) (by kernel_rfl!)) ?_) (by decide)
    have e1 : (L + 1, o1) ∈ (C, oC) :: (D, oD) :: (I', oI) :: (T' ++ [(D5, W.listOf zs.toArray 0), (I, it), (DN, on), (L + 1 + 1 + 1, o3), (L + 1 + 1, o2), (L + 1, o1)]) := by
      refine .tail _ (.tail _ (.tail _ (List.mem_append_right _ ?_)))
      walk_at "m mem"
    have e2 : (L + 1 + 1, o2) ∈ (C, oC) :: (D, oD) :: (I', oI) :: (T' ++ [(D5, W.listOf zs.toArray 0), (I, it), (DN, on), (L + 1 + 1 + 1, o3), (L + 1 + 1, o2), (L + 1, o1)]) := by
      refine .tail _ (.tail _ (.tail _ (List.mem_append_right _ ?_)))
      walk_at "m mem"
    have e3 : (L + 1 + 1 + 1, o3) ∈ (C, oC) :: (D, oD) :: (I', oI) :: (T' ++ [(D5, W.listOf zs.toArray 0), (I, it), (DN, on), (L + 1 + 1 + 1, o3), (L + 1 + 1, o2), (L + 1, o1)]) := by
      refine .tail _ (.tail _ (.tail _ (List.mem_append_right _ ?_)))
      walk_at "m mem"
    clear N5 F5 nD
    k_steps
    refine use_saysT (door_told w y mo d _ _ _ _ z _ hz h1 h2) B FH X NH T rfl (by omega) (by omega) ?_
    refine RetL.of ?_
    intro vs9 D9 h9 tk9 i9 F9 N9 l9
    exact ⟨D9, vs9, h9, tk9, rfl, rfl, i9, F9, N9, l9⟩
  · intro D oD H tk kvs T' hT hD FH NH
    refine wpAny_execs_nil ?_
    refine hQ _ _ ⟨rfl, MidN.intro FH NH ((D, oD) :: (T' ++ [(I, it), (DN, on), (L + 1 + 1 + 1, o3), (L + 1 + 1, o2), (L + 1, o1)])) ?_ ⟨D, oD, kvs, T', rfl, (if_neg (by decide +kernel)).trans hnF, if_pos rfl, hT, hD⟩⟩
    intro p hp
    rcases List.mem_cons.mp hp with rfl | hp
    · exact .head _
    · rcases List.mem_append.mp hp with hp | hp
      · exact .tail _ (List.mem_append_left _ hp)
      · exact .tail _ (List.mem_append_right _ (.tail _ hp))

theorem offP26 : True := by
  w_top off
  trivial
/-! the loop over a dict's keys, with a claim that stands from turn to turn -/
theorem toks_inv {prog : Program} {w : World} {A : Around} {E : Value → Shared → Prop} {s : Shared} {env : Env} {h₀ : Heap} {target : PySem.Expr} {body : List Stmt} {Q : Flow → Shared → Prop} {I : Addr} {lp : Addr × Obj} {news : List (Addr × Obj)} (P : (Str → Option Value) → Prop)
    (hlp : lp ∈ news) (hI : ∀ p ∈ news, p.1 < I) : ∀ (ys : List Str) (m : Str → Option Value), P m →
    (∀ z ∈ ys, ∀ (t : Tok) (it : Obj) (h : Heap) (tk : Nat) (m : Str → Option Value), P m → Fr h₀ env.locals h m → News h₀ env.locals h ((I, it) :: news) →
      ∀ Q' : Flow → Shared → Prop, (∀ f s', LoopBack h₀ env.locals I it news P { s with heap := h, toks := tk } f s' → Q' f s') → wpAny (model prog w) A (assign target env (.str z t)) (fun _ s₂ => wpAny (model prog w) A (execs body env) Q' E s₂) E { s with heap := h, toks := tk }) →
    (∀ m h tk, P m → Fr h₀ env.locals h m → News h₀ env.locals h news → Q .next { s with heap := h, toks := tk }) →
    ItemsRest prog w A E h₀ env target body Q s [(I, "dict_keyiterator")] [lp] (ys.map fun z => Itm.tok fun t => .str z t) m news
  | [], m, hP, _, done => ItemsRest.zero fun h tk F N => done m h tk hP F N
  | z :: r, m, hP, turn, done => ItemsRest.tok fun t h tk F => AllObj.cons fun it _ => AllObj.nil fun N => by
    refine wpAny_mono (turn z (.head _) t it h tk m hP F N _ fun _ _ x => x) (fun _ s₂ hb => wpAny_mono hb (fun f s₃ hb => ?_) fun _ _ e => e) fun _ _ e => e
    obtain ⟨hf, h', tk', m', e, F', N', hP'⟩ := hb
    have fin : UnrEndW h₀ env.locals { s with heap := h, toks := tk } [(I, it)] (fun m' n' => SubL [lp] n' ∧ ItemsRest prog w A E h₀ env target body Q s [(I, "dict_keyiterator")] [lp] (r.map fun z => Itm.tok fun t => .str z t) m' n') s₃ :=
      ⟨h', tk', m', news, e, F', N', (fun p hp q hq => by rw [List.mem_singleton.mp hq]; exact Nat.ne_of_lt (hI p hp)), ⟨hlp, trivial⟩, toks_inv P hlp hI r m' hP' (fun v hv => turn v (.tail _ hv)) done⟩
    rcases hf with rfl | rfl <;> exact fin

theorem offP28 : True := by
  w_top off
  trivial
/-! a turn put together of its pieces -/
theorem seg_cut {M : Model} {A : Around} {env : Env} {Q : Flow → Shared → Prop} {E : Value → Shared → Prop} {s : Shared} {l : List Stmt} (k n : Nat) (Mid : Shared → Prop)
    (h1 : wpAny M A (execs ((l.drop k).take n) env) (Go Mid) E s) (h2 : ∀ s', Mid s' → wpAny M A (execs (l.drop (k + n)) env) Q E s') : wpAny M A (execs (l.drop k) env) Q E s := by
  refine execs_cut n Mid (wpAny_mono h1 (fun f s' hf => ?_) fun _ _ e => e) fun s' hm => ?_
  · obtain ⟨rfl, hm⟩ := hf
    exact hm
  · rw [List.drop_drop]; exact h2 s' hm
theorem seg_end {M : Model} {A : Around} {env : Env} {E : Value → Shared → Prop} {s : Shared} {l : List Stmt} (k n : Nat) (hn : l.length ≤ k + n) (Mid : Shared → Prop)
    (h1 : wpAny M A (execs ((l.drop k).take n) env) (Go Mid) E s) : wpAny M A (execs (l.drop k) env) (Go Mid) E s := by
  rw [List.take_of_length_le (by rw [List.length_drop]; omega)] at h1
  exact h1

theorem offP29 : True := by
  w_top off
  trivial
local macro_rules | `(tactic| walk_at "compareOp Eq ref ref") => `(tactic| (k_here; (with_reducible show wpAny _ _ (compareOp CmpOp.Eq (Value.ref _) (Value.ref _)) _ _ _); (refine' eq_tups (by assumption) ?m1 ?m2 ?i1 ?i2 ?hu ?e ?_); (case m1 => walk_at "m mem"); (case m2 => walk_at "m mem"); (case i1 => first | assumption | exact IntsAre.nil); (case i2 => first | assumption | exact IntsAre.nil); (case hu => ktr_units); (case e => first | assumption | exact List.cons_ne_nil _ _)))
inductive seg4_M (L : Nat) (I : Nat) (DN : Nat) (it : Obj) (on : Obj) (o1 : Obj) (o2 : Obj) (o3 : Obj) (D : Nat) (D1 : Nat) (D2 : Nat) (D3 : Nat) (D4 : Nat) (D5 : Nat) (D6 : Nat) (D7 : Nat) (oD : Obj) (v1 : List Value) (v2 : List Value) (v3 : List Value) (v4 : List Value) (v5 : List Value) (v6 : List Value) (v7 : List Value) (J : Int) (m' : Str → Option Value) (news' : List (Addr × Obj)) : Prop where
  | mk  (q0z : news' = [(D, oD), (D7, tupOf v7), (D6, tupOf v6), (D5, tupOf v5), (D4, tupOf v4), (D3, tupOf v3), (D2, tupOf v2), (D1, tupOf v1), (I, it), (DN, on), (L + 1 + 1 + 1, o3), (L + 1 + 1, o2), (L + 1, o1)]) (q1z : m' (Str.ofString "numbers") = some (.ref DN)) (q2z : m' (Str.ofString "told") = some (.ref D)) (q3z : HasI m' (Str.ofString "own") (copY J)) (q4z : HasI m' (Str.ofString "place") (copD J + 1)) (q5z : HasI m' (Str.ofString "count") (J - 1922502)) : seg4_M L I DN it on o1 o2 o3 D D1 D2 D3 D4 D5 D6 D7 oD v1 v2 v3 v4 v5 v6 v7 J m' news'
theorem seg4 (w : World) (mean : ExcName → Option Value) (mg mb : Str → Option Value) (dp un : Nat) (gd : Option (List Code)) (a : Addr) (ccd : Value) (A₀ : Around) (h₀ : Heap) (L : Nat) (bd : List Stmt) (sc : Scope) (hbd : turnBody w = bd) (hsc : lawScope w = sc) (m : Str → Option Value) (s : Shared) (I DN : Nat) (it on o1 o2 o3 : Obj) (D D1 D2 D3 D4 D5 D6 D7 : Nat) (oD : Obj) (v1 v2 v3 v4 v5 v6 v7 : List Value) (J : Int) (B : Below A₀ h₀ [] h₀) (X : (hd.heap_39 w.params).In h₀) (T : Top hd.view_39 LooseX mean mg mb h₀) (hd' : dp + 20 < recursionLimit) (hu : un + 8 * 20 < cLine) (F : Fr h₀ L s.heap m) (N : News h₀ L s.heap [(D, oD), (D7, tupOf v7), (D6, tupOf v6), (D5, tupOf v5), (D4, tupOf v4), (D3, tupOf v3), (D2, tupOf v2), (D1, tupOf v1), (I, it), (DN, on), (L + 1 + 1 + 1, o3), (L + 1 + 1, o2), (L + 1, o1)]) (hD : oD.IsDictOf (PySem.strKind ProgX w) [(Str.ofString "loose", .ref D1), (Str.ofString "fixed", .ref D2), (Str.ofString "coptic", .ref D3), (Str.ofString "fourth", .ref D4), (Str.ofString "romme", .ref D5), (Str.ofString "madler", .ref D6), (Str.ofString "long count", .ref D7)]) (i3 : IntsAre v3 (cop J)) (hn : m (Str.ofString "numbers") = some (.ref DN)) (ht : m (Str.ofString "told") = some (.ref D)) :
    wpAny (model ProgX w) (topS sc dp un gd L a ccd) (execs ((bd.drop 9).take 5) (envS sc L a ccd)) (Go (MidN h₀ L (seg4_M L I DN it on o1 o2 o3 D D1 D2 D3 D4 D5 D6 D7 oD v1 v2 v3 v4 v5 v6 v7 J) s)) (fun _ _ => False) s := by
  refine opq fun Q hQ => ?_; obtain rfl : bd = turnLit := hbd.symm.trans (turn_is w); obtain rfl : sc = scopeLit := hsc.symm.trans (scope_lit w); clear hbd hsc; dsimp only [envS, topS, turnLit, scopeLit]; walk_at "m lists"
  have F2 := knows5 F hn ht hn hn hn
  clear F
  obtain ⟨t1, t2, t3, rfl⟩ := ints3 (show IntsAre v3 [copY J, (copD J).fdiv 30 + 1, copD J - ((copD J).fdiv 30 + 1 - 1) * 30 + 1] from i3)
  obtain ⟨r1, r2, r3, r4, r5⟩ := range_ok J
  have ep := place_eq (copD J)
  have ec := count_eq J
  have r6 : 30 * ((copD J).fdiv 30 + 1 - 1) + (copD J - ((copD J).fdiv 30 + 1 - 1) * 30 + 1) ≤ if (copY J).fmod 4 = 3 then 366 else 365 := by rw [ep]; exact r5
  k_steps
  · refine hQ _ _ ⟨rfl, MidN.intro (by assumption) (by assumption) _ (fun _ h => List.mem_cons_of_mem _ h) ⟨rfl, rfl, rfl, HasI.of rfl rfl, HasI.of rfl ep, HasI.of rfl ?_⟩⟩
    rw [ep]; exact ec
  all_goals contradiction

local macro_rules | `(tactic| walk_at "m backL") => `(tactic| (refine RetL.of ?_; intro vs9 D9 h9 tk9 i9 F9 N9 l9; (try k_lt l9)))
local macro_rules | `(tactic| walk_at "m backL2") => `(tactic| (refine RetL.of2 ?_; intro t9 u9 D9 h9 tk9 F9 N9 l9; (try k_lt l9)))
local macro_rules | `(tactic| walk_at "m subs") => `(tactic| (intro p9 hp9; repeat (first | (focus ((repeat (first | with_reducible exact hp9 | with_reducible refine List.mem_cons_of_mem _ ?_)); done)) | (refine Or.elim (List.mem_cons.mp hp9) (fun ep9 => ?_) (fun hp9 => ?_); (focus (subst ep9; walk_at "m mem"; done))) | (exact absurd hp9 List.not_mem_nil))))
local macro_rules | `(tactic| walk_at "m pj") => `(tactic| first | with_reducible assumption | exact pj0 (by with_reducible assumption) | exact pj1 (by with_reducible assumption) | exact pj2 (by with_reducible assumption) | exact pj3 (by with_reducible assumption) | exact pj4 (by with_reducible assumption) | exact pj5 (by with_reducible assumption) | exact pj6 (by with_reducible assumption) | exact pj7 (by with_reducible assumption) | exact pj8 (by with_reducible assumption) | exact pj9 (by with_reducible assumption) | exact pj10 (by with_reducible assumption) | exact pj11 (by with_reducible assumption) | exact pj12 (by with_reducible assumption) | exact pj13 (by with_reducible assumption) | exact pj14 (by with_reducible assumption) | exact pj15 (by with_reducible assumption) | exact pj16 (by with_reducible assumption) | exact pj17 (by with_reducible assumption) | exact pj18 (by with_reducible assumption) | omega)
theorem offP30 : True := by
  w_top off
  trivial
theorem knows8 {g h : Heap} {L : Addr} {m : Str → Option Value} {x1 x2 x3 x4 x5 x6 x7 x8 : Str} {v1 v2 v3 v4 v5 v6 v7 v8 : Value} (F : Fr g L h m) (e1 : m x1 = some v1) (e2 : m x2 = some v2) (e3 : m x3 = some v3) (e4 : m x4 = some v4) (e5 : m x5 = some v5) (e6 : m x6 = some v6) (e7 : m x7 = some v7) (e8 : m x8 = some v8) :
    Fr g L h (fun y => if y = x1 then some v1 else if y = x2 then some v2 else if y = x3 then some v3 else if y = x4 then some v4 else if y = x5 then some v5 else if y = x6 then some v6 else if y = x7 then some v7 else if y = x8 then some v8 else m y) := by
  have : (fun y => if y = x1 then some v1 else if y = x2 then some v2 else if y = x3 then some v3 else if y = x4 then some v4 else if y = x5 then some v5 else if y = x6 then some v6 else if y = x7 then some v7 else if y = x8 then some v8 else m y) = m := by
    funext y
    (repeat' split) <;> simp_all
  rw [this]; exact F
theorem dueN_is {c : Int} {u : List Value} {l : List Int} (h : IntsAre u l) (e : dueN c = l) : IntsAre u (dueN c) := e ▸ h
theorem dueS_is {f x : Int} {u : List Value} {l : List Int} (h : IntsAre u l) (e : dueS f x = l) : IntsAre u (dueS f x) := e ▸ h
theorem dueF_is {f : Int} {k : List Int} {u : List Value} {l : List Int} (h : IntsAre u l) (e : dueF f k = l) : IntsAre u (dueF f k) := e ▸ h
theorem dueM_is {f : Int} {u : List Value} {l : List Int} (h : IntsAre u l) (e : dueM f = l) : IntsAre u (dueM f) := e ▸ h
/-- the order of the addresses in the ledger -/
noncomputable abbrev Lt19 (U U1 U2 U3 U4 U5 U6 D D7 D6 D5 D4 D3 D2 D1 I DN L : Nat) : Prop := U < U1 ∧ U < U2 ∧ U < U3 ∧ U < U4 ∧ U < U5 ∧ U < U6 ∧ D < U ∧ D7 < U ∧ D6 < U ∧ D5 < U ∧ D4 < U ∧ D3 < U ∧ D2 < U ∧ D1 < U ∧ I < U ∧ DN < U ∧ L + 1 + 1 + 1 < U ∧ L + 1 + 1 < U ∧ L + 1 < U
/-- the due dict as it is made -/
inductive seg5a_M (w : World) (L : Nat) (I : Nat) (DN : Nat) (it : Obj) (on : Obj) (o1 : Obj) (o2 : Obj) (o3 : Obj) (D : Nat) (D1 : Nat) (D2 : Nat) (D3 : Nat) (D4 : Nat) (D5 : Nat) (D6 : Nat) (D7 : Nat) (oD : Obj) (v1 : List Value) (v2 : List Value) (v3 : List Value) (v4 : List Value) (v5 : List Value) (v6 : List Value) (v7 : List Value) (own : Int) (pl : Int) (ct : Int) (to : Tok) (tp : Tok) (tc : Tok) (m' : Str → Option Value) (news' : List (Addr × Obj)) : Prop where
  | mk (U U1 U2 U3 U4 U5 U6 : Nat) (oU : Obj) (u1 u2 u3 u4 u5 u6 : List Value) (q0z : news' = [(U, oU), (U1, tupOf u1), (U2, tupOf u2), (U3, tupOf u3), (U4, tupOf u4), (U5, tupOf u5), (U6, tupOf u6), (D, oD), (D7, tupOf v7), (D6, tupOf v6), (D5, tupOf v5), (D4, tupOf v4), (D3, tupOf v3), (D2, tupOf v2), (D1, tupOf v1), (I, it), (DN, on), (L + 1 + 1 + 1, o3), (L + 1 + 1, o2), (L + 1, o1)]) (q1z : oU.IsDictOf (PySem.strKind ProgX w) [(Str.ofString "loose", .ref U1), (Str.ofString "fixed", .ref U2), (Str.ofString "fourth", .ref U3), (Str.ofString "romme", .ref U4), (Str.ofString "madler", .ref U5), (Str.ofString "long count", .ref U6)]) (q2z : (Lt19 U U1 U2 U3 U4 U5 U6 D D7 D6 D5 D4 D3 D2 D1 I DN L)) (q3z : IntsAre u1 (dueN ct)) (q4z : u2 = []) (q5z : u3 = []) (q6z : u4 = []) (q7z : u5 = []) (q8z : u6 = []) (q9z : m' (Str.ofString "numbers") = some (.ref DN)) (q10z : m' (Str.ofString "told") = some (.ref D)) (q11z : m' (Str.ofString "due") = some (.ref U)) (q12z : m' (Str.ofString "own") = some (.int own to)) (q13z : m' (Str.ofString "place") = some (.int pl tp)) (q14z : m' (Str.ofString "count") = some (.int ct tc)) : seg5a_M w L I DN it on o1 o2 o3 D D1 D2 D3 D4 D5 D6 D7 oD v1 v2 v3 v4 v5 v6 v7 own pl ct to tp tc m' news'
theorem seg5a (w : World) (mean : ExcName → Option Value) (mg mb : Str → Option Value) (dp un : Nat) (gd : Option (List Code)) (a : Addr) (ccd : Value) (A₀ : Around) (h₀ : Heap) (L : Nat) (bd : List Stmt) (sc : Scope) (hbd : turnBody w = bd) (hsc : lawScope w = sc) (m : Str → Option Value) (s : Shared) (I DN : Nat) (it on o1 o2 o3 : Obj) (D D1 D2 D3 D4 D5 D6 D7 : Nat) (oD : Obj) (v1 v2 v3 v4 v5 v6 v7 : List Value) (own pl ct : Int) (to tp tc : Tok) (B : Below A₀ h₀ [] h₀) (X : (hd.heap_39 w.params).In h₀) (T : Top hd.view_39 LooseX mean mg mb h₀) (hd' : dp + 20 < recursionLimit) (hu : un + 8 * 20 < cLine) (F : Fr h₀ L s.heap m) (N : News h₀ L s.heap [(D, oD), (D7, tupOf v7), (D6, tupOf v6), (D5, tupOf v5), (D4, tupOf v4), (D3, tupOf v3), (D2, tupOf v2), (D1, tupOf v1), (I, it), (DN, on), (L + 1 + 1 + 1, o3), (L + 1 + 1, o2), (L + 1, o1)]) (hn : m (Str.ofString "numbers") = some (.ref DN)) (ht : m (Str.ofString "told") = some (.ref D)) (ho : m (Str.ofString "own") = some (.int own to)) (hp : m (Str.ofString "place") = some (.int pl tp)) (hc : m (Str.ofString "count") = some (.int ct tc)) :
    wpAny (model ProgX w) (topS sc dp un gd L a ccd) (execs ((bd.drop 14).take 2) (envS sc L a ccd)) (Go (MidN h₀ L (seg5a_M w L I DN it on o1 o2 o3 D D1 D2 D3 D4 D5 D6 D7 oD v1 v2 v3 v4 v5 v6 v7 own pl ct to tp tc) s)) (fun _ _ => False) s := by
  refine opq fun Q hQ => ?_; obtain rfl : bd = turnLit := hbd.symm.trans (turn_is w); obtain rfl : sc = scopeLit := hsc.symm.trans (scope_lit w); clear hbd hsc; dsimp only [envS, topS, turnLit, scopeLit]; walk_at "m lists"
  have F2 := knows5 F hn ht ho hp hc
  clear F
  walk_at "execs cons"
  refine wpAny_Assign_Name ?_ ?_
  rotate_left
  · with_unfolding_all rfl
  refine' kdn_str ?q ?F ?N ?b ?a ?l ?e ?n ?_; (case q => rfl); (case F => k_asm); (case N => first | k_asm | exact News.nil); (case b => exact Top.nolimit (by k_asm)); (case a => rfl); (case l => rfl); (case e => exact List.cons_ne_nil _ _); (case n => exact Nat.le_of_ble_eq_true rfl)
  intro d' h' o' F' N' l1 lo' hd'
  (try k_lt l1)
  clear F2
  k_steps
  · refine hQ _ _ ⟨rfl, MidN.intro (by assumption) (by assumption) _ ?_ ⟨d', _, _, _, _, _, _, _, _, _, _, _, _, _, rfl, ‹Obj.IsDictOf _ _ _›, ?_, dueN_is ‹IntsAre _ _› (if_pos ‹_›), rfl, rfl, rfl, rfl, rfl, rfl, rfl, rfl, rfl, rfl, rfl⟩⟩
    · walk_at "m subs"
    · refine ⟨?_, ?_, ?_, ?_, ?_, ?_, ?_, ?_, ?_, ?_, ?_, ?_, ?_, ?_, ?_, ?_, ?_, ?_, ?_⟩ <;> (walk_at "m pj")
  · refine hQ _ _ ⟨rfl, MidN.intro (by assumption) (by assumption) _ ?_ ⟨d', _, _, _, _, _, _, _, [], _, _, _, _, _, rfl, ‹Obj.IsDictOf _ _ _›, ?_, dueN_is .nil (if_neg ‹_›), rfl, rfl, rfl, rfl, rfl, rfl, rfl, rfl, rfl, rfl, rfl⟩⟩
    · walk_at "m subs"
    · refine ⟨?_, ?_, ?_, ?_, ?_, ?_, ?_, ?_, ?_, ?_, ?_, ?_, ?_, ?_, ?_, ?_, ?_, ?_, ?_⟩ <;> (walk_at "m pj")

theorem offP31 : True := by
  w_top off
  trivial
inductive seg5b_M (w : World) (L : Nat) (I : Nat) (DN : Nat) (it : Obj) (on : Obj) (o1 : Obj) (o2 : Obj) (o3 : Obj) (D : Nat) (D1 : Nat) (D2 : Nat) (D3 : Nat) (D4 : Nat) (D5 : Nat) (D6 : Nat) (D7 : Nat) (oD : Obj) (v1 : List Value) (v2 : List Value) (v3 : List Value) (v4 : List Value) (v5 : List Value) (v6 : List Value) (v7 : List Value) (U : Nat) (U1 : Nat) (U3 : Nat) (U4 : Nat) (U5 : Nat) (U6 : Nat) (u1 : List Value) (u3 : List Value) (u4 : List Value) (u5 : List Value) (u6 : List Value) (own : Int) (pl : Int) (ct : Int) (to : Tok) (tp : Tok) (tc : Tok) (m' : Str → Option Value) (news' : List (Addr × Obj)) : Prop where
  | mk (U2 : Nat) (oU : Obj) (u2 : List Value) (q0z : news' = [(U, oU), (U1, tupOf u1), (U2, tupOf u2), (U3, tupOf u3), (U4, tupOf u4), (U5, tupOf u5), (U6, tupOf u6), (D, oD), (D7, tupOf v7), (D6, tupOf v6), (D5, tupOf v5), (D4, tupOf v4), (D3, tupOf v3), (D2, tupOf v2), (D1, tupOf v1), (I, it), (DN, on), (L + 1 + 1 + 1, o3), (L + 1 + 1, o2), (L + 1, o1)]) (q1z : oU.IsDictOf (PySem.strKind ProgX w) [(Str.ofString "loose", .ref U1), (Str.ofString "fixed", .ref U2), (Str.ofString "fourth", .ref U3), (Str.ofString "romme", .ref U4), (Str.ofString "madler", .ref U5), (Str.ofString "long count", .ref U6)]) (q2z : (Lt19 U U1 U2 U3 U4 U5 U6 D D7 D6 D5 D4 D3 D2 D1 I DN L)) (q3z : IntsAre u2 (dueS (movY own pl 347 - 267) (movP own pl 347))) (q4z : m' (Str.ofString "numbers") = some (.ref DN)) (q5z : m' (Str.ofString "told") = some (.ref D)) (q6z : m' (Str.ofString "due") = some (.ref U)) (q7z : m' (Str.ofString "own") = some (.int own to)) (q8z : m' (Str.ofString "place") = some (.int pl tp)) (q9z : m' (Str.ofString "count") = some (.int ct tc)) : seg5b_M w L I DN it on o1 o2 o3 D D1 D2 D3 D4 D5 D6 D7 oD v1 v2 v3 v4 v5 v6 v7 U U1 U3 U4 U5 U6 u1 u3 u4 u5 u6 own pl ct to tp tc m' news'
theorem seg5b (w : World) (mean : ExcName → Option Value) (mg mb : Str → Option Value) (dp un : Nat) (gd : Option (List Code)) (a : Addr) (ccd : Value) (A₀ : Around) (h₀ : Heap) (L : Nat) (bd : List Stmt) (sc : Scope) (hbd : turnBody w = bd) (hsc : lawScope w = sc) (m : Str → Option Value) (s : Shared) (I DN : Nat) (it on o1 o2 o3 : Obj) (D D1 D2 D3 D4 D5 D6 D7 : Nat) (oD : Obj) (v1 v2 v3 v4 v5 v6 v7 : List Value) (U U1 U2 U3 U4 U5 U6 : Nat) (oU : Obj) (u1 u2 u3 u4 u5 u6 : List Value) (own pl ct : Int) (to tp tc : Tok) (B : Below A₀ h₀ [] h₀) (X : (hd.heap_39 w.params).In h₀) (T : Top hd.view_39 LooseX mean mg mb h₀) (hd' : dp + 20 < recursionLimit) (hu : un + 8 * 20 < cLine) (F : Fr h₀ L s.heap m) (N : News h₀ L s.heap [(U, oU), (U1, tupOf u1), (U2, tupOf u2), (U3, tupOf u3), (U4, tupOf u4), (U5, tupOf u5), (U6, tupOf u6), (D, oD), (D7, tupOf v7), (D6, tupOf v6), (D5, tupOf v5), (D4, tupOf v4), (D3, tupOf v3), (D2, tupOf v2), (D1, tupOf v1), (I, it), (DN, on), (L + 1 + 1 + 1, o3), (L + 1 + 1, o2), (L + 1, o1)]) (hU : oU.IsDictOf (PySem.strKind ProgX w) [(Str.ofString "loose", .ref U1), (Str.ofString "fixed", .ref U2), (Str.ofString "fourth", .ref U3), (Str.ofString "romme", .ref U4), (Str.ofString "madler", .ref U5), (Str.ofString "long count", .ref U6)]) (lU : (Lt19 U U1 U2 U3 U4 U5 U6 D D7 D6 D5 D4 D3 D2 D1 I DN L)) (hn : m (Str.ofString "numbers") = some (.ref DN)) (ht : m (Str.ofString "told") = some (.ref D)) (hdu : m (Str.ofString "due") = some (.ref U)) (ho : m (Str.ofString "own") = some (.int own to)) (hp : m (Str.ofString "place") = some (.int pl tp)) (hc : m (Str.ofString "count") = some (.int ct tc)) (iu : u2 = []) :
    wpAny (model ProgX w) (topS sc dp un gd L a ccd) (execs ((bd.drop 16).take 3) (envS sc L a ccd)) (Go (MidN h₀ L (seg5b_M w L I DN it on o1 o2 o3 D D1 D2 D3 D4 D5 D6 D7 oD v1 v2 v3 v4 v5 v6 v7 U U1 U3 U4 U5 U6 u1 u3 u4 u5 u6 own pl ct to tp tc) s)) (fun _ _ => False) s := by
  refine opq fun Q hQ => ?_; obtain rfl : bd = turnLit := hbd.symm.trans (turn_is w); obtain rfl : sc = scopeLit := hsc.symm.trans (scope_lit w); clear hbd hsc; dsimp only [envS, topS, turnLit, scopeLit]; walk_at "m lists"
  dsimp only [Lt19] at lU
  have F2 := knows8 F hn ht hdu ho hp hc hc hc
  clear F
  subst iu
  k_steps
  · refine hQ _ _ ⟨rfl, MidN.intro (by assumption) (by assumption) _ ?_ ⟨_, _, _, rfl, ‹Obj.IsDictOf _ _ _›, ?_, dueS_is ‹IntsAre _ _› (if_pos ‹_›), rfl, rfl, rfl, rfl, rfl, rfl⟩⟩
    · walk_at "m subs"
    · refine ⟨?_, ?_, ?_, ?_, ?_, ?_, ?_, ?_, ?_, ?_, ?_, ?_, ?_, ?_, ?_, ?_, ?_, ?_, ?_⟩ <;> (walk_at "m pj")
  · refine hQ _ _ ⟨rfl, MidN.intro (by assumption) (by assumption) _ ?_ ⟨_, _, [], rfl, hU, ?_, dueS_is .nil (if_neg ‹_›), rfl, rfl, rfl, rfl, rfl, rfl⟩⟩
    · walk_at "m subs"
    · exact lU

theorem offP32 : True := by
  w_top off
  trivial
inductive seg5c_M (w : World) (L : Nat) (I : Nat) (DN : Nat) (it : Obj) (on : Obj) (o1 : Obj) (o2 : Obj) (o3 : Obj) (D : Nat) (D1 : Nat) (D2 : Nat) (D3 : Nat) (D4 : Nat) (D5 : Nat) (D6 : Nat) (D7 : Nat) (oD : Obj) (v1 : List Value) (v2 : List Value) (v3 : List Value) (v4 : List Value) (v5 : List Value) (v6 : List Value) (v7 : List Value) (U : Nat) (U1 : Nat) (U2 : Nat) (U6 : Nat) (u1 : List Value) (u2 : List Value) (u6 : List Value) (own : Int) (pl : Int) (ct : Int) (tc : Tok) (m' : Str → Option Value) (news' : List (Addr × Obj)) : Prop where
  | mk (U3 U4 U5 : Nat) (oU : Obj) (u3 u4 u5 : List Value) (q0z : news' = [(U, oU), (U1, tupOf u1), (U2, tupOf u2), (U3, tupOf u3), (U4, tupOf u4), (U5, tupOf u5), (U6, tupOf u6), (D, oD), (D7, tupOf v7), (D6, tupOf v6), (D5, tupOf v5), (D4, tupOf v4), (D3, tupOf v3), (D2, tupOf v2), (D1, tupOf v1), (I, it), (DN, on), (L + 1 + 1 + 1, o3), (L + 1 + 1, o2), (L + 1, o1)]) (q1z : oU.IsDictOf (PySem.strKind ProgX w) [(Str.ofString "loose", .ref U1), (Str.ofString "fixed", .ref U2), (Str.ofString "fourth", .ref U3), (Str.ofString "romme", .ref U4), (Str.ofString "madler", .ref U5), (Str.ofString "long count", .ref U6)]) (q2z : (Lt19 U U1 U2 U3 U4 U5 U6 D D7 D6 D5 D4 D3 D2 D1 I DN L)) (q3z : IntsAre u3 (dueF (movY own pl 13 - 1508) (dateF (movY own pl 13 - 1508) (movP own pl 13)))) (q4z : IntsAre u4 (dueF (movY own pl 13 - 1508) (aheadF (movY own pl 13 - 1508) (movP own pl 13) 16))) (q5z : IntsAre u5 (dueF (movY own pl 13 - 1508) (aheadF (movY own pl 13 - 1508) (movP own pl 13) 20))) (q6z : m' (Str.ofString "numbers") = some (.ref DN)) (q7z : m' (Str.ofString "told") = some (.ref D)) (q8z : m' (Str.ofString "due") = some (.ref U)) (q9z : HasI m' (Str.ofString "french") (movY own pl 13 - 1508)) (q10z : m' (Str.ofString "count") = some (.int ct tc)) : seg5c_M w L I DN it on o1 o2 o3 D D1 D2 D3 D4 D5 D6 D7 oD v1 v2 v3 v4 v5 v6 v7 U U1 U2 U6 u1 u2 u6 own pl ct tc m' news'
theorem seg5c (w : World) (mean : ExcName → Option Value) (mg mb : Str → Option Value) (dp un : Nat) (gd : Option (List Code)) (a : Addr) (ccd : Value) (A₀ : Around) (h₀ : Heap) (L : Nat) (bd : List Stmt) (sc : Scope) (hbd : turnBody w = bd) (hsc : lawScope w = sc) (m : Str → Option Value) (s : Shared) (I DN : Nat) (it on o1 o2 o3 : Obj) (D D1 D2 D3 D4 D5 D6 D7 : Nat) (oD : Obj) (v1 v2 v3 v4 v5 v6 v7 : List Value) (U U1 U2 U3 U4 U5 U6 : Nat) (oU : Obj) (u1 u2 u3 u4 u5 u6 : List Value) (own pl ct : Int) (to tp tc : Tok) (B : Below A₀ h₀ [] h₀) (X : (hd.heap_39 w.params).In h₀) (T : Top hd.view_39 LooseX mean mg mb h₀) (hd' : dp + 20 < recursionLimit) (hu : un + 8 * 20 < cLine) (F : Fr h₀ L s.heap m) (N : News h₀ L s.heap [(U, oU), (U1, tupOf u1), (U2, tupOf u2), (U3, tupOf u3), (U4, tupOf u4), (U5, tupOf u5), (U6, tupOf u6), (D, oD), (D7, tupOf v7), (D6, tupOf v6), (D5, tupOf v5), (D4, tupOf v4), (D3, tupOf v3), (D2, tupOf v2), (D1, tupOf v1), (I, it), (DN, on), (L + 1 + 1 + 1, o3), (L + 1 + 1, o2), (L + 1, o1)]) (hU : oU.IsDictOf (PySem.strKind ProgX w) [(Str.ofString "loose", .ref U1), (Str.ofString "fixed", .ref U2), (Str.ofString "fourth", .ref U3), (Str.ofString "romme", .ref U4), (Str.ofString "madler", .ref U5), (Str.ofString "long count", .ref U6)]) (lU : (Lt19 U U1 U2 U3 U4 U5 U6 D D7 D6 D5 D4 D3 D2 D1 I DN L)) (hn : m (Str.ofString "numbers") = some (.ref DN)) (ht : m (Str.ofString "told") = some (.ref D)) (hdu : m (Str.ofString "due") = some (.ref U)) (ho : m (Str.ofString "own") = some (.int own to)) (hp : m (Str.ofString "place") = some (.int pl tp)) (hc : m (Str.ofString "count") = some (.int ct tc)) (iu3 : u3 = []) (iu4 : u4 = []) (iu5 : u5 = []) :
    wpAny (model ProgX w) (topS sc dp un gd L a ccd) (execs ((bd.drop 19).take 3) (envS sc L a ccd)) (Go (MidN h₀ L (seg5c_M w L I DN it on o1 o2 o3 D D1 D2 D3 D4 D5 D6 D7 oD v1 v2 v3 v4 v5 v6 v7 U U1 U2 U6 u1 u2 u6 own pl ct tc) s)) (fun _ _ => False) s := by
  refine opq fun Q hQ => ?_; obtain rfl : bd = turnLit := hbd.symm.trans (turn_is w); obtain rfl : sc = scopeLit := hsc.symm.trans (scope_lit w); clear hbd hsc; dsimp only [envS, topS, turnLit, scopeLit]; walk_at "m lists"
  dsimp only [Lt19] at lU
  have F2 := knows8 F hn ht hdu ho hp hc hc hc
  clear F
  subst iu3 iu4 iu5
  k_steps
  · rename IntsAre _ _ => j5
    rename IntsAre _ (aheadF _ _ 16) => j4
    rename IntsAre _ (dateF _ _) => j3
    rename Obj.IsDictOf _ _ _ => jd
    refine hQ _ _ ⟨rfl, MidN.intro (by assumption) (by assumption) _ ?_ ⟨_, _, _, _, _, _, _, rfl, jd, ?_, dueF_is j3 (if_pos ‹_›), dueF_is j4 (if_pos ‹_›), dueF_is j5 (if_pos ‹_›), rfl, rfl, rfl, HasI.of rfl rfl, rfl⟩⟩
    · walk_at "m subs"
    · refine ⟨?_, ?_, ?_, ?_, ?_, ?_, ?_, ?_, ?_, ?_, ?_, ?_, ?_, ?_, ?_, ?_, ?_, ?_, ?_⟩ <;> (walk_at "m pj")
  · refine hQ _ _ ⟨rfl, MidN.intro (by assumption) (by assumption) _ ?_ ⟨_, _, _, _, [], [], [], rfl, hU, ?_, dueF_is .nil (if_neg ‹_›), dueF_is .nil (if_neg ‹_›), dueF_is .nil (if_neg ‹_›), rfl, rfl, rfl, HasI.of rfl rfl, rfl⟩⟩
    · walk_at "m subs"
    · exact lU

theorem offP33 : True := by
  w_top off
  trivial
inductive seg5d_M (w : World) (L : Nat) (I : Nat) (DN : Nat) (it : Obj) (on : Obj) (o1 : Obj) (o2 : Obj) (o3 : Obj) (D : Nat) (D1 : Nat) (D2 : Nat) (D3 : Nat) (D4 : Nat) (D5 : Nat) (D6 : Nat) (D7 : Nat) (oD : Obj) (v1 : List Value) (v2 : List Value) (v3 : List Value) (v4 : List Value) (v5 : List Value) (v6 : List Value) (v7 : List Value) (U : Nat) (U1 : Nat) (U2 : Nat) (U3 : Nat) (U4 : Nat) (U5 : Nat) (u1 : List Value) (u2 : List Value) (u3 : List Value) (u4 : List Value) (u5 : List Value) (fr : Int) (ct : Int) (tf : Tok) (tc : Tok) (m' : Str → Option Value) (news' : List (Addr × Obj)) : Prop where
  | mk (U6 : Nat) (oU : Obj) (u6 : List Value) (q0z : news' = [(U, oU), (U1, tupOf u1), (U2, tupOf u2), (U3, tupOf u3), (U4, tupOf u4), (U5, tupOf u5), (U6, tupOf u6), (D, oD), (D7, tupOf v7), (D6, tupOf v6), (D5, tupOf v5), (D4, tupOf v4), (D3, tupOf v3), (D2, tupOf v2), (D1, tupOf v1), (I, it), (DN, on), (L + 1 + 1 + 1, o3), (L + 1 + 1, o2), (L + 1, o1)]) (q1z : oU.IsDictOf (PySem.strKind ProgX w) [(Str.ofString "loose", .ref U1), (Str.ofString "fixed", .ref U2), (Str.ofString "fourth", .ref U3), (Str.ofString "romme", .ref U4), (Str.ofString "madler", .ref U5), (Str.ofString "long count", .ref U6)]) (q2z : (Lt19 U U1 U2 U3 U4 U5 U6 D D7 D6 D5 D4 D3 D2 D1 I DN L)) (q3z : IntsAre u6 (dueM (ct + 1338219))) (q4z : m' (Str.ofString "numbers") = some (.ref DN)) (q5z : m' (Str.ofString "told") = some (.ref D)) (q6z : m' (Str.ofString "due") = some (.ref U)) (q7z : m' (Str.ofString "french") = some (.int fr tf)) (q8z : m' (Str.ofString "count") = some (.int ct tc)) (q9z : HasI m' (Str.ofString "mayan") (ct + 1338219)) : seg5d_M w L I DN it on o1 o2 o3 D D1 D2 D3 D4 D5 D6 D7 oD v1 v2 v3 v4 v5 v6 v7 U U1 U2 U3 U4 U5 u1 u2 u3 u4 u5 fr ct tf tc m' news'
theorem seg5d (w : World) (mean : ExcName → Option Value) (mg mb : Str → Option Value) (dp un : Nat) (gd : Option (List Code)) (a : Addr) (ccd : Value) (A₀ : Around) (h₀ : Heap) (L : Nat) (bd : List Stmt) (sc : Scope) (hbd : turnBody w = bd) (hsc : lawScope w = sc) (m : Str → Option Value) (s : Shared) (I DN : Nat) (it on o1 o2 o3 : Obj) (D D1 D2 D3 D4 D5 D6 D7 : Nat) (oD : Obj) (v1 v2 v3 v4 v5 v6 v7 : List Value) (U U1 U2 U3 U4 U5 U6 : Nat) (oU : Obj) (u1 u2 u3 u4 u5 u6 : List Value) (fr ct : Int) (tf tc : Tok) (B : Below A₀ h₀ [] h₀) (X : (hd.heap_39 w.params).In h₀) (T : Top hd.view_39 LooseX mean mg mb h₀) (hd' : dp + 20 < recursionLimit) (hu : un + 8 * 20 < cLine) (F : Fr h₀ L s.heap m) (N : News h₀ L s.heap [(U, oU), (U1, tupOf u1), (U2, tupOf u2), (U3, tupOf u3), (U4, tupOf u4), (U5, tupOf u5), (U6, tupOf u6), (D, oD), (D7, tupOf v7), (D6, tupOf v6), (D5, tupOf v5), (D4, tupOf v4), (D3, tupOf v3), (D2, tupOf v2), (D1, tupOf v1), (I, it), (DN, on), (L + 1 + 1 + 1, o3), (L + 1 + 1, o2), (L + 1, o1)]) (hU : oU.IsDictOf (PySem.strKind ProgX w) [(Str.ofString "loose", .ref U1), (Str.ofString "fixed", .ref U2), (Str.ofString "fourth", .ref U3), (Str.ofString "romme", .ref U4), (Str.ofString "madler", .ref U5), (Str.ofString "long count", .ref U6)]) (lU : (Lt19 U U1 U2 U3 U4 U5 U6 D D7 D6 D5 D4 D3 D2 D1 I DN L)) (hn : m (Str.ofString "numbers") = some (.ref DN)) (ht : m (Str.ofString "told") = some (.ref D)) (hdu : m (Str.ofString "due") = some (.ref U)) (hf : m (Str.ofString "french") = some (.int fr tf)) (hc : m (Str.ofString "count") = some (.int ct tc)) (iu : u6 = []) :
    wpAny (model ProgX w) (topS sc dp un gd L a ccd) (execs ((bd.drop 22).take 2) (envS sc L a ccd)) (Go (MidN h₀ L (seg5d_M w L I DN it on o1 o2 o3 D D1 D2 D3 D4 D5 D6 D7 oD v1 v2 v3 v4 v5 v6 v7 U U1 U2 U3 U4 U5 u1 u2 u3 u4 u5 fr ct tf tc) s)) (fun _ _ => False) s := by
  refine opq fun Q hQ => ?_; obtain rfl : bd = turnLit := hbd.symm.trans (turn_is w); obtain rfl : sc = scopeLit := hsc.symm.trans (scope_lit w); clear hbd hsc; dsimp only [envS, topS, turnLit, scopeLit]; walk_at "m lists"
  dsimp only [Lt19] at lU
  have F2 := knows8 F hn ht hdu hf hc hc hc hc
  clear F
  subst iu
  k_steps
  · refine' hQ _ _ ⟨rfl, MidN.intro (by assumption) (by assumption) _ ?hs ⟨_, _, [.int _ ?a1, .int _ ?a2, .int _ ?a3, .int _ ?a4, .int _ ?a5], rfl, ‹Obj.IsDictOf _ _ _›, ?hl, dueM_is (i5 rfl rfl rfl rfl rfl) (if_pos ‹_›), rfl, rfl, rfl, rfl, rfl, HasI.of rfl rfl⟩⟩
    case hs => walk_at "m subs"
    case hl => refine ⟨?_, ?_, ?_, ?_, ?_, ?_, ?_, ?_, ?_, ?_, ?_, ?_, ?_, ?_, ?_, ?_, ?_, ?_, ?_⟩ <;> (walk_at "m pj")
  · refine hQ _ _ ⟨rfl, MidN.intro (by assumption) (by assumption) _ ?_ ⟨_, _, [], rfl, hU, ?_, dueM_is .nil (if_neg ‹_›), rfl, rfl, rfl, rfl, rfl, HasI.of rfl rfl⟩⟩
    · walk_at "m subs"
    · exact lU

theorem offP34 : True := by
  w_top off
  trivial
local macro_rules | `(tactic| walk_at "compareOp NotEq ref ref") => `(tactic| (k_here; (with_reducible show wpAny _ _ (compareOp CmpOp.NotEq (Value.ref _) (Value.ref _)) _ _ _); k_dflt ((refine' ne_tups (by assumption) ?m1 ?m2 ?i1 ?i2 ?hu ?e ?_); (case m1 => walk_at "m mem"); (case m2 => walk_at "m mem"); (case i1 => assumption); (case i2 => assumption); (case hu => ktr_units); (case e => first | exact loose_law _ (by assumption) | exact fixed_law _ (by assumption) | exact fourth_law _ | exact romme_law _ (by assumption) | exact madler_law _ (by assumption) | exact (long_law _).trans (congrArg dueM (by omega))))))
inductive seg6_M (L : Nat) (I : Nat) (DN : Nat) (it : Obj) (on : Obj) (o1 : Obj) (o2 : Obj) (o3 : Obj) (D : Nat) (D1 : Nat) (D2 : Nat) (D3 : Nat) (D4 : Nat) (D5 : Nat) (D6 : Nat) (D7 : Nat) (oD : Obj) (v1 : List Value) (v2 : List Value) (v3 : List Value) (v4 : List Value) (v5 : List Value) (v6 : List Value) (v7 : List Value) (U : Nat) (U1 : Nat) (U2 : Nat) (U3 : Nat) (U4 : Nat) (U5 : Nat) (U6 : Nat) (oU : Obj) (u1 : List Value) (u2 : List Value) (u3 : List Value) (u4 : List Value) (u5 : List Value) (u6 : List Value) (J : Int) (tc : Tok) (tm : Tok) (m' : Str → Option Value) (news' : List (Addr × Obj)) : Prop where
  | mk  (q0z : news' = [(U, oU), (U1, tupOf u1), (U2, tupOf u2), (U3, tupOf u3), (U4, tupOf u4), (U5, tupOf u5), (U6, tupOf u6), (D, oD), (D7, tupOf v7), (D6, tupOf v6), (D5, tupOf v5), (D4, tupOf v4), (D3, tupOf v3), (D2, tupOf v2), (D1, tupOf v1), (I, it), (DN, on), (L + 1 + 1 + 1, o3), (L + 1 + 1, o2), (L + 1, o1)]) (q1z : m' (Str.ofString "numbers") = some (.ref DN)) (q2z : m' (Str.ofString "told") = some (.ref D)) (q3z : m' (Str.ofString "due") = some (.ref U)) (q4z : m' (Str.ofString "count") = some (.int (J - 1922502) tc)) (q5z : m' (Str.ofString "mayan") = some (.int (J - 1922502 + 1338219) tm)) : seg6_M L I DN it on o1 o2 o3 D D1 D2 D3 D4 D5 D6 D7 oD v1 v2 v3 v4 v5 v6 v7 U U1 U2 U3 U4 U5 U6 oU u1 u2 u3 u4 u5 u6 J tc tm m' news'
theorem seg6 (w : World) (mean : ExcName → Option Value) (mg mb : Str → Option Value) (dp un : Nat) (gd : Option (List Code)) (a : Addr) (ccd : Value) (A₀ : Around) (h₀ : Heap) (L : Nat) (bd : List Stmt) (sc : Scope) (hbd : turnBody w = bd) (hsc : lawScope w = sc) (m : Str → Option Value) (s : Shared) (I DN : Nat) (it on o1 o2 o3 : Obj) (D D1 D2 D3 D4 D5 D6 D7 : Nat) (oD : Obj) (v1 v2 v3 v4 v5 v6 v7 : List Value) (U U1 U2 U3 U4 U5 U6 : Nat) (oU : Obj) (u1 u2 u3 u4 u5 u6 : List Value) (J : Int) (tf tc tm : Tok) (B : Below A₀ h₀ [] h₀) (X : (hd.heap_39 w.params).In h₀) (T : Top hd.view_39 LooseX mean mg mb h₀) (hd' : dp + 20 < recursionLimit) (hu : un + 8 * 20 < cLine) (F : Fr h₀ L s.heap m) (N : News h₀ L s.heap [(U, oU), (U1, tupOf u1), (U2, tupOf u2), (U3, tupOf u3), (U4, tupOf u4), (U5, tupOf u5), (U6, tupOf u6), (D, oD), (D7, tupOf v7), (D6, tupOf v6), (D5, tupOf v5), (D4, tupOf v4), (D3, tupOf v3), (D2, tupOf v2), (D1, tupOf v1), (I, it), (DN, on), (L + 1 + 1 + 1, o3), (L + 1 + 1, o2), (L + 1, o1)]) (hU : oU.IsDictOf (PySem.strKind ProgX w) [(Str.ofString "loose", .ref U1), (Str.ofString "fixed", .ref U2), (Str.ofString "fourth", .ref U3), (Str.ofString "romme", .ref U4), (Str.ofString "madler", .ref U5), (Str.ofString "long count", .ref U6)]) (lU : (Lt19 U U1 U2 U3 U4 U5 U6 D D7 D6 D5 D4 D3 D2 D1 I DN L)) (hn : m (Str.ofString "numbers") = some (.ref DN)) (ht : m (Str.ofString "told") = some (.ref D)) (hdu : m (Str.ofString "due") = some (.ref U)) (hD : oD.IsDictOf (PySem.strKind ProgX w) [(Str.ofString "loose", .ref D1), (Str.ofString "fixed", .ref D2), (Str.ofString "coptic", .ref D3), (Str.ofString "fourth", .ref D4), (Str.ofString "romme", .ref D5), (Str.ofString "madler", .ref D6), (Str.ofString "long count", .ref D7)])
    (i1 : IntsAre v1 (toldN J)) (i2 : IntsAre v2 (toldS J)) (i4 : IntsAre v4 (toldF 0 J)) (i5 : IntsAre v5 (toldF 1 J)) (i6 : IntsAre v6 (toldF 2 J)) (i7 : IntsAre v7 (toldM J))
    (j1 : IntsAre u1 (dueN (J - 1922502))) (j2 : IntsAre u2 (dueS (movY (copY J) (copD J + 1) 347 - 267) (movP (copY J) (copD J + 1) 347)))
    (j3 : IntsAre u3 (dueF (movY (copY J) (copD J + 1) 13 - 1508) (dateF (movY (copY J) (copD J + 1) 13 - 1508) (movP (copY J) (copD J + 1) 13))))
    (j4 : IntsAre u4 (dueF (movY (copY J) (copD J + 1) 13 - 1508) (aheadF (movY (copY J) (copD J + 1) 13 - 1508) (movP (copY J) (copD J + 1) 13) 16)))
    (j5 : IntsAre u5 (dueF (movY (copY J) (copD J + 1) 13 - 1508) (aheadF (movY (copY J) (copD J + 1) 13 - 1508) (movP (copY J) (copD J + 1) 13) 20)))
    (j6 : IntsAre u6 (dueM (J - 1922502 + 1338219)))
    (hf : m (Str.ofString "french") = some (.int (movY (copY J) (copD J + 1) 13 - 1508) tf)) (hc : m (Str.ofString "count") = some (.int (J - 1922502) tc)) (hm : m (Str.ofString "mayan") = some (.int (J - 1922502 + 1338219) tm)) :
    wpAny (model ProgX w) (topS sc dp un gd L a ccd) (execs ((bd.drop 24).take 1) (envS sc L a ccd)) (Go (MidN h₀ L (seg6_M L I DN it on o1 o2 o3 D D1 D2 D3 D4 D5 D6 D7 oD v1 v2 v3 v4 v5 v6 v7 U U1 U2 U3 U4 U5 U6 oU u1 u2 u3 u4 u5 u6 J tc tm) s)) (fun _ _ => False) s := by
  refine opq fun Q hQ => ?_; obtain rfl : bd = turnLit := hbd.symm.trans (turn_is w); obtain rfl : sc = scopeLit := hsc.symm.trans (scope_lit w); clear hbd hsc; dsimp only [envS, topS, turnLit, scopeLit]; walk_at "m lists"
  dsimp only [Lt19] at lU
  have F2 := knows8 F hn ht hdu hf hc hm hm hm
  clear F
  walk_at "execs cons"
  refine' For_turns F2 ?f1 ?f2
  case f2 => intro _; with_unfolding_all rfl
  case f1 =>
  walk_at "eval Name"
  refine kta_keys (knd := PySem.strKind _ _) (enc := PyData.str) (xs := ([Str.ofString "loose", Str.ofString "fixed", Str.ofString "fourth", Str.ofString "romme", Str.ofString "madler", Str.ofString "long count"] : List Str).map fun z => Itm.tok fun t => .str z t) (by rfl) F2 N (List.Mem.head _) hU ?_ (fun _ _ h => Value.isStrOf_shape h) (by rfl) ?_
  · have q1 : @LT.lt Nat _ sysModules h₀.objs.size := modules_low T.nolimit
    have q2 : @LE.le Nat _ h₀.objs.size L := F2.above
    exact beq_eq_false_iff_ne.mpr (show @Ne Nat U sysModules by omega)
  intro I2 lI
  refine toks_inv (fun m => m (Str.ofString "numbers") = some (.ref DN) ∧ m (Str.ofString "told") = some (.ref D) ∧ m (Str.ofString "due") = some (.ref U) ∧ m (Str.ofString "french") = some (.int (movY (copY J) (copD J + 1) 13 - 1508) tf) ∧ m (Str.ofString "count") = some (.int (J - 1922502) tc) ∧ m (Str.ofString "mayan") = some (.int (J - 1922502 + 1338219) tm)) (List.Mem.head _) lI _ _ ⟨rfl, rfl, rfl, rfl, rfl, rfl⟩ ?_ ?_
  · rintro z hz t it2 h2' tk2 m2 ⟨e1, e2, e3, e4, e5, e6⟩ F3 N3 Q2 hQ2
    have F4 := knows8 F3 e1 e2 e3 e4 e5 e6 e6 e6
    clear F2 F3
    simp only [List.mem_cons, List.not_mem_nil, or_false] at hz
    rcases hz with rfl | rfl | rfl | rfl | rfl | rfl
    all_goals
      k_steps
      all_goals first
        | (exact hQ2 _ _ ⟨.inl rfl, _, _, _, rfl, by assumption, by assumption, rfl, rfl, rfl, rfl, rfl, rfl⟩)
        | (exact hQ2 _ _ ⟨.inr rfl, _, _, _, rfl, by assumption, by assumption, rfl, rfl, rfl, rfl, rfl, rfl⟩)
        | skip
  · rintro m2 h2' tk2 ⟨e1, e2, e3, e4, e5, e6⟩ F3 N3
    refine wpAny_execs_nil ?_
    exact hQ _ _ ⟨rfl, MidN.intro F3 N3 _ (fun _ h => h) ⟨rfl, e1, e2, e3, e5, e6⟩⟩

theorem offP35 : True := by
  w_top off
  trivial
local macro_rules | `(tactic| walk_at "subscriptTail Name") => `(tactic| (k_here; (with_reducible show wpAny _ _ (subscriptTail _ _ (Value.ref 188) (Value.int _ _)) _ _ _); (with_unfolding_all refine' haab_item ?k1 ?k2 ?k3 ?k4 ?_); (case k1 => k_asm); (case k2 => k_asm); (case k3 => exact haab_lo _); (case k4 => exact haab_hi _); intro t9))
local macro_rules | `(tactic| walk_at "subscriptTail Name") => `(tactic| (k_here; (with_reducible show wpAny _ _ (subscriptTail _ _ (Value.ref 189) (Value.int _ _)) _ _ _); (with_unfolding_all refine' tzol_item ?k1 ?k2 ?k3 ?k4 ?_); (case k1 => k_asm); (case k2 => k_asm); (case k3 => exact fm_lo _ (by decide)); (case k4 => exact fm_hi _ (by decide)); intro t9))
theorem lc_facts (w : World) (J : Int) (h : 0 ≤ J - 584283) : ∃ b k t u n, may J = [b, k, t, u, n] ∧ (haabD (lcJ b k t u n)).fmod 20 = ((J - 1922502 + 112).fmod 365).fmod 20 ∧ haabN w ((haabD (lcJ b k t u n)).fdiv 20) = haabN w (((J - 1922502 + 112).fmod 365).fdiv 20) ∧
    tzolC (lcJ b k t u n) = (12 * b + 11 * k + 9 * t + 7 * u + n + 3).fmod 13 + 1 ∧ tzolN w (tzolI (lcJ b k t u n)) = tzolN w ((n + 19).fmod 20) :=
  ⟨_, _, _, _, _, rfl, by rw [lc_back J, haab_law J h], by rw [lc_back J, haab_law J h], by rw [lc_back J]; exact tzolC_law J h, by rw [lc_back J, tzolI_law J h]⟩
noncomputable def ifOf : List Stmt → List Stmt
  | .If _ b _ _ :: _ => b
  | _ => []
inductive seg7b_M (w : World) (L : Nat) (I : Nat) (DN : Nat) (it : Obj) (on : Obj) (o1 : Obj) (o2 : Obj) (o3 : Obj) (J : Int) (b : Int) (k : Int) (t : Int) (u : Int) (n : Int) (t1 : Tok) (t2 : Tok) (t3 : Tok) (t4 : Tok) (t5 : Tok) (m' : Str → Option Value) (news' : List (Addr × Obj)) : Prop where
  | mk (TZ HA : Nat) (q1 q2 q3 q4 : Tok) (q0z : news' = [(TZ, tupOf [.int ((12 * b + 11 * k + 9 * t + 7 * u + n + 3).fmod 13 + 1) q1, .str (tzolN w ((n + 19).fmod 20)) q2]), (HA, tupOf [.int (((J - 1922502 + 112).fmod 365).fmod 20) q3, .str (haabN w (((J - 1922502 + 112).fmod 365).fdiv 20)) q4]), (I, it), (DN, on), (L + 1 + 1 + 1, o3), (L + 1 + 1, o2), (L + 1, o1)]) (q1z : m' (Str.ofString "numbers") = some (.ref DN)) (q2z : m' (Str.ofString "haab") = some (.ref HA)) (q3z : m' (Str.ofString "tzolkin") = some (.ref TZ)) (q4z : m' (Str.ofString "baktun") = some (.int b t1)) (q5z : m' (Str.ofString "katun") = some (.int k t2)) (q6z : m' (Str.ofString "tun") = some (.int t t3)) (q7z : m' (Str.ofString "uinal") = some (.int u t4)) (q8z : m' (Str.ofString "kin") = some (.int n t5)) : seg7b_M w L I DN it on o1 o2 o3 J b k t u n t1 t2 t3 t4 t5 m' news'
theorem seg7b (w : World) (mean : ExcName → Option Value) (mg mb : Str → Option Value) (dp un : Nat) (gd : Option (List Code)) (a : Addr) (ccd : Value) (A₀ : Around) (h₀ : Heap) (L : Nat) (bd : List Stmt) (sc : Scope) (hbd : turnBody w = bd) (hsc : lawScope w = sc) (m : Str → Option Value) (s : Shared) (I DN : Nat) (it on o1 o2 o3 : Obj) (D D1 D2 D3 D4 D5 D6 D7 : Nat) (oD : Obj) (v1 v2 v3 v4 v5 v6 v7 : List Value) (J : Int) (b k t u n : Int) (t1 t2 t3 t4 t5 tc : Tok) (B : Below A₀ h₀ [] h₀) (X : (hd.heap_39 w.params).In h₀) (T : Top hd.view_39 LooseX mean mg mb h₀) (hd' : dp + 20 < recursionLimit) (hu : un + 8 * 20 < cLine) (F : Fr h₀ L s.heap m) (N : News h₀ L s.heap [(D, oD), (D7, tupOf [.int b t1, .int k t2, .int t t3, .int u t4, .int n t5]), (I, it), (DN, on), (L + 1 + 1 + 1, o3), (L + 1 + 1, o2), (L + 1, o1)]) (hD : oD.IsDictOf (PySem.strKind ProgX w) [(Str.ofString "loose", .ref D1), (Str.ofString "fixed", .ref D2), (Str.ofString "coptic", .ref D3), (Str.ofString "fourth", .ref D4), (Str.ofString "romme", .ref D5), (Str.ofString "madler", .ref D6), (Str.ofString "long count", .ref D7)]) (hn : m (Str.ofString "numbers") = some (.ref DN)) (ht : m (Str.ofString "told") = some (.ref D))
    (hc : m (Str.ofString "count") = some (.int (J - 1922502) tc)) :
    wpAny (model ProgX w) (topS sc dp un gd L a ccd) (execs (((ifOf (bd.drop 25)).drop 0).take 3) (envS sc L a ccd)) (Go (MidN h₀ L (seg7b_M w L I DN it on o1 o2 o3 J b k t u n t1 t2 t3 t4 t5) s)) (fun _ _ => False) s := by
  refine opq fun Q hQ => ?_; obtain rfl : bd = turnLit := hbd.symm.trans (turn_is w); obtain rfl : sc = scopeLit := hsc.symm.trans (scope_lit w); clear hbd hsc; dsimp only [envS, topS, turnLit, scopeLit]; walk_at "m lists"
  dsimp only [ifOf]
  walk_at "m lists"
  have F2 := knows5 F hn ht hc hc hc
  clear F
  k_steps
  refine' hQ _ _ ⟨rfl, MidN.intro (by assumption) (by assumption) _ ?hs ⟨_, _, ?q1, ?q2, ?q3, ?q4, rfl, rfl, rfl, rfl, rfl, rfl, rfl, rfl, rfl⟩⟩
  case hs => walk_at "m subs"

theorem offP36 : True := by
  w_top off
  trivial
local macro_rules | `(tactic| walk_at "compareOp NotEq ref ref") => `(tactic| (k_here; (with_reducible show wpAny _ _ (compareOp CmpOp.NotEq (Value.ref _) (Value.ref _)) _ _ _); k_dflt ((refine' ne_pairs (by assumption) ?m1 ?m2 ?i1 ?hu ?e1 ?e2 ?_); (case m1 => walk_at "m mem"); (case m2 => walk_at "m mem"); (case i1 => first | exact haabN_okS _ _ | exact tzolN_okS _ _); (case hu => ktr_units); (case e1 => rfl); (case e2 => rfl))))
inductive seg7c_M (w : World) (L : Nat) (I : Nat) (DN : Nat) (it : Obj) (on : Obj) (o1 : Obj) (o2 : Obj) (o3 : Obj) (TZ : Nat) (HA : Nat) (q1 : Tok) (q2 : Tok) (q3 : Tok) (q4 : Tok) (b : Int) (k : Int) (t : Int) (u : Int) (n : Int) (t1 : Tok) (t2 : Tok) (t3 : Tok) (t4 : Tok) (t5 : Tok) (m' : Str → Option Value) (news' : List (Addr × Obj)) : Prop where
  | mk  (q0z : news' = [(TZ, tupOf [.int (tzolC (lcJ b k t u n)) q1, .str (tzolN w (tzolI (lcJ b k t u n))) q2]), (HA, tupOf [.int ((haabD (lcJ b k t u n)).fmod 20) q3, .str (haabN w ((haabD (lcJ b k t u n)).fdiv 20)) q4]), (I, it), (DN, on), (L + 1 + 1 + 1, o3), (L + 1 + 1, o2), (L + 1, o1)]) (q1z : m' (Str.ofString "numbers") = some (.ref DN)) (q2z : m' (Str.ofString "haab") = some (.ref HA)) (q3z : m' (Str.ofString "tzolkin") = some (.ref TZ)) (q4z : m' (Str.ofString "baktun") = some (.int b t1)) (q5z : m' (Str.ofString "katun") = some (.int k t2)) (q6z : m' (Str.ofString "tun") = some (.int t t3)) (q7z : m' (Str.ofString "uinal") = some (.int u t4)) (q8z : m' (Str.ofString "kin") = some (.int n t5)) : seg7c_M w L I DN it on o1 o2 o3 TZ HA q1 q2 q3 q4 b k t u n t1 t2 t3 t4 t5 m' news'
theorem seg7c (w : World) (mean : ExcName → Option Value) (mg mb : Str → Option Value) (dp un : Nat) (gd : Option (List Code)) (a : Addr) (ccd : Value) (A₀ : Around) (h₀ : Heap) (L : Nat) (bd : List Stmt) (sc : Scope) (hbd : turnBody w = bd) (hsc : lawScope w = sc) (m : Str → Option Value) (s : Shared) (I DN : Nat) (it on o1 o2 o3 : Obj) (TZ HA : Nat) (q1 q2 q3 q4 : Tok) (b k t u n : Int) (t1 t2 t3 t4 t5 : Tok) (B : Below A₀ h₀ [] h₀) (X : (hd.heap_39 w.params).In h₀) (T : Top hd.view_39 LooseX mean mg mb h₀) (hd' : dp + 20 < recursionLimit) (hu : un + 8 * 20 < cLine) (F : Fr h₀ L s.heap m) (N : News h₀ L s.heap [(TZ, tupOf [.int (tzolC (lcJ b k t u n)) q1, .str (tzolN w (tzolI (lcJ b k t u n))) q2]), (HA, tupOf [.int ((haabD (lcJ b k t u n)).fmod 20) q3, .str (haabN w ((haabD (lcJ b k t u n)).fdiv 20)) q4]), (I, it), (DN, on), (L + 1 + 1 + 1, o3), (L + 1 + 1, o2), (L + 1, o1)]) (hn : m (Str.ofString "numbers") = some (.ref DN)) (hha : m (Str.ofString "haab") = some (.ref HA)) (htz : m (Str.ofString "tzolkin") = some (.ref TZ)) (hb : m (Str.ofString "baktun") = some (.int b t1)) (hk : m (Str.ofString "katun") = some (.int k t2)) (htu : m (Str.ofString "tun") = some (.int t t3)) (huu : m (Str.ofString "uinal") = some (.int u t4)) (hki : m (Str.ofString "kin") = some (.int n t5)) :
    wpAny (model ProgX w) (topS sc dp un gd L a ccd) (execs (((ifOf (bd.drop 25)).drop 3).take 1) (envS sc L a ccd)) (Go (MidN h₀ L (seg7c_M w L I DN it on o1 o2 o3 TZ HA q1 q2 q3 q4 b k t u n t1 t2 t3 t4 t5) s)) (fun _ _ => False) s := by
  refine opq fun Q hQ => ?_; obtain rfl : bd = turnLit := hbd.symm.trans (turn_is w); obtain rfl : sc = scopeLit := hsc.symm.trans (scope_lit w); clear hbd hsc; dsimp only [envS, topS, turnLit, scopeLit]; walk_at "m lists"
  dsimp only [ifOf]
  walk_at "m lists"
  have F2 := knows8 F hn hha htz hb hk htu huu hki
  clear F
  k_steps
  exact hQ _ _ ⟨rfl, MidN.intro (by assumption) (by assumption) _ (by walk_at "m sub") ⟨rfl, rfl, rfl, rfl, rfl, rfl, rfl, rfl, rfl⟩⟩

theorem offP37 : True := by
  w_top off
  trivial
theorem short_fits {x : Str} (h : x.length ≤ 20) : x.length ≤ sizeLine := Nat.le_trans h (show (20 : Nat) ≤ sizeLine by decide)
theorem fits_app {x y : Str} {k : Nat} (hx : x.length ≤ k) (hy : y.length ≤ 20) : (x ++ y).length ≤ k + 20 := by
  have e : (x ++ y).length = x.length + y.length := by
    show (x ++ y).cps.size = x.cps.size + y.cps.size
    rw [PySem.Str.cps_append, Array.size_append]
  rw [e]; omega
theorem fits_int {i : Int} (h0 : 0 ≤ i) (h1 : i ≤ 20) : (Str.ofString (toString i)).length ≤ 20 := by
  obtain ⟨n, rfl⟩ := Int.eq_ofNat_of_zero_le h0
  exact (by decide +kernel : ∀ n : Fin 21, (Str.ofString (toString ((n.val : Nat) : Int))).length ≤ 20) ⟨n, Int.ofNat_lt.mp (Int.lt_add_one_of_le h1)⟩
theorem fits_tz (x : Int) : (Str.ofString (toString (x.fmod 13 + 1))).length ≤ 20 := fits_int (by have := fm_lo x (b := 13) (by decide); omega) (by have := fm_hi x (b := 13) (by decide); omega)
theorem fits_hb (x : Int) : (Str.ofString (toString (x.fmod 20))).length ≤ 20 := fits_int (fm_lo x (by decide)) (Int.le_of_lt (fm_hi x (by decide)))
theorem fits_sp : (Str.ofString " ").length ≤ 20 := by decide +kernel
theorem fits_tc (J : Int) : (Str.ofString (toString (tzolC J))).length ≤ 20 := fits_int (tzolC_lo J) (tzolC_hi J)
theorem fits_0 : Str.empty.length ≤ 20 * 0 := Nat.zero_le _
theorem fits_1 {x y : Str} {n : Nat} (hx : x.length ≤ 20 * n) (hy : y.length ≤ 20) : (x ++ y).length ≤ 20 * (n + 1) := by
  have e := fits_app hx hy
  omega
theorem fits_end {x : Str} {n : Nat} (h : x.length ≤ 20 * n) (hn : n ≤ 10) : x.length ≤ sizeLine := Nat.le_trans h (Nat.le_trans (Nat.mul_le_mul_left 20 hn) (show (20 * 10 : Nat) ≤ sizeLine by decide))
local macro_rules | `(tactic| walk_at "m fits") => `(tactic| first | with_reducible exact fits_0 | ((with_reducible refine' fits_1 ?fa ?fb); (case fa => walk_at "m fits"); (case fb => (with_reducible first | exact tzolN_short _ _ | exact haabN_short _ _ | exact fits_sp | exact fits_tc _ | exact fits_hb _))))
local macro_rules | `(tactic| walk_at "m le") => `(tactic| (refine' fits_end ?fh ?fn; (case fh => walk_at "m fits"); (case fn => decide)))
local macro_rules | `(tactic| walk_at "le") => `(tactic| ((with_reducible show Str.length _ ≤ sizeLine); walk_at "m le"))
local macro_rules | `(tactic| walk_at "joinParts") => `(tactic| (k_here; (with_reducible show wpAny _ _ (joinParts _ (evalEach [] _)) _ _ _); k_dflt (refine' joinParts_nil ?_ ?jz; (case jz => walk_at "m le"))))
local macro_rules | `(tactic| walk_at "formatField str") => `(tactic| (k_here; (with_reducible show wpAny _ _ (formatField (Value.str _ _) _) _ _ _); k_dflt (first | refine formatField_str ?_ (short_fits (tzolN_short _ _)) | refine formatField_str ?_ (short_fits (haabN_short _ _))); intro _ _))
theorem seg7d (w : World) (mean : ExcName → Option Value) (mg mb : Str → Option Value) (dp un : Nat) (gd : Option (List Code)) (a : Addr) (ccd : Value) (A₀ : Around) (h₀ : Heap) (L : Nat) (bd : List Stmt) (sc : Scope) (hbd : turnBody w = bd) (hsc : lawScope w = sc) (m : Str → Option Value) (s : Shared) (I DN : Nat) (it on o1 o2 o3 : Obj) (TZ HA : Nat) (q1 q2 q3 q4 : Tok) (b k t u n : Int) (t1 t2 t3 t4 t5 : Tok) (B : Below A₀ h₀ [] h₀) (X : (hd.heap_39 w.params).In h₀) (T : Top hd.view_39 LooseX mean mg mb h₀) (hd' : dp + 20 < recursionLimit) (hu : un + 8 * 20 < cLine) (F : Fr h₀ L s.heap m) (N : News h₀ L s.heap [(TZ, tupOf [.int (tzolC (lcJ b k t u n)) q1, .str (tzolN w (tzolI (lcJ b k t u n))) q2]), (HA, tupOf [.int ((haabD (lcJ b k t u n)).fmod 20) q3, .str (haabN w ((haabD (lcJ b k t u n)).fdiv 20)) q4]), (I, it), (DN, on), (L + 1 + 1 + 1, o3), (L + 1 + 1, o2), (L + 1, o1)]) (hn : m (Str.ofString "numbers") = some (.ref DN)) (hha : m (Str.ofString "haab") = some (.ref HA)) (htz : m (Str.ofString "tzolkin") = some (.ref TZ)) (hb : m (Str.ofString "baktun") = some (.int b t1)) (hk : m (Str.ofString "katun") = some (.int k t2)) (htu : m (Str.ofString "tun") = some (.int t t3)) (huu : m (Str.ofString "uinal") = some (.int u t4)) (hki : m (Str.ofString "kin") = some (.int n t5)) :
    wpAny (model ProgX w) (topS sc dp un gd L a ccd) (execs (((ifOf (bd.drop 25)).drop 4).take 2) (envS sc L a ccd)) (Go (MidN h₀ L (fun m' news' => news' = [(I, it), (DN, on), (L + 1 + 1 + 1, o3), (L + 1 + 1, o2), (L + 1, o1)] ∧ m' (Str.ofString "numbers") = some (.ref DN)) s)) (fun _ _ => False) s := by
  refine opq fun Q hQ => ?_; obtain rfl : bd = turnLit := hbd.symm.trans (turn_is w); obtain rfl : sc = scopeLit := hsc.symm.trans (scope_lit w); clear hbd hsc; dsimp only [envS, topS, turnLit, scopeLit]; walk_at "m lists"
  dsimp only [ifOf]
  walk_at "m lists"
  have F2 := knows8 F hn hha htz hb hk htu huu hki
  clear F
  have c0 := tzolC_lo (lcJ b k t u n)
  have c1 := tzolC_hi (lcJ b k t u n)
  have d0 := fm_lo (haabD (lcJ b k t u n)) (b := 20) (by decide)
  have d1 := fm_hi (haabD (lcJ b k t u n)) (b := 20) (by decide)
  k_steps
  · rename (_ != _) = true => hb9
    rw [KFm.cat_e] at hb9
    exact absurd rfl (bne_iff_ne.mp hb9)
  · exact hQ _ _ ⟨rfl, MidN.intro (by assumption) (by assumption) _ (by walk_at "m sub") ⟨rfl, rfl⟩⟩

theorem offP38 : True := by
  w_top off
  trivial
theorem MidN.back {g : Heap} {L : Addr} {P : (Str → Option Value) → List (Addr × Obj) → Prop} {s s' : Shared} {h : Heap} {tk : Nat} (x : MidN g L P { s with heap := h, toks := tk } s') : MidN g L P s s' :=
  let ⟨h', tk', m', n', e, F, N, p⟩ := x; ⟨h', tk', m', n', e, F, N, p⟩
theorem Go.back {g : Heap} {L : Addr} {P : (Str → Option Value) → List (Addr × Obj) → Prop} {M : Model} {A : Around} {p : Sem Flow} {E : Value → Shared → Prop} {s s1 : Shared} {h : Heap} {tk : Nat} (x : wpAny M A p (Go (MidN g L P { s with heap := h, toks := tk })) E s1) : wpAny M A p (Go (MidN g L P s)) E s1 :=
  wpAny_mono x (fun _ _ hf => ⟨hf.1, hf.2.back⟩) fun _ _ e => e
theorem seg7 (w : World) (mean : ExcName → Option Value) (mg mb : Str → Option Value) (dp un : Nat) (gd : Option (List Code)) (a : Addr) (ccd : Value) (A₀ : Around) (h₀ : Heap) (L : Nat) (bd : List Stmt) (sc : Scope) (hbd : turnBody w = bd) (hsc : lawScope w = sc) (m : Str → Option Value) (s : Shared) (I DN : Nat) (it on o1 o2 o3 : Obj) (D D1 D2 D3 D4 D5 D6 D7 : Nat) (oD : Obj) (v1 v2 v3 v4 v5 v6 v7 : List Value) (J : Int) (tc tm : Tok) (B : Below A₀ h₀ [] h₀) (X : (hd.heap_39 w.params).In h₀) (T : Top hd.view_39 LooseX mean mg mb h₀) (hd' : dp + 20 < recursionLimit) (hu : un + 8 * 20 < cLine) (F : Fr h₀ L s.heap m) (N : News h₀ L s.heap [(D, oD), (D7, tupOf v7), (D6, tupOf v6), (D5, tupOf v5), (D4, tupOf v4), (D3, tupOf v3), (D2, tupOf v2), (D1, tupOf v1), (I, it), (DN, on), (L + 1 + 1 + 1, o3), (L + 1 + 1, o2), (L + 1, o1)]) (hD : oD.IsDictOf (PySem.strKind ProgX w) [(Str.ofString "loose", .ref D1), (Str.ofString "fixed", .ref D2), (Str.ofString "coptic", .ref D3), (Str.ofString "fourth", .ref D4), (Str.ofString "romme", .ref D5), (Str.ofString "madler", .ref D6), (Str.ofString "long count", .ref D7)]) (i7 : IntsAre v7 (toldM J)) (hn : m (Str.ofString "numbers") = some (.ref DN)) (ht : m (Str.ofString "told") = some (.ref D))
    (hc : m (Str.ofString "count") = some (.int (J - 1922502) tc)) (hm : m (Str.ofString "mayan") = some (.int (J - 1922502 + 1338219) tm)) :
    wpAny (model ProgX w) (topS sc dp un gd L a ccd) (execs ((bd.drop 25).take 1) (envS sc L a ccd)) (Go (MidN h₀ L (fun m' news' => news' = [(I, it), (DN, on), (L + 1 + 1 + 1, o3), (L + 1 + 1, o2), (L + 1, o1)] ∧ m' (Str.ofString "numbers") = some (.ref DN)) s)) (fun _ _ => False) s := by
  refine opq fun Q hQ => ?_
  by_cases hJ : 0 ≤ J - 1922502 + 1338219
  · have e7 : toldM J = may J := if_neg (by omega)
    obtain ⟨b, k, t, u, n, em, E1, E2, E3, E4⟩ := lc_facts w J (by omega)
    rw [e7, em] at i7
    obtain ⟨t1, t2, t3, t4, t5, rfl⟩ := ints5 i7
    have hlen : (ifOf (bd.drop 25)).length ≤ 4 + 2 := by
      rw [← hbd, turn_is w]
      decide +kernel
    have hb : ∀ tk, wpAny (model ProgX w) (topS sc dp un gd L a ccd) (execs ((ifOf (bd.drop 25)).drop 0) (envS sc L a ccd)) (Go (MidN h₀ L (fun m' news' => news' = [(I, it), (DN, on), (L + 1 + 1 + 1, o3), (L + 1 + 1, o2), (L + 1, o1)] ∧ m' (Str.ofString "numbers") = some (.ref DN)) { s with toks := tk })) (fun _ _ => False) { s with toks := tk } := by
      intro tk
      refine seg_cut 0 3 _ (seg7b w mean mg mb dp un gd a ccd A₀ h₀ L bd sc hbd hsc m { s with toks := tk } I DN it on o1 o2 o3 D D1 D2 D3 D4 D5 D6 D7 oD v1 v2 v3 v4 v5 v6 [] J b k t u n t1 t2 t3 t4 t5 tc B X T hd' hu F (News.perm N ?_) hD hn ht hc) ?_
      · walk_at "m subs"
      rintro _ ⟨h5, tk5, m5, n5, rfl, F5, N5, TZ, HA, q1, q2, q3, q4, rfl, x1, x2, x3, x4, x5, x6, x7, x8⟩
      rw [← E1, ← E2, ← E3, ← E4] at N5
      refine seg_cut 3 1 _ (seg7c w mean mg mb dp un gd a ccd A₀ h₀ L bd sc hbd hsc m5 { s with heap := h5, toks := tk5 } I DN it on o1 o2 o3 TZ HA q1 q2 q3 q4 b k t u n t1 t2 t3 t4 t5 B X T hd' hu F5 N5 x1 x2 x3 x4 x5 x6 x7 x8) ?_
      rintro _ ⟨h6, tk6, m6, n6, rfl, F6, N6, rfl, y1, y2, y3, y4, y5, y6, y7, y8⟩
      refine seg_end 4 2 hlen _ (Go.back (s := { s with toks := tk }) (seg7d w mean mg mb dp un gd a ccd A₀ h₀ L bd sc hbd hsc m6 { s with heap := h6, toks := tk6 } I DN it on o1 o2 o3 TZ HA q1 q2 q3 q4 b k t u n t1 t2 t3 t4 t5 B X T hd' hu F6 N6 y1 y2 y3 y4 y5 y6 y7 y8))
    rw [List.drop_zero] at hb
    obtain rfl : bd = turnLit := hbd.symm.trans (turn_is w)
    obtain rfl : sc = scopeLit := hsc.symm.trans (scope_lit w)
    clear hbd hsc
    dsimp only [envS, topS, turnLit, scopeLit, ifOf, List.take_succ_cons, List.take_zero, List.drop_succ_cons, List.drop_zero] at hb ⊢
    have F2 := knows5 F hn ht hc hm hm
    clear F
    iterate 8 walk1
    refine wpAny_mono (hb _) (fun f s' hf => ?_) (fun _ _ e => e)
    obtain ⟨rfl, hmid⟩ := hf
    exact wpAny_execs_nil (hQ _ _ ⟨rfl, hmid.back⟩)
  · obtain rfl : bd = turnLit := hbd.symm.trans (turn_is w)
    obtain rfl : sc = scopeLit := hsc.symm.trans (scope_lit w)
    clear hbd hsc
    dsimp only [envS, topS, turnLit, scopeLit]
    walk_at "m lists"
    have F2 := knows5 F hn ht hc hm hm
    clear F
    k_steps
    all_goals exact hQ _ _ ⟨rfl, MidN.intro (by assumption) (by assumption) _ (by walk_at "m sub") ⟨rfl, rfl⟩⟩

theorem offP39 : True := by
  w_top off
  trivial
theorem seg_cutL {M : Model} {A : Around} {env : Env} {Q : Flow → Shared → Prop} {E : Value → Shared → Prop} {s : Shared} (l : List Stmt) (k n : Nat) (Mid : Shared → Prop)
    (h1 : wpAny M A (execs ((l.drop k).take n) env) (Go Mid) E s) (h2 : ∀ s', Mid s' → wpAny M A (execs (l.drop (k + n)) env) Q E s') : wpAny M A (execs (l.drop k) env) Q E s := seg_cut k n Mid h1 h2
theorem seg_endL {M : Model} {A : Around} {env : Env} {E : Value → Shared → Prop} {s : Shared} (l : List Stmt) (k n : Nat) (hn : l.length ≤ k + n) (Mid : Shared → Prop)
    (h1 : wpAny M A (execs ((l.drop k).take n) env) (Go Mid) E s) : wpAny M A (execs (l.drop k) env) (Go Mid) E s := seg_end k n hn Mid h1
theorem turn_len (w : World) : (turnBody w).length ≤ 25 + 1 := by
  rw [turn_is w]
  decide +kernel
inductive turn_M (L : Nat) (I : Nat) (DN : Nat) (it : Obj) (vs : List Value) (m' : Str → Option Value) (news' : List (Addr × Obj)) : Prop where
  | mk (o1 o2 o3 c1 c2 c3 : _) (q0z : news' = [(I, it), (DN, W.listOf vs.toArray 0), (L + 1 + 1 + 1, o3), (L + 1 + 1, o2), (L + 1, o1)]) (q1z : o1.data = .cell c1) (q2z : o2.data = .cell c2) (q3z : o3.data = .cell c3) (q4z : m' (Str.ofString "numbers") = some (.ref DN)) : turn_M L I DN it vs m' news'
theorem turn (w : World) (mean : ExcName → Option Value) (mg mb : Str → Option Value) (dp un : Nat) (gd : Option (List Code)) (a : Addr) (ccd : Value) (A₀ : Around) (h₀ : Heap) (L : Nat) (bd : List Stmt) (sc : Scope) (hbd : turnBody w = bd) (hsc : lawScope w = sc) (m : Str → Option Value) (s : Shared) (I DN : Nat) (it o1 o2 o3 : Obj) (vs : List Value) (ns : List Int) (at' : Int) (ta : Tok) (c1 c2 c3 : Option Value) (B : Below A₀ h₀ [] h₀) (X : (hd.heap_39 w.params).In h₀) (T : Top hd.view_39 LooseX mean mg mb h₀) (hd' : dp + 20 < recursionLimit) (hu : un + 8 * 20 < cLine) (F : Fr h₀ L s.heap m)
    (N : News h₀ L s.heap [(I, it), (DN, W.listOf vs.toArray 0), (L + 1 + 1 + 1, o3), (L + 1 + 1, o2), (L + 1, o1)]) (d1 : o1.data = .cell c1) (d2 : o2.data = .cell c2) (d3 : o3.data = .cell c3)
    (l1 : L + 1 + 1 + 1 < DN) (l2 : DN < I) (hi : IntsAre vs ns) (ha : m (Str.ofString "at") = some (.int at' ta)) (hn : m (Str.ofString "numbers") = some (.ref DN)) (a0 : 0 ≤ at') (a1 : at' + 2 < (ns.length : Int)) (a2 : ns.length ≤ 15) :
    wpAny (model ProgX w) (topS sc dp un gd L a ccd) (execs (bd.drop 0) (envS sc L a ccd)) (Go (MidN h₀ L (turn_M L I DN it vs) s)) (fun _ _ => False) s := by
  refine opq fun Q hQ => ?_
  refine seg_cutL bd 0 3 _ (seg1a w mean mg mb dp un gd a ccd A₀ h₀ L bd sc hbd hsc m s I DN it o1 o2 o3 vs ns at' ta c1 c2 c3 B X T hd' hu F N d1 d2 d3 l1 l2 hi ha hn a0 a1 a2) ?_
  rintro _ ⟨hA, tkA, mA, _, rfl, FA, NA, p1, p2, t1, t2, rfl, dA1, dA2, eA1, eA2, tf, eA3⟩
  obtain ⟨y, hy⟩ : ∃ y, y = 1793 + ns.getD at'.toNat 0 := ⟨_, rfl⟩
  obtain ⟨z, hz⟩ : ∃ z, z = ns.getD (at' + 1).toNat 0 := ⟨_, rfl⟩
  rw [← hy] at dA1 eA3
  rw [← hz] at dA2
  refine seg_cutL bd 3 1 _ (seg1b w mean mg mb dp un gd a ccd A₀ h₀ L bd sc hbd hsc mA { s with heap := hA, toks := tkA } I DN it p1 p2 o3 vs ns at' y z ta t1 t2 tf c3 B X T hd' hu FA NA dA1 dA2 d3 l1 l2 hi eA1 eA2 eA3 a0 a1 a2) ?_
  rintro _ ⟨hB, tkB, mB, _, rfl, FB, NB, rfl, eB1, eB2, tl, eB3⟩
  refine seg_cutL bd 4 3 _ (seg1c w mean mg mb dp un gd a ccd A₀ h₀ L bd sc hbd hsc mB { s with heap := hB, toks := tkB } I DN it p1 p2 o3 vs ns at' (dimF y (1 + z.fmod 12)) ta tl c3 B X T hd' hu FB NB d3 l1 l2 hi eB1 eB2 eB3 a0 a1 a2 (len_eq y z).2.1 (len_eq y z).2.2) ?_
  rintro _ ⟨hC, tkC, mC, _, rfl, FC, NC, p3, t3, rfl, dC, eC1, tm, eC2⟩
  obtain ⟨x, hx⟩ : ∃ x, x = ns.getD (at' + 2).toNat 0 := ⟨_, rfl⟩
  rw [← hx] at dC eC2
  refine seg_cutL bd 7 1 _ (seg2 w mean mg mb dp un gd a ccd A₀ h₀ L bd sc hbd hsc mC { s with heap := hC, toks := tkC } I DN it _ p1 p2 p3 y (1 + z.fmod 12) _ t1 t2 tm B X T hd' hu FC NC dA1 dA2 l1 l2 eC1 eC2 near_misses.1 near_misses.2) ?_
  rintro _ ⟨hE, tkE, mE, _, rfl, FE, NE, rfl, eE1⟩
  refine seg_cutL bd 8 1 _ (seg3 w mean mg mb dp un gd a ccd A₀ h₀ L bd sc hbd hsc mE { s with heap := hE, toks := tkE } I DN it _ p1 p2 p3 y (1 + z.fmod 12) _ t1 t2 t3 B X T hd' hu FE NE dA1 dA2 dC l1 l2 eE1 near_fits.1 near_fits.2) ?_
  rintro _ ⟨hG, tkG, mG, _, rfl, FG, NG, D, oD, kvs, T', rfl, eG1, eG2, hT, hD⟩
  obtain ⟨J, hJ⟩ : ∃ J, J = jdF y (1 + z.fmod 12) (x.fmod (dimF y (1 + z.fmod 12)) + 1) := ⟨_, rfl⟩
  rw [← hJ] at hT
  obtain ⟨D1, D2, D3, D4, D5, D6, D7, v1, v2, v3, v4, v5, v6, v7, rfl, rfl, i1, i2, i3, i4, i5, i6, i7⟩ := told_parts hT
  have NG1 : News h₀ L hG [(D, oD), (D7, tupOf v7), (D6, tupOf v6), (D5, tupOf v5), (D4, tupOf v4), (D3, tupOf v3), (D2, tupOf v2), (D1, tupOf v1), (I, it), (DN, W.listOf vs.toArray 0), (L + 1 + 1 + 1, p3), (L + 1 + 1, p2), (L + 1, p1)] := NG
  have hD1 : oD.IsDictOf (PySem.strKind ProgX w) [(Str.ofString "loose", .ref D1), (Str.ofString "fixed", .ref D2), (Str.ofString "coptic", .ref D3), (Str.ofString "fourth", .ref D4), (Str.ofString "romme", .ref D5), (Str.ofString "madler", .ref D6), (Str.ofString "long count", .ref D7)] := hD
  clear NG hD hT
  refine seg_cutL bd 9 5 _ (seg4 w mean mg mb dp un gd a ccd A₀ h₀ L bd sc hbd hsc mG { s with heap := hG, toks := tkG } I DN it _ p1 p2 p3 D D1 D2 D3 D4 D5 D6 D7 oD v1 v2 v3 v4 v5 v6 v7 J B X T hd' hu FG NG1 hD1 i3 eG1 eG2) ?_
  rintro _ ⟨hH, tkH, mH, _, rfl, FH, NH, rfl, eH1, eH2, ⟨to, eH3⟩, ⟨tp, eH4⟩, ⟨tc, eH5⟩⟩
  refine seg_cutL bd 14 2 _ (seg5a w mean mg mb dp un gd a ccd A₀ h₀ L bd sc hbd hsc mH { s with heap := hH, toks := tkH } I DN it _ p1 p2 p3 D D1 D2 D3 D4 D5 D6 D7 oD v1 v2 v3 v4 v5 v6 v7 (copY J) (copD J + 1) (J - 1922502) to tp tc B X T hd' hu FH NH eH1 eH2 eH3 eH4 eH5) ?_
  rintro _ ⟨hI, tkI, mI, _, rfl, FI, NI, U, U1, U2, U3, U4, U5, U6, oU, u1, u2, u3, u4, u5, u6, rfl, hU, lU, j1, z2, z3, z4, z5, z6, eI1, eI2, eI3, eI4, eI5, eI6⟩
  refine seg_cutL bd 16 3 _ (seg5b w mean mg mb dp un gd a ccd A₀ h₀ L bd sc hbd hsc mI { s with heap := hI, toks := tkI } I DN it _ p1 p2 p3 D D1 D2 D3 D4 D5 D6 D7 oD v1 v2 v3 v4 v5 v6 v7 U U1 U2 U3 U4 U5 U6 oU u1 u2 u3 u4 u5 u6 (copY J) (copD J + 1) (J - 1922502) to tp tc B X T hd' hu FI NI hU lU eI1 eI2 eI3 eI4 eI5 eI6 z2) ?_
  clear hU lU z2 NI
  rintro _ ⟨hJ, tkJ, mJ, _, rfl, FJ, NJ, U2, oU, u2, rfl, hU, lU, j2, eJ1, eJ2, eJ3, eJ4, eJ5, eJ6⟩
  refine seg_cutL bd 19 3 _ (seg5c w mean mg mb dp un gd a ccd A₀ h₀ L bd sc hbd hsc mJ { s with heap := hJ, toks := tkJ } I DN it _ p1 p2 p3 D D1 D2 D3 D4 D5 D6 D7 oD v1 v2 v3 v4 v5 v6 v7 U U1 U2 U3 U4 U5 U6 oU u1 u2 u3 u4 u5 u6 (copY J) (copD J + 1) (J - 1922502) to tp tc B X T hd' hu FJ NJ hU lU eJ1 eJ2 eJ3 eJ4 eJ5 eJ6 z3 z4 z5) ?_
  clear hU lU z3 z4 z5 NJ
  rintro _ ⟨hK, tkK, mK, _, rfl, FK, NK, U3, U4, U5, oU, u3, u4, u5, rfl, hU, lU, j3, j4, j5, eK1, eK2, eK3, ⟨tfr, eK4⟩, eK5⟩
  refine seg_cutL bd 22 2 _ (seg5d w mean mg mb dp un gd a ccd A₀ h₀ L bd sc hbd hsc mK { s with heap := hK, toks := tkK } I DN it _ p1 p2 p3 D D1 D2 D3 D4 D5 D6 D7 oD v1 v2 v3 v4 v5 v6 v7 U U1 U2 U3 U4 U5 U6 oU u1 u2 u3 u4 u5 u6 _ (J - 1922502) tfr tc B X T hd' hu FK NK hU lU eK1 eK2 eK3 eK4 eK5 z6) ?_
  clear hU lU z6 NK
  rintro _ ⟨hM, tkM, mM, _, rfl, FM, NM, U6, oU, u6, rfl, hU, lU, j6, eM1, eM2, eM3, eM4, eM5, tmy, eM6⟩
  refine seg_cutL bd 24 1 _ (seg6 w mean mg mb dp un gd a ccd A₀ h₀ L bd sc hbd hsc mM { s with heap := hM, toks := tkM } I DN it _ p1 p2 p3 D D1 D2 D3 D4 D5 D6 D7 oD v1 v2 v3 v4 v5 v6 v7 U U1 U2 U3 U4 U5 U6 oU u1 u2 u3 u4 u5 u6 J tfr tc tmy B X T hd' hu FM NM hU lU eM1 eM2 eM3 hD1 i1 i2 i4 i5 i6 i7 j1 j2 j3 j4 j5 j6 eM4 eM5 eM6) ?_
  rintro _ ⟨hP, tkP, mP, _, rfl, FP, NP, rfl, eP1, eP2, eP3, eP4, eP5⟩
  have NQ : News h₀ L hP [(D, oD), (D7, tupOf v7), (D6, tupOf v6), (D5, tupOf v5), (D4, tupOf v4), (D3, tupOf v3), (D2, tupOf v2), (D1, tupOf v1), (I, it), (DN, W.listOf vs.toArray 0), (L + 1 + 1 + 1, p3), (L + 1 + 1, p2), (L + 1, p1)] := fun q hq => NP q (.tail _ (.tail _ (.tail _ (.tail _ (.tail _ (.tail _ (.tail _ hq)))))))
  refine wpAny_mono (seg_endL bd 25 1 (hbd ▸ turn_len w) _ (seg7 w mean mg mb dp un gd a ccd A₀ h₀ L bd sc hbd hsc mP { s with heap := hP, toks := tkP } I DN it _ p1 p2 p3 D D1 D2 D3 D4 D5 D6 D7 oD v1 v2 v3 v4 v5 v6 v7 J tc tmy B X T hd' hu FP NQ hD1 i7 eP1 eP2 eP4 eP5)) (fun f s' hf => ?_) fun _ _ e => e
  obtain ⟨rfl, hR, tkR, mR, _, rfl, FR, NR, rfl, eR⟩ := hf
  exact hQ _ _ ⟨rfl, hR, tkR, mR, _, rfl, FR, NR, p1, p2, p3, _, _, _, rfl, dA1, dA2, dC, eR⟩

theorem offP40 : True := by
  w_top off
  trivial
theorem loop (w : World) (mean : ExcName → Option Value) (mg mb : Str → Option Value) (dp un : Nat) (gd : Option (List Code)) (a : Addr) (ccd : Value) (A₀ : Around) (h₀ : Heap) (L : Nat) (bd : List Stmt) (sc : Scope) (hbd : turnBody w = bd) (hsc : lawScope w = sc) (s : Shared) (I DN : Nat) (vs : List Value) (ns : List Int) (n : Nat) {Q : Flow → Shared → Prop} {E : Value → Shared → Prop}
    (B : Below A₀ h₀ [] h₀) (X : (hd.heap_39 w.params).In h₀) (T : Top hd.view_39 LooseX mean mg mb h₀) (hd' : dp + 20 < recursionLimit) (hu : un + 8 * 20 < cLine)
    (l1 : L + 1 + 1 + 1 < DN) (l2 : DN < I) (hi : IntsAre vs ns) (hb : ∀ i : Nat, i < n → (0 + (i : Int) * 3) + 2 < (ns.length : Int)) (h15 : ns.length ≤ 15)
    (hQ : ∀ h tk m news, Fr h₀ L h m → News h₀ L h news → Q .next { s with heap := h, toks := tk }) :
    ∀ (k i : Nat) (m : Str → Option Value) (o1 o2 o3 : Obj) (c1 c2 c3 : Option Value), i + k = n → o1.data = .cell c1 → o2.data = .cell c2 → o3.data = .cell c3 → m (Str.ofString "numbers") = some (.ref DN) →
      KrsRest ProgX w (topS sc dp un gd L a ccd) E h₀ (envS sc L a ccd) (Str.ofString "at") bd Q s I 0 3 n k i m [(DN, W.listOf vs.toArray 0), (L + 1 + 1 + 1, o3), (L + 1 + 1, o2), (L + 1, o1)]
  | 0, i, m, o1, o2, o3, c1, c2, c3, _, _, _, _, _ => fun h tk F N => hQ h tk m _ F N
  | k + 1, i, m, o1, o2, o3, c1, c2, c3, hk, d1, d2, d3, hn => fun t h tk F N => by
    refine wpAny_mono (turn w mean mg mb dp un gd a ccd A₀ h₀ L bd sc hbd hsc _ { s with heap := h, toks := tk } I DN _ o1 o2 o3 vs ns (0 + (i : Int) * 3) t c1 c2 c3 B X T hd' hu F N d1 d2 d3 l1 l2 hi (if_pos rfl) ((if_neg (by decide +kernel)).trans hn) (by omega) (hb i (by omega)) h15) (fun f s' hf => ?_) fun _ _ e => e.elim
    obtain ⟨rfl, h', tk', m', _, rfl, F', N', p1, p2, p3, e1, e2, e3, rfl, q1, q2, q3, hn'⟩ := hf
    refine ⟨h', tk', m', [(DN, W.listOf vs.toArray 0), (L + 1 + 1 + 1, p3), (L + 1 + 1, p2), (L + 1, p1)], rfl, F', N', ?_, ?_⟩
    · intro p hp
      rcases List.mem_cons.mp hp with rfl | hp
      · exact (show @Ne Nat DN I by omega)
      rcases List.mem_cons.mp hp with rfl | hp
      · exact (show @Ne Nat (L + 1 + 1 + 1) I by omega)
      rcases List.mem_cons.mp hp with rfl | hp
      · exact (show @Ne Nat (L + 1 + 1) I by omega)
      rcases List.mem_cons.mp hp with rfl | hp
      · exact (show @Ne Nat (L + 1) I by omega)
      · cases hp
    · exact loop w mean mg mb dp un gd a ccd A₀ h₀ L bd sc hbd hsc s I DN vs ns n B X T hd' hu l1 l2 hi hb h15 hQ k (i + 1) m' p1 p2 p3 e1 e2 e3 (by omega) q1 q2 q3 hn'
theorem loopU {w : World} {mean : ExcName → Option Value} {mg mb : Str → Option Value} {dp un : Nat} {gd : Option (List Code)} {a : Addr} {ccd : Value} {A₀ A : Around} {h₀ : Heap} {L : Nat} {s : Shared} {I DN : Nat} {vs : List Value} {ns : List Int} {n : Nat} {Q : Flow → Shared → Prop} {E : Value → Shared → Prop} {sc : Scope} {bd : List Stmt} {m : Str → Option Value} {o1 o2 o3 : Obj} {c1 c2 c3 : Option Value}
    (hs : lawScope w = sc) (hbd : turnBody w = bd) (hA : A = ktrTop dp un gd (Str.ofString "law") sc L a ccd (cellsFrom (L + 1) sc.names []) [])
    (B : Below A₀ h₀ [] h₀) (X : (hd.heap_39 w.params).In h₀) (T : Top hd.view_39 LooseX mean mg mb h₀) (hd' : dp + 20 < recursionLimit) (hu : un + 8 * 20 < cLine)
    (l1 : L + 1 + 1 + 1 < DN) (l2 : DN < I) (hi : IntsAre vs ns) (hb : ∀ i : Nat, i < n → (0 + (i : Int) * 3) + 2 < (ns.length : Int)) (h15 : ns.length ≤ 15)
    (hQ : ∀ h tk m news, Fr h₀ L h m → News h₀ L h news → Q .next { s with heap := h, toks := tk })
    (d1 : o1.data = .cell c1) (d2 : o2.data = .cell c2) (d3 : o3.data = .cell c3) (hn : m (Str.ofString "numbers") = some (.ref DN)) :
      KrsRest ProgX w A E h₀ (envOfC (Str.ofString "law") sc L a ccd) (Str.ofString "at") bd Q s I 0 3 n n 0 m [(DN, W.listOf vs.toArray 0), (L + 1 + 1 + 1, o3), (L + 1 + 1, o2), (L + 1, o1)] := by
  subst hA
  exact loop w mean mg mb dp un gd a ccd A₀ h₀ L bd sc hbd hs s I DN vs ns n B X T hd' hu l1 l2 hi hb h15 hQ n 0 m o1 o2 o3 c1 c2 c3 (Nat.zero_add n) d1 d2 d3 hn
theorem scope_is (w : World) {o : Obj} (h : (hd.heap_39 w.params).lookup 306 = some o) {sc : Scope} (e : (match o.data with | .func fd => fd.scope | _ => default) = sc) : lawScope w = sc := by
  unfold lawScope scopeOf
  rw [h]; exact e
theorem body_is (w : World) {o : Obj} (h : (hd.heap_39 w.params).lookup 306 = some o) {bd : List Stmt} (e : forBody (match o.data with | .func fd => (match fd.body with | .stmts b => b | _ => []) | _ => []) = bd) : turnBody w = bd := by
  unfold turnBody lawBody bodyOf
  rw [h]; exact e
theorem turns_of (l : Nat) (h : l ≤ 12) : ∃ n : Nat, PySem.Builtin.Range.rangeSize 0 (if (l : Int) > 1 then (l : Int) else 1) 3 = (n : Int) ∧ PySem.Builtin.Range.small 0 (if (l : Int) > 1 then (l : Int) else 1) 3 = true ∧ ∀ i : Nat, i < n → (0 + (i : Int) * 3) + 2 < ((l + 3 : Nat) : Int) := by
  have h' : l < 13 := by omega
  have z : ∀ k < 13, PySem.Builtin.Range.rangeSize 0 (if ((k : Nat) : Int) > 1 then (k : Int) else 1) 3 = ((((if k > 1 then k else 1) + 2) / 3 : Nat) : Int) ∧ PySem.Builtin.Range.small 0 (if ((k : Nat) : Int) > 1 then (k : Int) else 1) 3 = true := by decide +kernel
  refine ⟨((if l > 1 then l else 1) + 2) / 3, (z l h').1, (z l h').2, fun i hi => ?_⟩
  split at hi <;> omega

theorem offEnd : True := by
  w_top off
  trivial
end Mine
set_option maxRecDepth 100000 in
set_option maxHeartbeats 8000000 in
theorem PySem.Challenge.cw_ah0025_01_holds : PySem.Challenge.rw_ah0025_01.Holds := by
  refine Mine.hd.top Mine.hd.left ?hc
  case hc =>
    w_top off
    dsimp only [Mine.hd.d]
    k_go0
    all_goals try k_fold
    k_steps
    rename_i K0 hD h₁ tk₁ o3 o2 o1 g3 g2 g1 X0 D2 ws2 h6 hI2 hC1 hL1 l13 l' h5 l12 DN ws h4 hI1 l11 h3 Dc wsc h2 F1 hIc hC hL l1 h1 tk1 F' N' hR tkR t1 u1 v1 hr fR nR keep
    rename World => w
    rename (Mine.hd.heap_39 _).In _ => KX
    rename Top _ _ _ _ _ _ => T
    obtain ⟨n, en, es, eb⟩ := Mine.turns_of _ (Nat.le_trans (Nat.le_of_eq hC) (Nat.min_le_left _ _))
    have e := Mine.here (K := Mine.hd.heap_39 w.params) (a := 306) _ (by k_is)
    have hs := Mine.scope_is w e rfl
    have hb := Mine.body_is w e rfl
    rename Shared => s1
    have N4 : News s1.heap s1.heap.objs.size hR [(DN, W.listOf ws.toArray 0), (s1.heap.objs.size + 1 + 1 + 1, o3), (s1.heap.objs.size + 1 + 1, o2), (s1.heap.objs.size + 1, o1)] := fun p hp => nR p (by
      refine .tail _ ?_
      rcases List.mem_cons.mp hp with rfl | hp
      · exact .head _
      · exact .tail _ (.tail _ (.tail _ hp)))
    refine krs_iter (n := n) rfl hr es en fR N4 ?_
    intro I lI
    refine Mine.loopU (ns := List.take 12 _ ++ [0, 0, 0]) hs hb rfl (below_caller _) KX T ?zd ?zu ?z1 ?z2 hI1 ?z3 ?z4 ?z5 g1 g2 g3 ?z6
    case zd => decide +kernel
    case zu => decide +kernel
    case z1 => exact l11.2.2.1
    case z2 => exact lI _ (List.Mem.head _)
    case z3 =>
      intro i hi
      rw [List.length_append]
      exact eb i hi
    case z4 =>
      rw [List.length_append]
      exact Nat.add_le_add_right (Nat.le_trans (Nat.le_of_eq hC) (Nat.min_le_left _ _)) 3
    case z6 => exact if_pos rfl
    case z5 =>
      intro h9 tk9 m9 n9 F9 N9
      clear fR nR N4 F' N' F1 X0 keep
      k_steps
