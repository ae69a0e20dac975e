import PyProof.Rows.All
import Wide.All
import OpenK.AllK
import Wide.FinOn
import PySem.Challenge.RW_wf0083_01
open PySem PySem.W PyProof.Rows
set_option Elab.async false
set_option maxRecDepth 100000
set_option linter.all false
namespace Mine
noncomputable def fOf (i : Nat) : Option (PySem.Arguments × List PySem.Stmt × PySem.Scope) := match PySem.Challenge.pw_wf0083_01.main.body[i]? with
  | some (.FunctionDef _ a b _ _ _ s _ _ _) => some (a, b, s)
  | _ => none
noncomputable def fA (i : Nat) : PySem.Arguments := match fOf i with | some x => x.1 | none => default
noncomputable def fB (i : Nat) : List PySem.Stmt := match fOf i with | some x => x.2.1 | none => []
noncomputable def fS (i : Nat) : PySem.Scope := match fOf i with | some x => x.2.2 | none => default
noncomputable def KF : Params → Frag := fun P => [
  (nat_lit 2, ⟨.none, none, .dict (List.toArray []) 0, #[]⟩),
  (nat_lit 3, ⟨(.type "dict"), none, .dict (List.toArray [⟨PyData.keyHash P (Str.ofString "__name__"), (.str (Str.ofString "__name__") 165), (.str (Str.ofString "law_wf0083_01") 2312)⟩, ⟨PyData.keyHash P (Str.ofString "__doc__"), (.str (Str.ofString "__doc__") 166), .none⟩, ⟨PyData.keyHash P (Str.ofString "__package__"), (.str (Str.ofString "__package__") 167), .none⟩, ⟨PyData.keyHash P (Str.ofString "__loader__"), (.str (Str.ofString "__loader__") 168), (.builtin "__main__.__loader__#opaque")⟩, ⟨PyData.keyHash P (Str.ofString "__spec__"), (.str (Str.ofString "__spec__") 169), .none⟩, ⟨PyData.keyHash P (Str.ofString "__annotations__"), (.str (Str.ofString "__annotations__") 170), (.ref 6)⟩, ⟨PyData.keyHash P (Str.ofString "__builtins__"), (.str (Str.ofString "__builtins__") 171), (.ref 4)⟩, ⟨PyData.keyHash P (Str.ofString "__file__"), (.str (Str.ofString "__file__") 173), (.str (Str.ofString "/claim/cut.py") 172)⟩, ⟨PyData.keyHash P (Str.ofString "__cached__"), (.str (Str.ofString "__cached__") 174), .none⟩, ⟨PyData.keyHash P (Str.ofString "bisect_right"), (.str (Str.ofString "bisect_right") 202), (.ref 23)⟩, ⟨PyData.keyHash P (Str.ofString "bisect_left"), (.str (Str.ofString "bisect_left") 216), (.ref 32)⟩, ⟨PyData.keyHash P (Str.ofString "COMPILER_FLAG_NAMES"), (.str (Str.ofString "COMPILER_FLAG_NAMES") 249), (.ref 33)⟩, ⟨PyData.keyHash P (Str.ofString "pretty_flags"), (.str (Str.ofString "pretty_flags") 259), (.ref 40)⟩, ⟨PyData.keyHash P (Str.ofString "_iter_escaped_chars"), (.str (Str.ofString "_iter_escaped_chars") 271), (.ref 47)⟩, ⟨PyData.keyHash P (Str.ofString "_strip_quoted_realnames"), (.str (Str.ofString "_strip_quoted_realnames") 283), (.ref 54)⟩, ⟨PyData.keyHash P (Str.ofString "b1_set"), (.str (Str.ofString "b1_set") 345), (.ref 62)⟩, ⟨PyData.keyHash P (Str.ofString "in_table_b1"), (.str (Str.ofString "in_table_b1") 352), (.ref 72)⟩, ⟨PyData.keyHash P (Str.ofString "b3_exceptions"), (.str (Str.ofString "b3_exceptions") 2303), (.ref 73)⟩, ⟨PyData.keyHash P (Str.ofString "map_table_b3"), (.str (Str.ofString "map_table_b3") 2311), (.ref 118)⟩, ⟨PyData.keyHash P (Str.ofString "_law_cascade"), (.str (Str.ofString "_law_cascade") 2324), (.ref 125)⟩, ⟨PyData.keyHash P (Str.ofString "_law_left"), (.str (Str.ofString "_law_left") 2330), (.ref 130)⟩, ⟨PyData.keyHash P (Str.ofString "_law_laid"), (.str (Str.ofString "_law_laid") 2339), (.ref 137)⟩, ⟨PyData.keyHash P (Str.ofString "law"), (.str (Str.ofString "law") 2345), (.ref 142)⟩]) 23, #[]⟩),
  (nat_lit 6, ⟨(.type "dict"), none, .dict (List.toArray []) 0, #[]⟩),
  (nat_lit 15, ⟨(.type "tuple"), none, .seq (List.toArray [(.int 0 189), .none]) 0, #[]⟩),
  (nat_lit 16, ⟨(.type "dict"), none, .dict (List.toArray [⟨PyData.keyHash P (Str.ofString "key"), (.str (Str.ofString "key") 190), .none⟩]) 1, #[]⟩),
  (nat_lit 17, ⟨(.type "tuple"), none, .seq (List.toArray []) 0, #[]⟩),
  (nat_lit 19, ⟨(.type "tuple"), none, .seq (List.toArray [(.str (Str.ofString "a") 194), (.str (Str.ofString "x") 195), (.str (Str.ofString "lo") 196), (.str (Str.ofString "hi") 197), (.str (Str.ofString "key") 198), (.str (Str.ofString "mid") 199)]) 0, #[]⟩),
  (nat_lit 20, ⟨(.type "tuple"), none, .seq (List.toArray []) 0, #[]⟩),
  (nat_lit 22, ⟨(.type "code"), none, .fields (List.toArray [(.str (Str.ofString "bisect_right") 191), (.str (Str.ofString "bisect_right") 192), (.str (Str.ofString "/claim/cut.py") 193), (.int 2 0), (.int 4 0), (.int 0 0), (.int 1 0), (.int 3 0), (.ref 17), (.bool true), (.int 181 0), (.ref 18), .none, (.ref 19), (.ref 20), (.ref 21), (.int 200 0), (.int 2 0), (.str (Str.ofString "/claim/cut.py") 201)]), #[]⟩),
  (nat_lit 23, ⟨(.type "function"), none, .func ⟨(Str.ofString "bisect_right"), (Str.ofString "bisect_right"), fA 1, .stmts (fB 1), fS 1, 3, [], (.ref 15), (.ref 16), .none, (.str (Str.ofString "cpy313.bisect") 187), none, (.ref 22), .none, 0⟩, #[]⟩),
  (nat_lit 24, ⟨(.type "tuple"), none, .seq (List.toArray [(.int 0 203), .none]) 0, #[]⟩),
  (nat_lit 25, ⟨(.type "dict"), none, .dict (List.toArray [⟨PyData.keyHash P (Str.ofString "key"), (.str (Str.ofString "key") 204), .none⟩]) 1, #[]⟩),
  (nat_lit 26, ⟨(.type "tuple"), none, .seq (List.toArray []) 0, #[]⟩),
  (nat_lit 28, ⟨(.type "tuple"), none, .seq (List.toArray [(.str (Str.ofString "a") 208), (.str (Str.ofString "x") 209), (.str (Str.ofString "lo") 210), (.str (Str.ofString "hi") 211), (.str (Str.ofString "key") 212), (.str (Str.ofString "mid") 213)]) 0, #[]⟩),
  (nat_lit 29, ⟨(.type "tuple"), none, .seq (List.toArray []) 0, #[]⟩),
  (nat_lit 31, ⟨(.type "code"), none, .fields (List.toArray [(.str (Str.ofString "bisect_left") 205), (.str (Str.ofString "bisect_left") 206), (.str (Str.ofString "/claim/cut.py") 207), (.int 22 0), (.int 4 0), (.int 0 0), (.int 1 0), (.int 3 0), (.ref 26), (.bool true), (.int 181 0), (.ref 27), .none, (.ref 28), (.ref 29), (.ref 30), (.int 214 0), (.int 22 0), (.str (Str.ofString "/claim/cut.py") 215)]), #[]⟩),
  (nat_lit 32, ⟨(.type "function"), none, .func ⟨(Str.ofString "bisect_left"), (Str.ofString "bisect_left"), fA 2, .stmts (fB 2), fS 2, 3, [], (.ref 24), (.ref 25), .none, (.str (Str.ofString "cpy313.bisect") 187), none, (.ref 31), .none, 0⟩, #[]⟩),
  (nat_lit 33, ⟨(.type "dict"), none, .dict (List.toArray [⟨1, (.int 1 219), (.str (Str.ofString "OPTIMIZED") 220)⟩, ⟨2, (.int 2 221), (.str (Str.ofString "NEWLOCALS") 222)⟩, ⟨4, (.int 4 223), (.str (Str.ofString "VARARGS") 224)⟩, ⟨8, (.int 8 225), (.str (Str.ofString "VARKEYWORDS") 226)⟩, ⟨16, (.int 16 227), (.str (Str.ofString "NESTED") 228)⟩, ⟨32, (.int 32 229), (.str (Str.ofString "GENERATOR") 230)⟩, ⟨64, (.int 64 231), (.str (Str.ofString "NOFREE") 232)⟩, ⟨128, (.int 128 233), (.str (Str.ofString "COROUTINE") 234)⟩, ⟨256, (.int 256 235), (.str (Str.ofString "ITERABLE_COROUTINE") 236)⟩, ⟨512, (.int 512 237), (.str (Str.ofString "ASYNC_GENERATOR") 238)⟩]) 10, #[]⟩),
  (nat_lit 34, ⟨(.type "tuple"), none, .seq (List.toArray []) 0, #[]⟩),
  (nat_lit 36, ⟨(.type "tuple"), none, .seq (List.toArray [(.str (Str.ofString "flags") 253), (.str (Str.ofString "names") 254), (.str (Str.ofString "i") 255), (.str (Str.ofString "flag") 256)]) 0, #[]⟩),
  (nat_lit 37, ⟨(.type "tuple"), none, .seq (List.toArray []) 0, #[]⟩),
  (nat_lit 39, ⟨(.type "code"), none, .fields (List.toArray [(.str (Str.ofString "pretty_flags") 250), (.str (Str.ofString "pretty_flags") 251), (.str (Str.ofString "/claim/cut.py") 252), (.int 44 0), (.int 1 0), (.int 0 0), (.int 0 0), (.int 3 0), (.ref 34), (.bool true), (.int 181 0), (.ref 35), .none, (.ref 36), (.ref 37), (.ref 38), (.int 257 0), (.int 44 0), (.str (Str.ofString "/claim/cut.py") 258)]), #[]⟩),
  (nat_lit 40, ⟨(.type "function"), none, .func ⟨(Str.ofString "pretty_flags"), (Str.ofString "pretty_flags"), fA 5, .stmts (fB 5), fS 5, 3, [], .none, .none, .none, (.str (Str.ofString "cpy313.dis") 217), none, (.ref 39), .none, 0⟩, #[]⟩),
  (nat_lit 41, ⟨(.type "tuple"), none, .seq (List.toArray []) 0, #[]⟩),
  (nat_lit 43, ⟨(.type "tuple"), none, .seq (List.toArray [(.str (Str.ofString "addr") 265), (.str (Str.ofString "pos") 266), (.str (Str.ofString "escape") 267), (.str (Str.ofString "ch") 268)]) 0, #[]⟩),
  (nat_lit 44, ⟨(.type "tuple"), none, .seq (List.toArray []) 0, #[]⟩),
  (nat_lit 46, ⟨(.type "code"), none, .fields (List.toArray [(.str (Str.ofString "_iter_escaped_chars") 262), (.str (Str.ofString "_iter_escaped_chars") 263), (.str (Str.ofString "/claim/cut.py") 264), (.int 57 0), (.int 1 0), (.int 0 0), (.int 0 0), (.int 35 0), (.ref 41), (.bool true), (.int 181 0), (.ref 42), .none, (.ref 43), (.ref 44), (.ref 45), (.int 269 0), (.int 57 0), (.str (Str.ofString "/claim/cut.py") 270)]), #[]⟩),
  (nat_lit 47, ⟨(.type "function"), none, .func ⟨(Str.ofString "_iter_escaped_chars"), (Str.ofString "_iter_escaped_chars"), fA 7, .stmts (fB 7), fS 7, 3, [], .none, .none, .none, (.str (Str.ofString "cpy313.email.utils") 260), none, (.ref 46), .none, 0⟩, #[]⟩),
  (nat_lit 48, ⟨(.type "tuple"), none, .seq (List.toArray []) 0, #[]⟩),
  (nat_lit 50, ⟨(.type "tuple"), none, .seq (List.toArray [(.str (Str.ofString "addr") 275), (.str (Str.ofString "start") 276), (.str (Str.ofString "open_pos") 277), (.str (Str.ofString "result") 278), (.str (Str.ofString "pos") 279), (.str (Str.ofString "ch") 280)]) 0, #[]⟩),
  (nat_lit 51, ⟨(.type "tuple"), none, .seq (List.toArray []) 0, #[]⟩),
  (nat_lit 53, ⟨(.type "code"), none, .fields (List.toArray [(.str (Str.ofString "_strip_quoted_realnames") 272), (.str (Str.ofString "_strip_quoted_realnames") 273), (.str (Str.ofString "/claim/cut.py") 274), (.int 70 0), (.int 1 0), (.int 0 0), (.int 0 0), (.int 3 0), (.ref 48), (.bool true), (.int 181 0), (.ref 49), .none, (.ref 50), (.ref 51), (.ref 52), (.int 281 0), (.int 70 0), (.str (Str.ofString "/claim/cut.py") 282)]), #[]⟩),
  (nat_lit 54, ⟨(.type "function"), none, .func ⟨(Str.ofString "_strip_quoted_realnames"), (Str.ofString "_strip_quoted_realnames"), fA 8, .stmts (fB 8), fS 8, 3, [], .none, .none, .none, (.str (Str.ofString "cpy313.email.utils") 260), none, (.ref 53), .none, 0⟩, #[]⟩),
  (nat_lit 62, ⟨(.type "set"), none, .set (List.toArray [(65024, (.int 65024 302)), (65025, (.int 65025 303)), (65026, (.int 65026 304)), (65027, (.int 65027 305)), (65028, (.int 65028 306)), (65029, (.int 65029 307)), (6150, (.int 6150 288)), (65030, (.int 65030 308)), (65031, (.int 65031 309)), (65032, (.int 65032 310)), (65033, (.int 65033 311)), (6155, (.int 6155 289)), (6156, (.int 6156 290)), (6157, (.int 6157 291)), (8203, (.int 8203 292)), (8204, (.int 8204 293)), (8205, (.int 8205 294)), (65034, (.int 65034 312)), (65035, (.int 65035 313)), (65036, (.int 65036 314)), (65037, (.int 65037 315)), (65038, (.int 65038 316)), (65039, (.int 65039 317)), (173, (.int 173 286)), (847, (.int 847 287)), (8288, (.int 8288 295)), (65279, (.int 65279 296))]) 29 ⟨127, List.toArray [0, 1, 2, 3, 4, 5, 6, 7, 8, 9, 10, 11, 12, 13, 14, 15, 16, 17, 18, 19, 20, 21, 22, 45, 79, 96, 127], List.toArray [], 0, !P.followText "set-order", 2, true⟩, #[]⟩),
  (nat_lit 66, ⟨(.type "tuple"), none, .seq (List.toArray []) 0, #[]⟩),
  (nat_lit 68, ⟨(.type "tuple"), none, .seq (List.toArray [(.str (Str.ofString "code") 349)]) 0, #[]⟩),
  (nat_lit 69, ⟨(.type "tuple"), none, .seq (List.toArray []) 0, #[]⟩),
  (nat_lit 71, ⟨(.type "code"), none, .fields (List.toArray [(.str (Str.ofString "in_table_b1") 346), (.str (Str.ofString "in_table_b1") 347), (.str (Str.ofString "/claim/cut.py") 348), (.int 90 0), (.int 1 0), (.int 0 0), (.int 0 0), (.int 3 0), (.ref 66), (.bool true), (.int 181 0), (.ref 67), .none, (.ref 68), (.ref 69), (.ref 70), (.int 350 0), (.int 90 0), (.str (Str.ofString "/claim/cut.py") 351)]), #[]⟩),
  (nat_lit 72, ⟨(.type "function"), none, .func ⟨(Str.ofString "in_table_b1"), (Str.ofString "in_table_b1"), fA 11, .stmts (fB 11), fS 11, 3, [], .none, .none, .none, (.str (Str.ofString "cpy313.stringprep") 284), none, (.ref 71), .none, 0⟩, #[]⟩),
  (nat_lit 73, ⟨(.type "dict"), none, .dict (List.toArray [⟨181, (.int 181 353), (.str (Str.mk #[956]) 354)⟩, ⟨223, (.int 223 356), (.str (Str.ofString "ss") 357)⟩, ⟨304, (.int 304 359), (.str (Str.mk #[105, 775]) 360)⟩, ⟨329, (.int 329 362), (.str (Str.mk #[700, 110]) 363)⟩, ⟨383, (.int 383 365), (.str (Str.ofString "s") 366)⟩, ⟨496, (.int 496 368), (.str (Str.mk #[106, 780]) 369)⟩, ⟨837, (.int 837 371), (.str (Str.mk #[953]) 372)⟩, ⟨890, (.int 890 374), (.str (Str.mk #[32, 953]) 375)⟩, ⟨912, (.int 912 377), (.str (Str.mk #[953, 776, 769]) 378)⟩, ⟨944, (.int 944 380), (.str (Str.mk #[965, 776, 769]) 381)⟩, ⟨962, (.int 962 383), (.str (Str.mk #[963]) 384)⟩, ⟨976, (.int 976 386), (.str (Str.mk #[946]) 387)⟩, ⟨977, (.int 977 389), (.str (Str.mk #[952]) 390)⟩, ⟨978, (.int 978 392), (.str (Str.mk #[965]) 393)⟩, ⟨979, (.int 979 395), (.str (Str.mk #[973]) 396)⟩, ⟨980, (.int 980 398), (.str (Str.mk #[971]) 399)⟩, ⟨981, (.int 981 401), (.str (Str.mk #[966]) 402)⟩, ⟨982, (.int 982 404), (.str (Str.mk #[960]) 405)⟩, ⟨1008, (.int 1008 407), (.str (Str.mk #[954]) 408)⟩, ⟨1009, (.int 1009 410), (.str (Str.mk #[961]) 411)⟩, ⟨1010, (.int 1010 413), (.str (Str.mk #[963]) 414)⟩, ⟨1013, (.int 1013 416), (.str (Str.mk #[949]) 417)⟩, ⟨1415, (.int 1415 419), (.str (Str.mk #[1381, 1410]) 420)⟩, ⟨7830, (.int 7830 422), (.str (Str.mk #[104, 817]) 423)⟩, ⟨7831, (.int 7831 425), (.str (Str.mk #[116, 776]) 426)⟩, ⟨7832, (.int 7832 428), (.str (Str.mk #[119, 778]) 429)⟩, ⟨7833, (.int 7833 431), (.str (Str.mk #[121, 778]) 432)⟩, ⟨7834, (.int 7834 434), (.str (Str.mk #[97, 702]) 435)⟩, ⟨7835, (.int 7835 437), (.str (Str.mk #[7777]) 438)⟩, ⟨8016, (.int 8016 440), (.str (Str.mk #[965, 787]) 441)⟩, ⟨8018, (.int 8018 443), (.str (Str.mk #[965, 787, 768]) 444)⟩, ⟨8020, (.int 8020 446), (.str (Str.mk #[965, 787, 769]) 447)⟩, ⟨8022, (.int 8022 449), (.str (Str.mk #[965, 787, 834]) 450)⟩, ⟨8064, (.int 8064 452), (.str (Str.mk #[7936, 953]) 453)⟩, ⟨8065, (.int 8065 455), (.str (Str.mk #[7937, 953]) 456)⟩, ⟨8066, (.int 8066 458), (.str (Str.mk #[7938, 953]) 459)⟩, ⟨8067, (.int 8067 461), (.str (Str.mk #[7939, 953]) 462)⟩, ⟨8068, (.int 8068 464), (.str (Str.mk #[7940, 953]) 465)⟩, ⟨8069, (.int 8069 467), (.str (Str.mk #[7941, 953]) 468)⟩, ⟨8070, (.int 8070 470), (.str (Str.mk #[7942, 953]) 471)⟩, ⟨8071, (.int 8071 473), (.str (Str.mk #[7943, 953]) 474)⟩, ⟨8072, (.int 8072 476), (.str (Str.mk #[7936, 953]) 477)⟩, ⟨8073, (.int 8073 479), (.str (Str.mk #[7937, 953]) 480)⟩, ⟨8074, (.int 8074 482), (.str (Str.mk #[7938, 953]) 483)⟩, ⟨8075, (.int 8075 485), (.str (Str.mk #[7939, 953]) 486)⟩, ⟨8076, (.int 8076 488), (.str (Str.mk #[7940, 953]) 489)⟩, ⟨8077, (.int 8077 491), (.str (Str.mk #[7941, 953]) 492)⟩, ⟨8078, (.int 8078 494), (.str (Str.mk #[7942, 953]) 495)⟩, ⟨8079, (.int 8079 497), (.str (Str.mk #[7943, 953]) 498)⟩, ⟨8080, (.int 8080 500), (.str (Str.mk #[7968, 953]) 501)⟩, ⟨8081, (.int 8081 503), (.str (Str.mk #[7969, 953]) 504)⟩, ⟨8082, (.int 8082 506), (.str (Str.mk #[7970, 953]) 507)⟩, ⟨8083, (.int 8083 509), (.str (Str.mk #[7971, 953]) 510)⟩, ⟨8084, (.int 8084 512), (.str (Str.mk #[7972, 953]) 513)⟩, ⟨8085, (.int 8085 515), (.str (Str.mk #[7973, 953]) 516)⟩, ⟨8086, (.int 8086 518), (.str (Str.mk #[7974, 953]) 519)⟩, ⟨8087, (.int 8087 521), (.str (Str.mk #[7975, 953]) 522)⟩, ⟨8088, (.int 8088 524), (.str (Str.mk #[7968, 953]) 525)⟩, ⟨8089, (.int 8089 527), (.str (Str.mk #[7969, 953]) 528)⟩, ⟨8090, (.int 8090 530), (.str (Str.mk #[7970, 953]) 531)⟩, ⟨8091, (.int 8091 533), (.str (Str.mk #[7971, 953]) 534)⟩, ⟨8092, (.int 8092 536), (.str (Str.mk #[7972, 953]) 537)⟩, ⟨8093, (.int 8093 539), (.str (Str.mk #[7973, 953]) 540)⟩, ⟨8094, (.int 8094 542), (.str (Str.mk #[7974, 953]) 543)⟩, ⟨8095, (.int 8095 545), (.str (Str.mk #[7975, 953]) 546)⟩, ⟨8096, (.int 8096 548), (.str (Str.mk #[8032, 953]) 549)⟩, ⟨8097, (.int 8097 551), (.str (Str.mk #[8033, 953]) 552)⟩, ⟨8098, (.int 8098 554), (.str (Str.mk #[8034, 953]) 555)⟩, ⟨8099, (.int 8099 557), (.str (Str.mk #[8035, 953]) 558)⟩, ⟨8100, (.int 8100 560), (.str (Str.mk #[8036, 953]) 561)⟩, ⟨8101, (.int 8101 563), (.str (Str.mk #[8037, 953]) 564)⟩, ⟨8102, (.int 8102 566), (.str (Str.mk #[8038, 953]) 567)⟩, ⟨8103, (.int 8103 569), (.str (Str.mk #[8039, 953]) 570)⟩, ⟨8104, (.int 8104 572), (.str (Str.mk #[8032, 953]) 573)⟩, ⟨8105, (.int 8105 575), (.str (Str.mk #[8033, 953]) 576)⟩, ⟨8106, (.int 8106 578), (.str (Str.mk #[8034, 953]) 579)⟩, ⟨8107, (.int 8107 581), (.str (Str.mk #[8035, 953]) 582)⟩, ⟨8108, (.int 8108 584), (.str (Str.mk #[8036, 953]) 585)⟩, ⟨8109, (.int 8109 587), (.str (Str.mk #[8037, 953]) 588)⟩, ⟨8110, (.int 8110 590), (.str (Str.mk #[8038, 953]) 591)⟩, ⟨8111, (.int 8111 593), (.str (Str.mk #[8039, 953]) 594)⟩, ⟨8114, (.int 8114 596), (.str (Str.mk #[8048, 953]) 597)⟩, ⟨8115, (.int 8115 599), (.str (Str.mk #[945, 953]) 600)⟩, ⟨8116, (.int 8116 602), (.str (Str.mk #[940, 953]) 603)⟩, ⟨8118, (.int 8118 605), (.str (Str.mk #[945, 834]) 606)⟩, ⟨8119, (.int 8119 608), (.str (Str.mk #[945, 834, 953]) 609)⟩, ⟨8124, (.int 8124 611), (.str (Str.mk #[945, 953]) 612)⟩, ⟨8126, (.int 8126 614), (.str (Str.mk #[953]) 615)⟩, ⟨8130, (.int 8130 617), (.str (Str.mk #[8052, 953]) 618)⟩, ⟨8131, (.int 8131 620), (.str (Str.mk #[951, 953]) 621)⟩, ⟨8132, (.int 8132 623), (.str (Str.mk #[942, 953]) 624)⟩, ⟨8134, (.int 8134 626), (.str (Str.mk #[951, 834]) 627)⟩, ⟨8135, (.int 8135 629), (.str (Str.mk #[951, 834, 953]) 630)⟩, ⟨8140, (.int 8140 632), (.str (Str.mk #[951, 953]) 633)⟩, ⟨8146, (.int 8146 635), (.str (Str.mk #[953, 776, 768]) 636)⟩, ⟨8147, (.int 8147 638), (.str (Str.mk #[953, 776, 769]) 639)⟩, ⟨8150, (.int 8150 641), (.str (Str.mk #[953, 834]) 642)⟩, ⟨8151, (.int 8151 644), (.str (Str.mk #[953, 776, 834]) 645)⟩, ⟨8162, (.int 8162 647), (.str (Str.mk #[965, 776, 768]) 648)⟩, ⟨8163, (.int 8163 650), (.str (Str.mk #[965, 776, 769]) 651)⟩, ⟨8164, (.int 8164 653), (.str (Str.mk #[961, 787]) 654)⟩, ⟨8166, (.int 8166 656), (.str (Str.mk #[965, 834]) 657)⟩, ⟨8167, (.int 8167 659), (.str (Str.mk #[965, 776, 834]) 660)⟩, ⟨8178, (.int 8178 662), (.str (Str.mk #[8060, 953]) 663)⟩, ⟨8179, (.int 8179 665), (.str (Str.mk #[969, 953]) 666)⟩, ⟨8180, (.int 8180 668), (.str (Str.mk #[974, 953]) 669)⟩, ⟨8182, (.int 8182 671), (.str (Str.mk #[969, 834]) 672)⟩, ⟨8183, (.int 8183 674), (.str (Str.mk #[969, 834, 953]) 675)⟩, ⟨8188, (.int 8188 677), (.str (Str.mk #[969, 953]) 678)⟩, ⟨8360, (.int 8360 680), (.str (Str.ofString "rs") 681)⟩, ⟨8450, (.int 8450 683), (.str (Str.ofString "c") 684)⟩, ⟨8451, (.int 8451 686), (.str (Str.mk #[176, 99]) 687)⟩, ⟨8455, (.int 8455 689), (.str (Str.mk #[603]) 690)⟩, ⟨8457, (.int 8457 692), (.str (Str.mk #[176, 102]) 693)⟩, ⟨8459, (.int 8459 695), (.str (Str.ofString "h") 696)⟩, ⟨8460, (.int 8460 698), (.str (Str.ofString "h") 699)⟩, ⟨8461, (.int 8461 701), (.str (Str.ofString "h") 702)⟩, ⟨8464, (.int 8464 704), (.str (Str.ofString "i") 705)⟩, ⟨8465, (.int 8465 707), (.str (Str.ofString "i") 708)⟩, ⟨8466, (.int 8466 710), (.str (Str.ofString "l") 711)⟩, ⟨8469, (.int 8469 713), (.str (Str.ofString "n") 714)⟩, ⟨8470, (.int 8470 716), (.str (Str.ofString "no") 717)⟩, ⟨8473, (.int 8473 719), (.str (Str.ofString "p") 720)⟩, ⟨8474, (.int 8474 722), (.str (Str.ofString "q") 723)⟩, ⟨8475, (.int 8475 725), (.str (Str.ofString "r") 726)⟩, ⟨8476, (.int 8476 728), (.str (Str.ofString "r") 729)⟩, ⟨8477, (.int 8477 731), (.str (Str.ofString "r") 732)⟩, ⟨8480, (.int 8480 734), (.str (Str.ofString "sm") 735)⟩, ⟨8481, (.int 8481 737), (.str (Str.ofString "tel") 738)⟩, ⟨8482, (.int 8482 740), (.str (Str.ofString "tm") 741)⟩, ⟨8484, (.int 8484 743), (.str (Str.ofString "z") 744)⟩, ⟨8488, (.int 8488 746), (.str (Str.ofString "z") 747)⟩, ⟨8492, (.int 8492 749), (.str (Str.ofString "b") 750)⟩, ⟨8493, (.int 8493 752), (.str (Str.ofString "c") 753)⟩, ⟨8496, (.int 8496 755), (.str (Str.ofString "e") 756)⟩, ⟨8497, (.int 8497 758), (.str (Str.ofString "f") 759)⟩, ⟨8499, (.int 8499 761), (.str (Str.ofString "m") 762)⟩, ⟨8510, (.int 8510 764), (.str (Str.mk #[947]) 765)⟩, ⟨8511, (.int 8511 767), (.str (Str.mk #[960]) 768)⟩, ⟨8517, (.int 8517 770), (.str (Str.ofString "d") 771)⟩, ⟨13169, (.int 13169 773), (.str (Str.ofString "hpa") 774)⟩, ⟨13171, (.int 13171 776), (.str (Str.ofString "au") 777)⟩, ⟨13173, (.int 13173 779), (.str (Str.ofString "ov") 780)⟩, ⟨13184, (.int 13184 782), (.str (Str.ofString "pa") 783)⟩, ⟨13185, (.int 13185 785), (.str (Str.ofString "na") 786)⟩, ⟨13186, (.int 13186 788), (.str (Str.mk #[956, 97]) 789)⟩, ⟨13187, (.int 13187 791), (.str (Str.ofString "ma") 792)⟩, ⟨13188, (.int 13188 794), (.str (Str.ofString "ka") 795)⟩, ⟨13189, (.int 13189 797), (.str (Str.ofString "kb") 798)⟩, ⟨13190, (.int 13190 800), (.str (Str.ofString "mb") 801)⟩, ⟨13191, (.int 13191 803), (.str (Str.ofString "gb") 804)⟩, ⟨13194, (.int 13194 806), (.str (Str.ofString "pf") 807)⟩, ⟨13195, (.int 13195 809), (.str (Str.ofString "nf") 810)⟩, ⟨13196, (.int 13196 812), (.str (Str.mk #[956, 102]) 813)⟩, ⟨13200, (.int 13200 815), (.str (Str.ofString "hz") 816)⟩, ⟨13201, (.int 13201 818), (.str (Str.ofString "khz") 819)⟩, ⟨13202, (.int 13202 821), (.str (Str.ofString "mhz") 822)⟩, ⟨13203, (.int 13203 824), (.str (Str.ofString "ghz") 825)⟩, ⟨13204, (.int 13204 827), (.str (Str.ofString "thz") 828)⟩, ⟨13225, (.int 13225 830), (.str (Str.ofString "pa") 831)⟩, ⟨13226, (.int 13226 833), (.str (Str.ofString "kpa") 834)⟩, ⟨13227, (.int 13227 836), (.str (Str.ofString "mpa") 837)⟩, ⟨13228, (.int 13228 839), (.str (Str.ofString "gpa") 840)⟩, ⟨13236, (.int 13236 842), (.str (Str.ofString "pv") 843)⟩, ⟨13237, (.int 13237 845), (.str (Str.ofString "nv") 846)⟩, ⟨13238, (.int 13238 848), (.str (Str.mk #[956, 118]) 849)⟩, ⟨13239, (.int 13239 851), (.str (Str.ofString "mv") 852)⟩, ⟨13240, (.int 13240 854), (.str (Str.ofString "kv") 855)⟩, ⟨13241, (.int 13241 857), (.str (Str.ofString "mv") 858)⟩, ⟨13242, (.int 13242 860), (.str (Str.ofString "pw") 861)⟩, ⟨13243, (.int 13243 863), (.str (Str.ofString "nw") 864)⟩, ⟨13244, (.int 13244 866), (.str (Str.mk #[956, 119]) 867)⟩, ⟨13245, (.int 13245 869), (.str (Str.ofString "mw") 870)⟩, ⟨13246, (.int 13246 872), (.str (Str.ofString "kw") 873)⟩, ⟨13247, (.int 13247 875), (.str (Str.ofString "mw") 876)⟩, ⟨13248, (.int 13248 878), (.str (Str.mk #[107, 969]) 879)⟩, ⟨13249, (.int 13249 881), (.str (Str.mk #[109, 969]) 882)⟩, ⟨13251, (.int 13251 884), (.str (Str.ofString "bq") 885)⟩, ⟨13254, (.int 13254 887), (.str (Str.mk #[99, 8725, 107, 103]) 888)⟩, ⟨13255, (.int 13255 890), (.str (Str.ofString "co.") 891)⟩, ⟨13256, (.int 13256 893), (.str (Str.ofString "db") 894)⟩, ⟨13257, (.int 13257 896), (.str (Str.ofString "gy") 897)⟩, ⟨13259, (.int 13259 899), (.str (Str.ofString "hp") 900)⟩, ⟨13261, (.int 13261 902), (.str (Str.ofString "kk") 903)⟩, ⟨13262, (.int 13262 905), (.str (Str.ofString "km") 906)⟩, ⟨13271, (.int 13271 908), (.str (Str.ofString "ph") 909)⟩, ⟨13273, (.int 13273 911), (.str (Str.ofString "ppm") 912)⟩, ⟨13274, (.int 13274 914), (.str (Str.ofString "pr") 915)⟩, ⟨13276, (.int 13276 917), (.str (Str.ofString "sv") 918)⟩, ⟨13277, (.int 13277 920), (.str (Str.ofString "wb") 921)⟩, ⟨64256, (.int 64256 923), (.str (Str.ofString "ff") 924)⟩, ⟨64257, (.int 64257 926), (.str (Str.ofString "fi") 927)⟩, ⟨64258, (.int 64258 929), (.str (Str.ofString "fl") 930)⟩, ⟨64259, (.int 64259 932), (.str (Str.ofString "ffi") 933)⟩, ⟨64260, (.int 64260 935), (.str (Str.ofString "ffl") 936)⟩, ⟨64261, (.int 64261 938), (.str (Str.ofString "st") 939)⟩, ⟨64262, (.int 64262 941), (.str (Str.ofString "st") 942)⟩, ⟨64275, (.int 64275 944), (.str (Str.mk #[1396, 1398]) 945)⟩, ⟨64276, (.int 64276 947), (.str (Str.mk #[1396, 1381]) 948)⟩, ⟨64277, (.int 64277 950), (.str (Str.mk #[1396, 1387]) 951)⟩, ⟨64278, (.int 64278 953), (.str (Str.mk #[1406, 1398]) 954)⟩, ⟨64279, (.int 64279 956), (.str (Str.mk #[1396, 1389]) 957)⟩, ⟨119808, (.int 119808 959), (.str (Str.ofString "a") 960)⟩, ⟨119809, (.int 119809 962), (.str (Str.ofString "b") 963)⟩, ⟨119810, (.int 119810 965), (.str (Str.ofString "c") 966)⟩, ⟨119811, (.int 119811 968), (.str (Str.ofString "d") 969)⟩, ⟨119812, (.int 119812 971), (.str (Str.ofString "e") 972)⟩, ⟨119813, (.int 119813 974), (.str (Str.ofString "f") 975)⟩, ⟨119814, (.int 119814 977), (.str (Str.ofString "g") 978)⟩, ⟨119815, (.int 119815 980), (.str (Str.ofString "h") 981)⟩, ⟨119816, (.int 119816 983), (.str (Str.ofString "i") 984)⟩, ⟨119817, (.int 119817 986), (.str (Str.ofString "j") 987)⟩, ⟨119818, (.int 119818 989), (.str (Str.ofString "k") 990)⟩, ⟨119819, (.int 119819 992), (.str (Str.ofString "l") 993)⟩, ⟨119820, (.int 119820 995), (.str (Str.ofString "m") 996)⟩, ⟨119821, (.int 119821 998), (.str (Str.ofString "n") 999)⟩, ⟨119822, (.int 119822 1001), (.str (Str.ofString "o") 1002)⟩, ⟨119823, (.int 119823 1004), (.str (Str.ofString "p") 1005)⟩, ⟨119824, (.int 119824 1007), (.str (Str.ofString "q") 1008)⟩, ⟨119825, (.int 119825 1010), (.str (Str.ofString "r") 1011)⟩, ⟨119826, (.int 119826 1013), (.str (Str.ofString "s") 1014)⟩, ⟨119827, (.int 119827 1016), (.str (Str.ofString "t") 1017)⟩, ⟨119828, (.int 119828 1019), (.str (Str.ofString "u") 1020)⟩, ⟨119829, (.int 119829 1022), (.str (Str.ofString "v") 1023)⟩, ⟨119830, (.int 119830 1025), (.str (Str.ofString "w") 1026)⟩, ⟨119831, (.int 119831 1028), (.str (Str.ofString "x") 1029)⟩, ⟨119832, (.int 119832 1031), (.str (Str.ofString "y") 1032)⟩, ⟨119833, (.int 119833 1034), (.str (Str.ofString "z") 1035)⟩, ⟨119860, (.int 119860 1037), (.str (Str.ofString "a") 1038)⟩, ⟨119861, (.int 119861 1040), (.str (Str.ofString "b") 1041)⟩, ⟨119862, (.int 119862 1043), (.str (Str.ofString "c") 1044)⟩, ⟨119863, (.int 119863 1046), (.str (Str.ofString "d") 1047)⟩, ⟨119864, (.int 119864 1049), (.str (Str.ofString "e") 1050)⟩, ⟨119865, (.int 119865 1052), (.str (Str.ofString "f") 1053)⟩, ⟨119866, (.int 119866 1055), (.str (Str.ofString "g") 1056)⟩, ⟨119867, (.int 119867 1058), (.str (Str.ofString "h") 1059)⟩, ⟨119868, (.int 119868 1061), (.str (Str.ofString "i") 1062)⟩, ⟨119869, (.int 119869 1064), (.str (Str.ofString "j") 1065)⟩, ⟨119870, (.int 119870 1067), (.str (Str.ofString "k") 1068)⟩, ⟨119871, (.int 119871 1070), (.str (Str.ofString "l") 1071)⟩, ⟨119872, (.int 119872 1073), (.str (Str.ofString "m") 1074)⟩, ⟨119873, (.int 119873 1076), (.str (Str.ofString "n") 1077)⟩, ⟨119874, (.int 119874 1079), (.str (Str.ofString "o") 1080)⟩, ⟨119875, (.int 119875 1082), (.str (Str.ofString "p") 1083)⟩, ⟨119876, (.int 119876 1085), (.str (Str.ofString "q") 1086)⟩, ⟨119877, (.int 119877 1088), (.str (Str.ofString "r") 1089)⟩, ⟨119878, (.int 119878 1091), (.str (Str.ofString "s") 1092)⟩, ⟨119879, (.int 119879 1094), (.str (Str.ofString "t") 1095)⟩, ⟨119880, (.int 119880 1097), (.str (Str.ofString "u") 1098)⟩, ⟨119881, (.int 119881 1100), (.str (Str.ofString "v") 1101)⟩, ⟨119882, (.int 119882 1103), (.str (Str.ofString "w") 1104)⟩, ⟨119883, (.int 119883 1106), (.str (Str.ofString "x") 1107)⟩, ⟨119884, (.int 119884 1109), (.str (Str.ofString "y") 1110)⟩, ⟨119885, (.int 119885 1112), (.str (Str.ofString "z") 1113)⟩, ⟨119912, (.int 119912 1115), (.str (Str.ofString "a") 1116)⟩, ⟨119913, (.int 119913 1118), (.str (Str.ofString "b") 1119)⟩, ⟨119914, (.int 119914 1121), (.str (Str.ofString "c") 1122)⟩, ⟨119915, (.int 119915 1124), (.str (Str.ofString "d") 1125)⟩, ⟨119916, (.int 119916 1127), (.str (Str.ofString "e") 1128)⟩, ⟨119917, (.int 119917 1130), (.str (Str.ofString "f") 1131)⟩, ⟨119918, (.int 119918 1133), (.str (Str.ofString "g") 1134)⟩, ⟨119919, (.int 119919 1136), (.str (Str.ofString "h") 1137)⟩, ⟨119920, (.int 119920 1139), (.str (Str.ofString "i") 1140)⟩, ⟨119921, (.int 119921 1142), (.str (Str.ofString "j") 1143)⟩, ⟨119922, (.int 119922 1145), (.str (Str.ofString "k") 1146)⟩, ⟨119923, (.int 119923 1148), (.str (Str.ofString "l") 1149)⟩, ⟨119924, (.int 119924 1151), (.str (Str.ofString "m") 1152)⟩, ⟨119925, (.int 119925 1154), (.str (Str.ofString "n") 1155)⟩, ⟨119926, (.int 119926 1157), (.str (Str.ofString "o") 1158)⟩, ⟨119927, (.int 119927 1160), (.str (Str.ofString "p") 1161)⟩, ⟨119928, (.int 119928 1163), (.str (Str.ofString "q") 1164)⟩, ⟨119929, (.int 119929 1166), (.str (Str.ofString "r") 1167)⟩, ⟨119930, (.int 119930 1169), (.str (Str.ofString "s") 1170)⟩, ⟨119931, (.int 119931 1172), (.str (Str.ofString "t") 1173)⟩, ⟨119932, (.int 119932 1175), (.str (Str.ofString "u") 1176)⟩, ⟨119933, (.int 119933 1178), (.str (Str.ofString "v") 1179)⟩, ⟨119934, (.int 119934 1181), (.str (Str.ofString "w") 1182)⟩, ⟨119935, (.int 119935 1184), (.str (Str.ofString "x") 1185)⟩, ⟨119936, (.int 119936 1187), (.str (Str.ofString "y") 1188)⟩, ⟨119937, (.int 119937 1190), (.str (Str.ofString "z") 1191)⟩, ⟨119964, (.int 119964 1193), (.str (Str.ofString "a") 1194)⟩, ⟨119966, (.int 119966 1196), (.str (Str.ofString "c") 1197)⟩, ⟨119967, (.int 119967 1199), (.str (Str.ofString "d") 1200)⟩, ⟨119970, (.int 119970 1202), (.str (Str.ofString "g") 1203)⟩, ⟨119973, (.int 119973 1205), (.str (Str.ofString "j") 1206)⟩, ⟨119974, (.int 119974 1208), (.str (Str.ofString "k") 1209)⟩, ⟨119977, (.int 119977 1211), (.str (Str.ofString "n") 1212)⟩, ⟨119978, (.int 119978 1214), (.str (Str.ofString "o") 1215)⟩, ⟨119979, (.int 119979 1217), (.str (Str.ofString "p") 1218)⟩, ⟨119980, (.int 119980 1220), (.str (Str.ofString "q") 1221)⟩, ⟨119982, (.int 119982 1223), (.str (Str.ofString "s") 1224)⟩, ⟨119983, (.int 119983 1226), (.str (Str.ofString "t") 1227)⟩, ⟨119984, (.int 119984 1229), (.str (Str.ofString "u") 1230)⟩, ⟨119985, (.int 119985 1232), (.str (Str.ofString "v") 1233)⟩, ⟨119986, (.int 119986 1235), (.str (Str.ofString "w") 1236)⟩, ⟨119987, (.int 119987 1238), (.str (Str.ofString "x") 1239)⟩, ⟨119988, (.int 119988 1241), (.str (Str.ofString "y") 1242)⟩, ⟨119989, (.int 119989 1244), (.str (Str.ofString "z") 1245)⟩, ⟨120016, (.int 120016 1247), (.str (Str.ofString "a") 1248)⟩, ⟨120017, (.int 120017 1250), (.str (Str.ofString "b") 1251)⟩, ⟨120018, (.int 120018 1253), (.str (Str.ofString "c") 1254)⟩, ⟨120019, (.int 120019 1256), (.str (Str.ofString "d") 1257)⟩, ⟨120020, (.int 120020 1259), (.str (Str.ofString "e") 1260)⟩, ⟨120021, (.int 120021 1262), (.str (Str.ofString "f") 1263)⟩, ⟨120022, (.int 120022 1265), (.str (Str.ofString "g") 1266)⟩, ⟨120023, (.int 120023 1268), (.str (Str.ofString "h") 1269)⟩, ⟨120024, (.int 120024 1271), (.str (Str.ofString "i") 1272)⟩, ⟨120025, (.int 120025 1274), (.str (Str.ofString "j") 1275)⟩, ⟨120026, (.int 120026 1277), (.str (Str.ofString "k") 1278)⟩, ⟨120027, (.int 120027 1280), (.str (Str.ofString "l") 1281)⟩, ⟨120028, (.int 120028 1283), (.str (Str.ofString "m") 1284)⟩, ⟨120029, (.int 120029 1286), (.str (Str.ofString "n") 1287)⟩, ⟨120030, (.int 120030 1289), (.str (Str.ofString "o") 1290)⟩, ⟨120031, (.int 120031 1292), (.str (Str.ofString "p") 1293)⟩, ⟨120032, (.int 120032 1295), (.str (Str.ofString "q") 1296)⟩, ⟨120033, (.int 120033 1298), (.str (Str.ofString "r") 1299)⟩, ⟨120034, (.int 120034 1301), (.str (Str.ofString "s") 1302)⟩, ⟨120035, (.int 120035 1304), (.str (Str.ofString "t") 1305)⟩, ⟨120036, (.int 120036 1307), (.str (Str.ofString "u") 1308)⟩, ⟨120037, (.int 120037 1310), (.str (Str.ofString "v") 1311)⟩, ⟨120038, (.int 120038 1313), (.str (Str.ofString "w") 1314)⟩, ⟨120039, (.int 120039 1316), (.str (Str.ofString "x") 1317)⟩, ⟨120040, (.int 120040 1319), (.str (Str.ofString "y") 1320)⟩, ⟨120041, (.int 120041 1322), (.str (Str.ofString "z") 1323)⟩, ⟨120068, (.int 120068 1325), (.str (Str.ofString "a") 1326)⟩, ⟨120069, (.int 120069 1328), (.str (Str.ofString "b") 1329)⟩, ⟨120071, (.int 120071 1331), (.str (Str.ofString "d") 1332)⟩, ⟨120072, (.int 120072 1334), (.str (Str.ofString "e") 1335)⟩, ⟨120073, (.int 120073 1337), (.str (Str.ofString "f") 1338)⟩, ⟨120074, (.int 120074 1340), (.str (Str.ofString "g") 1341)⟩, ⟨120077, (.int 120077 1343), (.str (Str.ofString "j") 1344)⟩, ⟨120078, (.int 120078 1346), (.str (Str.ofString "k") 1347)⟩, ⟨120079, (.int 120079 1349), (.str (Str.ofString "l") 1350)⟩, ⟨120080, (.int 120080 1352), (.str (Str.ofString "m") 1353)⟩, ⟨120081, (.int 120081 1355), (.str (Str.ofString "n") 1356)⟩, ⟨120082, (.int 120082 1358), (.str (Str.ofString "o") 1359)⟩, ⟨120083, (.int 120083 1361), (.str (Str.ofString "p") 1362)⟩, ⟨120084, (.int 120084 1364), (.str (Str.ofString "q") 1365)⟩, ⟨120086, (.int 120086 1367), (.str (Str.ofString "s") 1368)⟩, ⟨120087, (.int 120087 1370), (.str (Str.ofString "t") 1371)⟩, ⟨120088, (.int 120088 1373), (.str (Str.ofString "u") 1374)⟩, ⟨120089, (.int 120089 1376), (.str (Str.ofString "v") 1377)⟩, ⟨120090, (.int 120090 1379), (.str (Str.ofString "w") 1380)⟩, ⟨120091, (.int 120091 1382), (.str (Str.ofString "x") 1383)⟩, ⟨120092, (.int 120092 1385), (.str (Str.ofString "y") 1386)⟩, ⟨120120, (.int 120120 1388), (.str (Str.ofString "a") 1389)⟩, ⟨120121, (.int 120121 1391), (.str (Str.ofString "b") 1392)⟩, ⟨120123, (.int 120123 1394), (.str (Str.ofString "d") 1395)⟩, ⟨120124, (.int 120124 1397), (.str (Str.ofString "e") 1398)⟩, ⟨120125, (.int 120125 1400), (.str (Str.ofString "f") 1401)⟩, ⟨120126, (.int 120126 1403), (.str (Str.ofString "g") 1404)⟩, ⟨120128, (.int 120128 1406), (.str (Str.ofString "i") 1407)⟩, ⟨120129, (.int 120129 1409), (.str (Str.ofString "j") 1410)⟩, ⟨120130, (.int 120130 1412), (.str (Str.ofString "k") 1413)⟩, ⟨120131, (.int 120131 1415), (.str (Str.ofString "l") 1416)⟩, ⟨120132, (.int 120132 1418), (.str (Str.ofString "m") 1419)⟩, ⟨120134, (.int 120134 1421), (.str (Str.ofString "o") 1422)⟩, ⟨120138, (.int 120138 1424), (.str (Str.ofString "s") 1425)⟩, ⟨120139, (.int 120139 1427), (.str (Str.ofString "t") 1428)⟩, ⟨120140, (.int 120140 1430), (.str (Str.ofString "u") 1431)⟩, ⟨120141, (.int 120141 1433), (.str (Str.ofString "v") 1434)⟩, ⟨120142, (.int 120142 1436), (.str (Str.ofString "w") 1437)⟩, ⟨120143, (.int 120143 1439), (.str (Str.ofString "x") 1440)⟩, ⟨120144, (.int 120144 1442), (.str (Str.ofString "y") 1443)⟩, ⟨120172, (.int 120172 1445), (.str (Str.ofString "a") 1446)⟩, ⟨120173, (.int 120173 1448), (.str (Str.ofString "b") 1449)⟩, ⟨120174, (.int 120174 1451), (.str (Str.ofString "c") 1452)⟩, ⟨120175, (.int 120175 1454), (.str (Str.ofString "d") 1455)⟩, ⟨120176, (.int 120176 1457), (.str (Str.ofString "e") 1458)⟩, ⟨120177, (.int 120177 1460), (.str (Str.ofString "f") 1461)⟩, ⟨120178, (.int 120178 1463), (.str (Str.ofString "g") 1464)⟩, ⟨120179, (.int 120179 1466), (.str (Str.ofString "h") 1467)⟩, ⟨120180, (.int 120180 1469), (.str (Str.ofString "i") 1470)⟩, ⟨120181, (.int 120181 1472), (.str (Str.ofString "j") 1473)⟩, ⟨120182, (.int 120182 1475), (.str (Str.ofString "k") 1476)⟩, ⟨120183, (.int 120183 1478), (.str (Str.ofString "l") 1479)⟩, ⟨120184, (.int 120184 1481), (.str (Str.ofString "m") 1482)⟩, ⟨120185, (.int 120185 1484), (.str (Str.ofString "n") 1485)⟩, ⟨120186, (.int 120186 1487), (.str (Str.ofString "o") 1488)⟩, ⟨120187, (.int 120187 1490), (.str (Str.ofString "p") 1491)⟩, ⟨120188, (.int 120188 1493), (.str (Str.ofString "q") 1494)⟩, ⟨120189, (.int 120189 1496), (.str (Str.ofString "r") 1497)⟩, ⟨120190, (.int 120190 1499), (.str (Str.ofString "s") 1500)⟩, ⟨120191, (.int 120191 1502), (.str (Str.ofString "t") 1503)⟩, ⟨120192, (.int 120192 1505), (.str (Str.ofString "u") 1506)⟩, ⟨120193, (.int 120193 1508), (.str (Str.ofString "v") 1509)⟩, ⟨120194, (.int 120194 1511), (.str (Str.ofString "w") 1512)⟩, ⟨120195, (.int 120195 1514), (.str (Str.ofString "x") 1515)⟩, ⟨120196, (.int 120196 1517), (.str (Str.ofString "y") 1518)⟩, ⟨120197, (.int 120197 1520), (.str (Str.ofString "z") 1521)⟩, ⟨120224, (.int 120224 1523), (.str (Str.ofString "a") 1524)⟩, ⟨120225, (.int 120225 1526), (.str (Str.ofString "b") 1527)⟩, ⟨120226, (.int 120226 1529), (.str (Str.ofString "c") 1530)⟩, ⟨120227, (.int 120227 1532), (.str (Str.ofString "d") 1533)⟩, ⟨120228, (.int 120228 1535), (.str (Str.ofString "e") 1536)⟩, ⟨120229, (.int 120229 1538), (.str (Str.ofString "f") 1539)⟩, ⟨120230, (.int 120230 1541), (.str (Str.ofString "g") 1542)⟩, ⟨120231, (.int 120231 1544), (.str (Str.ofString "h") 1545)⟩, ⟨120232, (.int 120232 1547), (.str (Str.ofString "i") 1548)⟩, ⟨120233, (.int 120233 1550), (.str (Str.ofString "j") 1551)⟩, ⟨120234, (.int 120234 1553), (.str (Str.ofString "k") 1554)⟩, ⟨120235, (.int 120235 1556), (.str (Str.ofString "l") 1557)⟩, ⟨120236, (.int 120236 1559), (.str (Str.ofString "m") 1560)⟩, ⟨120237, (.int 120237 1562), (.str (Str.ofString "n") 1563)⟩, ⟨120238, (.int 120238 1565), (.str (Str.ofString "o") 1566)⟩, ⟨120239, (.int 120239 1568), (.str (Str.ofString "p") 1569)⟩, ⟨120240, (.int 120240 1571), (.str (Str.ofString "q") 1572)⟩, ⟨120241, (.int 120241 1574), (.str (Str.ofString "r") 1575)⟩, ⟨120242, (.int 120242 1577), (.str (Str.ofString "s") 1578)⟩, ⟨120243, (.int 120243 1580), (.str (Str.ofString "t") 1581)⟩, ⟨120244, (.int 120244 1583), (.str (Str.ofString "u") 1584)⟩, ⟨120245, (.int 120245 1586), (.str (Str.ofString "v") 1587)⟩, ⟨120246, (.int 120246 1589), (.str (Str.ofString "w") 1590)⟩, ⟨120247, (.int 120247 1592), (.str (Str.ofString "x") 1593)⟩, ⟨120248, (.int 120248 1595), (.str (Str.ofString "y") 1596)⟩, ⟨120249, (.int 120249 1598), (.str (Str.ofString "z") 1599)⟩, ⟨120276, (.int 120276 1601), (.str (Str.ofString "a") 1602)⟩, ⟨120277, (.int 120277 1604), (.str (Str.ofString "b") 1605)⟩, ⟨120278, (.int 120278 1607), (.str (Str.ofString "c") 1608)⟩, ⟨120279, (.int 120279 1610), (.str (Str.ofString "d") 1611)⟩, ⟨120280, (.int 120280 1613), (.str (Str.ofString "e") 1614)⟩, ⟨120281, (.int 120281 1616), (.str (Str.ofString "f") 1617)⟩, ⟨120282, (.int 120282 1619), (.str (Str.ofString "g") 1620)⟩, ⟨120283, (.int 120283 1622), (.str (Str.ofString "h") 1623)⟩, ⟨120284, (.int 120284 1625), (.str (Str.ofString "i") 1626)⟩, ⟨120285, (.int 120285 1628), (.str (Str.ofString "j") 1629)⟩, ⟨120286, (.int 120286 1631), (.str (Str.ofString "k") 1632)⟩, ⟨120287, (.int 120287 1634), (.str (Str.ofString "l") 1635)⟩, ⟨120288, (.int 120288 1637), (.str (Str.ofString "m") 1638)⟩, ⟨120289, (.int 120289 1640), (.str (Str.ofString "n") 1641)⟩, ⟨120290, (.int 120290 1643), (.str (Str.ofString "o") 1644)⟩, ⟨120291, (.int 120291 1646), (.str (Str.ofString "p") 1647)⟩, ⟨120292, (.int 120292 1649), (.str (Str.ofString "q") 1650)⟩, ⟨120293, (.int 120293 1652), (.str (Str.ofString "r") 1653)⟩, ⟨120294, (.int 120294 1655), (.str (Str.ofString "s") 1656)⟩, ⟨120295, (.int 120295 1658), (.str (Str.ofString "t") 1659)⟩, ⟨120296, (.int 120296 1661), (.str (Str.ofString "u") 1662)⟩, ⟨120297, (.int 120297 1664), (.str (Str.ofString "v") 1665)⟩, ⟨120298, (.int 120298 1667), (.str (Str.ofString "w") 1668)⟩, ⟨120299, (.int 120299 1670), (.str (Str.ofString "x") 1671)⟩, ⟨120300, (.int 120300 1673), (.str (Str.ofString "y") 1674)⟩, ⟨120301, (.int 120301 1676), (.str (Str.ofString "z") 1677)⟩, ⟨120328, (.int 120328 1679), (.str (Str.ofString "a") 1680)⟩, ⟨120329, (.int 120329 1682), (.str (Str.ofString "b") 1683)⟩, ⟨120330, (.int 120330 1685), (.str (Str.ofString "c") 1686)⟩, ⟨120331, (.int 120331 1688), (.str (Str.ofString "d") 1689)⟩, ⟨120332, (.int 120332 1691), (.str (Str.ofString "e") 1692)⟩, ⟨120333, (.int 120333 1694), (.str (Str.ofString "f") 1695)⟩, ⟨120334, (.int 120334 1697), (.str (Str.ofString "g") 1698)⟩, ⟨120335, (.int 120335 1700), (.str (Str.ofString "h") 1701)⟩, ⟨120336, (.int 120336 1703), (.str (Str.ofString "i") 1704)⟩, ⟨120337, (.int 120337 1706), (.str (Str.ofString "j") 1707)⟩, ⟨120338, (.int 120338 1709), (.str (Str.ofString "k") 1710)⟩, ⟨120339, (.int 120339 1712), (.str (Str.ofString "l") 1713)⟩, ⟨120340, (.int 120340 1715), (.str (Str.ofString "m") 1716)⟩, ⟨120341, (.int 120341 1718), (.str (Str.ofString "n") 1719)⟩, ⟨120342, (.int 120342 1721), (.str (Str.ofString "o") 1722)⟩, ⟨120343, (.int 120343 1724), (.str (Str.ofString "p") 1725)⟩, ⟨120344, (.int 120344 1727), (.str (Str.ofString "q") 1728)⟩, ⟨120345, (.int 120345 1730), (.str (Str.ofString "r") 1731)⟩, ⟨120346, (.int 120346 1733), (.str (Str.ofString "s") 1734)⟩, ⟨120347, (.int 120347 1736), (.str (Str.ofString "t") 1737)⟩, ⟨120348, (.int 120348 1739), (.str (Str.ofString "u") 1740)⟩, ⟨120349, (.int 120349 1742), (.str (Str.ofString "v") 1743)⟩, ⟨120350, (.int 120350 1745), (.str (Str.ofString "w") 1746)⟩, ⟨120351, (.int 120351 1748), (.str (Str.ofString "x") 1749)⟩, ⟨120352, (.int 120352 1751), (.str (Str.ofString "y") 1752)⟩, ⟨120353, (.int 120353 1754), (.str (Str.ofString "z") 1755)⟩, ⟨120380, (.int 120380 1757), (.str (Str.ofString "a") 1758)⟩, ⟨120381, (.int 120381 1760), (.str (Str.ofString "b") 1761)⟩, ⟨120382, (.int 120382 1763), (.str (Str.ofString "c") 1764)⟩, ⟨120383, (.int 120383 1766), (.str (Str.ofString "d") 1767)⟩, ⟨120384, (.int 120384 1769), (.str (Str.ofString "e") 1770)⟩, ⟨120385, (.int 120385 1772), (.str (Str.ofString "f") 1773)⟩, ⟨120386, (.int 120386 1775), (.str (Str.ofString "g") 1776)⟩, ⟨120387, (.int 120387 1778), (.str (Str.ofString "h") 1779)⟩, ⟨120388, (.int 120388 1781), (.str (Str.ofString "i") 1782)⟩, ⟨120389, (.int 120389 1784), (.str (Str.ofString "j") 1785)⟩, ⟨120390, (.int 120390 1787), (.str (Str.ofString "k") 1788)⟩, ⟨120391, (.int 120391 1790), (.str (Str.ofString "l") 1791)⟩, ⟨120392, (.int 120392 1793), (.str (Str.ofString "m") 1794)⟩, ⟨120393, (.int 120393 1796), (.str (Str.ofString "n") 1797)⟩, ⟨120394, (.int 120394 1799), (.str (Str.ofString "o") 1800)⟩, ⟨120395, (.int 120395 1802), (.str (Str.ofString "p") 1803)⟩, ⟨120396, (.int 120396 1805), (.str (Str.ofString "q") 1806)⟩, ⟨120397, (.int 120397 1808), (.str (Str.ofString "r") 1809)⟩, ⟨120398, (.int 120398 1811), (.str (Str.ofString "s") 1812)⟩, ⟨120399, (.int 120399 1814), (.str (Str.ofString "t") 1815)⟩, ⟨120400, (.int 120400 1817), (.str (Str.ofString "u") 1818)⟩, ⟨120401, (.int 120401 1820), (.str (Str.ofString "v") 1821)⟩, ⟨120402, (.int 120402 1823), (.str (Str.ofString "w") 1824)⟩, ⟨120403, (.int 120403 1826), (.str (Str.ofString "x") 1827)⟩, ⟨120404, (.int 120404 1829), (.str (Str.ofString "y") 1830)⟩, ⟨120405, (.int 120405 1832), (.str (Str.ofString "z") 1833)⟩, ⟨120432, (.int 120432 1835), (.str (Str.ofString "a") 1836)⟩, ⟨120433, (.int 120433 1838), (.str (Str.ofString "b") 1839)⟩, ⟨120434, (.int 120434 1841), (.str (Str.ofString "c") 1842)⟩, ⟨120435, (.int 120435 1844), (.str (Str.ofString "d") 1845)⟩, ⟨120436, (.int 120436 1847), (.str (Str.ofString "e") 1848)⟩, ⟨120437, (.int 120437 1850), (.str (Str.ofString "f") 1851)⟩, ⟨120438, (.int 120438 1853), (.str (Str.ofString "g") 1854)⟩, ⟨120439, (.int 120439 1856), (.str (Str.ofString "h") 1857)⟩, ⟨120440, (.int 120440 1859), (.str (Str.ofString "i") 1860)⟩, ⟨120441, (.int 120441 1862), (.str (Str.ofString "j") 1863)⟩, ⟨120442, (.int 120442 1865), (.str (Str.ofString "k") 1866)⟩, ⟨120443, (.int 120443 1868), (.str (Str.ofString "l") 1869)⟩, ⟨120444, (.int 120444 1871), (.str (Str.ofString "m") 1872)⟩, ⟨120445, (.int 120445 1874), (.str (Str.ofString "n") 1875)⟩, ⟨120446, (.int 120446 1877), (.str (Str.ofString "o") 1878)⟩, ⟨120447, (.int 120447 1880), (.str (Str.ofString "p") 1881)⟩, ⟨120448, (.int 120448 1883), (.str (Str.ofString "q") 1884)⟩, ⟨120449, (.int 120449 1886), (.str (Str.ofString "r") 1887)⟩, ⟨120450, (.int 120450 1889), (.str (Str.ofString "s") 1890)⟩, ⟨120451, (.int 120451 1892), (.str (Str.ofString "t") 1893)⟩, ⟨120452, (.int 120452 1895), (.str (Str.ofString "u") 1896)⟩, ⟨120453, (.int 120453 1898), (.str (Str.ofString "v") 1899)⟩, ⟨120454, (.int 120454 1901), (.str (Str.ofString "w") 1902)⟩, ⟨120455, (.int 120455 1904), (.str (Str.ofString "x") 1905)⟩, ⟨120456, (.int 120456 1907), (.str (Str.ofString "y") 1908)⟩, ⟨120457, (.int 120457 1910), (.str (Str.ofString "z") 1911)⟩, ⟨120488, (.int 120488 1913), (.str (Str.mk #[945]) 1914)⟩, ⟨120489, (.int 120489 1916), (.str (Str.mk #[946]) 1917)⟩, ⟨120490, (.int 120490 1919), (.str (Str.mk #[947]) 1920)⟩, ⟨120491, (.int 120491 1922), (.str (Str.mk #[948]) 1923)⟩, ⟨120492, (.int 120492 1925), (.str (Str.mk #[949]) 1926)⟩, ⟨120493, (.int 120493 1928), (.str (Str.mk #[950]) 1929)⟩, ⟨120494, (.int 120494 1931), (.str (Str.mk #[951]) 1932)⟩, ⟨120495, (.int 120495 1934), (.str (Str.mk #[952]) 1935)⟩, ⟨120496, (.int 120496 1937), (.str (Str.mk #[953]) 1938)⟩, ⟨120497, (.int 120497 1940), (.str (Str.mk #[954]) 1941)⟩, ⟨120498, (.int 120498 1943), (.str (Str.mk #[955]) 1944)⟩, ⟨120499, (.int 120499 1946), (.str (Str.mk #[956]) 1947)⟩, ⟨120500, (.int 120500 1949), (.str (Str.mk #[957]) 1950)⟩, ⟨120501, (.int 120501 1952), (.str (Str.mk #[958]) 1953)⟩, ⟨120502, (.int 120502 1955), (.str (Str.mk #[959]) 1956)⟩, ⟨120503, (.int 120503 1958), (.str (Str.mk #[960]) 1959)⟩, ⟨120504, (.int 120504 1961), (.str (Str.mk #[961]) 1962)⟩, ⟨120505, (.int 120505 1964), (.str (Str.mk #[952]) 1965)⟩, ⟨120506, (.int 120506 1967), (.str (Str.mk #[963]) 1968)⟩, ⟨120507, (.int 120507 1970), (.str (Str.mk #[964]) 1971)⟩, ⟨120508, (.int 120508 1973), (.str (Str.mk #[965]) 1974)⟩, ⟨120509, (.int 120509 1976), (.str (Str.mk #[966]) 1977)⟩, ⟨120510, (.int 120510 1979), (.str (Str.mk #[967]) 1980)⟩, ⟨120511, (.int 120511 1982), (.str (Str.mk #[968]) 1983)⟩, ⟨120512, (.int 120512 1985), (.str (Str.mk #[969]) 1986)⟩, ⟨120531, (.int 120531 1988), (.str (Str.mk #[963]) 1989)⟩, ⟨120546, (.int 120546 1991), (.str (Str.mk #[945]) 1992)⟩, ⟨120547, (.int 120547 1994), (.str (Str.mk #[946]) 1995)⟩, ⟨120548, (.int 120548 1997), (.str (Str.mk #[947]) 1998)⟩, ⟨120549, (.int 120549 2000), (.str (Str.mk #[948]) 2001)⟩, ⟨120550, (.int 120550 2003), (.str (Str.mk #[949]) 2004)⟩, ⟨120551, (.int 120551 2006), (.str (Str.mk #[950]) 2007)⟩, ⟨120552, (.int 120552 2009), (.str (Str.mk #[951]) 2010)⟩, ⟨120553, (.int 120553 2012), (.str (Str.mk #[952]) 2013)⟩, ⟨120554, (.int 120554 2015), (.str (Str.mk #[953]) 2016)⟩, ⟨120555, (.int 120555 2018), (.str (Str.mk #[954]) 2019)⟩, ⟨120556, (.int 120556 2021), (.str (Str.mk #[955]) 2022)⟩, ⟨120557, (.int 120557 2024), (.str (Str.mk #[956]) 2025)⟩, ⟨120558, (.int 120558 2027), (.str (Str.mk #[957]) 2028)⟩, ⟨120559, (.int 120559 2030), (.str (Str.mk #[958]) 2031)⟩, ⟨120560, (.int 120560 2033), (.str (Str.mk #[959]) 2034)⟩, ⟨120561, (.int 120561 2036), (.str (Str.mk #[960]) 2037)⟩, ⟨120562, (.int 120562 2039), (.str (Str.mk #[961]) 2040)⟩, ⟨120563, (.int 120563 2042), (.str (Str.mk #[952]) 2043)⟩, ⟨120564, (.int 120564 2045), (.str (Str.mk #[963]) 2046)⟩, ⟨120565, (.int 120565 2048), (.str (Str.mk #[964]) 2049)⟩, ⟨120566, (.int 120566 2051), (.str (Str.mk #[965]) 2052)⟩, ⟨120567, (.int 120567 2054), (.str (Str.mk #[966]) 2055)⟩, ⟨120568, (.int 120568 2057), (.str (Str.mk #[967]) 2058)⟩, ⟨120569, (.int 120569 2060), (.str (Str.mk #[968]) 2061)⟩, ⟨120570, (.int 120570 2063), (.str (Str.mk #[969]) 2064)⟩, ⟨120589, (.int 120589 2066), (.str (Str.mk #[963]) 2067)⟩, ⟨120604, (.int 120604 2069), (.str (Str.mk #[945]) 2070)⟩, ⟨120605, (.int 120605 2072), (.str (Str.mk #[946]) 2073)⟩, ⟨120606, (.int 120606 2075), (.str (Str.mk #[947]) 2076)⟩, ⟨120607, (.int 120607 2078), (.str (Str.mk #[948]) 2079)⟩, ⟨120608, (.int 120608 2081), (.str (Str.mk #[949]) 2082)⟩, ⟨120609, (.int 120609 2084), (.str (Str.mk #[950]) 2085)⟩, ⟨120610, (.int 120610 2087), (.str (Str.mk #[951]) 2088)⟩, ⟨120611, (.int 120611 2090), (.str (Str.mk #[952]) 2091)⟩, ⟨120612, (.int 120612 2093), (.str (Str.mk #[953]) 2094)⟩, ⟨120613, (.int 120613 2096), (.str (Str.mk #[954]) 2097)⟩, ⟨120614, (.int 120614 2099), (.str (Str.mk #[955]) 2100)⟩, ⟨120615, (.int 120615 2102), (.str (Str.mk #[956]) 2103)⟩, ⟨120616, (.int 120616 2105), (.str (Str.mk #[957]) 2106)⟩, ⟨120617, (.int 120617 2108), (.str (Str.mk #[958]) 2109)⟩, ⟨120618, (.int 120618 2111), (.str (Str.mk #[959]) 2112)⟩, ⟨120619, (.int 120619 2114), (.str (Str.mk #[960]) 2115)⟩, ⟨120620, (.int 120620 2117), (.str (Str.mk #[961]) 2118)⟩, ⟨120621, (.int 120621 2120), (.str (Str.mk #[952]) 2121)⟩, ⟨120622, (.int 120622 2123), (.str (Str.mk #[963]) 2124)⟩, ⟨120623, (.int 120623 2126), (.str (Str.mk #[964]) 2127)⟩, ⟨120624, (.int 120624 2129), (.str (Str.mk #[965]) 2130)⟩, ⟨120625, (.int 120625 2132), (.str (Str.mk #[966]) 2133)⟩, ⟨120626, (.int 120626 2135), (.str (Str.mk #[967]) 2136)⟩, ⟨120627, (.int 120627 2138), (.str (Str.mk #[968]) 2139)⟩, ⟨120628, (.int 120628 2141), (.str (Str.mk #[969]) 2142)⟩, ⟨120647, (.int 120647 2144), (.str (Str.mk #[963]) 2145)⟩, ⟨120662, (.int 120662 2147), (.str (Str.mk #[945]) 2148)⟩, ⟨120663, (.int 120663 2150), (.str (Str.mk #[946]) 2151)⟩, ⟨120664, (.int 120664 2153), (.str (Str.mk #[947]) 2154)⟩, ⟨120665, (.int 120665 2156), (.str (Str.mk #[948]) 2157)⟩, ⟨120666, (.int 120666 2159), (.str (Str.mk #[949]) 2160)⟩, ⟨120667, (.int 120667 2162), (.str (Str.mk #[950]) 2163)⟩, ⟨120668, (.int 120668 2165), (.str (Str.mk #[951]) 2166)⟩, ⟨120669, (.int 120669 2168), (.str (Str.mk #[952]) 2169)⟩, ⟨120670, (.int 120670 2171), (.str (Str.mk #[953]) 2172)⟩, ⟨120671, (.int 120671 2174), (.str (Str.mk #[954]) 2175)⟩, ⟨120672, (.int 120672 2177), (.str (Str.mk #[955]) 2178)⟩, ⟨120673, (.int 120673 2180), (.str (Str.mk #[956]) 2181)⟩, ⟨120674, (.int 120674 2183), (.str (Str.mk #[957]) 2184)⟩, ⟨120675, (.int 120675 2186), (.str (Str.mk #[958]) 2187)⟩, ⟨120676, (.int 120676 2189), (.str (Str.mk #[959]) 2190)⟩, ⟨120677, (.int 120677 2192), (.str (Str.mk #[960]) 2193)⟩, ⟨120678, (.int 120678 2195), (.str (Str.mk #[961]) 2196)⟩, ⟨120679, (.int 120679 2198), (.str (Str.mk #[952]) 2199)⟩, ⟨120680, (.int 120680 2201), (.str (Str.mk #[963]) 2202)⟩, ⟨120681, (.int 120681 2204), (.str (Str.mk #[964]) 2205)⟩, ⟨120682, (.int 120682 2207), (.str (Str.mk #[965]) 2208)⟩, ⟨120683, (.int 120683 2210), (.str (Str.mk #[966]) 2211)⟩, ⟨120684, (.int 120684 2213), (.str (Str.mk #[967]) 2214)⟩, ⟨120685, (.int 120685 2216), (.str (Str.mk #[968]) 2217)⟩, ⟨120686, (.int 120686 2219), (.str (Str.mk #[969]) 2220)⟩, ⟨120705, (.int 120705 2222), (.str (Str.mk #[963]) 2223)⟩, ⟨120720, (.int 120720 2225), (.str (Str.mk #[945]) 2226)⟩, ⟨120721, (.int 120721 2228), (.str (Str.mk #[946]) 2229)⟩, ⟨120722, (.int 120722 2231), (.str (Str.mk #[947]) 2232)⟩, ⟨120723, (.int 120723 2234), (.str (Str.mk #[948]) 2235)⟩, ⟨120724, (.int 120724 2237), (.str (Str.mk #[949]) 2238)⟩, ⟨120725, (.int 120725 2240), (.str (Str.mk #[950]) 2241)⟩, ⟨120726, (.int 120726 2243), (.str (Str.mk #[951]) 2244)⟩, ⟨120727, (.int 120727 2246), (.str (Str.mk #[952]) 2247)⟩, ⟨120728, (.int 120728 2249), (.str (Str.mk #[953]) 2250)⟩, ⟨120729, (.int 120729 2252), (.str (Str.mk #[954]) 2253)⟩, ⟨120730, (.int 120730 2255), (.str (Str.mk #[955]) 2256)⟩, ⟨120731, (.int 120731 2258), (.str (Str.mk #[956]) 2259)⟩, ⟨120732, (.int 120732 2261), (.str (Str.mk #[957]) 2262)⟩, ⟨120733, (.int 120733 2264), (.str (Str.mk #[958]) 2265)⟩, ⟨120734, (.int 120734 2267), (.str (Str.mk #[959]) 2268)⟩, ⟨120735, (.int 120735 2270), (.str (Str.mk #[960]) 2271)⟩, ⟨120736, (.int 120736 2273), (.str (Str.mk #[961]) 2274)⟩, ⟨120737, (.int 120737 2276), (.str (Str.mk #[952]) 2277)⟩, ⟨120738, (.int 120738 2279), (.str (Str.mk #[963]) 2280)⟩, ⟨120739, (.int 120739 2282), (.str (Str.mk #[964]) 2283)⟩, ⟨120740, (.int 120740 2285), (.str (Str.mk #[965]) 2286)⟩, ⟨120741, (.int 120741 2288), (.str (Str.mk #[966]) 2289)⟩, ⟨120742, (.int 120742 2291), (.str (Str.mk #[967]) 2292)⟩, ⟨120743, (.int 120743 2293), (.str (Str.mk #[968]) 2294)⟩, ⟨120744, (.int 120744 2295), (.str (Str.mk #[969]) 2296)⟩, ⟨120763, (.int 120763 2297), (.str (Str.mk #[963]) 2298)⟩]) 650, #[]⟩),
  (nat_lit 112, ⟨(.type "tuple"), none, .seq (List.toArray []) 0, #[]⟩),
  (nat_lit 114, ⟨(.type "tuple"), none, .seq (List.toArray [(.str (Str.ofString "code") 2307), (.str (Str.ofString "r") 2308)]) 0, #[]⟩),
  (nat_lit 115, ⟨(.type "tuple"), none, .seq (List.toArray []) 0, #[]⟩),
  (nat_lit 117, ⟨(.type "code"), none, .fields (List.toArray [(.str (Str.ofString "map_table_b3") 2304), (.str (Str.ofString "map_table_b3") 2305), (.str (Str.ofString "/claim/cut.py") 2306), (.int 93 0), (.int 1 0), (.int 0 0), (.int 0 0), (.int 3 0), (.ref 112), (.bool true), (.int 181 0), (.ref 113), .none, (.ref 114), (.ref 115), (.ref 116), (.int 2309 0), (.int 93 0), (.str (Str.ofString "/claim/cut.py") 2310)]), #[]⟩),
  (nat_lit 118, ⟨(.type "function"), none, .func ⟨(Str.ofString "map_table_b3"), (Str.ofString "map_table_b3"), fA 13, .stmts (fB 13), fS 13, 3, [], .none, .none, .none, (.str (Str.ofString "cpy313.stringprep") 284), none, (.ref 117), .none, 0⟩, #[]⟩),
  (nat_lit 119, ⟨(.type "tuple"), none, .seq (List.toArray []) 0, #[]⟩),
  (nat_lit 121, ⟨(.type "tuple"), none, .seq (List.toArray [(.str (Str.ofString "number") 2317), (.str (Str.ofString "columns") 2318), (.str (Str.ofString "places") 2319), (.str (Str.ofString "column") 2320), (.str (Str.ofString "c") 2321)]) 0, #[]⟩),
  (nat_lit 122, ⟨(.type "tuple"), none, .seq (List.toArray []) 0, #[]⟩),
  (nat_lit 124, ⟨(.type "code"), none, .fields (List.toArray [(.str (Str.ofString "_law_cascade") 2314), (.str (Str.ofString "_law_cascade") 2315), (.str (Str.ofString "/claim/cut.py") 2316), (.int 99 0), (.int 1 0), (.int 0 0), (.int 0 0), (.int 3 0), (.ref 119), (.bool true), (.int 181 0), (.ref 120), .none, (.ref 121), (.ref 122), (.ref 123), (.int 2322 0), (.int 99 0), (.str (Str.ofString "/claim/cut.py") 2323)]), #[]⟩),
  (nat_lit 125, ⟨(.type "function"), none, .func ⟨(Str.ofString "_law_cascade"), (Str.ofString "_law_cascade"), fA 15, .stmts (fB 15), fS 15, 3, [], .none, .none, .none, (.str (Str.ofString "law_wf0083_01") 2312), none, (.ref 124), .none, 0⟩, #[]⟩),
  (nat_lit 126, ⟨(.type "tuple"), none, .seq (List.toArray []) 0, #[]⟩),
  (nat_lit 129, ⟨(.type "code"), none, .fields (List.toArray [(.str (Str.ofString "_law_left") 2325), (.str (Str.ofString "_law_left") 2326), (.str (Str.ofString "/claim/cut.py") 2327), (.int 107 0), (.int 4 0), (.int 0 0), (.int 0 0), (.int 3 0), (.ref 126), (.bool true), (.int 181 0), (.ref 127), .none, .none, .none, (.ref 128), (.int 2328 0), (.int 107 0), (.str (Str.ofString "/claim/cut.py") 2329)]), #[]⟩),
  (nat_lit 130, ⟨(.type "function"), none, .func ⟨(Str.ofString "_law_left"), (Str.ofString "_law_left"), fA 16, .stmts (fB 16), fS 16, 3, [], .none, .none, .none, (.str (Str.ofString "law_wf0083_01") 2312), none, (.ref 129), .none, 0⟩, #[]⟩),
  (nat_lit 131, ⟨(.type "tuple"), none, .seq (List.toArray []) 0, #[]⟩),
  (nat_lit 133, ⟨(.type "tuple"), none, .seq (List.toArray [(.str (Str.ofString "row") 2334), (.str (Str.ofString "pair") 2335), (.str (Str.ofString "k") 2336)]) 0, #[]⟩),
  (nat_lit 134, ⟨(.type "tuple"), none, .seq (List.toArray []) 0, #[]⟩),
  (nat_lit 136, ⟨(.type "code"), none, .fields (List.toArray [(.str (Str.ofString "_law_laid") 2331), (.str (Str.ofString "_law_laid") 2332), (.str (Str.ofString "/claim/cut.py") 2333), (.int 114 0), (.int 2 0), (.int 0 0), (.int 0 0), (.int 3 0), (.ref 131), (.bool true), (.int 181 0), (.ref 132), .none, (.ref 133), (.ref 134), (.ref 135), (.int 2337 0), (.int 114 0), (.str (Str.ofString "/claim/cut.py") 2338)]), #[]⟩),
  (nat_lit 137, ⟨(.type "function"), none, .func ⟨(Str.ofString "_law_laid"), (Str.ofString "_law_laid"), fA 17, .stmts (fB 17), fS 17, 3, [], .none, .none, .none, (.str (Str.ofString "law_wf0083_01") 2312), none, (.ref 136), .none, 0⟩, #[]⟩),
  (nat_lit 138, ⟨(.type "tuple"), none, .seq (List.toArray []) 0, #[]⟩),
  (nat_lit 141, ⟨(.type "code"), none, .fields (List.toArray [(.str (Str.ofString "law") 2340), (.str (Str.ofString "law") 2341), (.str (Str.ofString "/claim/cut.py") 2342), (.int 119 0), (.int 1 0), (.int 0 0), (.int 0 0), (.int 3 0), (.ref 138), (.bool true), (.int 181 0), (.ref 139), .none, .none, .none, (.ref 140), (.int 2343 0), (.int 119 0), (.str (Str.ofString "/claim/cut.py") 2344)]), #[]⟩),
  (nat_lit 142, ⟨(.type "function"), none, .func ⟨(Str.ofString "law"), (Str.ofString "law"), fA 18, .stmts (fB 18), fS 18, 3, [], .none, .none, .none, (.str (Str.ofString "law_wf0083_01") 2312), none, (.ref 141), .none, 0⟩, #[]⟩)]
end Mine
namespace Mine
noncomputable abbrev D := PyData
/-- what a name of a frame holds: a value; the frame's own list, which is appended to; a list that an outer frame appends to -/
inductive B where
  | v (d : D)
  | own (xs : List D)
  | ro (xs : List D)
noncomputable abbrev Fm := List (Str × B)
noncomputable def setB (x : Str) (b : B) : Fm → Fm
  | [] => [(x, b)]
  | (y, c) :: r => if x == y then (x, b) :: r else (y, c) :: setB x b r
inductive Fl where
  | next | brk | cont
  | ret (d : D)
structure Ev where
  E : Scope → Fm → Expr → Option D
  T : Scope → Fm → Expr → Option Bool
  S : Scope → Fm → Stmt → Option (Fm × Fl)
  C : Str → List D → Option D
noncomputable def small (n : Nat) : Bool := Nat.ble n 1000
noncomputable def isVar (sc : Scope) (x : Str) : Bool := match sc.names.lookup x with
  | some .local => true
  | some .cell => true
  | some .free => true
  | _ => false
noncomputable def isGlob (sc : Scope) (x : Str) : Bool := match sc.names.lookup x with
  | some .globalImplicit => true
  | _ => false
noncomputable def constD : Const → Option D
  | .none => some .none
  | .bool b => some (.bool b)
  | .int i => some (.int i)
  | .str s => some (.str s)
  | _ => none
noncomputable def bop : Operator → D → D → Option D
  | .Add, .int a, .int b => some (.int (a + b))
  | .Add, .str a, .str b => if small (a.length + b.length) then some (.str (a ++ b)) else none
  | .Add, .list a, .list b => if small (a.length + b.length) then some (.list (a ++ b)) else none
  | .Sub, .int a, .int b => some (.int (a - b))
  | .Mult, .int a, .int b => if small a.natAbs && small b.natAbs then some (.int (a * b)) else none
  | .FloorDiv, .int a, .int b => if decide (0 < b) && decide (b < 1000000) then some (.int (a.fdiv b)) else none
  | .Mod, .int a, .int b => if decide (0 < b) && decide (b < 1000000) then some (.int (a.fmod b)) else none
  | .Pow, .int a, .int b => if a == 2 && decide (0 < b) && decide (b < 100) then some (.int (a ^ b.toNat)) else none
  | .LShift, .int a, .int b => if a == 1 && decide (0 ≤ b) && decide (b < 100) then some (.int (a * 2 ^ b.toNat)) else none
  | .BitAnd, .int a, .int b => some (.int (Builtin.bitAnd a b))
  | .BitXor, .int a, .int b => some (.int (Builtin.bitXor a b))
  | _, _, _ => none
noncomputable def shallow (d : D) : Bool := d.canLay0 && Nat.ble d.depth 50
noncomputable def cmpD : CmpOp → D → D → Option Bool
  | .Lt, .int a, .int b => some (decide (a < b))
  | .LtE, .int a, .int b => some (decide (a ≤ b))
  | .Gt, .int a, .int b => some (decide (a > b))
  | .GtE, .int a, .int b => some (decide (a ≥ b))
  | .Lt, .str a, .str b => some (decide (a.cps.toList < b.cps.toList))
  | .Eq, a, b => if shallow a && shallow b then some (PyData.eqv a b) else none
  | .NotEq, a, b => if shallow a && shallow b then some (!PyData.eqv a b) else none
  | .In, .str a, .str b => some (!(Builtin.Str.occurrences b a 0 b.length 1).isEmpty)
  | .NotIn, .str a, .str b => some (!(!(Builtin.Str.occurrences b a 0 b.length 1).isEmpty))
  | .In, a, .list xs => if shallow a && shallow (.list xs) then some (xs.any fun y => PyData.eqv y a) else none
  | _, _, _ => none
noncomputable def truthD : D → Option Bool
  | .bool b => some b
  | .int i => some (i != 0)
  | _ => none
/-- the keys of b1_set and the two tables -/
noncomputable def b1Keys : List Int := [65024, 65025, 65026, 65027, 65028, 65029, 6150, 65030, 65031, 65032, 65033, 6155, 6156, 6157, 8203, 8204, 8205, 65034, 65035, 65036, 65037, 65038, 65039, 173, 847, 8288, 65279]
noncomputable def tabOfStmt (i : Nat) : List (Int × Str) := match PySem.Challenge.pw_wf0083_01.main.body[i]? with
  | some (.Assign _ (.Dict ks vs _) _) => (ks.zip vs).filterMap fun kv => match kv with
    | (some (.Constant (.int k) _ _), .Constant (.str x) _ _) => some (k, x)
    | _ => none
  | _ => []
noncomputable def lookI (k : Int) : List (Int × Str) → Option Str
  | [] => none
  | (j, x) :: r => if j == k then some x else lookI k r
noncomputable def tabNamed (n : Str) : Option (List (Int × Str)) :=
  if n == Str.ofString "b3_exceptions" then some (tabOfStmt 12) else if n == Str.ofString "COMPILER_FLAG_NAMES" then some (tabOfStmt 4) else none
noncomputable def intsOf : List D → Option (List Int)
  | [] => some []
  | .int i :: r => (intsOf r).map (i :: ·)
  | _ :: _ => none
noncomputable def strsOf : List D → Option (List Str)
  | [] => some []
  | .str x :: r => (strsOf r).map (x :: ·)
  | _ :: _ => none
noncomputable def callB (f : Str) (as : List D) : Option D := match as with
  | [.list xs] =>
    if f == Str.ofString "len" then (if small xs.length then some (.int xs.length) else none)
    else if f == Str.ofString "sum" then (match intsOf xs with | some ns => if small xs.length && ns.all (fun n => decide (0 ≤ n) && decide (n < 1000000)) then some (.int ns.sum) else none | none => none) else none
  | [.str x] =>
    if f == Str.ofString "len" then (if small x.length then some (.int x.length) else none)
    else if f == Str.ofString "ord" then (if x.length == 1 then some (.int (x.cps.getD 0 0 : Nat)) else none) else none
  | [.int i] =>
    if f == Str.ofString "chr" then (if decide (0 ≤ i) && decide (i ≤ 1114111) then some (.str ⟨#[i.toNat]⟩) else none)
    else if f == Str.ofString "hex" then (if small (baseText "0x" 16 i).length then some (.str (baseText "0x" 16 i)) else none) else none
  | _ => none
noncomputable def lensOk (ys : List Str) : Bool := small ((ys.map (·.length)).sum + ys.length)
noncomputable def methB (m : Str) (o : D) (as : List D) : Option D := match o, as with
  | .str x, [.list xs] => if m == Str.ofString "join" then (match strsOf xs with | some ys => if lensOk ys && Nat.ble x.length 14 then some (.str (Txt.join x ys)) else none | none => none) else none
  | .str x, [] => if m == Str.ofString "lower" then (if small x.length then some (.str (PySem.Txt.lower x)) else none) else none
  | .str x, [.str y] => if m == Str.ofString "index" then (match Builtin.Str.occurrences x y 0 x.length 1 with | i :: _ => some (.int i) | [] => none) else none
  | _, _ => none
noncomputable def partD : Option D → Option (Option Int)
  | none => some none
  | some (.int i) => some (some i)
  | some _ => none
noncomputable def pickD (xs : List D) (lo hi st : Option Int) : List D :=
  (sliceRange (sliceBounds lo hi st xs.length).1 (sliceBounds lo hi st xs.length).2.1 (sliceBounds lo hi st xs.length).2.2).filterMap (xs[·]?)
noncomputable def isNoneD : D → Bool
  | .none => true
  | _ => false
noncomputable def plain : Expr → Bool
  | .Starred .. => false
  | _ => true
noncomputable def noSet : Expr → Bool
  | .Set .. => false
  | _ => true
noncomputable def baseOk : Expr → Bool
  | .Constant .. => true
  | .Name .. => true
  | _ => false
noncomputable def defNames : List Str := ["bisect_right", "bisect_left", "pretty_flags", "_strip_quoted_realnames", "in_table_b1", "map_table_b3", "_law_cascade", "_law_left", "_law_laid"]
noncomputable def isDef (f : Str) : Bool := defNames.any (f == ·)
section
variable (r : Ev)
/-- a name that may hold a list that grows, or any expression -/
noncomputable def rdE (sc : Scope) (fm : Fm) : Expr → Option D
  | .Name x p => match fm.lookup x with
    | some (.v _) => r.E sc fm (.Name x p)
    | some (.own xs) => if isVar sc x then some (.list xs) else none
    | some (.ro xs) => if isVar sc x then some (.list xs) else none
    | none => r.E sc fm (.Name x p)
  | e => r.E sc fm e
/-- the frame's own list goes out, or any expression's value -/
noncomputable def retE (sc : Scope) (fm : Fm) : Expr → Option D
  | .Name x p => match fm.lookup x with
    | some (.own xs) => if isVar sc x then some (.list xs) else none
    | _ => r.E sc fm (.Name x p)
  | e => r.E sc fm e
noncomputable def optE (sc : Scope) (fm : Fm) : Option Expr → Option (Option Int)
  | none => some none
  | some e => match r.E sc fm e with
    | some (.int i) => some (some i)
    | _ => none
noncomputable def eachE (sc : Scope) (fm : Fm) : List Expr → Option (List D)
  | [] => some []
  | e :: rest => if plain e then match r.E sc fm e with
    | some d => match eachE sc fm rest with
      | some ds => some (d :: ds)
      | none => none
    | none => none
    else none
noncomputable def andT (sc : Scope) (fm : Fm) : List Expr → Option Bool
  | [] => some true
  | e :: rest => match r.T sc fm e with
    | some true => andT sc fm rest
    | some false => some false
    | none => none
noncomputable def andE (sc : Scope) (fm : Fm) : List Expr → Option D
  | [] => none
  | [e] => r.E sc fm e
  | e :: rest => match r.E sc fm e with
    | some (.bool true) => andE sc fm rest
    | some (.bool false) => some (.bool false)
    | _ => none
noncomputable def cmpE (sc : Scope) (fm : Fm) (l : Expr) (op : CmpOp) (rr : Expr) : Option Bool := match op, rr with
  | .Is, .Constant .none _ _ => (r.E sc fm l).map isNoneD
  | .IsNot, .Constant .none _ _ => (r.E sc fm l).map fun d => !isNoneD d
  | .In, .Name x p => match r.E sc fm l with
    | some d => if isGlob sc x then (match d with | .int i => if x == Str.ofString "b1_set" then some (b1Keys.contains i) else none | _ => none)
      else (match rdE r sc fm (.Name x p) with | some c => cmpD .In d c | none => none)
    | none => none
  | op, rr => if noSet rr then match r.E sc fm l with
    | some a => match r.E sc fm rr with
      | some b => cmpD op a b
      | none => none
    | none => none
    else none
noncomputable def callE (sc : Scope) (fm : Fm) (f : Str) (args : List Expr) : Option D :=
  if isGlob sc f then
    if f == Str.ofString "len" then match args with
      | [e] => if plain e then (match rdE r sc fm e with | some d => callB f [d] | none => none) else none
      | _ => none
    else match args with
      | [] => none
      | e :: es => match eachE r sc fm (e :: es) with
        | some ds => if f == Str.ofString "chr" || f == Str.ofString "ord" || f == Str.ofString "hex" || f == Str.ofString "sum" then callB f ds else if isDef f then r.C f ds else none
        | none => none
  else none
noncomputable def getE (sc : Scope) (fm : Fm) (n : Str) (args : List Expr) : Option D :=
  if isGlob sc n then match tabNamed n, args with
    | some tab, [k] => match r.E sc fm k with
      | some (.int i) => match lookI i tab with
        | some x => some (.str x)
        | none => some .none
      | _ => none
    | some tab, [k, d] => match r.E sc fm k with
      | some (.int i) => match r.E sc fm d with
        | some dd => match lookI i tab with
          | some x => some (.str x)
          | none => some dd
        | none => none
      | _ => none
    | _, _ => none
  else none
noncomputable def methE (sc : Scope) (fm : Fm) (o : Expr) (m : Str) (args : List Expr) : Option D :=
  if m == Str.ofString "get" then (match o with | .Name n _ => if args.all plain then getE r sc fm n args else none | _ => none)
  else if baseOk o then match r.E sc fm o with
    | some od => match args with
      | [] => methB m od []
      | [e] => if plain e then match rdE r sc fm e with
        | some d => methB m od [d]
        | none => none
        else none
      | _ => none
    | none => none
  else none
noncomputable def subE (sc : Scope) (fm : Fm) (o i : Expr) : Option D := match r.E sc fm o with
  | some od => match i with
    | .Slice lo hi st _ => match optE r sc fm lo with
      | some l => match optE r sc fm hi with
        | some h => match optE r sc fm st with
          | some k => match od with
            | .list xs => if k != some 0 && small xs.length then some (.list (pickD xs l h k)) else none
            | .str x => match k with
              | none => if small x.length then some (.str (Txt.slice x l h)) else none
              | some _ => none
            | _ => none
          | none => none
        | none => none
      | none => none
    | e => match r.E sc fm e with
      | some (.int n) => match od with
        | .list xs => if decide (0 ≤ n) && decide (n < 1000) then xs[n.toNat]? else none
        | .str x => if decide (0 ≤ n) && decide (n < x.length) && small x.length then some (.str ⟨#[x.cps.getD n.toNat 0]⟩) else none
        | _ => none
      | _ => none
  | none => none
noncomputable def charsD (x : Str) : List D := x.cps.toList.map fun c => .str ⟨#[c]⟩
noncomputable def rangeD (a b : Int) : List D := (List.range (b - a).toNat).map fun (k : Nat) => .int (a + (k : Int))
noncomputable def okRange (a b : Int) : Bool := decide (0 ≤ a) && decide (a ≤ 1000) && decide (0 ≤ b) && decide (b ≤ 1000)
/-- the items of what stands behind `in` -/
noncomputable def itemsD : D → Option (List D)
  | .list xs => if small xs.length then some xs else none
  | .str x => if small x.length then some (charsD x) else none
  | _ => none
noncomputable def rangeOf : List D → Option (List D)
  | [.int n] => if okRange 0 n then some (rangeD 0 n) else none
  | [.int a, .int n] => if okRange a n then some (rangeD a n) else none
  | _ => none
noncomputable def isRangeCall (sc : Scope) : Expr → Bool
  | .Call (.Name f _) (_ :: _) [] _ => f == Str.ofString "range" && isGlob sc f
  | _ => false
noncomputable def argsOf : Expr → List Expr
  | .Call _ args _ _ => args
  | _ => []
noncomputable def iterE (sc : Scope) (fm : Fm) (it : Expr) : Option (List D) :=
  if isRangeCall sc it then match eachE r sc fm (argsOf it) with
    | some ds => rangeOf ds
    | none => none
  else if noSet it then match r.E sc fm it with
    | some d => itemsD d
    | none => none
  else none
/-- in a comprehension: a list that grows outside it, too -/
noncomputable def iterC (sc : Scope) (fm : Fm) (it : Expr) : Option (List D) := match it with
  | .Name x p => match fm.lookup x with
    | some (.own xs) => if isVar sc x && small xs.length then some xs else none
    | some (.ro xs) => if isVar sc x && small xs.length then some xs else none
    | _ => iterE r sc fm (.Name x p)
  | e => iterE r sc fm e
/-- a comprehension's own name -/
noncomputable def tgtOk (sc : Scope) (x : Str) : Bool := sc.names.lookup x == some .local || sc.names.lookup x == some .cell
/-- one item after the other: the comprehension's turns -/
noncomputable def turnsD (f : D → Option (List D)) : List D → Option (List D)
  | [] => some []
  | d :: rest => match f d with
    | some ys => match turnsD f rest with
      | some zs => if small (ys.length + zs.length) then some (ys ++ zs) else none
      | none => none
    | none => none
noncomputable def compGo (sc : Scope) (elt : Expr) : List Comprehension → Str → List Expr → Fm → List D → Option (List D)
  | [], x, ifs, fm, items => if (fm.lookup x).isNone && tgtOk sc x then turnsD (fun d => match andT r sc (setB x (.v d) fm) ifs with
      | some true => (r.E sc (setB x (.v d) fm) elt).map fun y => [y]
      | some false => some []
      | none => none) items else none
  | g :: gs, x, ifs, fm, items => if (fm.lookup x).isNone && tgtOk sc x then turnsD (fun d => match andT r sc (setB x (.v d) fm) ifs with
      | some true => match g with
        | ⟨.Name y _, it, ifs', 0⟩ => match iterC r sc (setB x (.v d) fm) it with
          | some its => compGo sc elt gs y ifs' (setB x (.v d) fm) its
          | none => none
        | _ => none
      | some false => some []
      | none => none) items else none
noncomputable def roB : B → B
  | .own xs => .ro xs
  | b => b
/-- the comprehension's frame at its start: what it reads of the frame around -/
noncomputable def capt (sc : Scope) : List (Str × NameKind) → Fm → Fm
  | [], _ => []
  | (n, .free) :: r, fm => match fm.lookup n with
    | some b => (n, roB b) :: capt sc r fm
    | none => capt sc r fm
  | _ :: r, fm => capt sc r fm
/-- a name that is free in the comprehension and the enclosing frame's cell counts as its cell -/
noncomputable def kinds (sc scope : Scope) : Scope := { scope with names := scope.names.map fun (n, k) => if (k == .free && sc.kind == .function && sc.names.lookup n == some .cell) then (n, .cell) else (n, k) }
noncomputable def compSc (sc : Scope) (fm : Fm) (scope : Scope) : Bool := scope.kind == .function && decide (scope.names.map (·.1)).Nodup && scope.names.lookup (Str.ofString "__debug__") == none && scope.names.lookup (Str.ofString "__classdict__") == none
  && scope.names.all fun nk => nk.2 != .free || ((sc.names.lookup nk.1 == some .cell || sc.names.lookup nk.1 == some .free) && (fm.lookup nk.1).isSome)
noncomputable def genNames (scope : Scope) : List Comprehension → Bool
  | [] => true
  | ⟨.Name x _, it, _, 0⟩ :: gs => tgtOk scope x && noSet it && genNames scope gs
  | _ => false
noncomputable def compE (sc : Scope) (fm : Fm) (elt : Expr) (gens : List Comprehension) (scope : Scope) : Option D := match gens with
  | ⟨.Name x _, it, ifs, 0⟩ :: gs => if compSc sc fm scope && genNames scope gens then match iterC r sc fm it with
    | some items => match compGo r (kinds sc scope) elt gs x ifs (capt sc scope.names fm) items with
      | some ys => if small ys.length then some (.list ys) else none
      | none => none
    | none => none
    else none
  | _ => none
noncomputable def evE (sc : Scope) (fm : Fm) : Expr → Option D
  | .Constant c _ _ => constD c
  | .Name x _ => if isVar sc x then (match fm.lookup x with | some (.v d) => some d | _ => none) else none
  | .BinOp l op rr _ => match r.E sc fm l with
    | some a => match r.E sc fm rr with
      | some b => bop op a b
      | none => none
    | none => none
  | .UnaryOp .USub e _ => match r.E sc fm e with
    | some (.int i) => some (.int (-i))
    | _ => none
  | .BoolOp .And vs _ => andE r sc fm vs
  | .Compare l [op] [rr] _ => (cmpE r sc fm l op rr).map .bool
  | .IfExp t a b _ => match r.T sc fm t with
    | some true => r.E sc fm a
    | some false => r.E sc fm b
    | none => none
  | .Call (.Name f _) args [] _ => callE r sc fm f args
  | .Call (.Attribute o m ap) args [] pos => if ap.endLine == pos.line then methE r sc fm o m args else none
  | .Subscript o i _ => subE r sc fm o i
  | .List es _ => if small es.length then (eachE r sc fm es).map .list else none
  | .ListComp elt gens scope _ => compE r sc fm elt gens scope
  | _ => none
noncomputable def evT (sc : Scope) (fm : Fm) : Expr → Option Bool
  | .UnaryOp .Not x _ => (r.T sc fm x).map (! ·)
  | .BoolOp .And vs _ => andT r sc fm vs
  | .Compare l [op] [rr] _ => cmpE r sc fm l op rr
  | .BoolOp .Or _ _ => none
  | .IfExp _ _ _ _ => none
  | .Compare _ _ _ _ => none
  | .UnaryOp _ _ _ => none
  | e => match r.E sc fm e with
    | some d => truthD d
    | none => none
noncomputable def runS (sc : Scope) : Fm → List Stmt → Option (Fm × Fl)
  | fm, [] => some (fm, .next)
  | fm, st :: rest => match r.S sc fm st with
    | some (fm', .next) => runS sc fm' rest
    | x => x
noncomputable def whileS (sc : Scope) (t : Expr) (body : List Stmt) : Nat → Fm → Option (Fm × Fl)
  | 0, _ => none
  | n + 1, fm => match r.T sc fm t with
    | some false => some (fm, .next)
    | some true => match runS r sc fm body with
      | some (fm', .next) => whileS sc t body n fm'
      | some (fm', .cont) => whileS sc t body n fm'
      | some (fm', .brk) => some (fm', .next)
      | x => x
    | none => none
/-- a for over items, each laid into the frame by `put` -/
noncomputable def forS (sc : Scope) {α : Type} (put : α → Fm → Fm) (body orelse : List Stmt) : Fm → List α → Option (Fm × Fl)
  | fm, [] => runS r sc fm orelse
  | fm, d :: rest => match runS r sc (put d fm) body with
    | some (fm', .next) => forS sc put body orelse fm' rest
    | some (fm', .cont) => forS sc put body orelse fm' rest
    | some (fm', .brk) => some (fm', .next)
    | x => x
end
/-- _iter_escaped_chars -/
noncomputable def escGo : Nat → Bool → List Nat → List (Nat × Str)
  | pos, esc, [] => if esc then [(pos - 1, ⟨#[92]⟩)] else []
  | pos, true, c :: r => (pos, ⟨#[92, c]⟩) :: escGo (pos + 1) false r
  | pos, false, c :: r => if c == 92 then escGo (pos + 1) true r else (pos, ⟨#[c]⟩) :: escGo (pos + 1) false r
noncomputable def noOwn : Fm → Bool
  | [] => true
  | (_, .own _) :: _ => false
  | _ :: r => noOwn r
noncomputable def notOwn (fm : Fm) (x : Str) : Bool := match fm.lookup x with
  | some (.own _) => false
  | some (.ro _) => false
  | _ => true
/-- the comprehension's value goes straight into the name -/
noncomputable def useOk (sc : Scope) (x : Str) (px p : Pos) (scope : Scope) : Bool := sc.names.lookup x == some .local && px.line == p.line && !(scope.names.any fun nk => nk.1 == x && (nk.2 == .local || nk.2 == .cell))
noncomputable def onlyOwn (x : Str) : Fm → Bool
  | [] => true
  | (y, b) :: r => (y == x || (match b with | .own _ => false | _ => true)) && onlyOwn x r
noncomputable def ownName (x : Str) : Bool := x == Str.ofString "names" || x == Str.ofString "result" || x == Str.ofString "places" || x == Str.ofString "family"
section
variable (r : Ev)
noncomputable def evAsg (sc : Scope) (fm : Fm) (x : Str) (px : Pos) (value : Expr) : Option (Fm × Fl) :=
  if (sc.names.lookup x == some .local || sc.names.lookup x == some .cell) && notOwn fm x then
    match value with
    | .List [] p => if ownName x then (if noOwn fm then some (setB x (.own []) fm, .next) else none) else match r.E sc fm (.List [] p) with
      | some d => some (setB x (.v d) fm, .next)
      | none => none
    | .ListComp elt gens scope p => if useOk sc x px p scope then match compE r sc fm elt gens scope with
      | some d => some (setB x (.v d) fm, .next)
      | none => none
      else none
    | .SetComp .. => none
    | .DictComp .. => none
    | e => match r.E sc fm e with
      | some d => some (setB x (.v d) fm, .next)
      | none => none
  else none
noncomputable def evTup (sc : Scope) (fm : Fm) (x y z : Str) (call : Expr) : Option (Fm × Fl) :=
  if sc.names.lookup x == some .local && sc.names.lookup y == some .local && sc.names.lookup z == some .local && notOwn fm x && notOwn fm y && notOwn fm z then match r.E sc fm call with
    | some (.list [a, b, c]) => some (setB z (.v c) (setB y (.v b) (setB x (.v a) fm)), .next)
    | _ => none
  else none
noncomputable def evAug (sc : Scope) (fm : Fm) (x : Str) (op : Operator) (e : Expr) : Option (Fm × Fl) :=
  if sc.names.lookup x == some .local then match fm.lookup x with
    | some (.v (.int a)) => match r.E sc fm e with
      | some (.int b) => match op with
        | .BitXor => some (setB x (.v (.int (Builtin.bitXor a b))) fm, .next)
        | _ => none
      | _ => none
    | _ => none
  else none
noncomputable def evApp (sc : Scope) (fm : Fm) (x m : Str) (ap pos : Pos) (e : Expr) : Option (Fm × Fl) :=
  if m == Str.ofString "append" && isVar sc x && ap.endLine == pos.line && plain e && onlyOwn x fm then match fm.lookup x with
    | some (.own xs) => match r.E sc fm e with
      | some d => if small xs.length then some (setB x (.own (xs ++ [d])) fm, .next) else none
      | none => none
    | _ => none
  else none
noncomputable def evAsn (sc : Scope) (fm : Fm) (ts : List Expr) (value : Expr) : Option (Fm × Fl) := match ts with
  | [.Name x px] => evAsg r sc fm x px value
  | [.Tuple es _ _] => match es with
    | [.Name x _, .Name y _, .Name z _] => match value with
      | .Call f args kw cp => evTup r sc fm x y z (.Call f args kw cp)
      | _ => none
    | _ => none
  | _ => none
noncomputable def evExp (sc : Scope) (fm : Fm) (e : Expr) : Option (Fm × Fl) := match e with
  | .Call f args kw pos => match f with
    | .Attribute o m ap => match o with
      | .Name x _ => match args with
        | [e] => match kw with
          | [] => evApp r sc fm x m ap pos e
          | _ => none
        | _ => none
      | _ => none
    | _ => none
  | _ => none
noncomputable def evForT (sc : Scope) (fm : Fm) (es : List Expr) (it : Expr) (body orelse : List Stmt) : Option (Fm × Fl) := match es with
  | [.Name x _, .Name y _] => match it with
    | .Call f args kw _ => match f with
      | .Name g _ => match args with
        | [e] => match kw with
          | [] => match orelse with
            | [] => if g == Str.ofString "_iter_escaped_chars" && isGlob sc g && sc.names.lookup x == some .local && sc.names.lookup y == some .local && x != y && plain e && notOwn fm x && notOwn fm y then match r.E sc fm e with
              | some (.str s) => if small s.length then forS r sc (fun (p : Nat × Str) fm => setB y (.v (.str p.2)) (setB x (.v (.int p.1)) fm)) body [] fm (escGo 0 false s.cps.toList) else none
              | _ => none
              else none
            | _ => none
          | _ => none
        | _ => none
      | _ => none
    | _ => none
  | _ => none
noncomputable def evForN (sc : Scope) (fm : Fm) (x : Str) (it : Expr) (body orelse : List Stmt) : Option (Fm × Fl) :=
  if (sc.names.lookup x == some .local || sc.names.lookup x == some .cell) && notOwn fm x then match iterE r sc fm it with
    | some items => forS r sc (fun d fm => setB x (.v d) fm) body orelse fm items
    | none => none
  else none
noncomputable def evS (sc : Scope) (fm : Fm) : Stmt → Option (Fm × Fl)
  | .Assign ts value _ => evAsn r sc fm ts value
  | .AugAssign t op e _ => match t with
    | .Name x _ => evAug r sc fm x op e
    | _ => none
  | .Expr e _ => evExp r sc fm e
  | .If t a b _ => match r.T sc fm t with
    | some true => runS r sc fm a
    | some false => runS r sc fm b
    | none => none
  | .While t body els _ => match els with
    | [] => whileS r sc t body 40 fm
    | _ => none
  | .For t it body orelse _ => match t with
    | .Name x _ => evForN r sc fm x it body orelse
    | .Tuple es _ _ => evForT r sc fm es it body orelse
    | _ => none
  | .Return eo _ => match eo with
    | some e => match retE r sc fm e with
      | some d => some (fm, .ret d)
      | none => none
    | none => none
  | .Break _ => some (fm, .brk)
  | .Continue _ => some (fm, .cont)
  | _ => none
/-- the defs: their place in the text, what stands for parameters that are not given -/
noncomputable def defAtName (f : Str) : Option (Nat × List D) :=
  if f == Str.ofString "bisect_right" then some (1, [.int 0, .none, .none])
  else if f == Str.ofString "bisect_left" then some (2, [.int 0, .none, .none])
  else if f == Str.ofString "pretty_flags" then some (5, [])
  else if f == Str.ofString "_strip_quoted_realnames" then some (8, [])
  else if f == Str.ofString "in_table_b1" then some (11, [])
  else if f == Str.ofString "map_table_b3" then some (13, [])
  else if f == Str.ofString "_law_cascade" then some (15, [])
  else if f == Str.ofString "_law_left" then some (16, [])
  else if f == Str.ofString "_law_laid" then some (17, [])
  else none
noncomputable def paramsOf (i : Nat) : List Str := ((fA i).args.map (·.arg)) ++ ((fA i).kwonlyargs.map (·.arg))
noncomputable def zipB : List Str → List D → Option Fm
  | [], [] => some []
  | x :: xs, d :: ds => (zipB xs ds).map ((x, .v d) :: ·)
  | _, _ => none
noncomputable def evC (f : Str) (ds : List D) : Option D := match defAtName f with
  | some (i, dflt) => match zipB (paramsOf i) (ds ++ dflt) with
    | some fm => match runS r (fS i) fm (fB i) with
      | some (_, .ret d) => some d
      | _ => none
    | none => none
  | none => none
end
/-- the law itself -/
noncomputable def evLaw (r : Ev) (script : List D) : Option D := match runS r (fS 18) [(Str.ofString "script", .v (.list script))] (fB 18) with
  | some (_, .ret d) => some d
  | _ => none
noncomputable def nextEv (r : Ev) : Ev := ⟨evE r, evT r, evS r, evC r⟩
noncomputable def ev : Nat → Ev
  | 0 => ⟨fun _ _ _ => none, fun _ _ _ => none, fun _ _ _ => none, fun _ _ => none⟩
  | n + 1 => nextEv (ev n)
end Mine
namespace Mine
/-! values: data without tuples and dicts, read out of the heap -/
mutual
noncomputable def nd : PyData → Bool
  | .none | .bool _ | .int _ | .str _ => true
  | .list xs => ndAll xs
  | .tuple _ | .dict _ => false
noncomputable def ndAll : List PyData → Bool
  | [] => true
  | x :: xs => nd x && ndAll xs
end
theorem ndAll_mem : ∀ {xs : List PyData}, ndAll xs = true ↔ ∀ x ∈ xs, nd x = true
  | [] => by simp [ndAll]
  | x :: xs => by simp [ndAll, ndAll_mem (xs := xs)]
theorem ndAll_append {xs ys : List PyData} (hx : ndAll xs = true) (hy : ndAll ys = true) : ndAll (xs ++ ys) = true :=
  ndAll_mem.mpr fun z hz => (List.mem_append.mp hz).elim (ndAll_mem.mp hx z) (ndAll_mem.mp hy z)
noncomputable def Keeps (h h' : Heap) : Prop := ∀ b o, h.get? b = some o → h'.get? b = some o
theorem Keeps.refl (h : Heap) : Keeps h h := fun _ _ e => e
theorem Keeps.trans {a b c : Heap} (x : Keeps a b) (y : Keeps b c) : Keeps a c := fun _ _ e => y _ _ (x _ _ e)
theorem Keeps.push (h : Heap) (o : Obj) : Keeps h (h.push o) := fun _ _ e => Heap.get?_push_of_some o e
noncomputable def VR (h : Heap) (av : List Addr) (v : Value) (d : D) : Prop := nd d = true ∧ ∃ as, Reads h v d as ∧ ∀ a ∈ as, a ∉ av
noncomputable def VRs (h : Heap) (av : List Addr) (vs : List Value) (ds : List D) : Prop := ndAll ds = true ∧ ∃ as, ReadsAll h vs ds as ∧ ∀ a ∈ as, a ∉ av
section
variable {h h' : Heap} {av : List Addr} {v : Value} {vs : List Value} {d : D} {ds : List D}
theorem VR.keeps (x : VR h av v d) (k : Keeps h h') : VR h' av v d := ⟨x.1, x.2.imp fun _ y => ⟨PyProof.Rows.Reads.keeps k y.1, y.2⟩⟩
theorem VRs.keeps (x : VRs h av vs ds) (k : Keeps h h') : VRs h' av vs ds := ⟨x.1, x.2.imp fun _ y => ⟨PyProof.Rows.ReadsAll.keeps k y.1, y.2⟩⟩
theorem VR.weak {av' : List Addr} (x : VR h av v d) (s : ∀ a ∈ av', a ∈ av) : VR h av' v d := ⟨x.1, x.2.imp fun _ y => ⟨y.1, fun a ha hb => y.2 a ha (s a hb)⟩⟩
theorem VR.none : VR h av .none .none := ⟨rfl, [], .none, fun _ q => nomatch q⟩
theorem VR.bool (b : Bool) : VR h av (.bool b) (.bool b) := ⟨rfl, [], .bool b, fun _ q => nomatch q⟩
theorem VR.int (i : Int) (t : Tok) : VR h av (.int i t) (.int i) := ⟨rfl, [], .int i t, fun _ q => nomatch q⟩
theorem VR.str (x : Str) (t : Tok) : VR h av (.str x t) (.str x) := ⟨rfl, [], .str x t, fun _ q => nomatch q⟩
theorem VR.int_inv {i : Int} (x : VR h av v (.int i)) : ∃ t, v = .int i t := let ⟨_, _, r, _⟩ := x; by cases r; exact ⟨_, rfl⟩
theorem VR.str_inv {y : Str} (x : VR h av v (.str y)) : ∃ t, v = .str y t := let ⟨_, _, r, _⟩ := x; by cases r; exact ⟨_, rfl⟩
theorem VR.bool_inv {b : Bool} (x : VR h av v (.bool b)) : v = .bool b := let ⟨_, _, r, _⟩ := x; by cases r; rfl
theorem VR.none_inv (x : VR h av v .none) : v = .none := let ⟨_, _, r, _⟩ := x; by cases r; rfl
theorem VR.list_inv {xs : List D} (x : VR h av v (.list xs)) : ∃ a vs, v = .ref a ∧ a ∉ av ∧ h.IsList a vs.toArray ∧ VRs h av vs xs := by
  obtain ⟨n, as, r, hn⟩ := x
  cases r with
  | @list a o its m _ bs ho hc hd hr =>
    refine ⟨a, its.toList, rfl, hn a (.head _), ⟨o, ho, hc, m, by rw [hd]⟩, n, bs, hr, fun b hb => hn b (.tail _ hb)⟩
theorem VR.list_of {a : Addr} {xs : List D} (hl : h.IsList a vs.toArray) (ha : a ∉ av) (x : VRs h av vs xs) : VR h av (.ref a) (.list xs) := by
  obtain ⟨n, bs, hr, hn⟩ := x
  obtain ⟨o, ho, hc, m, hd⟩ := hl
  exact ⟨n, a :: bs, .list ho hc hd hr, fun b hb => (List.mem_cons.mp hb).elim (fun e => e ▸ ha) (hn b)⟩
theorem VRs.nil : VRs h av [] [] := ⟨rfl, [], .nil, fun _ q => nomatch q⟩
theorem VRs.cons (x : VR h av v d) (y : VRs h av vs ds) : VRs h av (v :: vs) (d :: ds) := by
  obtain ⟨n, as, r, hn⟩ := x
  obtain ⟨n', bs, r', hn'⟩ := y
  exact ⟨by simp [ndAll, n, n'], as ++ bs, .cons r r', fun a ha => (List.mem_append.mp ha).elim (hn a) (hn' a)⟩
theorem VRs.cons_inv (x : VRs h av vs (d :: ds)) : ∃ u us, vs = u :: us ∧ VR h av u d ∧ VRs h av us ds := by
  obtain ⟨n, as, r, hn⟩ := x
  have n' : nd d = true ∧ ndAll ds = true := by simpa [ndAll] using n
  cases r with
  | @cons u us _ _ as bs r1 r2 => exact ⟨u, us, rfl, ⟨n'.1, as, r1, fun a ha => hn a (List.mem_append_left _ ha)⟩, n'.2, bs, r2, fun a ha => hn a (List.mem_append_right _ ha)⟩
theorem VRs.nil_inv (x : VRs h av vs []) : vs = [] := by
  obtain ⟨_, as, r, _⟩ := x; cases r; rfl
theorem VRs.append {us : List Value} {es : List D} (x : VRs h av vs ds) (y : VRs h av us es) : VRs h av (vs ++ us) (ds ++ es) := by
  induction ds generalizing vs with
  | nil => rw [x.nil_inv]; exact y
  | cons d ds ih => obtain ⟨u, us', rfl, a, b⟩ := x.cons_inv; exact VRs.cons a (ih b)
theorem VRs.length (x : VRs h av vs ds) : vs.length = ds.length := by
  induction ds generalizing vs with
  | nil => rw [x.nil_inv]; rfl
  | cons d ds ih => obtain ⟨u, us', rfl, a, b⟩ := x.cons_inv; simp [ih b]
theorem VRs.get (x : VRs h av vs ds) : ∀ {i : Nat} {d : D}, ds[i]? = some d → ∃ v, vs[i]? = some v ∧ VR h av v d := by
  induction ds generalizing vs with
  | nil => intro i d e; simp at e
  | cons d' ds ih =>
    intro i d e
    obtain ⟨u, us', rfl, a, b⟩ := x.cons_inv
    cases i with
    | zero => cases e; exact ⟨u, rfl, a⟩
    | succ i => exact ih b (by simpa using e)
theorem VRs.pick (x : VRs h av vs ds) (is : List Nat) : VRs h av (is.filterMap (vs[·]?)) (is.filterMap (ds[·]?)) := by
  induction is with
  | nil => exact VRs.nil
  | cons i is ih =>
    rw [List.filterMap_cons, List.filterMap_cons]
    cases e : ds[i]? with
    | some d => obtain ⟨v, hv, r⟩ := x.get e; rw [hv]; exact VRs.cons r ih
    | none =>
      have hl := x.length
      have : vs[i]? = none := by rw [List.getElem?_eq_none_iff] at e ⊢; omega
      rw [this]; exact ih
theorem VRs.ints (x : VRs h av vs ds) : ∀ {ns : List Int}, intsOf ds = some ns → IntsAre vs ns := by
  induction ds generalizing vs with
  | nil => intro ns e; cases e; rw [x.nil_inv]; exact .nil
  | cons d ds ih =>
    intro ns e
    obtain ⟨u, us', rfl, a, b⟩ := x.cons_inv
    cases d with
    | int i =>
      obtain ⟨t, rfl⟩ := a.int_inv
      simp only [intsOf, Option.map_eq_some_iff] at e
      obtain ⟨ms, e, rfl⟩ := e
      exact .cons i t (ih b e)
    | _ => simp [intsOf] at e
theorem VRs.strs (x : VRs h av vs ds) : ∀ {ys : List Str}, strsOf ds = some ys → StrsAre vs ys := by
  induction ds generalizing vs with
  | nil => intro ns e; cases e; rw [x.nil_inv]; exact .nil
  | cons d ds ih =>
    intro ns e
    obtain ⟨u, us', rfl, a, b⟩ := x.cons_inv
    cases d with
    | str i =>
      obtain ⟨t, rfl⟩ := a.str_inv
      simp only [strsOf, Option.map_eq_some_iff] at e
      obtain ⟨ms, e, rfl⟩ := e
      exact .cons i t (ih b e)
    | _ => simp [strsOf] at e
/-- a value's list objects are there -/
theorem VR.avoid_new (x : VR h av v d) {a : Addr} (ha : h.get? a = Option.none) : VR h (a :: av) v d := by
  obtain ⟨n, as, r, hn⟩ := x
  refine ⟨n, as, r, fun b hb hc => ?_⟩
  rcases List.mem_cons.mp hc with rfl | hc
  · obtain ⟨o, ho⟩ := PyProof.On.reads_mem_get r b hb
    rw [ha] at ho; cases ho
  · exact hn b hb hc
theorem VRs.avoid_new (x : VRs h av vs ds) {a : Addr} (ha : h.get? a = Option.none) : VRs h (a :: av) vs ds := by
  induction ds generalizing vs with
  | nil => rw [x.nil_inv]; exact VRs.nil
  | cons d ds ih => obtain ⟨u, us', rfl, p, q⟩ := x.cons_inv; exact VRs.cons (p.avoid_new ha) (ih q)
end
noncomputable def Lives (h : Heap) (av : List Addr) : Prop := ∀ a ∈ av, ∃ o, h.get? a = some o
theorem Lives.keeps {h h' : Heap} {av : List Addr} (x : Lives h av) (k : Keeps h h') : Lives h' av := fun a ha => (x a ha).imp fun _ e => k _ _ e
theorem Lives.upd {h h' : Heap} {av : List Addr} {x : Addr} (y : Lives h av) (k : ∀ b o, b ≠ x → h.get? b = some o → h'.get? b = some o) (e : ∃ o, h'.get? x = some o) : Lives h' av := fun a ha => by
  by_cases q : a = x
  · rw [q]; exact e
  · exact (y a ha).imp fun _ e => k _ _ q e
theorem get_size (h : Heap) : h.get? h.objs.size = none := by simp [Heap.get?]
theorem VR.list_new {h : Heap} {av : List Addr} {vs : List Value} {ds : List D} (x : VRs h av vs ds) (lv : Lives h av) (o : Obj) (hc : o.cls = .type "list") {n : Nat} (hd : o.data = .seq vs.toArray n) :
    VR (h.push o) av (.ref h.objs.size) (.list ds) :=
  VR.list_of ⟨o, Heap.get?_push_size h (by obtain ⟨c, di, da, sl⟩ := o; simp only at hd; subst hd; rfl), hc, n, hd⟩ (fun q => by obtain ⟨o', e⟩ := lv _ q; rw [get_size] at e; cases e) (x.keeps (Keeps.push h o))
/-- one object is turned that no value stands on -/
noncomputable def Spare (h : Heap) (x : Addr) (as : List Addr) : Prop := ∀ o, h.get? x = some o → (∀ its n, o.data ≠ .seq its n) ∨ x ∉ as
mutual
theorem reads_upd {h h' : Heap} {x : Addr} (k : ∀ b o, b ≠ x → h.get? b = some o → h'.get? b = some o) : ∀ (d : D) {v : Value} {as : List Addr}, nd d = true → Reads h v d as → Spare h x as → Reads h' v d as
  | .none, _, _, _, r, _ => by cases r; exact .none
  | .bool b, _, _, _, r, _ => by cases r; exact .bool b
  | .int i, _, _, _, r, _ => by cases r; exact .int i _
  | .str i, _, _, _, r, _ => by cases r; exact .str i _
  | .tuple _, _, _, n, _, _ => by simp [nd] at n
  | .dict _, _, _, n, _, _ => by simp [nd] at n
  | .list xs, _, _, n, r, sp => by
    cases r with
    | @list a o its m _ bs ho hc hd hr =>
      have hne : a ≠ x := fun e => by
        subst e
        rcases sp o ho with q | q
        · exact q _ _ hd
        · exact q (.head _)
      exact .list (k a o hne ho) hc hd (readsAll_upd k xs n hr fun o' ho' => (sp o' ho').imp id fun q hq => q (.tail _ hq))
theorem readsAll_upd {h h' : Heap} {x : Addr} (k : ∀ b o, b ≠ x → h.get? b = some o → h'.get? b = some o) : ∀ (ds : List D) {vs : List Value} {as : List Addr}, ndAll ds = true → ReadsAll h vs ds as → Spare h x as → ReadsAll h' vs ds as
  | [], _, _, _, r, _ => by cases r; exact .nil
  | d :: ds, _, _, n, r, sp => by
    have n' : nd d = true ∧ ndAll ds = true := by simpa [ndAll] using n
    cases r with
    | cons r1 r2 =>
      exact .cons (reads_upd k d n'.1 r1 fun o' ho' => (sp o' ho').imp id fun q hq => q (List.mem_append_left _ hq))
        (readsAll_upd k ds n'.2 r2 fun o' ho' => (sp o' ho').imp id fun q hq => q (List.mem_append_right _ hq))
end
section
variable {h h' : Heap} {av : List Addr} {v : Value} {vs : List Value} {d : D} {ds : List D} {x : Addr}
/-- the turned object is no list, or one that the value avoids -/
noncomputable def Off (h : Heap) (x : Addr) (av : List Addr) : Prop := ∀ o, h.get? x = some o → (∀ its n, o.data ≠ .seq its n) ∨ x ∈ av
theorem VR.upd (y : VR h av v d) (k : ∀ b o, b ≠ x → h.get? b = some o → h'.get? b = some o) (f : Off h x av) : VR h' av v d := by
  obtain ⟨n, as, r, hn⟩ := y
  exact ⟨n, as, reads_upd k d n r fun o ho => (f o ho).imp id fun q hq => hn x hq q, hn⟩
theorem VRs.upd (y : VRs h av vs ds) (k : ∀ b o, b ≠ x → h.get? b = some o → h'.get? b = some o) (f : Off h x av) : VRs h' av vs ds := by
  obtain ⟨n, as, r, hn⟩ := y
  exact ⟨n, as, readsAll_upd k ds n r fun o ho => (f o ho).imp id fun q hq => hn x hq q, hn⟩
theorem off_ns {m : Str → Option Value} (hn : h.Ns x m) : Off h x av := fun o ho => by
  obtain ⟨o', es, ep, ho', hd, _⟩ := hn
  rw [ho] at ho'; cases ho'
  exact .inl fun its n e => by rw [hd] at e; cases e
theorem off_cell {u : Option Value} (hn : h.IsCell x u) : Off h x av := fun o ho => by
  obtain ⟨o', ho', hd⟩ := hn
  rw [ho] at ho'; cases ho'
  exact .inl fun its n e => by rw [hd] at e; cases e
theorem off_av (hx : x ∈ av) : Off h x av := fun _ _ => .inr hx
end
/-! the generators: what was there stays, what is new is bare -/
structure GX (g g' : Array GenState) : Prop where
  size : g.size ≤ g'.size
  old : ∀ i, i < g.size → g'[i]? = g[i]?
  bare : ∀ i x, g.size ≤ i → g'[i]? = some x → x.bare = true
theorem GX.refl (g : Array GenState) : GX g g := ⟨Nat.le_refl _, fun _ _ => rfl, fun i x hi e => by rw [Array.getElem?_eq_none hi] at e; cases e⟩
theorem GX.trans {a b c : Array GenState} (x : GX a b) (y : GX b c) : GX a c :=
  ⟨Nat.le_trans x.size y.size, fun i hi => (y.old i (Nat.lt_of_lt_of_le hi x.size)).trans (x.old i hi), fun i z hi e => by
    by_cases q : i < b.size
    · rw [y.old i q] at e; exact x.bare i z hi e
    · exact y.bare i z (Nat.le_of_not_lt q) e⟩
theorem GX.allBare {g' : Array GenState} (x : GX #[] g') : AllBare g' := fun y hy => by
  obtain ⟨i, hi, rfl⟩ := Array.mem_iff_getElem.mp hy
  exact x.bare i _ (by simp) (Array.getElem?_eq_getElem hi)
/-- an expression's step: all that was there stays -/
structure Grow (s s' : Shared) : Prop where
  heap : Keeps s.heap s'.heap
  gens : GX s.gens s'.gens
  os : s'.os = s.os
theorem Grow.refl (s : Shared) : Grow s s := ⟨Keeps.refl _, GX.refl _, rfl⟩
theorem Grow.trans {a b c : Shared} (x : Grow a b) (y : Grow b c) : Grow a c := ⟨x.heap.trans y.heap, x.gens.trans y.gens, y.os.trans x.os⟩
theorem Grow.tok (s : Shared) (t : Nat) : Grow s { s with toks := t } := ⟨Keeps.refl _, GX.refl _, rfl⟩
theorem Grow.of_keep {s : Shared} {h' : Heap} {t : Nat} (k : Keeps s.heap h') : Grow s { s with heap := h', toks := t } := ⟨k, GX.refl _, rfl⟩
/-! the ground: what the text's own top left -/
structure GH (w : World) (h : Heap) : Prop where
  kin : (KF w.params).In h
  ns : ∃ mg mb, h.Ns mainGlobals mg ∧ h.Ns builtinsNs mb ∧ ∀ x : Str, x ≠ "__name__" → mb x = bootBuiltins x
  lim : h.NoLimit
theorem GH.keeps {w : World} {h h' : Heap} (x : GH w h) (k : Keeps h h') : GH w h' :=
  ⟨x.kin.keeps k, let ⟨mg, mb, a, b, c⟩ := x.ns; ⟨mg, mb, a.keeps k, b.keeps k, c⟩, x.lim.keeps k⟩
noncomputable abbrev Base := Addr → Option Obj
noncomputable def GB (w : World) (f : Base) : Prop := ∀ h : Heap, (∀ b o, f b = some o → h.get? b = some o) → GH w h
theorem GB.of {w : World} {h : Heap} (x : GH w h) : GB w h.get? := fun _ k => x.keeps k
/-- room for k more levels of calls -/
structure Cx (k : Nat) (A : Around) : Prop where
  handled : A.handled = none
  depth : A.depth + k < recursionLimit
  units : A.units + 3 * k + 100 < cLine
theorem Cx.less {k : Nat} {A : Around} (x : Cx (k + 1) A) : Cx k A := ⟨x.1, by have := x.2; omega, by have := x.3; omega⟩
theorem Cx.deeper {k : Nat} {A : Around} (x : Cx (k + 1) A) (env : Env) : Cx k (A.deeper env) := ⟨x.1, by have := x.2; show A.depth + 1 + k < _; omega, by have := x.3; show A.units + 3 + 3 * k + 100 < _; omega⟩
theorem Cx.room {k : Nat} {A : Around} (x : Cx k A) : A.depth < recursionLimit := by have := x.2; omega
end Mine
namespace Mine
/-! the three tables -/
noncomputable def dictEnts (P : Params) (a : Addr) : List DictEntry := match (KF P).lookup a with
  | some ⟨_, _, .dict es _, _⟩ => es.toList
  | _ => []
noncomputable def dictShape (P : Params) (a : Addr) : Bool := match (KF P).lookup a with
  | some ⟨.type t, none, .dict _ _, sl⟩ => t == "dict" && sl.size == 0
  | _ => false
noncomputable def setEnts (P : Params) (a : Addr) : List (Int × Value) := match (KF P).lookup a with
  | some ⟨_, _, .set es _ _, _⟩ => es.toList
  | _ => []
noncomputable def setShape (P : Params) (a : Addr) : Bool := match (KF P).lookup a with
  | some ⟨.type t, none, .set es _ tb, sl⟩ => t == "set" && sl.size == 0 && Nat.ble es.size 100 && tb.fits es.size
  | _ => false
noncomputable def entOk (e : DictEntry) : Bool := match e.key, e.val with
  | .int k _, .str _ _ => e.hash == hashInt k
  | _, _ => false
noncomputable def entKV (e : DictEntry) : Int × Str := match e.key, e.val with
  | .int k _, .str x _ => (k, x)
  | _, _ => (0, ⟨#[]⟩)
noncomputable def elOk (e : Int × Value) : Bool := match e.2 with
  | .int k _ => e.1 == hashInt k
  | _ => false
noncomputable def elK (e : Int × Value) : Int := match e.2 with
  | .int k _ => k
  | _ => 0
theorem shape33 (P : Params) : dictShape P 33 = true := by kernel_rfl
theorem shape73 (P : Params) : dictShape P 73 = true := by kernel_rfl
theorem shape62 (P : Params) : setShape P 62 = true := by kernel_rfl
theorem all33 (P : Params) : (dictEnts P 33).all entOk = true := by kernel_rfl
theorem all73 (P : Params) : (dictEnts P 73).all entOk = true := by kernel_rfl
theorem all62 (P : Params) : (setEnts P 62).all elOk = true := by kernel_rfl
theorem keys62 (P : Params) : (setEnts P 62).map elK = b1Keys := by kernel_rfl
theorem tab33 (P : Params) : (dictEnts P 33).map entKV = tabOfStmt 4 := by kernel_rfl
theorem tab73 (P : Params) : (dictEnts P 73).map entKV = tabOfStmt 12 := by kernel_rfl
theorem find_lookI {prog : Program} {w : World} (k : Int) : ∀ {es : List DictEntry}, es.all entOk = true →
    match lookI k (es.map entKV) with
    | some x => ∃ t, findBy (intKind prog w).is es.toArray k = some (.str x t)
    | none => findBy (intKind prog w).is es.toArray k = none
  | [], _ => rfl
  | ⟨hs, key, val⟩ :: es, h => by
    have h' : entOk ⟨hs, key, val⟩ = true ∧ es.all entOk = true := by simpa using h
    have ih := find_lookI (prog := prog) (w := w) k h'.2
    have e1 := h'.1
    unfold entOk at e1
    split at e1
    · next j t x u hk hv =>
      simp only at hk hv
      subst hk hv
      show match (if j == k then some x else lookI k (es.map entKV)) with
        | some x => _
        | none => _
      have fb : findBy (intKind prog w).is (List.toArray (⟨hs, .int j t, .str x u⟩ :: es)) k = if j == k then some (.str x u) else findBy (intKind prog w).is es.toArray k := by
        unfold findBy
        rw [List.find?_toArray, List.find?_toArray, List.find?_cons]
        have e : (intKind prog w).is k (.int j t) = (j == k) := rfl
        simp only [e]
        cases (j == k) <;> rfl
      rw [fb]
      by_cases q : (j == k) = true
      · rw [if_pos q, if_pos q]; exact ⟨u, rfl⟩
      · rw [if_neg q, if_neg q]; exact ih
    · cases e1
noncomputable def IntDict (prog : Program) (w : World) (h : Heap) (a : Addr) (tab : List (Int × Str)) : Prop := ∃ f, h.MapOf (intKind prog w) a f ∧ ∀ k, match lookI k tab with
    | some x => ∃ t, f k = some (.str x t)
    | none => f k = none
theorem intDict_of {prog : Program} {w : World} {h : Heap} {a : Addr} {tab : List (Int × Str)} (hin : (KF w.params).In h) (sh : dictShape w.params a = true) (al : (dictEnts w.params a).all entOk = true) (tb : (dictEnts w.params a).map entKV = tab) :
    IntDict prog w h a tab := by
  unfold dictShape at sh
  split at sh
  · next t es ep sl e =>
    have hen : dictEnts w.params a = es.toList := by unfold dictEnts; rw [e]
    simp only [Bool.and_eq_true, beq_iff_eq] at sh
    rw [hen] at al tb
    refine ⟨findBy (intKind prog w).is es, ⟨_, es, ep, hin _ _ e, ⟨by rw [sh.1], rfl, Array.eq_empty_of_size_eq_zero sh.2⟩, rfl, fun x hx => ?_, fun _ => rfl⟩, fun k => ?_⟩
    · have := List.all_eq_true.mp al x (by simpa using hx)
      unfold entOk at this
      split at this
      · next j t x' u hk hv => exact ⟨j, by rw [hk]; show (j == j) = true; simp, eq_of_beq this⟩
      · cases this
    · have := find_lookI (prog := prog) (w := w) k al
      rw [tb] at this
      simpa using this
  · cases sh
theorem setOf_of {prog : Program} {w : World} {h : Heap} (hin : (KF w.params).In h) : ∃ n, Heap.SetOf (intKind prog w) h 62 (fun i => b1Keys.contains i) n := by
  have sh := shape62 w.params
  have al := all62 w.params
  have tb := keys62 w.params
  unfold setShape at sh
  split at sh
  · next t es ep tb' sl e =>
    have hen : setEnts w.params 62 = es.toList := by unfold setEnts; rw [e]
    simp only [Bool.and_eq_true, beq_iff_eq] at sh
    rw [hen] at al tb
    refine ⟨es.size, _, es, ep, tb', hin _ _ e, ⟨by rw [sh.1.1.1], rfl, Array.eq_empty_of_size_eq_zero sh.1.1.2⟩, rfl, fun x hx => ?_, fun k => ?_, ?_, sh.2, rfl⟩
    · have := List.all_eq_true.mp al x hx
      unfold elOk at this
      split at this
      · next j t hk => exact ⟨⟨j, by rw [hk]; show (j == j) = true; simp, eq_of_beq this⟩, by rw [hk]; rfl⟩
      · cases this
    · rw [← tb, List.contains_iff_mem, List.mem_map]
      constructor
      · rintro ⟨x, hx, hk⟩
        have := List.all_eq_true.mp al x hx
        refine ⟨x, hx, ?_⟩
        unfold elOk at this
        split at this
        · next j t hj =>
          rw [hj]; unfold elK at hk; rw [hj] at hk
          show (j == k) = true
          simpa using hk
        · cases this
      · rintro ⟨x, hx, hk⟩
        refine ⟨x, hx, ?_⟩
        have := List.all_eq_true.mp al x hx
        unfold elOk at this
        split at this
        · next j t hj =>
          rw [hj] at hk
          unfold elK; rw [hj]
          have : (j == k) = true := hk
          simpa using this
        · cases this
    · have := Nat.le_of_ble_eq_true sh.1.2
      show es.size < 4096
      omega
  · cases sh
end Mine
namespace Mine
/-! a frame -/
structure Fx where
  base : Base
  env : Env
  av : List Addr
  wr : List Addr
  oc : List Str
  ac : List Addr
noncomputable def OwnL (h : Heap) (a : Addr) (vs : List Value) : Prop := ∃ o n, h.get? a = some o ∧ o.cls = .type "list" ∧ (o.dict = none ∧ o.slots = #[]) ∧ o.data = .seq vs.toArray n
theorem OwnL.plain {h : Heap} {a : Addr} {vs : List Value} (x : OwnL h a vs) : h.PlainList a vs.toArray := by
  obtain ⟨⟨c, di, da, sl⟩, n, ho, hc, ⟨h1, h2⟩, hd⟩ := x
  simp only at hc h1 h2 hd
  subst hc h1 h2 hd
  exact ⟨n, ho⟩
theorem OwnL.of_plain {h : Heap} {a : Addr} {vs : List Value} (x : h.PlainList a vs.toArray) : OwnL h a vs := by
  obtain ⟨n, ho⟩ := x
  exact ⟨_, n, ho, rfl, ⟨rfl, rfl⟩, rfl⟩
theorem OwnL.isList {h : Heap} {a : Addr} {vs : List Value} (x : OwnL h a vs) : h.IsList a vs.toArray := let ⟨o, n, ho, hc, _, hd⟩ := x; ⟨o, ho, hc, n, hd⟩
theorem OwnL.at {h h' : Heap} {a : Addr} {vs : List Value} (x : OwnL h a vs) (k : ∀ o, h.get? a = some o → h'.get? a = some o) : OwnL h' a vs := let ⟨o, n, ho, r⟩ := x; ⟨o, n, k o ho, r⟩
noncomputable def BR (h : Heap) (av ac : List Addr) (ow : Option Addr) : B → Value → Prop
  | .v d, v => VR h (ow.toList ++ av) v d
  | .own xs, v => ∃ a vs, v = .ref a ∧ ow = some a ∧ OwnL h a vs ∧ VRs h (a :: av) vs xs
  | .ro xs, v => ∃ l vs, v = .ref l ∧ l ∉ ac ∧ ow ≠ some l ∧ h.IsList l vs.toArray ∧ VRs h (ow.toList ++ av) vs xs
theorem isList_at {h h' : Heap} {l : Addr} {its : Array Value} (x : h.IsList l its) (k : ∀ o, h.get? l = some o → h'.get? l = some o) : h'.IsList l its := let ⟨o, ho, hc, n, hd⟩ := x; ⟨o, k o ho, hc, n, hd⟩
theorem BR.keeps {h h' : Heap} {av ac : List Addr} {ow : Option Addr} {b : B} {v : Value} (x : BR h av ac ow b v) (k : Keeps h h') : BR h' av ac ow b v := by
  cases b with
  | v d => exact VR.keeps x k
  | own xs => obtain ⟨a, vs, rfl, e, l, r⟩ := x; exact ⟨a, vs, rfl, e, l.at fun o => k a o, r.keeps k⟩
  | ro xs => obtain ⟨a, vs, rfl, e, e', l, r⟩ := x; exact ⟨a, vs, rfl, e, e', isList_at l fun o => k a o, r.keeps k⟩
/-- an object that is no list is turned -/
theorem BR.upd {h h' : Heap} {av ac : List Addr} {ow : Option Addr} {b : B} {v : Value} {x : Addr} (y : BR h av ac ow b v) (k : ∀ b o, b ≠ x → h.get? b = some o → h'.get? b = some o)
    (f : ∀ o, h.get? x = some o → ∀ its n, o.data ≠ .seq its n) : BR h' av ac ow b v := by
  have f' : ∀ av, Off h x av := fun av o ho => .inl (f o ho)
  cases b with
  | v d => exact VR.upd y k (f' _)
  | own xs =>
    obtain ⟨a, vs, rfl, e, l, r⟩ := y
    refine ⟨a, vs, rfl, e, l.at fun o ho => k a o (fun q => ?_) ho, r.upd k (f' _)⟩
    subst q
    obtain ⟨o', n, ho', _, _, hd⟩ := l
    exact f _ ho' _ _ hd
  | ro xs =>
    obtain ⟨a, vs, rfl, e, e', l, r⟩ := y
    refine ⟨a, vs, rfl, e, e', isList_at l fun o ho => k a o (fun q => ?_) ho, r.upd k (f' _)⟩
    subst q
    obtain ⟨o', ho', _, n, hd⟩ := l
    exact f _ ho' _ _ hd
/-- what changes outside the frame's own control -/
theorem BR.updAc {h h' : Heap} {av ac : List Addr} {ow : Option Addr} {b : B} {v : Value} {x : Addr} (y : BR h av ac ow b v) (k : ∀ b o, b ≠ x → h.get? b = some o → h'.get? b = some o)
    (ho : ∀ a, ow = some a → a ≠ x) (hx : x ∈ av) (hc : x ∈ ac) : BR h' av ac ow b v := by
  cases b with
  | v d => exact VR.upd y k (off_av (List.mem_append_right _ hx))
  | own xs =>
    obtain ⟨a, vs, rfl, e, l, r⟩ := y
    exact ⟨a, vs, rfl, e, l.at fun o ho' => k a o (ho a e) ho', r.upd k (off_av (.tail _ hx))⟩
  | ro xs =>
    obtain ⟨a, vs, rfl, e, e', l, r⟩ := y
    exact ⟨a, vs, rfl, e, e', isList_at l fun o ho => k a o (fun q => e (q ▸ hc)) ho, r.upd k (off_av (List.mem_append_right _ hx))⟩
/-- one more address to avoid: a new one -/
theorem BR.addAv {h : Heap} {av ac : List Addr} {ow : Option Addr} {b : B} {v : Value} {x : Addr} (y : BR h av ac ow b v) (hx : h.get? x = none) : BR h (x :: av) (x :: ac) ow b v := by
  have go : ∀ {l : List Addr} {a : Addr}, a ∈ l ++ x :: av → a ∈ x :: (l ++ av) := fun {l a} q => by
    rcases List.mem_append.mp q with q | q
    · exact .tail _ (List.mem_append_left _ q)
    · rcases List.mem_cons.mp q with q | q
      · exact q ▸ .head _
      · exact .tail _ (List.mem_append_right _ q)
  cases b with
  | v d => exact (VR.avoid_new y hx).weak fun a q => go q
  | own xs =>
    obtain ⟨a, vs, rfl, e, l, r⟩ := y
    refine ⟨a, vs, rfl, e, l, ?_⟩
    have r' := r.avoid_new hx
    exact ⟨r'.1, r'.2.imp fun _ z => ⟨z.1, fun b hb hc => z.2 b hb (go (l := [a]) hc)⟩⟩
  | ro xs =>
    obtain ⟨a, vs, rfl, e, e', l, r⟩ := y
    refine ⟨a, vs, rfl, ?_, e', l, ?_⟩
    · intro q
      rcases List.mem_cons.mp q with q | q
      · obtain ⟨o, ho, _⟩ := l
        rw [q, hx] at ho; cases ho
      · exact e q
    · have r' := r.avoid_new hx
      exact ⟨r'.1, r'.2.imp fun _ z => ⟨z.1, fun b hb hc => z.2 b hb (go hc)⟩⟩
theorem BR.dropAv {h : Heap} {av ac : List Addr} {ow : Option Addr} {b : B} {v : Value} {x : Addr} (y : BR h (x :: av) (x :: ac) ow b v) : BR h av ac ow b v := by
  have go : ∀ {l : List Addr} {a : Addr}, a ∈ l ++ av → a ∈ l ++ x :: av := fun {l a} q => by
    rcases List.mem_append.mp q with q | q
    · exact List.mem_append_left _ q
    · exact List.mem_append_right _ (.tail _ q)
  cases b with
  | v d => exact VR.weak y fun a q => go q
  | own xs =>
    obtain ⟨a, vs, rfl, e, l, r⟩ := y
    exact ⟨a, vs, rfl, e, l, r.1, r.2.imp fun _ z => ⟨z.1, fun b hb hc => z.2 b hb (go (l := [a]) hc)⟩⟩
  | ro xs =>
    obtain ⟨a, vs, rfl, e, e', l, r⟩ := y
    exact ⟨a, vs, rfl, fun q => e (.tail _ q), e', l, r.1, r.2.imp fun _ z => ⟨z.1, fun b hb hc => z.2 b hb (go hc)⟩⟩
structure FR (w : World) (F : Fx) (fm : Fm) (ow : Option Addr) (s : Shared) : Prop where
  gb : GB w F.base
  keep : ∀ b o, F.base b = some o → s.heap.get? b = some o
  hk : F.env.scope.kind = .function
  hg : F.env.globals = mainGlobals
  hb : F.env.builtins = builtinsNs
  nodbg : F.env.scope.names.lookup (Str.ofString "__debug__") = none
  nocls : F.env.scope.names.lookup (Str.ofString "__classdict__") = none
  nsL : ∃ m, s.heap.Ns F.env.locals m ∧ ∀ x b, fm.lookup x = some b → F.env.kindOf x = some .local → ∃ v, m x = some v ∧ BR s.heap F.av F.ac ow b v
  cel : ∀ x b, fm.lookup x = some b → (F.env.kindOf x = some .cell ∨ F.env.kindOf x = some .free) → ∃ c v, F.env.cells.lookup x = some c ∧ s.heap.IsCell c (some v) ∧ BR s.heap F.av F.ac ow b v
  ocel : ∀ x, x ∈ F.oc → F.env.kindOf x = some .cell ∧ ∃ c u, F.env.cells.lookup x = some c ∧ s.heap.IsCell c u ∧ c ∈ F.wr
  celE : ∀ x c, F.env.cells.lookup x = some c → ∃ o, s.heap.get? c = some o
  inj : ∀ x, x ∈ F.oc → ∀ y c, F.env.cells.lookup x = some c → F.env.cells.lookup y = some c → y = x
  wrl : F.env.locals ∈ F.wr
  wrb : ∀ b, b ∈ F.wr → F.base b = none
  own : ∀ a, ow = some a → F.base a = none ∧ a ∉ F.av ∧ ∃ vs, OwnL s.heap a vs
  lives : Lives s.heap F.av
  wrs : ∀ b, b ∈ F.wr → ∃ o, s.heap.get? b = some o ∧ ∀ its n, o.data ≠ .seq its n
  acs : ∀ x, x ∈ F.ac → x ∈ F.av ∧ x ≠ F.env.locals ∧ x ∉ F.wr ∧ ∀ y c, F.env.cells.lookup y = some c → c ≠ x
section
variable {w : World} {F : Fx} {fm : Fm} {ow : Option Addr} {s s' : Shared}
theorem FR.gh (X : FR w F fm ow s) : GH w s.heap := X.gb _ X.keep
theorem FR.keeps (X : FR w F fm ow s) (k : Keeps s.heap s'.heap) : FR w F fm ow s' where
  gb := X.gb
  keep := fun b o e => k _ _ (X.keep b o e)
  hk := X.hk
  hg := X.hg
  hb := X.hb
  nodbg := X.nodbg
  nocls := X.nocls
  nsL := let ⟨m, a, b⟩ := X.nsL; ⟨m, a.keeps k, fun x c e q => let ⟨v, p, r⟩ := b x c e q; ⟨v, p, r.keeps k⟩⟩
  cel := fun x b e q => let ⟨c, v, p, r, t⟩ := X.cel x b e q; ⟨c, v, p, r.keeps k, t.keeps k⟩
  ocel := fun x e => let ⟨a, c, u, p, r, t⟩ := X.ocel x e; ⟨a, c, u, p, r.keeps k, t⟩
  celE := fun x c e => (X.celE x c e).imp fun _ h => k _ _ h
  inj := X.inj
  wrl := X.wrl
  wrb := X.wrb
  own := fun a e => let ⟨p, q, vs, l⟩ := X.own a e; ⟨p, q, vs, l.at fun o => k a o⟩
  lives := X.lives.keeps k
  wrs := fun b hb => let ⟨o, ho, r⟩ := X.wrs b hb; ⟨o, k _ _ ho, r⟩
  acs := X.acs
theorem FR.livesAll (X : FR w F fm ow s) : Lives s.heap (ow.toList ++ F.av) := fun a ha => by
  rcases List.mem_append.mp ha with q | q
  · cases e : ow with
    | none => rw [e] at q; cases q
    | some b =>
      rw [e] at q
      obtain rfl : a = b := by simpa using q
      obtain ⟨_, _, _, o, n, ho, _⟩ := X.own a e
      exact ⟨o, ho⟩
  · exact X.lives a q
theorem FR.grow (X : FR w F fm ow s) (g : Grow s s') : FR w F fm ow s' := X.keeps g.heap
/-- fewer names -/
theorem FR.sub {fm' : Fm} (X : FR w F fm ow s) (h : ∀ x b, fm'.lookup x = some b → fm.lookup x = some b) : FR w F fm' ow s :=
  { X with
    nsL := let ⟨m, a, b⟩ := X.nsL; ⟨m, a, fun x c e q => b x c (h x c e) q⟩
    cel := fun x b e q => X.cel x b (h x b e) q }
/-- a base that says less -/
theorem FR.less {base : Base} (X : FR w F fm ow s) (h : ∀ b o, base b = some o → F.base b = some o) (g : GB w base) : FR w { F with base := base } fm ow s :=
  { X with
    gb := g
    keep := fun b o e => X.keep b o (h b o e)
    wrb := fun b hb => by
      have := X.wrb b hb
      cases e : base b with
      | none => exact e
      | some o => rw [h b o e] at this; cases this
    own := fun a e => by
      obtain ⟨p, q, r⟩ := X.own a e
      refine ⟨?_, q, r⟩
      show base a = none
      cases e' : base a with
      | none => rfl
      | some o => rw [h a o e'] at p; cases p }
/-- what the frame does not govern changes -/
theorem FR.updAc {x : Addr} (X : FR w F fm ow s) (hx : x ∈ F.ac) (hb : F.base x = none) (k : ∀ b o, b ≠ x → s.heap.get? b = some o → s'.heap.get? b = some o) (he : ∃ o, s'.heap.get? x = some o) : FR w F fm ow s' := by
  obtain ⟨h1, h2, h3, h4⟩ := X.acs x hx
  have ho : ∀ a, ow = some a → a ≠ x := fun a e q => (X.own a e).2.1 (q ▸ h1)
  have up : ∀ {b v}, BR s.heap F.av F.ac ow b v → BR s'.heap F.av F.ac ow b v := fun y => y.updAc k ho h1 hx
  exact { X with
    keep := fun c o e => k c o (fun q => by rw [q, hb] at e; cases e) (X.keep c o e)
    nsL := let ⟨m, hm, hr⟩ := X.nsL; ⟨m, hm.at' fun o e => k _ o (Ne.symm h2) e, fun y c e q => let ⟨u, p, r⟩ := hr y c e q; ⟨u, p, up r⟩⟩
    cel := fun y c e q => let ⟨a, u, p, r, t⟩ := X.cel y c e q; ⟨a, u, p, let ⟨o, ho', hd⟩ := r; ⟨o, k _ _ (h4 _ _ p) ho', hd⟩, up t⟩
    ocel := fun y e => let ⟨p, c, u, q, r, t⟩ := X.ocel y e; ⟨p, c, u, q, let ⟨o, ho', hd⟩ := r; ⟨o, k _ _ (h4 _ _ q) ho', hd⟩, t⟩
    own := fun a e => let ⟨p, q, vs, l⟩ := X.own a e; ⟨p, q, vs, l.at fun o => k a o (ho a e)⟩
    lives := X.lives.upd k he
    celE := fun y c e => (X.celE y c e).imp fun _ h => k _ _ (h4 _ _ e) h
    wrs := fun b hb => let ⟨o, ho', r⟩ := X.wrs b hb; ⟨o, k _ _ (fun q => h3 (q ▸ hb)) ho', r⟩ }
noncomputable def Fx.add (F : Fx) (x : Addr) : Fx := { F with av := x :: F.av, ac := x :: F.ac }
theorem FR.addAv {x : Addr} (X : FR w F fm ow s) (hx : s.heap.get? x = none) (k : Keeps s.heap s'.heap) (he : ∃ o, s'.heap.get? x = some o) : FR w (F.add x) fm ow s' := by
  have Y := X.keeps k
  have up : ∀ {b v}, BR s.heap F.av F.ac ow b v → BR s'.heap (F.add x).av (F.add x).ac ow b v := fun y => (y.addAv hx).keeps k
  have no : ∀ {a : Addr} {o : Obj}, s.heap.get? a = some o → a ≠ x := fun e q => by rw [q, hx] at e; cases e
  obtain ⟨m, hm, hr⟩ := X.nsL
  exact { Y with
    nsL := ⟨m, hm.keeps k, fun y c e q => let ⟨u, p, r⟩ := hr y c e q; ⟨u, p, up r⟩⟩
    cel := fun y c e q => let ⟨a, u, p, r, t⟩ := X.cel y c e q; ⟨a, u, p, r.keeps k, up t⟩
    own := fun a e => by
      obtain ⟨p, q, vs, l⟩ := Y.own a e
      obtain ⟨_, _, vs', o, n, ho, _⟩ := X.own a e
      exact ⟨p, fun z => (List.mem_cons.mp z).elim (no ho) q, vs, l⟩
    lives := fun a ha => (List.mem_cons.mp ha).elim (fun e => e ▸ he) (Y.lives a)
    acs := fun y hy => by
      rcases List.mem_cons.mp hy with rfl | hy
      · refine ⟨.head _, ?_, fun q => ?_, fun z c hz q => ?_⟩
        · obtain ⟨o, _, _, ho, _⟩ := hm
          exact (no ho).symm
        · obtain ⟨o, ho, _⟩ := X.wrs _ q
          exact no ho rfl
        · obtain ⟨o, ho⟩ := X.celE z c hz
          exact no ho q
      · obtain ⟨a, b⟩ := X.acs y hy
        exact ⟨.tail _ a, b⟩ }
theorem FR.dropAv {x : Addr} (X : FR w (F.add x) fm ow s) (Y : ∀ y, y ∈ F.ac → y ∈ F.av) : FR w F fm ow s :=
  { X with
    nsL := let ⟨m, hm, hr⟩ := X.nsL; ⟨m, hm, fun y c e q => let ⟨u, p, r⟩ := hr y c e q; ⟨u, p, r.dropAv⟩⟩
    cel := fun y c e q => let ⟨a, u, p, r, t⟩ := X.cel y c e q; ⟨a, u, p, r, t.dropAv⟩
    own := fun a e => let ⟨p, q, vs, l⟩ := X.own a e; ⟨p, fun z => q (.tail _ z), vs, l⟩
    lives := fun a ha => X.lives a (.tail _ ha)
    acs := fun y hy => let ⟨_, b⟩ := X.acs y (.tail _ hy); ⟨Y y hy, b⟩ }
theorem FR.updDrop {x : Addr} (X : FR w (F.add x) fm ow s) (hb : F.base x = none) (Y : ∀ y, y ∈ F.ac → y ∈ F.av) (hl : Lives s'.heap F.av) (k : ∀ b o, b ≠ x → s.heap.get? b = some o → s'.heap.get? b = some o) : FR w F fm ow s' := by
  obtain ⟨h1, h2, h3, h4⟩ := X.acs x (.head _)
  have ho : ∀ a, ow = some a → a ≠ x := fun a e q => (X.own a e).2.1 (q ▸ h1)
  have up : ∀ {b v}, BR s.heap (F.add x).av (F.add x).ac ow b v → BR s'.heap F.av F.ac ow b v := fun y => (y.updAc k ho h1 (.head _)).dropAv
  exact { X with
    keep := fun c o e => k c o (fun q => by rw [q, hb] at e; cases e) (X.keep c o e)
    nsL := let ⟨m, hm, hr⟩ := X.nsL; ⟨m, hm.at' fun o e => k _ o (Ne.symm h2) e, fun y c e q => let ⟨u, p, r⟩ := hr y c e q; ⟨u, p, up r⟩⟩
    cel := fun y c e q => let ⟨a, u, p, r, t⟩ := X.cel y c e q; ⟨a, u, p, let ⟨o, ho', hd⟩ := r; ⟨o, k _ _ (h4 _ _ p) ho', hd⟩, up t⟩
    ocel := fun y e => let ⟨p, c, u, q, r, t⟩ := X.ocel y e; ⟨p, c, u, q, let ⟨o, ho', hd⟩ := r; ⟨o, k _ _ (h4 _ _ q) ho', hd⟩, t⟩
    own := fun a e => let ⟨p, q, vs, l⟩ := X.own a e; ⟨p, fun z => q (.tail _ z), vs, l.at fun o => k a o (ho a e)⟩
    lives := hl
    celE := fun y c e => (X.celE y c e).imp fun _ h => k _ _ (h4 _ _ e) h
    wrs := fun b hb => let ⟨o, ho', r⟩ := X.wrs b hb; ⟨o, k _ _ (fun q => h3 (q ▸ hb)) ho', r⟩
    acs := fun y hy => let ⟨_, b⟩ := X.acs y (.tail _ hy); ⟨Y y hy, b⟩ }
theorem isVar_iff {sc : Scope} {x : Str} (h : isVar sc x = true) : sc.names.lookup x = some .local ∨ sc.names.lookup x = some .cell ∨ sc.names.lookup x = some .free := by
  unfold isVar at h
  split at h <;> simp_all
theorem isGlob_iff {sc : Scope} {x : Str} (h : isGlob sc x = true) : sc.names.lookup x = some .globalImplicit := by
  unfold isGlob at h
  split at h <;> simp_all
theorem lookup_setB (x y : Str) (b : B) : ∀ fm : Fm, (setB x b fm).lookup y = if y = x then some b else fm.lookup y
  | [] => by
    by_cases h : y = x
    · subst h; simp [setB, List.lookup]
    · have : (y == x) = false := by simpa using h
      simp [setB, List.lookup, this, h]
  | (z, c) :: r => by
    unfold setB
    by_cases hz : (x == z) = true
    · rw [if_pos hz]
      have hz' : x = z := by simpa using hz
      subst hz'
      by_cases h : y = x
      · subst h; simp
      · have : (y == x) = false := by simpa using h
        simp [List.lookup, this, h]
    · rw [if_neg hz]
      have hz' : x ≠ z := by simpa using hz
      rw [List.lookup_cons, List.lookup_cons, lookup_setB x y b r]
      by_cases h : y = x
      · subst h
        have : (y == z) = false := by simpa using hz'
        simp [this]
      · simp [h]
variable {M : Model} {A : Around} {E : Value → Shared → Prop}
/-- a name of the frame is read -/
theorem ldB {x : Str} {pos : Pos} {b : B} {Q : Value → Shared → Prop} (X : FR w F fm ow s) (hv : isVar F.env.scope x = true) (hb : fm.lookup x = some b)
    (h : ∀ v, BR s.heap F.av F.ac ow b v → Q v s) : wpAny M A (eval (.Name x pos) F.env) Q E s := by
  have hd : (x == ("__debug__" : Str)) = false := by
    have hn := X.nodbg
    rcases isVar_iff hv with q | q | q <;>
    · refine beq_eq_false_iff_ne.mpr fun e => ?_
      rw [e] at q
      exact absurd (hn.symm.trans q) (by simp)
  refine wpAny_Name ?_ hd
  rcases isVar_iff hv with q | q | q
  · obtain ⟨m, hm, hr⟩ := X.nsL
    obtain ⟨v, e, r⟩ := hr x b hb q
    exact wpAny_loadName_local X.hk q hm e (h v r)
  · obtain ⟨c, v, hc, hi, r⟩ := X.cel x b hb (.inl q)
    exact wpAny_loadName_cell X.hk q hc hi (h v r)
  · obtain ⟨c, v, hc, hi, r⟩ := X.cel x b hb (.inr q)
    refine wpAny_loadName_free X.hk q hc hi (h v r) ?_
    refine beq_eq_false_iff_ne.mpr fun e => ?_
    rw [e] at q
    exact absurd (X.nocls.symm.trans q) (by simp)
theorem sameBut_keeps {a : Addr} {h h' : Heap} (hs : Heap.SameBut a h h') : ∀ b o, b ≠ a → h.get? b = some o → h'.get? b = some o := fun b o hb e => (hs.2 b hb).trans e
theorem ns_notSeq {h : Heap} {x : Addr} {m : Str → Option Value} (hn : h.Ns x m) : ∀ o, h.get? x = some o → ∀ its n, o.data ≠ .seq its n := fun o ho its n e => by
  obtain ⟨o', es, ep, ho', hd, _⟩ := hn
  rw [ho] at ho'; cases ho'
  rw [hd] at e; cases e
theorem cell_notSeq {h : Heap} {x : Addr} {u : Option Value} (hn : h.IsCell x u) : ∀ o, h.get? x = some o → ∀ its n, o.data ≠ .seq its n := fun o ho its n e => by
  obtain ⟨o', ho', hd⟩ := hn
  rw [ho] at ho'; cases ho'
  rw [hd] at e; cases e
theorem ns_ne_cell {h : Heap} {x c : Addr} {m : Str → Option Value} {u : Option Value} (hn : h.Ns x m) (hc : h.IsCell c u) : c ≠ x := fun e => by
  subst e
  obtain ⟨o, es, ep, ho, hd, _⟩ := hn
  obtain ⟨o', ho', hd'⟩ := hc
  rw [ho] at ho'; cases ho'
  rw [hd] at hd'; cases hd'
theorem ns_ne_own {h : Heap} {x a : Addr} {m : Str → Option Value} {vs : List Value} (hn : h.Ns x m) (hc : OwnL h a vs) : a ≠ x := fun e => by
  subst e
  obtain ⟨o, n, ho, _, _, hd⟩ := hc
  exact ns_notSeq hn o ho _ _ hd
theorem cell_ne_own {h : Heap} {x a : Addr} {u : Option Value} {vs : List Value} (hn : h.IsCell x u) (hc : OwnL h a vs) : a ≠ x := fun e => by
  subst e
  obtain ⟨o, n, ho, _, _, hd⟩ := hc
  exact cell_notSeq hn o ho _ _ hd
/-- a name is stored: a local, or a cell of the frame's own -/
theorem stBz {x : Str} {b : B} {v : Value} {Q : Unit → Shared → Prop} (X : FR w F fm ow s) (hx : F.env.kindOf x = some .local ∨ x ∈ F.oc) (hb : BR s.heap F.av F.ac ow b v)
    (h : ∀ h' t, h'.objs.size = s.heap.objs.size → FR w F (setB x b fm) ow { s with heap := h', toks := t } → Q () { s with heap := h', toks := t }) : wpAny M A (storeName F.env x v) Q E s := by
  by_cases hl : F.env.kindOf x = some .local
  · obtain ⟨m, hm, hr⟩ := X.nsL
    refine wpAny_storeName_local hl hm (fun h' hn' hs' => h h' _ hs'.1 ?_) (by rw [X.hk]; rfl)
    have k := sameBut_keeps hs'
    have up : ∀ {b v}, BR s.heap F.av F.ac ow b v → BR h' F.av F.ac ow b v := fun y => y.upd k (ns_notSeq hm)
    exact { X with
      keep := fun c o e => k c o (fun q => by rw [q, X.wrb _ X.wrl] at e; cases e) (X.keep c o e)
      nsL := ⟨_, hn', fun y c e q => by
        rw [lookup_setB] at e
        by_cases hy : y = x
        · rw [if_pos hy] at e; cases e
          exact ⟨v, by simp [hy], up hb⟩
        · rw [if_neg hy] at e
          obtain ⟨u, p, r⟩ := hr y c e q
          exact ⟨u, by simp [hy, p], up r⟩⟩
      cel := fun y c e q => by
        rw [lookup_setB] at e
        by_cases hy : y = x
        · subst hy
          rcases q with q | q <;> (rw [hl] at q; cases q)
        · rw [if_neg hy] at e
          obtain ⟨a, u, p, r, t⟩ := X.cel y c e q
          exact ⟨a, u, p, r.sameBut hs' (ns_ne_cell hm r), up t⟩
      ocel := fun y e => let ⟨p, c, u, q, r, t⟩ := X.ocel y e; ⟨p, c, u, q, r.sameBut hs' (ns_ne_cell hm r), t⟩
      own := fun a e => let ⟨p, q, vs, l⟩ := X.own a e; ⟨p, q, vs, l.at fun o => k a o (ns_ne_own hm l)⟩
      lives := X.lives.upd k (let ⟨o, _, _, ho, _⟩ := hn'; ⟨o, ho⟩)
      celE := fun x c e => by
        by_cases q : c = F.env.locals
        · obtain ⟨o, _, _, ho, _⟩ := hn'; exact ⟨o, q ▸ ho⟩
        · exact (X.celE x c e).imp fun _ h => k _ _ q h
      wrs := fun b hb => by
        by_cases q : b = F.env.locals
        · obtain ⟨o, es, ep, ho, hd, _⟩ := hn'
          exact ⟨o, q ▸ ho, fun its n e => by rw [hd] at e; cases e⟩
        · obtain ⟨o, ho, r⟩ := X.wrs b hb
          exact ⟨o, k _ _ q ho, r⟩ }
  · have hx := hx.resolve_left hl
    obtain ⟨hc, c, u, hlk, hi, hw⟩ := X.ocel x hx
    refine wpAny_storeName_cell X.hk hc hlk hi fun h' hi' hs' => h h' _ hs'.1 ?_
    have k := sameBut_keeps hs'
    have up : ∀ {b v}, BR s.heap F.av F.ac ow b v → BR h' F.av F.ac ow b v := fun y => y.upd k (cell_notSeq hi)
    obtain ⟨m, hm, hr⟩ := X.nsL
    exact { X with
      keep := fun d o e => k d o (fun q => by rw [q, X.wrb _ hw] at e; cases e) (X.keep d o e)
      nsL := ⟨m, hm.sameBut hs' (Ne.symm (ns_ne_cell hm hi)), fun y d e q => by
        rw [lookup_setB] at e
        by_cases hy : y = x
        · subst hy; exact absurd q hl
        · rw [if_neg hy] at e
          obtain ⟨u', p, r⟩ := hr y d e q
          exact ⟨u', p, up r⟩⟩
      cel := fun y d e q => by
        rw [lookup_setB] at e
        by_cases hy : y = x
        · rw [if_pos hy] at e; cases e
          subst hy
          exact ⟨c, v, hlk, hi', up hb⟩
        · rw [if_neg hy] at e
          obtain ⟨a, u', p, r, t⟩ := X.cel y d e q
          exact ⟨a, u', p, r.sameBut hs' (fun z => hy (X.inj x hx y c hlk (z ▸ p))), up t⟩
      ocel := fun y e => by
        obtain ⟨p, d, u', q, r, t⟩ := X.ocel y e
        by_cases hy : y = x
        · subst hy
          exact ⟨p, c, _, hlk, hi', hw⟩
        · exact ⟨p, d, u', q, r.sameBut hs' (fun z => hy (X.inj x hx y c hlk (z ▸ q))), t⟩
      own := fun a e => let ⟨p, q, vs, l⟩ := X.own a e; ⟨p, q, vs, l.at fun o => k a o (cell_ne_own hi l)⟩
      lives := X.lives.upd k (let ⟨o, ho, _⟩ := hi'; ⟨o, ho⟩)
      celE := fun x d e => by
        by_cases q : d = c
        · obtain ⟨o, ho, _⟩ := hi'; exact ⟨o, q ▸ ho⟩
        · exact (X.celE x d e).imp fun _ h => k _ _ q h
      wrs := fun b hb => by
        by_cases q : b = c
        · obtain ⟨o, ho, hd⟩ := hi'
          exact ⟨o, q ▸ ho, fun its n e => by rw [hd] at e; cases e⟩
        · obtain ⟨o, ho, r⟩ := X.wrs b hb
          exact ⟨o, k _ _ q ho, r⟩ }
theorem stB {x : Str} {b : B} {v : Value} {Q : Unit → Shared → Prop} (X : FR w F fm ow s) (hx : F.env.kindOf x = some .local ∨ x ∈ F.oc) (hb : BR s.heap F.av F.ac ow b v)
    (h : ∀ h' t, FR w F (setB x b fm) ow { s with heap := h', toks := t } → Q () { s with heap := h', toks := t }) : wpAny M A (storeName F.env x v) Q E s := stBz X hx hb fun h' t _ X' => h h' t X'
end
end Mine
namespace Mine
noncomputable abbrev MM (w : World) : Model := model PySem.Challenge.pw_wf0083_01 w
section
variable {w : World} {A : Around} {E : Value → Shared → Prop} {s : Shared} {av : List Addr} {Q : Value → Shared → Prop}
theorem small_le {n : Nat} (h : small n = true) : n ≤ 1000 := Nat.le_of_ble_eq_true h
theorem bits_small {a : Int} (h : a.natAbs ≤ 1000) : Builtin.Int.intBits a ≤ 64 := PySem.intBits_le_iff.mpr (by omega)
theorem bopOk {op : Operator} {a b d : D} {x y : Value} (LV : Lives s.heap av) (h : bop op a b = some d) (ha : VR s.heap av x a) (hb : VR s.heap av y b)
    (k : ∀ v s', VR s'.heap av v d → Grow s s' → Q v s') : wpAny (MM w) A (binaryOp op x y) Q E s := by
  have kt : ∀ v t, VR s.heap av v d → Q v { s with toks := t } := fun v t r => k v _ r (Grow.tok s t)
  unfold bop at h
  split at h
  · obtain ⟨t, rfl⟩ := ha.int_inv; obtain ⟨u, rfl⟩ := hb.int_inv
    cases h
    exact add_int (kt _ _ (VR.int _ _))
  · obtain ⟨t, rfl⟩ := ha.str_inv; obtain ⟨u, rfl⟩ := hb.str_inv
    split at h
    · next hs =>
      cases h
      exact PyProof.Rows.add_str (fun t' tk => kt _ _ (VR.str _ _)) (Nat.le_trans (small_le hs) (by decide))
    · cases h
  · obtain ⟨l, vs, rfl, n1, hl, r1⟩ := ha.list_inv
    obtain ⟨l', ws, rfl, n2, hl', r2⟩ := hb.list_inv
    split at h
    · next hs =>
      cases h
      have hsz : vs.length + ws.length ≤ 1000 := by rw [r1.length, r2.length]; exact small_le hs
      obtain ⟨⟨cls, dd, data, sl⟩, ho, hc, n, hd⟩ := id hl
      obtain ⟨⟨cls2, dd2, data2, sl2⟩, ho2, hc2, n2, hd2⟩ := id hl'
      simp only at hc hd hc2 hd2
      subst hc hd hc2 hd2
      have e : vs.toArray ++ ws.toArray = (vs ++ ws).toArray := by simp
      refine concat_meets ⟨_, ho, rfl⟩ ⟨_, ho2, rfl⟩ noFill_list_add seq_list_add PySem.F.slot_list_add PySem.F.entry_list_add (PySem.F.args_list_add_2 _ _) (list_addW l l' vs.toArray ws.toArray n n2 dd dd2 sl sl2 (by simpa using Nat.le_trans hsz (by decide))) ⟨ho, ho2, ?_⟩
      rw [e]
      exact k _ _ (VR.list_new (r1.append r2) LV _ rfl rfl) ⟨Keeps.push _ _, GX.refl _, rfl⟩
    · cases h
  · obtain ⟨t, rfl⟩ := ha.int_inv; obtain ⟨u, rfl⟩ := hb.int_inv
    cases h
    exact PyProof.Rows.sub_int (kt _ _ (VR.int _ _))
  · obtain ⟨t, rfl⟩ := ha.int_inv; obtain ⟨u, rfl⟩ := hb.int_inv
    split at h
    · next hs =>
      cases h
      exact PyProof.Rows.mul_int (kt _ _ (VR.int _ _)) (IntMulOk.of_left (bits_small (small_le (by simp_all))))
    · cases h
  · obtain ⟨t, rfl⟩ := ha.int_inv; obtain ⟨u, rfl⟩ := hb.int_inv
    split at h
    · next hs =>
      cases h
      have hs' := hs
      simp only [Bool.and_eq_true, decide_eq_true_eq] at hs'
      exact PyProof.Rows.floordiv_int (by omega) (kt _ _ (VR.int _ _)) (.inl (PyProof.noPylong_small (by omega)))
    · cases h
  · obtain ⟨t, rfl⟩ := ha.int_inv; obtain ⟨u, rfl⟩ := hb.int_inv
    split at h
    · next hs =>
      cases h
      have hs' := hs
      simp only [Bool.and_eq_true, decide_eq_true_eq] at hs'
      exact PyProof.Rows.mod_int' (by omega) (kt _ _ (VR.int _ _))
    · cases h
  · obtain ⟨t, rfl⟩ := ha.int_inv; obtain ⟨u, rfl⟩ := hb.int_inv
    split at h
    · next hs =>
      cases h
      have hs' := hs
      simp only [Bool.and_eq_true, decide_eq_true_eq, beq_iff_eq] at hs'
      obtain ⟨⟨rfl, h0⟩, h1⟩ := hs'
      refine PyProof.Rows.pow_int (by omega) ?_ (kt _ _ (VR.int _ _))
      have : (Builtin.Int.intBits 2 : Int) = 2 := by decide
      rw [this]; omega
    · cases h
  · obtain ⟨t, rfl⟩ := ha.int_inv; obtain ⟨u, rfl⟩ := hb.int_inv
    split at h
    · next hs =>
      cases h
      have hs' := hs
      simp only [Bool.and_eq_true, decide_eq_true_eq, beq_iff_eq] at hs'
      obtain ⟨⟨rfl, h0⟩, h1⟩ := hs'
      exact PyProof.Rows.lshift_int_small (by omega) (by omega) (by decide) (kt _ _ (VR.int _ _))
    · cases h
  · obtain ⟨t, rfl⟩ := ha.int_inv; obtain ⟨u, rfl⟩ := hb.int_inv
    cases h
    exact PyProof.Rows.and_int (kt _ _ (VR.int _ _))
  · obtain ⟨t, rfl⟩ := ha.int_inv; obtain ⟨u, rfl⟩ := hb.int_inv
    cases h
    exact PyProof.Rows.xor_int (kt _ _ (VR.int _ _))
  · cases h
theorem shallow_iff {d : D} (h : shallow d = true) : d.canLay0 = true ∧ d.depth ≤ 50 := by
  unfold shallow at h
  simp only [Bool.and_eq_true] at h
  exact ⟨h.1, Nat.le_of_ble_eq_true h.2⟩
theorem Cx.units100 {k : Nat} (x : Cx k A) : A.units + 100 < cLine := by have := x.3; omega
theorem cmpOk {k : Nat} (C : Cx k A) {op : CmpOp} {a b : D} {x y : Value} {c : Bool} (h : cmpD op a b = some c) (ha : VR s.heap av x a) (hb : ∃ bv, VR s.heap bv y b)
    (q : Q (.bool c) s) : wpAny (MM w) A (compareOp op x y) Q E s := by
  have u := C.units100
  obtain ⟨bv, hb⟩ := hb
  unfold cmpD at h
  split at h
  · obtain ⟨t, rfl⟩ := ha.int_inv; obtain ⟨u, rfl⟩ := hb.int_inv
    cases h; exact PyProof.Rows.lt_int q
  · obtain ⟨t, rfl⟩ := ha.int_inv; obtain ⟨u, rfl⟩ := hb.int_inv
    cases h; exact PyProof.Rows.le_int q
  · obtain ⟨t, rfl⟩ := ha.int_inv; obtain ⟨u, rfl⟩ := hb.int_inv
    cases h; exact PyProof.Rows.gt_int q
  · obtain ⟨t, rfl⟩ := ha.int_inv; obtain ⟨u, rfl⟩ := hb.int_inv
    cases h; exact PyProof.Rows.ge_int q
  · obtain ⟨t, rfl⟩ := ha.str_inv; obtain ⟨u, rfl⟩ := hb.str_inv
    cases h; exact PyProof.Rows.lt_str q
  · split at h
    · next hs =>
      cases h
      simp only [Bool.and_eq_true] at hs
      obtain ⟨c1, d1⟩ := shallow_iff hs.1
      obtain ⟨c2, d2⟩ := shallow_iff hs.2
      obtain ⟨_, as, r1, _⟩ := ha; obtain ⟨_, bs, r2, _⟩ := hb
      exact SeqAt.compareEq_reads r1 r2 c1 c2 (by omega) q
    · cases h
  · split at h
    · next hs =>
      cases h
      simp only [Bool.and_eq_true] at hs
      obtain ⟨c1, d1⟩ := shallow_iff hs.1
      obtain ⟨c2, d2⟩ := shallow_iff hs.2
      obtain ⟨_, as, r1, _⟩ := ha; obtain ⟨_, bs, r2, _⟩ := hb
      exact SeqAt.compareNe_reads r1 r2 c1 c2 (by omega) q
    · cases h
  · obtain ⟨t, rfl⟩ := ha.str_inv; obtain ⟨u, rfl⟩ := hb.str_inv
    cases h; exact PyProof.Rows.in_str q
  · obtain ⟨t, rfl⟩ := ha.str_inv; obtain ⟨u, rfl⟩ := hb.str_inv
    cases h; exact PyProof.Rows.notIn_str q
  · split at h
    · next hs =>
      cases h
      simp only [Bool.and_eq_true] at hs
      obtain ⟨c1, d1⟩ := shallow_iff hs.1
      obtain ⟨c2, d2⟩ := shallow_iff hs.2
      obtain ⟨_, as, r1, _⟩ := ha; obtain ⟨_, bs, r2, _⟩ := hb
      exact SeqAt.in_list_reads r2 r1 (by simpa [PyData.canLay0] using c2) c1 (by omega) q
    · cases h
  · cases h
end
end Mine
namespace Mine
noncomputable def fnAt (f : Str) : Addr :=
  if f == Str.ofString "bisect_right" then 23
  else if f == Str.ofString "bisect_left" then 32
  else if f == Str.ofString "pretty_flags" then 40
  else if f == Str.ofString "_strip_quoted_realnames" then 54
  else if f == Str.ofString "in_table_b1" then 72
  else if f == Str.ofString "map_table_b3" then 118
  else if f == Str.ofString "_law_cascade" then 125
  else if f == Str.ofString "_law_left" then 130
  else if f == Str.ofString "_law_laid" then 137
  else 142
noncomputable def PE (w : World) (F : Fx) (fm : Fm) (k : Nat) (e : Expr) (d : D) : Prop := ∀ {A : Around} {ow : Option Addr} {s : Shared} {Q : Value → Shared → Prop} {E : Value → Shared → Prop}, Cx k A → FR w F fm ow s →
  (∀ v s', VR s'.heap (ow.toList ++ F.av) v d → Grow s s' → Q v s') → wpAny (MM w) A (eval e F.env) Q E s
noncomputable def PT (w : World) (F : Fx) (fm : Fm) (k : Nat) (e : Expr) (b : Bool) : Prop := ∀ {A : Around} {ow : Option Addr} {s : Shared} {Q : Bool → Shared → Prop} {E : Value → Shared → Prop}, Cx k A → FR w F fm ow s →
  (∀ s', Grow s s' → Q b s') → wpAny (MM w) A (PySem.isTrue e F.env (eval e F.env)) Q E s
structure FP (s s' : Shared) : Prop where
  gens : GX s.gens s'.gens
  os : s'.os = s.os
theorem FP.refl (s : Shared) : FP s s := ⟨GX.refl _, rfl⟩
theorem FP.trans {a b c : Shared} (x : FP a b) (y : FP b c) : FP a c := ⟨x.gens.trans y.gens, y.os.trans x.os⟩
theorem FP.of {s s' : Shared} (g : Grow s s') : FP s s' := ⟨g.gens, g.os⟩
noncomputable def FlR (h : Heap) (av : List Addr) : Fl → Flow → Prop
  | .next, .next => True
  | .brk, .brk => True
  | .cont, .cont => True
  | .ret d, .ret v => VR h av v d
  | _, _ => False
noncomputable def PS (w : World) (F : Fx) (fm : Fm) (k : Nat) (st : Stmt) (fm' : Fm) (fl : Fl) : Prop := ∀ {A : Around} {ow : Option Addr} {s : Shared} {Q : Flow → Shared → Prop} {E : Value → Shared → Prop}, Cx k A → FR w F fm ow s →
  (∀ f ow' s', FlR s'.heap F.av fl f → FR w F fm' ow' s' → FP s s' → Q f s') → wpAny (MM w) A (exec st F.env) Q E s
/-- the cells of the frame's scope are its own -/
noncomputable def OcAll (F : Fx) : Prop := ∀ x, F.env.kindOf x = some .cell → x ∈ F.oc
structure Sound (w : World) (k : Nat) (r : Ev) : Prop where
  E : ∀ {F fm e d}, r.E F.env.scope fm e = some d → PE w F fm k e d
  T : ∀ {F fm e b}, r.T F.env.scope fm e = some b → PT w F fm k e b
  S : ∀ {F fm st fm' fl}, r.S F.env.scope fm st = some (fm', fl) → OcAll F → PS w F fm k st fm' fl
  C : ∀ {f ds d}, r.C f ds = some d → ∀ {A : Around} {s : Shared} {av : List Addr} {vals : List Value} {Q : Value → Shared → Prop} {E : Value → Shared → Prop}, Cx k A → GH w s.heap → Lives s.heap av → VRs s.heap av vals ds →
    (∀ v s', VR s'.heap av v d → Grow s s' → Q v s') → wpAny (MM w) A (call (.ref (fnAt f)) vals) Q E s
end Mine
namespace Mine
section
variable {w : World} {k : Nat} {r : Ev} {F : Fx} {fm : Fm}
theorem starEach_cons {e : Expr} {rest : List Expr} {env : Env} (h : plain e = true) : starEach (e :: rest) env = (false, eval e env) :: starEach rest env := by
  cases e <;> first | rfl | (exact Bool.noConfusion h)
theorem eachOk (S : Sound w k r) : ∀ {es : List Expr} {ds : List D}, eachE r F.env.scope fm es = some ds → ∀ {pos : Pos} {A : Around} {ow : Option Addr} {s : Shared} {Q : List Value → Shared → Prop} {E : Value → Shared → Prop}, Cx k A → FR w F fm ow s →
    (∀ vs s', VRs s'.heap (ow.toList ++ F.av) vs ds → Grow s s' → Q vs s') → wpAny (MM w) A (spliced (backTo pos (starEach es F.env))) Q E s
  | [], ds, h => by
    cases h
    intro C X q
    exact wpAny_items_nil (q _ _ VRs.nil (Grow.refl _))
  | e :: rest, ds, h => by
    unfold eachE at h
    split at h
    next hp =>
      split at h
      next d hd =>
        split at h
        next ds' hds =>
          cases h
          intro C X q
          refine wpAny_items_cons ?_ (starEach_cons hp)
          refine S.E hd C X fun v s₁ rv g₁ => ?_
          refine eachOk S hds C (X.grow g₁) fun vs s₂ rvs g₂ => ?_
          exact q _ _ (VRs.cons (rv.keeps g₂.heap) rvs) (g₁.trans g₂)
        · cases h
      · cases h
    · cases h
theorem VR.bare {h : Heap} {av : List Addr} {v : Value} {d : D} (x : VR h av v d) : VR h [] v d := x.weak fun _ q => nomatch q
theorem VRs.weak {h : Heap} {av av' : List Addr} {vs : List Value} {ds : List D} (x : VRs h av vs ds) (s : ∀ a ∈ av', a ∈ av) : VRs h av' vs ds := ⟨x.1, x.2.imp fun _ y => ⟨y.1, fun a ha hb => y.2 a ha (s a hb)⟩⟩
theorem BR.bare {h : Heap} {av ac : List Addr} {ow : Option Addr} {v : Value} {b : B} {d : D} (e : (match b with | .v d => d | .own xs => .list xs | .ro xs => .list xs) = d) (x : BR h av ac ow b v) : VR h [] v d := by
  subst e
  cases b with
  | v d => exact VR.bare x
  | own xs => obtain ⟨a, vs, rfl, _, l, r⟩ := x; exact VR.list_of l.isList (fun q => nomatch q) (r.weak fun _ q => nomatch q)
  | ro xs => obtain ⟨a, vs, rfl, _, _, l, r⟩ := x; exact VR.list_of l (fun q => nomatch q) (r.weak fun _ q => nomatch q)
theorem rdOk (S : Sound w k r) {e : Expr} {d : D} (h : rdE r F.env.scope fm e = some d) {A : Around} {ow : Option Addr} {s : Shared} {Q : Value → Shared → Prop} {E : Value → Shared → Prop} (C : Cx k A) (X : FR w F fm ow s)
    (q : ∀ v s', VR s'.heap [] v d → Grow s s' → Q v s') : wpAny (MM w) A (eval e F.env) Q E s := by
  unfold rdE at h
  split at h
  · split at h
    · exact S.E h C X fun v s' rv g => q _ _ rv.bare g
    · next hb =>
      split at h
      · next hv => cases h; exact ldB X hv hb fun v rv => q _ _ (BR.bare rfl rv) (Grow.refl _)
      · cases h
    · next hb =>
      split at h
      · next hv => cases h; exact ldB X hv hb fun v rv => q _ _ (BR.bare rfl rv) (Grow.refl _)
      · cases h
    · exact S.E h C X fun v s' rv g => q _ _ rv.bare g
  · exact S.E h C X fun v s' rv g => q _ _ rv.bare g
theorem truthOk {h : Heap} {av : List Addr} {d : D} {b : Bool} {v : Value} (e : truthD d = some b) (rv : VR h av v d) {A : Around} {s : Shared} {Q : Bool → Shared → Prop} {E : Value → Shared → Prop} (q : Q b s) : wpAny (MM w) A (truthy v) Q E s := by
  unfold truthD at e
  split at e
  · cases e; rw [rv.bool_inv]; exact wpAny_truthy_bool q
  · cases e; obtain ⟨t, rfl⟩ := rv.int_inv; exact P.truthy_int q
  · cases e
theorem andTOk (S : Sound w k r) : ∀ {es : List Expr} {b : Bool}, andT r F.env.scope fm es = some b → ∀ {A : Around} {ow : Option Addr} {s : Shared} {Q : Bool → Shared → Prop} {E : Value → Shared → Prop}, Cx k A → FR w F fm ow s →
    (∀ s', Grow s s' → Q b s') → wpAny (MM w) A (allTrue .And es F.env) Q E s
  | [], b, h => by cases h; intro C X q; exact wpAny_allTrue_And_nil (q _ (Grow.refl _))
  | e :: rest, b, h => by
    unfold andT at h
    intro C X q
    refine wpAny_allTrue_And_cons ?_
    split at h
    · next ht =>
      refine S.T ht C X fun s₁ g₁ => ?_
      rw [if_pos rfl]
      exact andTOk S h C (X.grow g₁) fun s₂ g₂ => q _ (g₁.trans g₂)
    · next ht =>
      cases h
      refine S.T ht C X fun s₁ g₁ => ?_
      exact q _ g₁
    · cases h
theorem andEOk (S : Sound w k r) {pos : Pos} : ∀ {es : List Expr} {d : D}, andE r F.env.scope fm es = some d → ∀ {A : Around} {ow : Option Addr} {s : Shared} {Q : Value → Shared → Prop} {E : Value → Shared → Prop}, Cx k A → FR w F fm ow s →
    (∀ v s', VR s'.heap (ow.toList ++ F.av) v d → Grow s s' → Q v s') → wpAny (MM w) A (boolOp pos .And (evalEach es F.env)) Q E s
  | [], d, h => by cases h
  | [e], d, h => by
    intro C X q
    exact S.E h C X q
  | e :: e2 :: rest, d, h => by
    unfold andE at h
    intro C X q
    show wpAny (MM w) _ (do
      let v ← eval e F.env
      standAt pos
      let t ← holding [v] (truthy v)
      match BoolOp.And, t with
      | .And, false | .Or, true => pure v
      | _, _ => boolOp pos .And (evalEach (e2 :: rest) F.env)) _ _ _
    split at h
    · next ht =>
      refine wpAny_bind (S.E ht C X fun v s₁ rv g₁ => wpAny_bind (wpAny_standAt (wpAny_bind (wpAny_holding ?_))))
      rw [rv.bool_inv]
      refine wpAny_truthy_bool ?_
      exact andEOk S h C (X.grow g₁) fun v s₂ rv₂ g₂ => q _ _ rv₂ (g₁.trans g₂)
    · next ht =>
      cases h
      refine wpAny_bind (S.E ht C X fun v s₁ rv g₁ => wpAny_bind (wpAny_standAt (wpAny_bind (wpAny_holding ?_))))
      rw [rv.bool_inv]
      refine wpAny_truthy_bool ?_
      exact wpAny_pure (q _ _ (VR.bool _) g₁)
    · cases h
end
end Mine
namespace Mine
section
variable {w : World} {k : Nat} {r : Ev} {F : Fx} {fm : Fm} {A : Around} {ow : Option Addr} {s : Shared} {E : Value → Shared → Prop}
theorem not_debug {sc : Scope} {x : Str} {kd : NameKind} (h0 : sc.names.lookup (Str.ofString "__debug__") = none) (h : sc.names.lookup x = some kd) : (x == ("__debug__" : Str)) = false :=
  beq_eq_false_iff_ne.mpr fun e => by
    rw [e] at h
    exact absurd (h0.symm.trans h) (by simp)
/-- a name of the text's top -/
theorem globOk {x : Str} {pos : Pos} {v : Value} {Q : Value → Shared → Prop} (X : FR w F fm ow s) (hg : isGlob F.env.scope x = true) (hv : nsIn (KF w.params) mainGlobals x = some (some v)) (q : Q v s) :
    wpAny (MM w) A (eval (.Name x pos) F.env) Q E s := by
  have hk := isGlob_iff hg
  obtain ⟨mg, mb, h1, h2, h3⟩ := X.gh.ns
  exact Calls.Name_function_global X.hk hk (Calls.loadGlobal_global (X.hg.symm ▸ h1) (mg_of X.gh.kin h1 hv) q) (not_debug X.nodbg hk)
/-- a builtin -/
theorem builtinOk {x : Str} {pos : Pos} {v : Value} {Q : Value → Shared → Prop} (X : FR w F fm ow s) (hg : isGlob F.env.scope x = true) (hv : nsIn (KF w.params) mainGlobals x = some none) (hb : bootBuiltins x = some v) (hn : x ≠ "__name__") (q : Q v s) :
    wpAny (MM w) A (eval (.Name x pos) F.env) Q E s := by
  have hk := isGlob_iff hg
  obtain ⟨mg, mb, h1, h2, h3⟩ := X.gh.ns
  exact Calls.Name_function_global X.hk hk (Calls.loadGlobal_builtin (X.hg.symm ▸ h1) (mg_none_of X.gh.kin h1 hv) (X.hb.symm ▸ h2) ((h3 x hn).trans hb) q) (not_debug X.nodbg hk)
theorem nsLen (P : Params) : nsIn (KF P) mainGlobals (Str.ofString "len") = some none := by kernel_rfl
theorem nsChr (P : Params) : nsIn (KF P) mainGlobals (Str.ofString "chr") = some none := by kernel_rfl
theorem nsOrd (P : Params) : nsIn (KF P) mainGlobals (Str.ofString "ord") = some none := by kernel_rfl
theorem nsHex (P : Params) : nsIn (KF P) mainGlobals (Str.ofString "hex") = some none := by kernel_rfl
theorem nsSum (P : Params) : nsIn (KF P) mainGlobals (Str.ofString "sum") = some none := by kernel_rfl
theorem nsRange (P : Params) : nsIn (KF P) mainGlobals (Str.ofString "range") = some none := by kernel_rfl
theorem nsEnum (P : Params) : nsIn (KF P) mainGlobals (Str.ofString "enumerate") = some none := by kernel_rfl
theorem nsB1 (P : Params) : nsIn (KF P) mainGlobals (Str.ofString "b1_set") = some (some (.ref 62)) := by kernel_rfl
theorem nsB3 (P : Params) : nsIn (KF P) mainGlobals (Str.ofString "b3_exceptions") = some (some (.ref 73)) := by kernel_rfl
theorem nsFl (P : Params) : nsIn (KF P) mainGlobals (Str.ofString "COMPILER_FLAG_NAMES") = some (some (.ref 33)) := by kernel_rfl
theorem bbLen : bootBuiltins (Str.ofString "len") = some (.builtin "len") := by kernel_rfl
theorem bbChr : bootBuiltins (Str.ofString "chr") = some (.builtin "chr") := by kernel_rfl
theorem bbOrd : bootBuiltins (Str.ofString "ord") = some (.builtin "ord") := by kernel_rfl
theorem bbHex : bootBuiltins (Str.ofString "hex") = some (.builtin "hex") := by kernel_rfl
theorem bbSum : bootBuiltins (Str.ofString "sum") = some (.builtin "sum") := by kernel_rfl
theorem bbRange : bootBuiltins (Str.ofString "range") = some (.type "range") := by kernel_rfl
theorem noStarE (S : Ev) {sc : Scope} : ∀ {es : List Expr} {ds : List D} {pos : Pos} {env : Env}, eachE S sc fm es = some ds → (backTo pos (starEach es env)).any (·.1) = false
  | [], _, _, _, _ => rfl
  | e :: rest, ds, pos, env, h => by
    unfold eachE at h
    split at h
    next hp =>
      rw [starEach_cons hp]
      split at h
      next d hd =>
        split at h
        next ds' hds =>
          show (false || (backTo pos (starEach rest env)).any (·.1)) = false
          rw [noStarE S hds]; rfl
        · cases h
      · cases h
    · cases h
theorem isDef_cases {f : Str} (h : isDef f = true) : f = Str.ofString "bisect_right" ∨ f = Str.ofString "bisect_left" ∨ f = Str.ofString "pretty_flags" ∨ f = Str.ofString "_strip_quoted_realnames" ∨ f = Str.ofString "in_table_b1" ∨
    f = Str.ofString "map_table_b3" ∨ f = Str.ofString "_law_cascade" ∨ f = Str.ofString "_law_left" ∨ f = Str.ofString "_law_laid" := by
  unfold isDef defNames at h
  simp only [List.any_cons, List.any_nil, Bool.or_false, Bool.or_eq_true, beq_iff_eq] at h
  exact h
noncomputable def isFuncAt (P : Params) (a : Addr) : Bool := match (KF P).lookup a with
  | some ⟨_, _, .func _, _⟩ => true
  | _ => false
theorem fnNs {P : Params} {f : Str} (h : isDef f = true) : nsIn (KF P) mainGlobals f = some (some (.ref (fnAt f))) := by
  rcases isDef_cases h with rfl | rfl | rfl | rfl | rfl | rfl | rfl | rfl | rfl <;> kernel_rfl
theorem fnThere {P : Params} {f : Str} (h : isDef f = true) : isFuncAt P (fnAt f) = true := by
  rcases isDef_cases h with rfl | rfl | rfl | rfl | rfl | rfl | rfl | rfl | rfl <;> kernel_rfl
theorem fnObj {f : Str} (h : isDef f = true) {hp : Heap} (g : GH w hp) : ∃ o fd, hp.get? (fnAt f) = some o ∧ o.data = .func fd := by
  have h' := fnThere (P := w.params) h
  unfold isFuncAt at h'
  split at h'
  · next e => exact ⟨_, _, g.kin _ _ e, rfl⟩
  · cases h'
theorem callB_chr {ds : List D} {d : D} (h : callB (Str.ofString "chr") ds = some d) : ∃ i : Int, ds = [.int i] ∧ 0 ≤ i ∧ i ≤ 1114111 ∧ d = .str ⟨#[i.toNat]⟩ := by
  unfold callB at h
  split at h
  · rw [if_neg (by decide), if_neg (by decide)] at h; cases h
  · rw [if_neg (by decide), if_neg (by decide)] at h; cases h
  · rw [if_pos (by decide)] at h
    split at h
    · next i hb => cases h; simp only [Bool.and_eq_true, decide_eq_true_eq] at hb; exact ⟨_, rfl, hb.1, hb.2, rfl⟩
    · cases h
  · cases h
theorem callB_hex {ds : List D} {d : D} (h : callB (Str.ofString "hex") ds = some d) : ∃ i : Int, ds = [.int i] ∧ (baseText "0x" 16 i).length ≤ 1000 ∧ d = .str (baseText "0x" 16 i) := by
  unfold callB at h
  split at h
  · rw [if_neg (by decide), if_neg (by decide)] at h; cases h
  · rw [if_neg (by decide), if_neg (by decide)] at h; cases h
  · rw [if_neg (by decide), if_pos (by decide)] at h
    split at h
    · next i hb => cases h; exact ⟨_, rfl, small_le hb, rfl⟩
    · cases h
  · cases h
theorem callB_ord {ds : List D} {d : D} (h : callB (Str.ofString "ord") ds = some d) : ∃ x : Str, ds = [.str x] ∧ x.length = 1 ∧ d = .int (x.cps.getD 0 0 : Nat) := by
  unfold callB at h
  split at h
  · rw [if_neg (by decide), if_neg (by decide)] at h; cases h
  · rw [if_neg (by decide), if_pos (by decide)] at h
    split at h
    · next i hb => cases h; exact ⟨_, rfl, by simpa using hb, rfl⟩
    · cases h
  · rw [if_neg (by decide), if_neg (by decide)] at h; cases h
  · cases h
theorem callB_sum {ds : List D} {d : D} (h : callB (Str.ofString "sum") ds = some d) : ∃ xs ns, ds = [.list xs] ∧ intsOf xs = some ns ∧ d = .int ns.sum := by
  unfold callB at h
  split at h
  · rw [if_neg (by decide), if_pos (by decide)] at h
    split at h
    · split at h
      · cases h; exact ⟨_, _, rfl, by assumption, rfl⟩
      · cases h
    · cases h
  · rw [if_neg (by decide), if_neg (by decide)] at h; cases h
  · rw [if_neg (by decide), if_neg (by decide)] at h; cases h
  · cases h
theorem VRs.one {h : Heap} {av : List Addr} {vs : List Value} {d : D} (x : VRs h av vs [d]) : ∃ v, vs = [v] ∧ VR h av v d := by
  obtain ⟨v, us, rfl, a, b⟩ := x.cons_inv
  rw [b.nil_inv]
  exact ⟨v, rfl, a⟩
theorem callOk (S : Sound w k r) {f : Str} {args : List Expr} {p pos : Pos} {d : D} (h : callE r F.env.scope fm f args = some d) {Q : Value → Shared → Prop} (C : Cx k A) (X : FR w F fm ow s)
    (q : ∀ v s', VR s'.heap (ow.toList ++ F.av) v d → Grow s s' → Q v s') : wpAny (MM w) A (eval (.Call (.Name f p) args [] pos) F.env) Q E s := by
  unfold callE at h
  split at h
  · next hg =>
    refine wpAny_Call_Name_kw ?_
    split at h
    · next hf =>
      have hf : f = Str.ofString "len" := by simpa using hf
      subst hf
      refine builtinOk X hg (nsLen _) bbLen (by decide) ?_
      split at h
      · next e =>
        split at h
        · next hp =>
          split at h
          · next d' hd =>
            refine Calls.callWith_builtin (by rw [starEach_cons hp]; rfl) ?_
            have he : backTo pos (starEach [e] F.env) = (false, eval e F.env) :: backTo pos (starEach [] F.env) := by rw [starEach_cons hp]; rfl
            rw [he]
            refine Calls.evalArgs_plain ?_
            rw [← he]
            refine wpAny_items_cons ?_ (starEach_cons hp)
            refine rdOk S hd C X fun v s₁ rv g₁ => ?_
            refine wpAny_items_nil ?_
            show wpAny (MM w) A (call (.builtin "len") [v]) Q E s₁
            unfold callB at h
            split at h
            · next xs hx =>
              cases hx
              rw [if_pos (by rfl)] at h
              split at h
              · next hs =>
                cases h
                obtain ⟨l, vs, rfl, _, hl, rvs⟩ := rv.list_inv
                have hn := rvs.length
                have := small_le hs
                refine PyProof.Rows.len_list hl (by simp; omega) ?_
                have e : ((vs.toArray.size : Nat) : Int) = (xs.length : Int) := by simp [hn]
                rw [e]
                exact q _ _ (VR.int _ _) (g₁.trans (Grow.tok _ _))
              · cases h
            · next x hx =>
              cases hx
              rw [if_pos (by rfl)] at h
              split at h
              · next hs =>
                cases h
                obtain ⟨t, rfl⟩ := rv.str_inv
                have := small_le hs
                refine PyProof.Rows.len_str (by omega) ?_
                exact q _ _ (VR.int _ _) (g₁.trans (Grow.tok _ _))
              · cases h
            · next i hx =>
              cases hx
              rw [if_neg (by decide), if_neg (by decide)] at h
              cases h
            · cases h
          · cases h
        · cases h
      · cases h
    · split at h
      · cases h
      · next e es =>
        split at h
        · next ds hds =>
          have hpl : plain e = true := by
            unfold eachE at hds
            split at hds
            · assumption
            · cases hds
          have he : backTo pos (starEach (e :: es) F.env) = (false, eval e F.env) :: backTo pos (starEach es F.env) := by rw [starEach_cons hpl]; rfl
          have go : ∀ {id : String}, (∀ vs s₁, VRs s₁.heap (ow.toList ++ F.av) vs ds → Grow s s₁ → wpAny (MM w) A (call (.builtin id) vs) Q E s₁) →
              wpAny (MM w) A (callWith pos (.builtin id) [] (backTo pos (starEach (e :: es) F.env)) (backToKw pos (keywordEach [] F.env))) Q E s := fun hgo => by
            refine Calls.callWith_builtin (noStarE r hds) ?_
            rw [he]
            refine Calls.evalArgs_plain ?_
            rw [← he]
            exact eachOk S hds C X fun vs s₁ rvs g₁ => hgo vs s₁ rvs g₁
          split at h
          · next hb =>
            simp only [Bool.or_eq_true, beq_iff_eq] at hb
            rcases hb with ((rfl | rfl) | rfl) | rfl
            · refine builtinOk X hg (nsChr _) bbChr (by decide) (go fun vs s₁ rvs g₁ => ?_)
              obtain ⟨i, rfl, h0, h1, rfl⟩ := callB_chr h
              obtain ⟨v, rfl, rv⟩ := rvs.one
              obtain ⟨t, rfl⟩ := rv.int_inv
              exact PyProof.Rows.chr_of_range h0 h1 (q _ _ (VR.str _ _) (g₁.trans (Grow.tok _ _)))
            · refine builtinOk X hg (nsOrd _) bbOrd (by decide) (go fun vs s₁ rvs g₁ => ?_)
              obtain ⟨x, rfl, h0, rfl⟩ := callB_ord h
              obtain ⟨v, rfl, rv⟩ := rvs.one
              obtain ⟨t, rfl⟩ := rv.str_inv
              exact PyProof.Rows.ord_of_one h0 (q _ _ (VR.int _ _) (g₁.trans (Grow.tok _ _)))
            · refine builtinOk X hg (nsHex _) bbHex (by decide) (go fun vs s₁ rvs g₁ => ?_)
              obtain ⟨i, rfl, h0, rfl⟩ := callB_hex h
              obtain ⟨v, rfl, rv⟩ := rvs.one
              obtain ⟨t, rfl⟩ := rv.int_inv
              exact P.hex_of_int (q _ _ (VR.str _ _) (g₁.trans (Grow.tok _ _))) (Nat.le_trans h0 (by decide))
            · refine builtinOk X hg (nsSum _) bbSum (by decide) (go fun vs s₁ rvs g₁ => ?_)
              obtain ⟨xs, ns, rfl, hns, rfl⟩ := callB_sum h
              obtain ⟨v, rfl, rv⟩ := rvs.one
              obtain ⟨l, us, rfl, _, hl, rus⟩ := rv.list_inv
              have hi := rus.ints hns
              obtain ⟨ys, hys⟩ := hi.allInts.items
              rw [hys] at hl
              refine sum_intListG C.handled hl fun h' tk t' hk => ?_
              have e : preSum (numAt ys) ys.size = ns.sum := by
                have e1 := hi.numsOf
                have e2 : us = (intItems ys).toList := by rw [← hys]
                rw [e2, nums_intItems] at e1
                rw [preSum_eq, List.take_of_length_le (by simp), ← e1]
              rw [e]
              exact q _ _ (VR.int _ _) (g₁.trans ⟨hk, GX.refl _, rfl⟩)
          · split at h
            · next hdf =>
              refine globOk X hg (fnNs hdf) ?_
              obtain ⟨o, fd, ho, hfd⟩ := fnObj hdf X.gh
              refine Calls.callWith_function (o := o) (fd := fd) ?_
              rw [he]
              refine Calls.evalArgs_plain ?_
              rw [← he]
              refine eachOk S hds C X fun vs s₁ rvs g₁ => ⟨⟨g₁.heap _ _ ho, hfd⟩, ?_⟩
              have X₁ := X.grow g₁
              exact S.C h C X₁.gh X₁.livesAll rvs fun v s₂ rv g₂ => q _ _ rv (g₁.trans g₂)
            · cases h
        · cases h
  · cases h
end
end Mine
namespace Mine
section
variable {w : World} {k : Nat} {r : Ev} {F : Fx} {fm : Fm} {A : Around} {ow : Option Addr} {s : Shared} {E : Value → Shared → Prop}
theorem noSet_marks {op : CmpOp} {rr : Expr} (h : noSet rr = true) : behindInMarks op rr = false := by
  cases rr <;> first | rfl | (exact Bool.noConfusion h)
theorem isNone_iff {h : Heap} {av : List Addr} {v : Value} {d : D} (rv : VR h av v d) : (v == Value.none) = isNoneD d := by
  cases d with
  | none => rw [rv.none_inv]; rfl
  | bool b => rw [rv.bool_inv]; rfl
  | int i => obtain ⟨t, rfl⟩ := rv.int_inv; rfl
  | str x => obtain ⟨t, rfl⟩ := rv.str_inv; rfl
  | list xs => obtain ⟨l, vs, rfl, _⟩ := rv.list_inv; rfl
  | tuple xs => have := rv.1; simp [nd] at this
  | dict xs => have := rv.1; simp [nd] at this
theorem cmpEOk (S : Sound w k r) {l : Expr} {op : CmpOp} {rr : Expr} {b : Bool} (h : cmpE r F.env.scope fm l op rr = some b) {Q : Value → Shared → Prop} (C : Cx k A) (X : FR w F fm ow s)
    (q : ∀ s', Grow s s' → Q (.bool b) s') : behindInMarks op rr = false ∧ wpAny (MM w) A (eval l F.env) (fun a s₁ => wpAny (MM w) A (eval rr F.env) (fun c s₂ => wpAny (MM w) A (compareOp op a c) Q E s₂) E s₁) E s := by
  unfold cmpE at h
  split at h
  · refine ⟨rfl, ?_⟩
    simp only [Option.map_eq_some_iff] at h
    obtain ⟨d, hd, rfl⟩ := h
    refine S.E hd C X fun v s₁ rv g₁ => wpAny_Constant_none (is_none ?_)
    rw [isNone_iff rv]
    exact q _ g₁
  · refine ⟨rfl, ?_⟩
    simp only [Option.map_eq_some_iff] at h
    obtain ⟨d, hd, rfl⟩ := h
    refine S.E hd C X fun v s₁ rv g₁ => wpAny_Constant_none (isNot_none ?_)
    rw [isNone_iff rv]
    exact q _ g₁
  · next x p =>
    refine ⟨rfl, ?_⟩
    split at h
    · next d hd =>
      refine S.E hd C X fun v s₁ rv g₁ => ?_
      have X₁ := X.grow g₁
      split at h
      · next hg =>
        split at h
        · next i =>
          split at h
          · next hx =>
            have hx : x = Str.ofString "b1_set" := by simpa using hx
            subst hx
            cases h
            refine globOk X₁ hg (nsB1 _) ?_
            obtain ⟨n, hS⟩ := setOf_of (prog := PySem.Challenge.pw_wf0083_01) X₁.gh.kin
            obtain ⟨t, rfl⟩ := rv.int_inv
            exact wpAny_inSet_of (knd := intKind _ w) (k := i) (by show (i == i) = true; simp) rfl hS (q _ (g₁.trans (Grow.tok _ _)))
          · cases h
        · cases h
      · split at h
        · next c hc =>
          refine rdOk S hc C X₁ fun u s₂ ru g₂ => ?_
          exact cmpOk C h (rv.keeps g₂.heap) ⟨_, ru⟩ (q _ (g₁.trans g₂))
        · cases h
    · cases h
  · split at h
    · next hn =>
      refine ⟨noSet_marks hn, ?_⟩
      split at h
      · next a ha =>
        split at h
        · next c hc =>
          refine S.E ha C X fun v s₁ rv g₁ => ?_
          refine S.E hc C (X.grow g₁) fun u s₂ ru g₂ => ?_
          exact cmpOk C h (rv.keeps g₂.heap) ⟨_, ru⟩ (q _ (g₁.trans g₂))
        · cases h
      · cases h
    · cases h
theorem compareOk (S : Sound w k r) {l : Expr} {op : CmpOp} {rr : Expr} {b : Bool} {pos : Pos} (h : cmpE r F.env.scope fm l op rr = some b) {Q : Value → Shared → Prop} (C : Cx k A) (X : FR w F fm ow s)
    (q : ∀ s', Grow s s' → Q (.bool b) s') : wpAny (MM w) A (eval (.Compare l [op] [rr] pos) F.env) Q E s := by
  obtain ⟨h1, h2⟩ := cmpEOk S h C X q
  exact wpAny_Compare1 h2 h1
theorem compareTOk (S : Sound w k r) {l : Expr} {op : CmpOp} {rr : Expr} {b : Bool} {pos : Pos} {whole : Sem Value} (h : cmpE r F.env.scope fm l op rr = some b) {Q : Bool → Shared → Prop} (C : Cx k A) (X : FR w F fm ow s)
    (q : ∀ s', Grow s s' → Q b s') : wpAny (MM w) A (PySem.isTrue (.Compare l [op] [rr] pos) F.env whole) Q E s := by
  obtain ⟨h1, h2⟩ := cmpEOk (Q := fun c s₃ => wpAny (MM w) A (truthy c) Q E s₃) S h C X fun s' g => wpAny_truthy_bool (q _ g)
  exact wpAny_isTrue_Compare1 h2 h1
/-! methods -/
theorem base_rfl {o : Expr} {m : Str} {env : Env} {wh : Sem Value} (h : baseOk o = true) : attributeBase o m env wh = wh := by
  cases o <;> first | rfl | (exact Bool.noConfusion h)
theorem lensOk_iff {ys : List Str} (h : lensOk ys = true) : (ys.map (·.length)).sum + ys.length ≤ 1000 := small_le h
theorem lower_len {x : Str} (h : x.length ≤ 1000) : x.length ≤ 5592405 := by omega
theorem noDict_str {v : Value} {x : Str} {t : Tok} (e : v = .str x t) {h : Heap} : ∀ a, v = .ref a → ∃ ob, h.get? a = some ob ∧ ob.dict = none := fun a q => by rw [e] at q; cases q
theorem tab_cases {n : Str} {tab : List (Int × Str)} (h : tabNamed n = some tab) : ∃ a : Addr, (∀ P, nsIn (KF P) mainGlobals n = some (some (.ref a))) ∧ (a == sysModules) = false ∧ ∀ {prog : Program} {w : World} {hp : Heap}, (KF w.params).In hp → IntDict prog w hp a tab := by
  unfold tabNamed at h
  split at h
  · next hn =>
    have hn : n = Str.ofString "b3_exceptions" := by simpa using hn
    subst hn; cases h
    exact ⟨73, nsB3, by decide, fun hin => intDict_of hin (shape73 _) (all73 _) (tab73 _)⟩
  · split at h
    · next hn =>
      have hn : n = Str.ofString "COMPILER_FLAG_NAMES" := by simpa using hn
      subst hn; cases h
      exact ⟨33, nsFl, by decide, fun hin => intDict_of hin (shape33 _) (all33 _) (tab33 _)⟩
    · cases h
theorem getOk (S : Sound w k r) {n : Str} {p : Pos} {args : List Expr} {ap pos : Pos} {d : D} (h : getE r F.env.scope fm n args = some d) (hpl : args.all plain = true) (hl : (ap.endLine == pos.line) = true) {Q : Value → Shared → Prop} (C : Cx k A) (X : FR w F fm ow s)
    (q : ∀ v s', VR s'.heap (ow.toList ++ F.av) v d → Grow s s' → Q v s') : wpAny (MM w) A (eval (.Call (.Attribute (.Name n p) (Str.ofString "get") ap) args [] pos) F.env) Q E s := by
  unfold getE at h
  split at h
  · next hg =>
    split at h
    · next tab e ht =>
      obtain ⟨a, hns, hsys, hdict⟩ := tab_cases ht
      have hp1 : plain e = true := by simpa using hpl
      refine Call_method1 rfl (by rw [starEach_cons hp1]; rfl) hl ?_
      refine globOk X hg (hns _) ?_
      obtain ⟨f, hm, hf⟩ := hdict (prog := PySem.Challenge.pw_wf0083_01) X.gh.kin
      refine ⟨"dict", "dict.get", PySem.F.plainAttrs_dict, PySem.F.slot_dict_get, PySem.F.type_dict_get, hm.typeIs, hm.noDict, ?_⟩
      refine wpAny_dict_get1 (knd := intKind _ w) hsys ?_
      split at h
      · next i hi =>
        refine S.E hi C X fun v s₁ rv g₁ => ?_
        obtain ⟨t, rfl⟩ := rv.int_inv
        obtain ⟨f, hm, hf⟩ := hdict (prog := PySem.Challenge.pw_wf0083_01) (X.grow g₁).gh.kin
        refine ⟨i, f, by show (i == i) = true; simp, hm, ?_⟩
        have hfi := hf i
        split at h
        · next x hx =>
          cases h
          rw [hx] at hfi
          obtain ⟨t', e⟩ := hfi
          rw [e]
          exact q _ _ (VR.str _ _) (g₁.trans (Grow.tok _ _))
        · next hx =>
          cases h
          rw [hx] at hfi
          rw [hfi]
          exact q _ _ VR.none (g₁.trans (Grow.tok _ _))
      · cases h
    · next tab e e2 ht =>
      obtain ⟨a, hns, hsys, hdict⟩ := tab_cases ht
      have hp1 : plain e = true ∧ plain e2 = true := by simpa using hpl
      refine Call_method2 rfl (by rw [starEach_cons hp1.1, starEach_cons hp1.2]; rfl) hl ?_
      refine globOk X hg (hns _) ?_
      obtain ⟨f, hm, hf⟩ := hdict (prog := PySem.Challenge.pw_wf0083_01) X.gh.kin
      refine ⟨"dict", "dict.get", PySem.F.plainAttrs_dict, PySem.F.slot_dict_get, PySem.F.type_dict_get, hm.typeIs, hm.noDict, ?_⟩
      refine wpAny_dict_get2 (knd := intKind _ w) hsys ?_
      split at h
      · next i hi =>
        split at h
        · next dd hdd =>
          refine S.E hi C X fun v s₁ rv g₁ => ?_
          obtain ⟨t, rfl⟩ := rv.int_inv
          refine S.E hdd C (X.grow g₁) fun u s₂ ru g₂ => ?_
          obtain ⟨f, hm, hf⟩ := hdict (prog := PySem.Challenge.pw_wf0083_01) ((X.grow g₁).grow g₂).gh.kin
          refine ⟨i, f, by show (i == i) = true; simp, hm, ?_⟩
          have hfi := hf i
          split at h
          · next x hx =>
            cases h
            rw [hx] at hfi
            obtain ⟨t', e⟩ := hfi
            rw [e]
            exact q _ _ (VR.str _ _) ((g₁.trans g₂).trans (Grow.tok _ _))
          · next hx =>
            cases h
            rw [hx] at hfi
            rw [hfi]
            exact q _ _ ru ((g₁.trans g₂).trans (Grow.tok _ _))
        · cases h
      · cases h
    · cases h
  · cases h
theorem methOk (S : Sound w k r) {o : Expr} {m : Str} {args : List Expr} {ap pos : Pos} {d : D} (h : methE r F.env.scope fm o m args = some d) (hl : (ap.endLine == pos.line) = true) {Q : Value → Shared → Prop} (C : Cx k A) (X : FR w F fm ow s)
    (q : ∀ v s', VR s'.heap (ow.toList ++ F.av) v d → Grow s s' → Q v s') : wpAny (MM w) A (eval (.Call (.Attribute o m ap) args [] pos) F.env) Q E s := by
  unfold methE at h
  split at h
  · next hm =>
    have hm : m = Str.ofString "get" := by simpa using hm
    subst hm
    split at h
    · next n p =>
      split at h
      · next hpl => exact getOk S h hpl hl C X q
      · cases h
    · cases h
  · split at h
    · next hb =>
      split at h
      · next od hod =>
        split at h
        · refine Call_method0 (base_rfl hb) hl ?_
          refine S.E hod C X fun v s₁ rv g₁ => ?_
          unfold methB at h
          split at h
          · next hx => cases hx
          · next x =>
            split at h
            · next hm =>
              have hm : m = Str.ofString "lower" := by simpa using hm
              subst hm
              split at h
              · next hs =>
                cases h
                obtain ⟨t, rfl⟩ := rv.str_inv
                exact PyProof.Rows.SBL.lower (lower_len (small_le hs)) fun _ => q _ _ (VR.str _ _) (g₁.trans (Grow.tok _ _))
              · cases h
            · cases h
          · next hx => cases hx
          · cases h
        · next e =>
          split at h
          · next hp =>
            split at h
            · next c hc =>
              refine Call_method1 (base_rfl hb) (by rw [starEach_cons hp]; rfl) hl ?_
              refine S.E hod C X fun v s₁ rv g₁ => ?_
              unfold methB at h
              split at h
              · next x xs hx =>
                cases hx
                split at h
                · next hm =>
                  have hm : m = Str.ofString "join" := by simpa using hm
                  subst hm
                  split at h
                  · next ys hys =>
                    split at h
                    · next hok =>
                      cases h
                      simp only [Bool.and_eq_true] at hok
                      have h1 := lensOk_iff hok.1
                      have h2 := Nat.le_of_ble_eq_true hok.2
                      obtain ⟨t, rfl⟩ := rv.str_inv
                      refine ⟨"str", "str.join", PySem.F.plainAttrs_str, PySem.F.slot_str_join, PySem.F.type_str_join, typeIs_str _ _ _, noDict_str rfl, ?_⟩
                      refine Calls.callWith_builtin rfl (Calls.evalArgs_plain (Calls.spliced_cons ?_))
                      refine rdOk S hc C (X.grow g₁) fun u s₂ ru g₂ => ?_
                      obtain ⟨l, us, rfl, _, hl', rus⟩ := ru.list_inv
                      refine Calls.spliced_nil ?_
                      exact PyProof.Rows.join_listW hl' (rus.strs hys) (by omega) (by omega) fun t' tk => q _ _ (VR.str _ _) ((g₁.trans g₂).trans (Grow.tok _ _))
                    · cases h
                  · cases h
                · cases h
              · next hx => cases hx
              · next x y hx =>
                cases hx
                split at h
                · next hm =>
                  have hm : m = Str.ofString "index" := by simpa using hm
                  subst hm
                  split at h
                  · next i rest hi =>
                    cases h
                    obtain ⟨t, rfl⟩ := rv.str_inv
                    refine SB.index ?_
                    refine rdOk S hc C (X.grow g₁) fun u s₂ ru g₂ => ?_
                    obtain ⟨t2, rfl⟩ := ru.str_inv
                    exact ⟨_, _, rfl, _, _, hi, q _ _ (VR.int _ _) ((g₁.trans g₂).trans (Grow.tok _ _))⟩
                  · cases h
                · cases h
              · cases h
            · cases h
          · cases h
        · cases h
      · cases h
    · cases h
end
end Mine
namespace Mine
section
variable {w : World} {k : Nat} {r : Ev} {F : Fx} {fm : Fm} {A : Around} {ow : Option Addr} {s : Shared} {E : Value → Shared → Prop}
theorem subTail {value slice : Expr} {o i : Value} {T id : String} {Q : Value → Shared → Prop} (hT : s.TypeIs o T)
    (hl : typeLookup (.type T) "__getitem__" = pure (some (.builtin id))) (h : wpAny (MM w) A (getItem o i) Q E s) : wpAny (MM w) A (subscriptTail value slice o i) Q E s := by
  unfold subscriptTail
  refine wpAny_bind ?_
  rw [getitemInPython_of_ne hT.not_modules]
  refine wpAny_bind (wpAny_specialOf hT hl ?_)
  have fin : wpAny (MM w) A (subscripted slice false o i) (fun r s₃ => wpAny (MM w) A (letTemporaryGo value o r >>= fun _ => pure r) Q E s₃) E s := by
    have hs : ∃ l, subscripted slice false o i = operate l (getItem o i) := by
      unfold subscripted
      split
      · exact ⟨_, rfl⟩
      · next h => cases h
      · exact ⟨_, rfl⟩
    obtain ⟨l, hs⟩ := hs
    rw [hs]
    exact wpAny_operating (wpAny_mono h (fun r s₃ h₃ => wpAny_bind (wpAny_letTemporaryGo (wpAny_pure h₃))) fun _ _ x => x)
  first
    | exact wpAny_pure (wpAny_bind fin)
    | exact wpAny_bind (wpAny_pure (wpAny_bind fin))
    | exact wpAny_bind fin
theorem optOk (S : Sound w k r) {oe : Option Expr} {p : Option Int} (h : optE r F.env.scope fm oe = some p) {Q : Value → Shared → Prop} (C : Cx k A) (X : FR w F fm ow s)
    (q : ∀ v s', IsPart v p → Grow s s' → Q v s') : wpAny (MM w) A (evalPart oe F.env) Q E s := by
  unfold optE at h
  split at h
  · cases h
    rw [evalPart_none]
    exact wpAny_pure (q _ _ .none (Grow.refl _))
  · split at h
    · next i hi =>
      cases h
      rw [evalPart_some]
      refine S.E hi C X fun v s₁ rv g => ?_
      obtain ⟨t, rfl⟩ := rv.int_inv
      exact q _ _ (.int _ _) g
    · cases h
theorem isPart_str {v : Value} {p : Option Int} (h : IsPart v p) : ∃ l : Option (Int × Tok), v = partValue l ∧ l.map (·.1) = p := by
  cases h with
  | none => exact ⟨none, rfl, rfl⟩
  | int i t => exact ⟨some (i, t), rfl, rfl⟩
theorem sliceStr {x : Str} {t : Tok} {l u : Option (Int × Tok)} {Q : Value → Shared → Prop} (hsz : x.length ≤ 1000) (q : ∀ t' tk, Q (.str (Txt.slice x (l.map (·.1)) (u.map (·.1))) t') { s with toks := tk }) :
    (sliceMade x t l u none).post Q s := by
  unfold sliceMade
  split
  · next h =>
    have := q t s.toks
    unfold Txt.slice at this
    rw [if_pos (by exact h)] at this
    exact this
  · next h =>
    refine ⟨?_, ?_⟩
    · have h1 : ((slicePicked x l u none).filterMap (x.cps[·]?)).length ≤ (slicePicked x l u none).length := List.length_filterMap_le _ _
      have h2 : (slicePicked x l u none).length ≤ x.length := sliceIndices_le _ _ _
      show (((slicePicked x l u none).filterMap (x.cps[·]?)).toArray).size ≤ sizeLine
      rw [List.size_toArray]
      exact Nat.le_trans (Nat.le_trans h1 (Nat.le_trans h2 hsz)) (by decide)
    · have := q s.toks (s.toks + 1)
      unfold Txt.slice at this
      rw [if_neg (by exact h)] at this
      exact this
theorem subOk (S : Sound w k r) {o i : Expr} {pos : Pos} {d : D} (h : subE r F.env.scope fm o i = some d) {Q : Value → Shared → Prop} (C : Cx k A) (X : FR w F fm ow s)
    (q : ∀ v s', VR s'.heap (ow.toList ++ F.av) v d → Grow s s' → Q v s') : wpAny (MM w) A (eval (.Subscript o i pos) F.env) Q E s := by
  unfold subE at h
  refine Subscript_ ?_
  split at h
  · next od hod =>
    refine S.E hod C X fun v s₁ rv g₁ => ?_
    have X₁ := X.grow g₁
    split at h
    · next lo hi st p =>
      refine wpAny_Slice ?_
      split at h
      · next l hl =>
        split at h
        · next hh hhh =>
          split at h
          · next kk hkk =>
            refine optOk S hl C X₁ fun vl s₂ pl g₂ => ?_
            refine optOk S hhh C (X₁.grow g₂) fun vu s₃ pu g₃ => ?_
            refine optOk S hkk C ((X₁.grow g₂).grow g₃) fun vk s₄ pk g₄ => ?_
            have X₄ := ((X₁.grow g₂).grow g₃).grow g₄
            have G := ((g₁.trans g₂).trans g₃).trans g₄
            have rv₄ := ((rv.keeps g₂.heap).keeps g₃.heap).keeps g₄.heap
            split at h
            · next xs =>
              split at h
              · next hb =>
                cases h
                simp only [Bool.and_eq_true, bne_iff_ne] at hb
                obtain ⟨a, vs, rfl, hna, hil, rvs⟩ := rv₄.list_inv
                refine subTail (T := "list") ((hil.push _).typeIs) list_getitem_lookup ?_
                have hlen := rvs.length
                have := small_le hb.2
                refine wpAny_getItem_list_slice (hil.push _) (Heap.IsSliceOf.new ..) pl pu pk hb.1 ?_ (by rw [List.size_toArray]; exact Nat.le_trans (show vs.length ≤ 1000 by omega) (by decide))
                have e : slicePick vs.toArray l hh kk = ((sliceRange (sliceBounds l hh kk vs.length).1 (sliceBounds l hh kk vs.length).2.1 (sliceBounds l hh kk vs.length).2.2).filterMap (vs[·]?)).toArray := by
                  unfold slicePick; simp
                have e2 : pickD xs l hh kk = (sliceRange (sliceBounds l hh kk vs.length).1 (sliceBounds l hh kk vs.length).2.1 (sliceBounds l hh kk vs.length).2.2).filterMap (xs[·]?) := by
                  unfold pickD; rw [hlen]
                refine q _ _ ?_ (G.trans ⟨(Keeps.push _ _).trans (Keeps.push _ _), GX.refl _, rfl⟩)
                rw [e2]
                exact VR.list_new ((rvs.keeps (Keeps.push _ _)).pick _) (X₄.livesAll.keeps (Keeps.push _ _)) _ rfl (by show Data.seq _ _ = _; rw [e])
              · cases h
            · next x =>
              split at h
              · split at h
                · next hs =>
                  cases h
                  obtain ⟨t, rfl⟩ := rv₄.str_inv
                  obtain ⟨pl', rfl, rfl⟩ := isPart_str pl
                  obtain ⟨pu', rfl, rfl⟩ := isPart_str pu
                  cases pk
                  refine subTail (T := "str") (typeIs_str _ _ _) PyProof.Rows.slot_str_getitem.lookup ?_
                  refine wpAny_getItem_str_slice (l := pl') (u := pu') (st := none) ⟨_, Heap.get?_push_size _ rfl, rfl, rfl⟩ rfl ?_
                  exact sliceStr (small_le hs) fun t' tk => q _ _ (VR.str _ _) (G.trans ⟨Keeps.push _ _, GX.refl _, rfl⟩)
                · cases h
              · cases h
            · cases h
          · cases h
        · cases h
      · cases h
    · split at h
      · next n hn =>
        refine S.E hn C X₁ fun u s₂ ru g₂ => ?_
        obtain ⟨t, rfl⟩ := ru.int_inv
        have rv₂ := rv.keeps g₂.heap
        split at h
        · next xs =>
          split at h
          · next hb =>
            simp only [Bool.and_eq_true, decide_eq_true_eq] at hb
            obtain ⟨a, vs, rfl, hna, hil, rvs⟩ := rv₂.list_inv
            refine subTail (T := "list") hil.typeIs list_getitem_lookup ?_
            obtain ⟨v', hv', r'⟩ := rvs.get h
            exact wpAny_getItem_list hil hb.1 (by omega) (by simpa using hv') (q _ _ r' (g₁.trans g₂))
          · cases h
        · next x =>
          split at h
          · next hb =>
            cases h
            simp only [Bool.and_eq_true, decide_eq_true_eq] at hb
            obtain ⟨t', rfl⟩ := rv₂.str_inv
            have := small_le hb.2
            refine subTail (T := "str") (typeIs_str _ _ _) PyProof.Rows.slot_str_getitem.lookup ?_
            have hlt : n.toNat < x.cps.size := by have : x.length = x.cps.size := rfl; omega
            refine P.getItem_str (c := x.cps.getD n.toNat 0) (by simp; omega) ?_ (q _ _ (VR.str _ _) ((g₁.trans g₂).trans (Grow.tok _ _)))
            rw [StrLaws.seqIndex_nonneg hb.1.1 hb.1.2]
            simp [Array.getD, hlt]
          · cases h
        · cases h
      · cases h
  · cases h
end
end Mine
namespace Mine
section
variable {w : World} {k : Nat} {r : Ev} {F : Fx} {fm : Fm}
noncomputable def CompOk (w : World) (k : Nat) (r : Ev) : Prop := ∀ {F : Fx} {fm : Fm} {elt : Expr} {gens : List Comprehension} {scope : Scope} {pos : Pos} {d : D}, compE r F.env.scope fm elt gens scope = some d → PE w F fm (k + 1) (.ListComp elt gens scope pos) d
theorem evEOk (S : Sound w k r) (HC : CompOk w k r) {e : Expr} {d : D} (h : evE r F.env.scope fm e = some d) : PE w F fm (k + 1) e d := by
  intro A ow s Q E C1 X q
  have C := C1.less
  have kt : ∀ v t, VR s.heap (ow.toList ++ F.av) v d → Q v { s with toks := t } := fun v t r => q v _ r (Grow.tok s t)
  unfold evE at h
  split at h
  · next c k' pos =>
    unfold constD at h
    split at h
    · cases h; exact wpAny_Constant_none (q _ _ VR.none (Grow.refl _))
    · cases h; exact wpAny_Constant_bool (q _ _ (VR.bool _) (Grow.refl _))
    · cases h; exact wpAny_Constant_int (kt _ _ (VR.int _ _))
    · cases h; exact wpAny_Constant_str (kt _ _ (VR.str _ _))
    · cases h
  · next x pos =>
    split at h
    · next hv =>
      split at h
      · next d' hb => cases h; exact ldB X hv hb fun v rv => q _ _ rv (Grow.refl _)
      · cases h
    · cases h
  · next l op rr pos =>
    split at h
    · next a ha =>
      split at h
      · next b hb =>
        refine wpAny_BinOp (S.E ha C X fun v s₁ rv g₁ => S.E hb C (X.grow g₁) fun u s₂ ru g₂ => ?_)
        exact bopOk ((X.grow g₁).grow g₂).livesAll h (rv.keeps g₂.heap) ru fun v' s₃ rv' g₃ => q _ _ rv' ((g₁.trans g₂).trans g₃)
      · cases h
    · cases h
  · next e pos =>
    split at h
    · next i hi =>
      cases h
      refine wpAny_UnaryOp (S.E hi C X fun v s₁ rv g₁ => ?_)
      obtain ⟨t, rfl⟩ := rv.int_inv
      exact PyProof.Rows.neg_int (q _ _ (VR.int _ _) (g₁.trans (Grow.tok _ _)))
    · cases h
  · next vs pos =>
    rw [show eval (.BoolOp .And vs pos) F.env = boolOp pos .And (evalEach vs F.env) from rfl]
    exact andEOk S h C X q
  · next l op rr pos =>
    simp only [Option.map_eq_some_iff] at h
    obtain ⟨b, hb, rfl⟩ := h
    exact compareOk S hb C X fun s' g => q _ _ (VR.bool _) g
  · next t a b pos =>
    refine wpAny_IfExp ?_
    split at h
    · next ht =>
      refine S.T ht C X fun s₁ g₁ => ?_
      rw [if_pos rfl]
      exact S.E h C (X.grow g₁) fun v s₂ rv g₂ => q _ _ rv (g₁.trans g₂)
    · next ht =>
      refine S.T ht C X fun s₁ g₁ => ?_
      show wpAny (MM w) A (eval b F.env) Q E s₁
      exact S.E h C (X.grow g₁) fun v s₂ rv g₂ => q _ _ rv (g₁.trans g₂)
    · cases h
  · exact callOk S h C X q
  · next o m ap args pos =>
    split at h
    · next hl => exact methOk S h hl C X q
    · cases h
  · exact subOk S h C X q
  · next es pos =>
    split at h
    · next hs =>
      simp only [Option.map_eq_some_iff] at h
      obtain ⟨ds, hds, rfl⟩ := h
      refine wpAny_List (eachOk S hds C X fun vs s₁ rvs g₁ => ⟨?_, ?_⟩)
      · have h1 := rvs.length
        have h2 : ds.length = es.length := by
          clear rvs h1 kt q
          induction es generalizing ds with
          | nil => cases hds; rfl
          | cons e es ih =>
            unfold eachE at hds
            split at hds
            · split at hds
              · split at hds
                · next ds' hds' =>
                  cases hds
                  have hs' : small es.length = true := by
                    unfold small at hs ⊢
                    have := Nat.le_of_ble_eq_true hs
                    exact Nat.ble_eq_true_of_le (by simp at this; omega)
                  simp [ih hs' _ hds']
                · cases hds
              · cases hds
            · cases hds
        have := small_le hs
        exact Nat.le_trans (show vs.length ≤ 1000 by omega) (by decide)
      · refine q _ _ (VR.list_new rvs (X.grow g₁).livesAll _ rfl rfl) (g₁.trans ⟨Keeps.push _ _, GX.refl _, rfl⟩)
    · cases h
  · exact HC h C1 X q
  · cases h
theorem evTOk (S : Sound w k r) {e : Expr} {b : Bool} (h : evT r F.env.scope fm e = some b) : PT w F fm (k + 1) e b := by
  intro A ow s Q E C1 X q
  have C := C1.less
  unfold evT at h
  split at h
  · next x pos =>
    simp only [Option.map_eq_some_iff] at h
    obtain ⟨c, hc, rfl⟩ := h
    exact wpAny_isTrue_Not (S.T hc C X fun s' g => q _ g)
  · exact wpAny_isTrue_BoolOp (andTOk S h C X q)
  · exact compareTOk S h C X q
  · cases h
  · cases h
  · cases h
  · cases h
  · next n1 n2 n3 n4 n5 n6 n7 =>
    split at h
    · next d hd =>
      refine wpAny_isTrue_value (S.E hd C X fun v s₁ rv g₁ => truthOk h rv (q _ g₁)) ?_
      cases e with
      | BoolOp op vs p => cases op with
        | And => exact (n2 _ _ rfl).elim
        | Or => exact (n4 _ _ rfl).elim
      | UnaryOp op x p => exact (n7 _ _ _ rfl).elim
      | Compare a b c p => exact (n6 _ _ _ _ rfl).elim
      | IfExp a b c p => exact (n5 _ _ _ _ rfl).elim
      | _ => rfl
    · cases h
end
end Mine
namespace Mine
/-! what is read stays -/
mutual
theorem reads_move {h h' : Heap} : ∀ (d : D) {v : Value} {as : List Addr}, nd d = true → Reads h v d as → (∀ b o its n, b ∈ as → h.get? b = some o → o.data = .seq its n → h'.get? b = some o) → Reads h' v d as
  | .none, _, _, _, r, _ => by cases r; exact .none
  | .bool b, _, _, _, r, _ => by cases r; exact .bool b
  | .int i, _, _, _, r, _ => by cases r; exact .int i _
  | .str i, _, _, _, r, _ => by cases r; exact .str i _
  | .tuple _, _, _, n, _, _ => by simp [nd] at n
  | .dict _, _, _, n, _, _ => by simp [nd] at n
  | .list xs, _, _, n, r, k => by
    cases r with
    | @list a o its m _ bs ho hc hd hr =>
      exact .list (k a o _ _ (.head _) ho hd) hc hd (readsAll_move xs n hr fun b o its n hb => k b o its n (.tail _ hb))
theorem readsAll_move {h h' : Heap} : ∀ (ds : List D) {vs : List Value} {as : List Addr}, ndAll ds = true → ReadsAll h vs ds as → (∀ b o its n, b ∈ as → h.get? b = some o → o.data = .seq its n → h'.get? b = some o) → ReadsAll h' vs ds as
  | [], _, _, _, r, _ => by cases r; exact .nil
  | d :: ds, _, _, n, r, k => by
    have n' : nd d = true ∧ ndAll ds = true := by simpa [ndAll] using n
    cases r with
    | cons r1 r2 =>
      exact .cons (reads_move d n'.1 r1 fun b o its n hb => k b o its n (List.mem_append_left _ hb))
        (readsAll_move ds n'.2 r2 fun b o its n hb => k b o its n (List.mem_append_right _ hb))
end
mutual
theorem reads_seq {h : Heap} : ∀ (d : D) {v : Value} {as : List Addr}, nd d = true → Reads h v d as → ∀ a ∈ as, ∃ o its n, h.get? a = some o ∧ o.data = .seq its n
  | .none, _, _, _, r => by cases r; exact fun _ q => nomatch q
  | .bool b, _, _, _, r => by cases r; exact fun _ q => nomatch q
  | .int i, _, _, _, r => by cases r; exact fun _ q => nomatch q
  | .str i, _, _, _, r => by cases r; exact fun _ q => nomatch q
  | .tuple _, _, _, n, _ => by simp [nd] at n
  | .dict _, _, _, n, _ => by simp [nd] at n
  | .list xs, _, _, n, r => by
    cases r with
    | @list a o its m _ bs ho hc hd hr =>
      exact fun b hb => (List.mem_cons.mp hb).elim (fun e => e ▸ ⟨o, _, _, ho, hd⟩) (readsAll_seq xs n hr b)
theorem readsAll_seq {h : Heap} : ∀ (ds : List D) {vs : List Value} {as : List Addr}, ndAll ds = true → ReadsAll h vs ds as → ∀ a ∈ as, ∃ o its n, h.get? a = some o ∧ o.data = .seq its n
  | [], _, _, _, r => by cases r; exact fun _ q => nomatch q
  | d :: ds, _, _, n, r => by
    have n' : nd d = true ∧ ndAll ds = true := by simpa [ndAll] using n
    cases r with
    | cons r1 r2 => exact fun b hb => (List.mem_append.mp hb).elim (reads_seq d n'.1 r1 b) (readsAll_seq ds n'.2 r2 b)
end
noncomputable def cut (h : Heap) (bad : List Addr) : Base := fun b => if b ∈ bad then none else h.get? b
section
variable {w : World} {k : Nat} {r : Ev} {F : Fx} {fm fm' : Fm} {A : Around} {ow ow' : Option Addr} {s s' : Shared} {E : Value → Shared → Prop}
noncomputable def Fx.at (F : Fx) (h : Heap) (ow : Option Addr) : Fx := { F with base := cut h (ow.toList ++ F.wr) }
theorem FR.rebase (X : FR w F fm ow s) : FR w (F.at s.heap ow) fm ow s :=
  { X with
    gb := fun h k => X.gb h fun b o e => k b o (by
      have h1 : b ∉ ow.toList ++ F.wr := fun q => by
        rcases List.mem_append.mp q with q | q
        · cases ow with
          | none => cases q
          | some a =>
            obtain rfl : b = a := by simpa using q
            rw [(X.own b rfl).1] at e; cases e
        · rw [X.wrb b q] at e; cases e
      show (if b ∈ _ then none else _) = _
      rw [if_neg h1]
      exact X.keep b o e)
    keep := fun b o e => by
      change (if b ∈ _ then none else _) = _ at e
      split at e
      · cases e
      · exact e
    wrb := fun b hb => if_pos (List.mem_append_right _ hb)
    own := fun a e => ⟨if_pos (List.mem_append_left _ (by rw [e]; simp)), (X.own a e).2⟩ }
theorem FR.back (X : FR w F fm ow s) (Y : FR w (F.at s.heap ow) fm' ow' s') : FR w F fm' ow' s' := by
  refine Y.less (base := F.base) (fun b o e => ?_) X.gb
  have h1 : b ∉ ow.toList ++ F.wr := fun q => by
    rcases List.mem_append.mp q with q | q
    · cases ow with
      | none => cases q
      | some a =>
        obtain rfl : b = a := by simpa using q
        rw [(X.own b rfl).1] at e; cases e
    · rw [X.wrb b q] at e; cases e
  show (if b ∈ _ then none else _) = _
  rw [if_neg h1]
  exact X.keep b o e
/-- an object outside what the frame turns is there afterwards as before -/
theorem FR.still (Y : FR w (F.at s.heap ow) fm' ow' s') {b : Addr} (h1 : b ∉ ow.toList) (h2 : b ∉ F.wr) : (∀ o, s.heap.get? b = some o → s'.heap.get? b = some o) ∧ (∀ o, s.heap.get? b = some o → ow' ≠ some b) := by
  have e : (F.at s.heap ow).base b = s.heap.get? b := if_neg fun q => (List.mem_append.mp q).elim h1 h2
  refine ⟨fun o ho => Y.keep b o (e.trans ho), fun o ho q => ?_⟩
  have := (Y.own b q).1
  rw [e, ho] at this
  cases this
theorem VR.move {v : Value} {d : D} (x : VR s.heap (ow.toList ++ F.av) v d) (X : FR w F fm ow s) (Y : FR w (F.at s.heap ow) fm' ow' s') : VR s'.heap (ow'.toList ++ F.av) v d := by
  obtain ⟨n, as, r, hn⟩ := x
  have hs := reads_seq d n r
  have still : ∀ b, b ∈ as → (∀ o, s.heap.get? b = some o → s'.heap.get? b = some o) ∧ (∀ o, s.heap.get? b = some o → ow' ≠ some b) := fun b hb => by
    obtain ⟨o, its, m, ho, hd⟩ := hs b hb
    refine Y.still (fun q => hn b hb (List.mem_append_left _ q)) fun q => ?_
    obtain ⟨o', ho', hd'⟩ := X.wrs b q
    rw [ho] at ho'; cases ho'
    exact hd' _ _ hd
  refine ⟨n, as, reads_move d n r fun b o its m hb ho _ => (still b hb).1 o ho, fun b hb q => ?_⟩
  obtain ⟨o, its, m, ho, hd⟩ := hs b hb
  rcases List.mem_append.mp q with q | q
  · refine (still b hb).2 o ho ?_
    cases e : ow' with
    | none => rw [e] at q; cases q
    | some a => rw [e] at q; simp at q; rw [q]
  · exact hn b hb (List.mem_append_right _ q)
/-- an iterator that stands ready -/
structure Itr (w : World) (h₀ h : Heap) (av bad : List Addr) (I : Addr) (items : List D) (fp : List Addr) (P : Nat → Value → Prop) (St : Nat → Heap → Prop) : Prop where
  new : h₀.get? I = none
  here : ∃ o, h.get? I = some o
  W : ∀ A : Around, A.handled = none → Walks PySem.Challenge.pw_wf0083_01 w A I fp [I] items.length P St
  st : St 0 h
  stI : ∀ i h, St i h → ∃ o, h.get? I = some o
  fpo : ∀ b ∈ fp, b = I ∨ (∃ o its n, h₀.get? b = some o ∧ o.data = .seq its n ∧ b ∉ bad)
  P : ∀ j v d, P j v → items[j]? = some d → VR h₀ av v d
theorem itemsOk {v : Value} {d : D} {items : List D} {av : List Addr} (h : itemsD d = some items) (rv : VR s.heap av v d) {Q : Value → Shared → Prop} {k : Nat} (C : Cx k A)
    (q : ∀ I h₁ fp P St, Keeps s.heap h₁ → Itr w s.heap h₁ av av I items fp P St → Q (.ref I) { s with heap := h₁ }) : wpAny (MM w) A (pyIter v) Q E s := by
  unfold itemsD at h
  split at h
  · next xs =>
    split at h
    · next hs =>
      cases h
      obtain ⟨a, vs, rfl, hna, hl, rvs⟩ := rv.list_inv
      refine wpAny_pyIter_list hl (q _ _ [s.heap.objs.size, a] (fun i v => vs.toArray[i]? = some v) (fun i h => h.IsListIter s.heap.objs.size a i ∧ h.IsList a vs.toArray) (Keeps.push _ _) ?_)
      have hlen := rvs.length
      obtain ⟨o, ho, hc, n, hd⟩ := id hl
      have hne : a ≠ s.heap.objs.size := fun e => by rw [e, get_size] at ho; cases ho
      refine ⟨get_size _, ⟨_, Heap.get?_push_size _ rfl⟩, fun A' hA => ?_, ⟨?_, hl.push _⟩, fun i h st => let ⟨⟨o, ho, _⟩, _⟩ := st; ⟨o, ho⟩, fun b hb => ?_, fun j v d hj hd => ?_⟩
      · have := Walks.list (prog := PySem.Challenge.pw_wf0083_01) (w := w) hA s.heap.objs.size a hne vs.toArray
        rw [show vs.toArray.size = items.length by simp [hlen]] at this
        exact this
      · exact ⟨_, Heap.get?_push_size _ rfl, rfl, rfl⟩
      · rcases List.mem_cons.mp hb with rfl | hb
        · exact .inl rfl
        · obtain rfl : b = a := by simpa using hb
          exact .inr ⟨o, _, _, ho, hd, hna⟩
      · obtain ⟨v', hv', r'⟩ := rvs.get hd
        have : vs[j]? = some v := by simpa using hj
        rw [this] at hv'; cases hv'
        exact r'
    · cases h
  · next x =>
    split at h
    · cases h
      obtain ⟨t, rfl⟩ := rv.str_inv
      have hl : (charsD x).length = x.cps.size := by simp [charsD]
      have hP : ∀ j v d, SignAt x j v → (charsD x)[j]? = some d → VR s.heap av v d := fun j v d hj hd => by
        obtain ⟨c, u, hc, rfl⟩ := hj
        have e : (charsD x)[j]? = some (.str ⟨#[c]⟩) := by
          simp only [charsD, List.getElem?_map, Array.getElem?_toList, hc, Option.map_some]
        rw [e] at hd; cases hd
        exact VR.str _ _
      cases ha : x.cps.all (· < 128)
      · refine wpAny_pyIter_wide ha (q _ _ [s.heap.objs.size] (SignAt x) (fun i h => h.IsStrIter s.heap.objs.size "str_iterator" x t i) (Keeps.push _ _) ?_)
        exact ⟨get_size _, ⟨_, Heap.get?_push_size _ rfl⟩, fun A' hA => hl ▸ Walks.strWide hA _ x t, ⟨_, Heap.get?_push_size _ rfl, rfl, rfl⟩, fun i h st => let ⟨o, ho, _⟩ := st; ⟨o, ho⟩, fun b hb => .inl (by simpa using hb), hP⟩
      · refine wpAny_pyIter_ascii ha (q _ _ [s.heap.objs.size] (SignAt x) (fun i h => h.IsStrIter s.heap.objs.size "str_ascii_iterator" x t i) (Keeps.push _ _) ?_)
        exact ⟨get_size _, ⟨_, Heap.get?_push_size _ rfl⟩, fun A' hA => hl ▸ Walks.strAscii hA _ x t, ⟨_, Heap.get?_push_size _ rfl, rfl, rfl⟩, fun i h st => let ⟨o, ho, _⟩ := st; ⟨o, ho⟩, fun b hb => .inl (by simpa using hb), hP⟩
    · cases h
  · cases h
theorem okRange_iff {a b : Int} (h : okRange a b = true) : 0 ≤ a ∧ a ≤ 1000 ∧ 0 ≤ b ∧ b ≤ 1000 := by
  unfold okRange at h
  simp only [Bool.and_eq_true, decide_eq_true_eq] at h
  exact ⟨h.1.1.1, h.1.1.2, h.1.2, h.2⟩
theorem rangeIter {a b : Int} {av : List Addr} {R : Addr} {t u v : Tok} (ok : okRange a b = true) (hr : IsRange s.heap R a b 1 t u v) {Q : Value → Shared → Prop}
    (q : ∀ I h₁ fp P St, Keeps s.heap h₁ → Itr w s.heap h₁ av av I (rangeD a b) fp P St → Q (.ref I) { s with heap := h₁ }) : wpAny (MM w) A (pyIter (.ref R)) Q E s := by
  obtain ⟨h1, h2, h3, h4⟩ := okRange_iff ok
  refine wpAny_pyIter_range hr (small_one (by omega) (by omega) (by omega) (by omega)) (q _ _ [s.heap.objs.size] (fun i v => ∃ t, v = .int (a + i * 1) t) (fun i h => IsRangeIter h s.heap.objs.size (a + (i : Nat) * 1) (((b - a).toNat : Int) - (i : Nat)) 1) (Keeps.push _ _) ?_)
  have hl : (rangeD a b).length = (b - a).toNat := by simp [rangeD]
  refine ⟨get_size _, ⟨_, Heap.get?_push_size _ rfl⟩, fun A' hA => ?_, ?_, fun i h st => ⟨_, st⟩, fun b hb => .inl (by simpa using hb), fun j v d hj hd => ?_⟩
  · rw [hl]; exact Walks.range hA _ a 1 _
  · have e : ((b - a).toNat : Int) - ((0 : Nat) : Int) = Builtin.Range.rangeSize a b 1 := by
      rw [rangeSize_one]; split <;> omega
    rw [e]
    have e2 : a + ((0 : Nat) : Int) * 1 = a := by omega
    rw [e2]
    exact Heap.get?_push_size _ rfl
  · obtain ⟨t, rfl⟩ := hj
    have : j < (b - a).toNat := by
      rw [← hl]
      exact (List.getElem?_eq_some_iff.mp hd).1
    have e : (rangeD a b)[j]? = some (.int (a + (j : Int))) := by
      simp [rangeD, this]
    rw [e] at hd; cases hd
    rw [Int.mul_one]
    exact VR.int _ _
theorem iterOk (S : Sound w k r) {it : Expr} {items : List D} (h : iterE r F.env.scope fm it = some items) (C : Cx k A) (X : FR w F fm ow s) {Q : Value → Shared → Prop}
    (q : ∀ I s₁ h₁ fp P St, Grow s s₁ → Keeps s₁.heap h₁ → Itr w s₁.heap h₁ (ow.toList ++ F.av) (ow.toList ++ F.av) I items fp P St → Q (.ref I) { s₁ with heap := h₁ }) :
    wpAny (MM w) A (eval it F.env) (fun x s₁ => wpAny (MM w) A (pyIter x) Q E s₁) E s ∧ (∀ x, foldedSetIterable it F.env x = pure x) := by
  unfold iterE at h
  split at h
  · next hr =>
    unfold isRangeCall at hr
    split at hr
    · next f p e es pos =>
      refine ⟨?_, fun x => rfl⟩
      simp only [Bool.and_eq_true, beq_iff_eq] at hr
      obtain ⟨rfl, hg⟩ := hr
      split at h
      · next ds hds =>
        have hds : eachE r F.env.scope fm (e :: es) = some ds := hds
        have hpl : plain e = true := by
          unfold eachE at hds
          split at hds
          · assumption
          · cases hds
        refine wpAny_Call_Name_kw (builtinOk X hg (nsRange _) bbRange (by decide) ?_)
        refine PyProof.Rows.callWith_type1 ?_ (starEach_cons hpl) ?_
        · refine eachOk S hds C X fun vs s₁ rvs g₁ => ?_
          unfold rangeOf at h
          split at h
          · next n =>
            split at h
            · next ok =>
              cases h
              obtain ⟨v, rfl, rv⟩ := rvs.one
              obtain ⟨t, rfl⟩ := rv.int_inv
              refine call_range_1 (rangeIter (av := ow.toList ++ F.av) (s := { s₁ with heap := _, toks := _ }) ok (IsRange.new ..) fun I h₁ fp P St kk it => ?_)
              exact q I { s₁ with heap := _, toks := _ } h₁ fp P St (g₁.trans ⟨Keeps.push _ _, GX.refl _, rfl⟩) kk it
            · cases h
          · next a n =>
            split at h
            · next ok =>
              cases h
              obtain ⟨v, us, rfl, rv, rus⟩ := rvs.cons_inv
              obtain ⟨u, rfl, ru⟩ := rus.one
              obtain ⟨t, rfl⟩ := rv.int_inv
              obtain ⟨t', rfl⟩ := ru.int_inv
              refine call_range_2 (rangeIter (av := ow.toList ++ F.av) (s := { s₁ with heap := _, toks := _ }) ok (IsRange.new ..) fun I h₁ fp P St kk it => ?_)
              exact q I { s₁ with heap := _, toks := _ } h₁ fp P St (g₁.trans ⟨Keeps.push _ _, GX.refl _, rfl⟩) kk it
            · cases h
          · cases h
        · have := noStarE r (pos := pos) (env := F.env) hds
          rw [starEach_cons hpl] at this
          exact this
      · cases h
    · cases hr
  · split at h
    · next hn =>
      split at h
      · next d hd =>
        refine ⟨S.E hd C X fun v s₁ rv g₁ => itemsOk h rv C fun I h₁ fp P St kk it => q I s₁ h₁ fp P St g₁ kk it, fun x => ?_⟩
        cases it <;> first | rfl | (exact Bool.noConfusion hn)
      · cases h
    · cases h
end
end Mine
namespace Mine
section
variable {w : World} {k : Nat} {r : Ev} {F : Fx} {fm fm' : Fm} {A : Around} {ow : Option Addr} {s : Shared} {E : Value → Shared → Prop}
theorem FlR.weak {h : Heap} {av av' : List Addr} {fl : Fl} {f : Flow} (x : FlR h av fl f) (q : ∀ a ∈ av', a ∈ av) : FlR h av' fl f := by
  cases fl <;> cases f <;> first | exact VR.weak x q | exact x
theorem runOk (S : Sound w k r) (O : OcAll F) : ∀ {stmts : List Stmt} {fm fm' : Fm} {fl : Fl}, runS r F.env.scope fm stmts = some (fm', fl) → ∀ {A : Around} {ow : Option Addr} {s : Shared} {Q : Flow → Shared → Prop} {E : Value → Shared → Prop}, Cx k A → FR w F fm ow s →
    (∀ f ow' s', FlR s'.heap F.av fl f → FR w F fm' ow' s' → FP s s' → Q f s') → wpAny (MM w) A (execs stmts F.env) Q E s
  | [], fm, fm', fl, h => by
    cases h
    intro C X q
    exact wpAny_execs_nil (q _ _ _ trivial X (FP.refl _))
  | st :: rest, fm, fm', fl, h => by
    unfold runS at h
    intro C X q
    refine wpAny_execs_cons ?_
    split at h
    · next fm1 h1 =>
      refine S.S h1 O C X fun f ow1 s1 hf X1 p1 => ?_
      cases f with
      | next => exact runOk S O h C X1 fun f ow2 s2 hf X2 p2 => q _ _ _ hf X2 (p1.trans p2)
      | brk => exact hf.elim
      | cont => exact hf.elim
      | ret v => exact hf.elim
    · next hx =>
      rw [h] at hx
      refine S.S h O C X fun f ow1 s1 hf X1 p1 => ?_
      cases f with
      | next =>
        cases fl with
        | next => exact absurd rfl (hx fm')
        | brk => exact hf.elim
        | cont => exact hf.elim
        | ret d => exact hf.elim
      | brk => exact q _ _ _ hf X1 p1
      | cont => exact q _ _ _ hf X1 p1
      | ret v => exact q _ _ _ hf X1 p1
theorem okFl {fl : Fl} {f : Flow} {h : Heap} {av : List Addr} (hf : FlR h av fl f) : (fl = .next ∧ f = .next) ∨ (fl = .brk ∧ f = .brk) ∨ (fl = .cont ∧ f = .cont) ∨ ∃ d v, fl = .ret d ∧ f = .ret v ∧ VR h av v d := by
  cases fl <;> cases f <;> simp_all [FlR]
theorem whileOk (S : Sound w k r) (O : OcAll F) {t : Expr} {body : List Stmt} {n : Nat} {fl : Fl} {pos : Pos} (h : whileS r F.env.scope t body n fm = some (fm', fl)) (C : Cx k A) (X : FR w F fm ow s) {Q : Flow → Shared → Prop}
    (q : ∀ f ow' s', FlR s'.heap F.av fl f → FR w F fm' ow' s' → FP s s' → Q f s') : wpAny (MM w) A (exec (.While t body [] pos) F.env) Q E s := by
  refine wpAny_While (codeAny_whileLoop (fun m s' => ∃ fm1 ow1, whileS r F.env.scope t body m fm1 = some (fm', fl) ∧ FR w F fm1 ow1 s' ∧ FP s s') ?_ n ⟨fm, ow, h, X, FP.refl _⟩)
  rintro m s1 ⟨fm1, ow1, h1, X1, p1⟩
  cases m with
  | zero => cases h1
  | succ m =>
    unfold whileS at h1
    split at h1
    · next ht =>
      cases h1
      refine S.T ht C X1 fun s2 g2 => ?_
      refine wpAny_execs_nil ?_
      exact q _ _ _ trivial (X1.grow g2) (p1.trans (FP.of g2))
    · next ht =>
      refine S.T ht C X1 fun s2 g2 => ?_
      rw [if_pos rfl]
      have p2 := p1.trans (FP.of g2)
      split at h1
      · next fm2 hb =>
        refine runOk S O hb C (X1.grow g2) fun f ow3 s3 hf X3 p3 => ?_
        rcases okFl hf with ⟨_, rfl⟩ | ⟨e, _⟩ | ⟨e, _⟩ | ⟨_, _, e, _⟩ <;> first | cases e | skip
        exact ⟨m, Nat.lt_succ_self _, fm2, ow3, h1, X3, p2.trans p3⟩
      · next fm2 hb =>
        refine runOk S O hb C (X1.grow g2) fun f ow3 s3 hf X3 p3 => ?_
        rcases okFl hf with ⟨e, _⟩ | ⟨e, _⟩ | ⟨_, rfl⟩ | ⟨_, _, e, _⟩ <;> first | cases e | skip
        exact ⟨m, Nat.lt_succ_self _, fm2, ow3, h1, X3, p2.trans p3⟩
      · next fm2 hb =>
        cases h1
        refine runOk S O hb C (X1.grow g2) fun f ow3 s3 hf X3 p3 => ?_
        rcases okFl hf with ⟨e, _⟩ | ⟨_, rfl⟩ | ⟨e, _⟩ | ⟨_, _, e, _⟩ <;> first | cases e | skip
        exact q _ _ _ trivial X3 (p2.trans p3)
      · next n1 n2 n3 =>
        refine runOk S O h1 C (X1.grow g2) fun f ow3 s3 hf X3 p3 => ?_
        rcases okFl hf with ⟨rfl, _⟩ | ⟨rfl, _⟩ | ⟨rfl, _⟩ | ⟨d, v, rfl, rfl, rv⟩
        · exact absurd h1 (n1 _)
        · exact absurd h1 (n3 _)
        · exact absurd h1 (n2 _)
        · exact q _ _ _ rv X3 (p2.trans p3)
    · cases h1
/-- one turn's store into the target, for a name -/
theorem putName {x : Str} {px : Pos} {v : Value} {d : D} (O : OcAll F) (hx : F.env.scope.names.lookup x = some .local ∨ F.env.scope.names.lookup x = some .cell) (X : FR w F fm ow s) (rv : VR s.heap (ow.toList ++ F.av) v d) {Q : Unit → Shared → Prop}
    (q : ∀ s', FR w F (setB x (.v d) fm) ow s' → FP s s' → Q () s') : wpAny (MM w) A (assign (.Name x px) F.env v) Q E s := by
  refine wpAny_assign_Name (stB X ?_ (b := .v d) rv fun h' t X' => q _ X' ⟨GX.refl _, rfl⟩)
  rcases hx with hx | hx
  · exact .inl hx
  · exact .inr (O x hx)
theorem forOk (S : Sound w k r) (O : OcAll F) {x : Str} {px : Pos} {body orelse : List Stmt} {items : List D} {fl : Fl} {I : Addr} {fp : List Addr} {P : Nat → Value → Prop} {St : Nat → Heap → Prop} {h₁ : Heap}
    (hx : F.env.scope.names.lookup x = some .local ∨ F.env.scope.names.lookup x = some .cell)
    (h : forS r F.env.scope (fun d fm => setB x (.v d) fm) body orelse fm items = some (fm', fl)) (C : Cx k A) (X : FR w F fm ow s) (kk : Keeps s.heap h₁) (it : Itr w s.heap h₁ (ow.toList ++ F.av) (ow.toList ++ F.av) I items fp P St) {Q : Flow → Shared → Prop}
    (q : ∀ f ow' s', FlR s'.heap F.av fl f → FR w F fm' ow' s' → FP s s' → Q f s') :
    codeAny (MM w) A (.forLoop (.Name x px) (.ref I) body orelse F.env) (fun r s' => match r with | .ok f => Q f s' | .error e => cameBackBy (MM w) A F.env E e s') { s with heap := h₁ } := by
  have W := it.W A C.handled
  have X0 : FR w (F.add I) fm ow { s with heap := h₁ } := X.addAv it.new kk it.here
  have hbI : F.base I = none := by
    cases e : F.base I with
    | none => rfl
    | some o => have := X.keep _ _ e; rw [it.new] at this; cases this
  -- what stands at a turn
  let J : Nat → Fm → Option Addr → Shared → Prop := fun i fm1 ow1 s' => FR w (F.add I) fm1 ow1 s' ∧ St i s'.heap ∧ FP s s' ∧ (∀ b ∈ fp, b = I ∨ (b ∉ F.wr ∧ b ∉ ow1.toList ∧ ∃ o, s'.heap.get? b = some o)) ∧
    (∀ j v d, P j v → items[j]? = some d → VR s'.heap (ow1.toList ++ (F.add I).av) v d)
  have hacs : ∀ y, y ∈ F.ac → y ∈ F.av := fun y hy => (X.acs y hy).1
  have done : ∀ {ow1 s1 f}, FlR s1.heap F.av fl f → FR w (F.add I) fm' ow1 s1 → FP s s1 → Q f s1 := fun hf X1 p1 => q _ _ _ hf (X1.dropAv hacs) p1
  refine codeAny_forLoop (fun n s' => ∃ i fm1 ow1, n = items.length - i ∧ i ≤ items.length ∧ forS r F.env.scope (fun d fm => setB x (.v d) fm) body orelse fm1 (items.drop i) = some (fm', fl) ∧ J i fm1 ow1 s') ?_ items.length ⟨0, fm, ow, rfl, Nat.zero_le _, h, X0, it.st, ⟨GX.refl _, rfl⟩, ?_, ?_⟩
  · rintro n s1 ⟨i, fm1, ow1, rfl, hi, h1, X1, st1, p1, f1, v1⟩
    -- the iterator turns
    have turn : ∀ {h2 : Heap} {tk : Nat}, (∀ b o, b ∉ [I] → s1.heap.get? b = some o → h2.get? b = some o) → (∃ o, h2.get? I = some o) → FR w (F.add I) fm1 ow1 { s1 with heap := h2, toks := tk } := fun {h2 tk} k2 e2 =>
      X1.updAc (x := I) (s' := { s1 with heap := h2, toks := tk }) (.head _) hbI (fun b o hb e => k2 b o (by simpa using hb) e) e2
    by_cases hlt : i < items.length
    · have hd : items[i]? = some items[i] := List.getElem?_eq_getElem hlt
      rw [List.drop_eq_getElem_cons hlt] at h1
      generalize items[i] = d at hd h1
      refine W.item i s1 _ _ hlt st1 fun v h2 tk hP st2 k2 => ?_
      have X2 := turn (tk := tk) k2 (it.stI _ _ st2)
      have kI : ∀ b o, b ≠ I → s1.heap.get? b = some o → h2.get? b = some o := fun b o hb e => k2 b o (by simpa using hb) e
      have v2 : ∀ j v d, P j v → items[j]? = some d → VR h2 (ow1.toList ++ (F.add I).av) v d := fun j v d hj hd => (v1 j v d hj hd).upd kI (off_av (List.mem_append_right _ (.head _)))
      have hIow : I ∉ ow1.toList := fun z => by
        cases e : ow1 with
        | none => rw [e] at z; cases z
        | some a =>
          rw [e] at z
          obtain rfl : I = a := by simpa using z
          exact (X2.own I e).2.1 (.head _)
      have hIwr : I ∉ F.wr := (X2.acs I (.head _)).2.2.1
      unfold forS at h1
      have O2 : OcAll ((F.add I).at h2 ow1) := O
      refine putName (F := (F.add I).at h2 ow1) O2 hx X2.rebase (v2 i v d hP hd) fun s3 X3 p3 => ?_
      have p3' : FP s s3 := p1.trans ⟨p3.gens, p3.os⟩
      -- what stands after a turn
      have after : ∀ {fm4 ow4 s4}, FR w ((F.add I).at h2 ow1) fm4 ow4 s4 → FP s s4 → J (i + 1) fm4 ow4 s4 := fun {fm4 ow4 s4} X4 p4 => by
        refine ⟨X2.back X4, W.frame _ _ _ st2 fun b hb o ho => ?_, p4, fun b hb => ?_, fun j v d hj hd => VR.move (v2 j v d hj hd) X2 X4⟩
        · rcases f1 b hb with rfl | ⟨n1, n2, _⟩
          · exact (FR.still (s := { s1 with heap := h2, toks := tk }) X4 hIow hIwr).1 o ho
          · exact (FR.still (s := { s1 with heap := h2, toks := tk }) X4 n2 n1).1 o ho
        · by_cases hbI : b = I
          · exact .inl hbI
          · rcases f1 b hb with rfl | ⟨n1, n2, o, ho⟩
            · exact absurd rfl hbI
            · have st4 := FR.still (s := { s1 with heap := h2, toks := tk }) X4 n2 n1
              have ho2 := kI b o hbI ho
              refine .inr ⟨n1, fun z => st4.2 o ho2 ?_, o, st4.1 o ho2⟩
              cases e : ow4 with
              | none => rw [e] at z; cases z
              | some a => rw [e] at z; simp at z; rw [z]
      split at h1
      · next fm2 hb =>
        refine runOk (F := (F.add I).at h2 ow1) S O2 hb C X3 fun f ow4 s4 hf X4 p4 => ?_
        rcases okFl hf with ⟨_, rfl⟩ | ⟨e, _⟩ | ⟨e, _⟩ | ⟨_, _, e, _⟩ <;> first | cases e | skip
        exact ⟨items.length - (i + 1), by omega, i + 1, _, ow4, rfl, hlt, h1, after X4 (p3'.trans p4)⟩
      · next fm2 hb =>
        refine runOk (F := (F.add I).at h2 ow1) S O2 hb C X3 fun f ow4 s4 hf X4 p4 => ?_
        rcases okFl hf with ⟨e, _⟩ | ⟨e, _⟩ | ⟨_, rfl⟩ | ⟨_, _, e, _⟩ <;> first | cases e | skip
        exact ⟨items.length - (i + 1), by omega, i + 1, _, ow4, rfl, hlt, h1, after X4 (p3'.trans p4)⟩
      · next fm2 hb =>
        cases h1
        refine runOk (F := (F.add I).at h2 ow1) S O2 hb C X3 fun f ow4 s4 hf X4 p4 => ?_
        rcases okFl hf with ⟨e, _⟩ | ⟨_, rfl⟩ | ⟨e, _⟩ | ⟨_, _, e, _⟩ <;> first | cases e | skip
        exact done (f := .next) trivial (X2.back X4) (p3'.trans p4)
      · next n1 n2 n3 =>
        refine runOk (F := (F.add I).at h2 ow1) S O2 h1 C X3 fun f ow4 s4 hf X4 p4 => ?_
        rcases okFl hf with ⟨rfl, _⟩ | ⟨rfl, _⟩ | ⟨rfl, _⟩ | ⟨d', v', rfl, rfl, rv⟩
        · exact absurd h1 (n1 _)
        · exact absurd h1 (n3 _)
        · exact absurd h1 (n2 _)
        · exact done (f := .ret v') (VR.weak rv fun a ha => .tail _ ha) (X2.back X4) (p3'.trans p4)
    · have hle : i = items.length := by omega
      subst hle
      rw [List.drop_length] at h1
      unfold forS at h1
      refine W.done s1 _ _ st1 fun h2 tk k2 => ?_
      have kI : ∀ b o, b ≠ I → s1.heap.get? b = some o → h2.get? b = some o := fun b o hb e => k2 b o (by simpa using hb) e
      have hnI : I ∉ F.av := fun z => by
        obtain ⟨o, ho⟩ := X.lives I z
        rw [it.new] at ho; cases ho
      have X2 : FR w F fm1 ow1 { s1 with heap := h2, toks := tk } := X1.updDrop hbI hacs (fun a ha => by
        obtain ⟨o, ho⟩ := X1.lives a (.tail _ ha)
        exact ⟨o, kI a o (fun e => hnI (e ▸ ha)) ho⟩) kI
      exact runOk S O h1 C X2 fun f ow4 s4 hf X4 p4 => q _ _ _ hf X4 (p1.trans ⟨p4.gens, p4.os⟩)
  · intro b hb
    rcases it.fpo b hb with rfl | ⟨o, its, n, ho, hd, hn⟩
    · exact .inl rfl
    · refine .inr ⟨fun q => ?_, fun q => hn (List.mem_append_left _ q), o, kk _ _ ho⟩
      obtain ⟨o', ho', hd'⟩ := X.wrs b q
      rw [ho] at ho'; cases ho'
      exact hd' _ _ hd
  · intro j v d hj hd
    have r0 := (it.P j v d hj hd)
    have := (r0.avoid_new it.new).keeps kk
    refine this.weak fun a ha => ?_
    rcases List.mem_append.mp ha with ha | ha
    · exact .tail _ (List.mem_append_left _ ha)
    · rcases List.mem_cons.mp ha with rfl | ha
      · exact .head _
      · exact .tail _ (List.mem_append_right _ ha)
end
end Mine
namespace Mine
section
variable {w : World} {k : Nat} {r : Ev} {F : Fx} {fm fm' : Fm} {A : Around} {ow : Option Addr} {s : Shared} {E : Value → Shared → Prop}
theorem draw_list {it t : Addr} {items : Array Value} (hne : t ≠ it) : ∀ (n i : Nat) (s : Shared) (Q : List Value → Shared → Prop), s.heap.IsListIter it t i → s.heap.IsList t items → i + n ≤ items.size →
    (∀ h', h'.IsListIter it t (i + n) → Heap.SameBut it s.heap h' → Q ((items.toList.drop i).take n) { s with heap := h' }) → wpAny (MM w) A (draw (.ref it) n) Q E s
  | 0, i, s, Q, hit, _, _, hQ => by
    show wpAny _ _ (pure []) Q E s
    exact wpAny_pure (by simpa using hQ s.heap hit (Heap.SameBut.refl ..))
  | n + 1, i, s, Q, hit, ht, hle, hQ => by
    have hlt : i < items.size := by omega
    show wpAny _ _ (pyNext (.ref it) >>= _) Q E s
    refine wpAny_bind (wpAny_pyNext_list_item hit ht (x := items[i]) (by simp [hlt]) fun h₁ hit₁ hs₁ => ?_)
    refine wpAny_bind (wpAny_holding (draw_list hne n (i + 1) _ _ hit₁ (ht.extBut hs₁.extBut hne) (by omega) fun h₂ hit₂ hs₂ => wpAny_pure ?_))
    have hd : items.toList.drop i = items[i] :: items.toList.drop (i + 1) := by simp [List.drop_eq_getElem_cons, hlt]
    have := hQ h₂ (by rw [show i + (n + 1) = i + 1 + n by omega]; exact hit₂) (hs₁.trans hs₂)
    rw [hd, List.take_succ_cons] at this
    exact this
theorem unpackItems_list {t : Addr} {items : Array Value} {Q : List Value → Shared → Prop} (hh : A.handled = none) (ht : s.heap.IsList t items)
    (hQ : ∀ h', Heap.ExtBut s.heap.objs.size s.heap h' → Q items.toList { s with heap := h' }) : wpAny (MM w) A (unpackItems (.ref t) items.size none) Q E s := by
  have hlt : t ≠ s.heap.objs.size := by obtain ⟨o, ho, _⟩ := ht; exact Nat.ne_of_lt (Heap.lt_size ho)
  unfold unpackItems
  refine wpAny_bind ?_
  · unfold notIterableAtAll
    refine wpAny_bind (wpAny_specialOf ht.typeIs PySem.F.slot_list_iter.lookup ?_)
    refine wpAny_pure ?_
    simp only [Bool.false_eq_true, if_false]
    refine wpAny_bind (wpAny_holding (wpAny_pyIter_list ht ?_))
    refine wpAny_bind (wpAny_holding (draw_list hlt items.size 0 _ _ ⟨_, Heap.get?_push_size _ rfl, rfl, rfl⟩ (ht.push _) (by omega) fun h₁ hit₁ hs₁ => ?_))
    have hall : List.take items.size (List.drop 0 items.toList) = items.toList := by
      rw [List.drop_zero]; exact List.take_of_length_le (by simp)
    rw [hall]
    rw [if_neg (by simp)]
    have ht₁ : h₁.IsList t items := (ht.push _).extBut hs₁.extBut hlt
    refine wpAny_bind (wpAny_holding (wpAny_pyNext_list_end hh hit₁ ht₁ (by simp) fun h₂ he₂ => ?_))
    simp only [Option.isSome_none, Bool.false_eq_true, if_false]
    refine wpAny_pure (hQ h₂ fun b o hb e => he₂ b o hb (hs₁.extBut b o hb (Heap.get?_push_of_some _ e)))
theorem extBut_keeps {h h' : Heap} (x : Heap.ExtBut h.objs.size h h') : Keeps h h' := fun b o e => x b o (fun q => by rw [q, get_size] at e; cases e) e
noncomputable def CompUseOk (w : World) (k : Nat) (r : Ev) : Prop := ∀ {F : Fx} {fm : Fm} {elt : Expr} {gens : List Comprehension} {scope : Scope} {pos px spos : Pos} {x : Str} {d : D}, compE r F.env.scope fm elt gens scope = some d → useOk F.env.scope x px pos scope = true →
  ∀ {A : Around} {ow : Option Addr} {s : Shared} {Q : Flow → Shared → Prop} {E : Value → Shared → Prop}, Cx (k + 1) A → FR w F fm ow s → (∀ s', FR w F (setB x (.v d) fm) ow s' → FP s s' → Q .next s') → wpAny (MM w) A (exec (.Assign [.Name x px] (.ListComp elt gens scope pos) spos) F.env) Q E s
noncomputable def GenOk (w : World) (k : Nat) (r : Ev) : Prop := ∀ {F : Fx} {fm fm' : Fm} {x y : Str} {p1 p2 p3 p4 p5 p6 : Pos} {k1 : Nat} {e : Expr} {body : List Stmt} {str : Str} {fl : Fl}, OcAll F → isGlob F.env.scope (Str.ofString "_iter_escaped_chars") = true →
  F.env.scope.names.lookup x = some .local → F.env.scope.names.lookup y = some .local → x ≠ y → plain e = true → r.E F.env.scope fm e = some (.str str) → small str.length = true →
  forS r F.env.scope (fun (p : Nat × Str) fm => setB y (.v (.str p.2)) (setB x (.v (.int p.1)) fm)) body [] fm (escGo 0 false str.cps.toList) = some (fm', fl) →
  PS w F fm (k + 1) (.For (.Tuple [.Name x p1, .Name y p2] k1 p3) (.Call (.Name (Str.ofString "_iter_escaped_chars") p4) [e] [] p5) body [] p6) fm' fl
theorem noSwap {value : Expr} {x : Str} {px pos : Pos} {env : Env} (h1 : ∀ a b c d, value ≠ .ListComp a b c d) (h2 : ∀ a b c d, value ≠ .SetComp a b c d) (h3 : ∀ a b c d e, value ≠ .DictComp a b c d e) :
    swapsWith value (some (.Name x px)) pos.line env = pure false := by
  cases value <;> first | rfl | exact absurd rfl (h1 _ _ _ _) | exact absurd rfl (h2 _ _ _ _) | exact absurd rfl (h3 _ _ _ _ _)
theorem hxOr {x : Str} {F : Fx} (O : OcAll F) (h : (F.env.scope.names.lookup x == some NameKind.local || F.env.scope.names.lookup x == some NameKind.cell) = true) : F.env.kindOf x = some .local ∨ x ∈ F.oc := by
  simp only [Bool.or_eq_true, beq_iff_eq] at h
  exact h.imp id fun q => O x q
/-- a new list that grows -/
theorem FR.newOwn {a : Addr} {h₁ : Heap} {t : Nat} (X : FR w F fm ow s) (no : noOwn fm = true) (ha : s.heap.get? a = none) (kk : Keeps s.heap h₁) (hl : OwnL h₁ a []) : FR w F fm (some a) { s with heap := h₁, toks := t } := by
  have Y : FR w F fm ow { s with heap := h₁, toks := t } := X.keeps kk
  have nol : ∀ y xs, fm.lookup y ≠ some (.own xs) := by
    intro y xs
    clear X Y
    induction fm with
    | nil => simp [List.lookup]
    | cons p fm ih =>
      obtain ⟨z, b⟩ := p
      rw [List.lookup_cons]
      cases b with
      | own ys => simp [noOwn] at no
      | v d =>
        have no' : noOwn fm = true := no
        split
        · exact fun e => by cases e
        · exact ih no'
      | ro ys =>
        have no' : noOwn fm = true := no
        split
        · exact fun e => by cases e
        · exact ih no'
  have up : ∀ {y b v}, fm.lookup y = some b → BR s.heap F.av F.ac ow b v → BR h₁ F.av F.ac (some a) b v := fun {y b v} hy z => by
    cases b with
    | v d =>
      refine ((VR.avoid_new z ha).keeps kk).weak fun b hb => ?_
      rcases List.mem_append.mp hb with hb | hb
      · obtain rfl : b = a := by simpa using hb
        exact .head _
      · exact .tail _ (List.mem_append_right _ hb)
    | own xs => exact absurd hy (nol y xs)
    | ro xs =>
      obtain ⟨l, vs, rfl, n1, n2, hl', rv⟩ := z
      refine ⟨l, vs, rfl, n1, ?_, isList_at hl' fun o ho => kk _ _ ho, ((rv.avoid_new ha).keeps kk).weak fun b hb => ?_⟩
      · intro q
        cases q
        obtain ⟨o, ho, _⟩ := hl'
        rw [ha] at ho; cases ho
      · rcases List.mem_append.mp hb with hb | hb
        · obtain rfl : b = a := by simpa using hb
          exact .head _
        · exact .tail _ (List.mem_append_right _ hb)
  obtain ⟨m, hm, hr⟩ := X.nsL
  exact { Y with
    nsL := ⟨m, hm.keeps kk, fun y c e q => let ⟨u, p, z⟩ := hr y c e q; ⟨u, p, up e z⟩⟩
    cel := fun y c e q => let ⟨b, u, p, z, t⟩ := X.cel y c e q; ⟨b, u, p, z.keeps kk, up e t⟩
    own := fun b e => by
      cases e
      refine ⟨?_, fun q => ?_, [], hl⟩
      · cases e : F.base a with
        | none => rfl
        | some o' => have := X.keep _ _ e; rw [ha] at this; cases this
      · obtain ⟨o', ho'⟩ := X.lives a q
        rw [ha] at ho'; cases ho' }
theorem lookup_mem {x : Str} {b : B} : ∀ {fm : Fm}, fm.lookup x = some b → (x, b) ∈ fm
  | [], h => by cases h
  | (y, c) :: r, h => by
    rw [List.lookup_cons] at h
    split at h
    · next e => cases h; have := eq_of_beq e; subst this; exact .head _
    · exact .tail _ (lookup_mem h)
theorem onlyOwn_mem {x y : Str} {b : B} : ∀ {fm : Fm}, onlyOwn x fm = true → (y, b) ∈ fm → y ≠ x → ∀ xs, b ≠ .own xs
  | [], _, h => by cases h
  | (z, c) :: r, h, hm => by
    unfold onlyOwn at h
    simp only [Bool.and_eq_true, Bool.or_eq_true, beq_iff_eq] at h
    intro hy xs e
    rcases List.mem_cons.mp hm with q | q
    · cases q
      rcases h.1 with q | q
      · exact hy q
      · subst e; cases q
    · exact onlyOwn_mem h.2 q hy xs e
/-- the list that grows, grown -/
theorem FR.append {x : Str} {a : Addr} {xs : List D} {vs : List Value} {d : D} {v : Value} {h₁ : Heap} (X : FR w F fm (some a) s) (oo : onlyOwn x fm = true) (hx : fm.lookup x = some (.own xs))
    (hl : OwnL s.heap a vs) (rvs : VRs s.heap (a :: F.av) vs xs) (rv : VR s.heap (a :: F.av) v d) (same : Heap.SameBut a s.heap h₁) (hl' : h₁.PlainList a (vs.toArray.push v)) : FR w F (setB x (.own (xs ++ [d])) fm) (some a) { s with heap := h₁ } := by
  have k := sameBut_keeps same
  obtain ⟨m, hm, hr⟩ := X.nsL
  have hown : OwnL h₁ a (vs ++ [v]) := OwnL.of_plain (by simpa using hl')
  have newB : BR h₁ F.av F.ac (some a) (.own (xs ++ [d])) (.ref a) :=
    ⟨a, vs ++ [v], rfl, rfl, hown, (rvs.upd k (off_av (.head _))).append (VRs.cons (rv.upd k (off_av (.head _))) VRs.nil)⟩
  have up : ∀ {y b u}, fm.lookup y = some b → y ≠ x → BR s.heap F.av F.ac (some a) b u → BR h₁ F.av F.ac (some a) b u := fun {y b u} hy hyx z => by
    cases b with
    | v d => exact VR.upd z k (off_av (.head _))
    | own ys => exact absurd rfl (onlyOwn_mem oo (lookup_mem hy) hyx ys)
    | ro ys =>
      obtain ⟨l, us, rfl, n1, n2, hl', ru⟩ := z
      exact ⟨l, us, rfl, n1, n2, isList_at hl' fun o ho => k l o (fun q => n2 (by rw [q])) ho, ru.upd k (off_av (.head _))⟩
  have valx : ∀ {b u}, fm.lookup x = some b → BR s.heap F.av F.ac (some a) b u → u = .ref a := fun {b u} hy z => by
    rw [hx] at hy; cases hy
    obtain ⟨a', us, rfl, e, _⟩ := z
    cases e; rfl
  exact { X with
    keep := fun c o e => k c o (fun q => by rw [q, (X.own a rfl).1] at e; cases e) (X.keep c o e)
    nsL := ⟨m, hm.sameBut same (Ne.symm (ns_ne_own hm hl)), fun y c e q => by
      rw [lookup_setB] at e
      by_cases hy : y = x
      · rw [if_pos hy] at e; cases e
        obtain ⟨u, p, z⟩ := hr x _ hx (hy ▸ q)
        exact ⟨.ref a, by rw [hy, p, valx hx z], newB⟩
      · rw [if_neg hy] at e
        obtain ⟨u, p, z⟩ := hr y c e q
        exact ⟨u, p, up e hy z⟩⟩
    cel := fun y c e q => by
      rw [lookup_setB] at e
      by_cases hy : y = x
      · rw [if_pos hy] at e; cases e
        obtain ⟨b, u, p, z, t⟩ := X.cel x _ hx (hy ▸ q)
        refine ⟨b, .ref a, hy ▸ p, ?_, newB⟩
        rw [← valx hx t]
        exact z.sameBut same (Ne.symm (cell_ne_own z hl))
      · rw [if_neg hy] at e
        obtain ⟨b, u, p, z, t⟩ := X.cel y c e q
        exact ⟨b, u, p, z.sameBut same (Ne.symm (cell_ne_own z hl)), up e hy t⟩
    ocel := fun y e => let ⟨p, c, u, q, z, t⟩ := X.ocel y e; ⟨p, c, u, q, z.sameBut same (Ne.symm (cell_ne_own z hl)), t⟩
    celE := fun y c e => by
      obtain ⟨o, ho⟩ := X.celE y c e
      by_cases q : c = a
      · obtain ⟨o', _, ho', _⟩ := hown; exact ⟨o', q ▸ ho'⟩
      · exact ⟨o, k c o q ho⟩
    own := fun b e => by cases e; exact ⟨(X.own a rfl).1, (X.own a rfl).2.1, _, hown⟩
    lives := X.lives.upd k (let ⟨o, _, ho, _⟩ := hown; ⟨o, ho⟩)
    wrs := fun b hb => by
      obtain ⟨o, ho, hd⟩ := X.wrs b hb
      refine ⟨o, k b o (fun q => ?_) ho, hd⟩
      obtain ⟨o', n, ho', _, _, hd'⟩ := hl
      rw [q, ho'] at ho; cases ho
      exact hd _ _ hd' }
end
end Mine
namespace Mine
section
variable {w : World} {k : Nat} {r : Ev} {F : Fx} {fm fm' : Fm}
theorem kindOf_def {x : Str} {kd : NameKind} (h : (F.env.scope.names.lookup x == some kd) = true) : F.env.kindOf x = some kd := eq_of_beq h
theorem retOk (S : Sound w k r) {e : Expr} {d : D} (h : retE r F.env.scope fm e = some d) {A : Around} {ow : Option Addr} {s : Shared} {Q : Value → Shared → Prop} {E : Value → Shared → Prop} (C : Cx k A) (X : FR w F fm ow s)
    (q : ∀ v s', VR s'.heap F.av v d → Grow s s' → Q v s') : wpAny (MM w) A (eval e F.env) Q E s := by
  have q' : ∀ v s', VR s'.heap (ow.toList ++ F.av) v d → Grow s s' → Q v s' := fun v s' rv g => q v s' (rv.weak fun a ha => List.mem_append_right _ ha) g
  unfold retE at h
  split at h
  · split at h
    · next hb =>
      split at h
      · next hv =>
        cases h
        refine ldB X hv hb fun v rv => ?_
        obtain ⟨a, vs, rfl, e, l, r⟩ := rv
        exact q _ _ (VR.list_of l.isList (X.own a e).2.1 (r.weak fun b hb => .tail _ hb)) (Grow.refl _)
      · cases h
    · exact S.E h C X q'
  · exact S.E h C X q'
theorem asgOk (S : Sound w k r) (HU : CompUseOk w k r) {fl : Fl} {x : Str} {px pos : Pos} {value : Expr} (h : evAsg r F.env.scope fm x px value = some (fm', fl)) (O : OcAll F) : PS w F fm (k + 1) (.Assign [.Name x px] value pos) fm' fl := by
  intro A ow s Q E C1 X q
  have C := C1.less
  unfold evAsg at h
  split at h
  · next hx =>
    simp only [Bool.and_eq_true] at hx
    have hx' := hxOr O hx.1
    have gen : ∀ {d}, r.E F.env.scope fm value = some d → some (setB x (.v d) fm, Fl.next) = some (fm', fl) → swapsWith value (some (.Name x px)) pos.line F.env = pure false →
        wpAny (MM w) A (exec (.Assign [.Name x px] value pos) F.env) Q E s := fun {d} hd h hs => by
      cases h
      refine wpAny_Assign_Name (S.E hd C X fun v s₁ rv g₁ => ?_) hs
      exact stB (X.grow g₁) hx' (b := .v d) rv fun h' t X' => q _ _ _ trivial X' ((FP.of g₁).trans ⟨GX.refl _, rfl⟩)
    split at h
    · next p =>
      split at h
      · split at h
        · next hno =>
          cases h
          refine wpAny_Assign_Name (wpAny_List (wpAny_items_nil ⟨by decide, ?_⟩)) rfl
          have X1 := FR.newOwn (t := s.toks) X hno (get_size _) (Keeps.push s.heap { cls := .type "list", data := .seq ([] : List Value).toArray }) (OwnL.of_plain ⟨0, Heap.get?_push_size _ rfl⟩)
          refine stB X1 hx' (b := .own []) ⟨_, [], rfl, rfl, OwnL.of_plain ⟨0, Heap.get?_push_size _ rfl⟩, VRs.nil⟩ fun h' t X' => ?_
          exact q _ _ _ trivial X' ⟨GX.refl _, rfl⟩
        · cases h
      · split at h
        · next d hd => exact gen hd h rfl
        · cases h
    · next elt gens scope p =>
      split at h
      · next hu =>
        split at h
        · next d hd =>
          cases h
          exact HU hd hu C1 X fun s' X' p' => q _ _ _ trivial X' p'
        · cases h
      · cases h
    · cases h
    · cases h
    · next n1 n2 n3 n4 =>
      split at h
      · next d hd => exact gen hd h (noSwap n2 n3 n4)
      · cases h
  · cases h
theorem assignEach3 {x y z : Str} {p1 p2 p3 : Pos} {env : Env} : assignEach [.Name x p1, .Name y p2, .Name z p3] env = [(false, assign (.Name x p1) env), (false, assign (.Name y p2) env), (false, assign (.Name z p3) env)] := by
  simp only [assignEach]
theorem assign3 {A : Around} {ow : Option Addr} {s : Shared} {Q : Unit → Shared → Prop} {E : Value → Shared → Prop} {x y z : Str} {p1 p2 p3 : Pos} {v1 v2 v3 : Value} {a b c : D} (X : FR w F fm ow s) (h1 : F.env.kindOf x = some .local) (h2 : F.env.kindOf y = some .local) (h3 : F.env.kindOf z = some .local)
    (r1 : VR s.heap (ow.toList ++ F.av) v1 a) (r2 : VR s.heap (ow.toList ++ F.av) v2 b) (r3 : VR s.heap (ow.toList ++ F.av) v3 c)
    (q : ∀ s', FR w F (setB z (.v c) (setB y (.v b) (setB x (.v a) fm))) ow s' → FP s s' → Q () s') :
    wpAny (MM w) A (assignInOrder [assign (.Name x p1) F.env, assign (.Name y p2) F.env, assign (.Name z p3) F.env] [v1, v2, v3]) Q E s := by
  refine wpAny_assignInOrder_more (wpAny_assign_Name (stB (F := F.at s.heap ow) X.rebase (.inl h1) (b := .v a) r1 fun h3 t3 X3 => ?_))
  refine wpAny_assignInOrder_more (wpAny_assign_Name (stB (F := F.at s.heap ow) X3 (.inl h2) (b := .v b) (VR.move (F := F) r2 X X3) fun h4 t4 X4 => ?_))
  refine wpAny_assignInOrder_more (wpAny_assign_Name (stB (F := F.at s.heap ow) X4 (.inl ‹_›) (b := .v c) (VR.move (F := F) r3 X X4) fun h5 t5 X5 => ?_))
  exact wpAny_assignInOrder_none (q _ (FR.back X X5) ⟨GX.refl _, rfl⟩)
theorem tupOk (S : Sound w k r)  {fl : Fl} {x y z : Str} {p1 p2 p3 p4 cp pos : Pos} {k1 : Nat} {f : Expr} {args : List Expr} {kw : List Keyword} (h : evTup r F.env.scope fm x y z (.Call f args kw cp) = some (fm', fl)) (O : OcAll F) : PS w F fm (k + 1) (.Assign [.Tuple [.Name x p1, .Name y p2, .Name z p3] k1 p4] (.Call f args kw cp) pos) fm' fl := by
  intro A ow s Q E C1 X q
  have C := C1.less
  unfold evTup at h
  split at h
  · next hx =>
    simp only [Bool.and_eq_true] at hx
    obtain ⟨⟨⟨⟨⟨h1, h2⟩, h3⟩, _⟩, _⟩, _⟩ := hx
    split at h
    · next a b c hd =>
      cases h
      refine Assign_Tuple (S.E hd C X fun v s₁ rv g₁ => ?_) rfl rfl
      have X₁ := X.grow g₁
      obtain ⟨l, vs, rfl, hn, hl, rvs⟩ := rv.list_inv
      obtain ⟨v1, vs, rfl, rv1, rvs⟩ := rvs.cons_inv
      obtain ⟨v2, vs, rfl, rv2, rvs⟩ := rvs.cons_inv
      obtain ⟨v3, rfl, rv3⟩ := rvs.one
      rw [arm_assign_Tuple]
      refine wpAny_bind (wpAny_standAt ?_)
      rw [assignEach3]
      show wpAny (MM w) A (do assignInOrder [assign (.Name x p1) F.env, assign (.Name y p2) F.env, assign (.Name z p3) F.env] (← holding [.ref l] (unpackItems (.ref l) [v1, v2, v3].toArray.size none))) _ E s₁
      refine wpAny_bind (wpAny_holding (unpackItems_list C.handled hl fun h₂ he => ?_))
      have kk := extBut_keeps he
      have X2 : FR w F fm ow { s₁ with heap := h₂ } := X₁.keeps kk
      exact assign3 X2 (kindOf_def h1) (kindOf_def h2) (kindOf_def h3) (rv1.keeps kk) (rv2.keeps kk) (rv3.keeps kk) fun s' X' p' => q _ _ _ trivial X' ((FP.of g₁).trans ⟨p'.gens, p'.os⟩)
    · cases h
  · cases h
theorem augOk (S : Sound w k r)  {fl : Fl} {x : Str} {p1 pos : Pos} {op : Operator} {e : Expr} (h : evAug r F.env.scope fm x op e = some (fm', fl)) (O : OcAll F) : PS w F fm (k + 1) (.AugAssign (.Name x p1) op e pos) fm' fl := by
  intro A ow s Q E C1 X q
  have C := C1.less
  unfold evAug at h
  split at h
  · next hx =>
    split at h
    · next a hb =>
      split at h
      · next b hb2 =>
        split at h
        · cases h
          have hk := kindOf_def hx
          refine wpAny_AugAssign_Name ?_
          obtain ⟨m, hm, hr⟩ := X.nsL
          obtain ⟨v, e, rv⟩ := hr x _ hb hk
          refine wpAny_loadName_local X.hk hk hm e ?_
          refine S.E hb2 C X fun u s₁ ru g₁ => ?_
          obtain ⟨t, rfl⟩ := VR.int_inv rv
          obtain ⟨t', rfl⟩ := ru.int_inv
          refine PyProof.Rows.ixor_int ?_
          have g2 := g₁.trans (Grow.tok s₁ (s₁.toks + 1))
          refine stB (X.grow g2) (.inl hk) (b := .v _) (VR.int _ _) fun h' t X' => ?_
          exact q _ _ _ trivial X' ((FP.of g2).trans ⟨GX.refl _, rfl⟩)
        · cases h
      · cases h
    · cases h
  · cases h
theorem appOk (S : Sound w k r)  {fl : Fl} {x : Str} {p1 pos p3 ap : Pos} {m : Str} {e : Expr} (h : evApp r F.env.scope fm x m ap pos e = some (fm', fl)) (O : OcAll F) : PS w F fm (k + 1) (.Expr (.Call (.Attribute (.Name x p1) m ap) [e] [] pos) p3) fm' fl := by
  intro A ow s Q E C1 X q
  have C := C1.less
  unfold evApp at h
  split at h
  · next hc =>
    simp only [Bool.and_eq_true, beq_iff_eq] at hc
    obtain ⟨⟨⟨⟨rfl, hv⟩, hl⟩, hp⟩, oo⟩ := hc
    split at h
    · next xs hb =>
      split at h
      · next d hd =>
        split at h
        · next hs =>
          cases h
          refine wpAny_Expr (Call_method1 rfl (by rw [starEach_cons hp]; rfl) (beq_iff_eq.mpr hl) (ldB X hv hb fun v rv => ?_)) (by unfold interactive; rw [X.hk]; rfl) rfl
          obtain ⟨a, vs, rfl, e, l, rvs⟩ := rv
          subst e
          refine ⟨"list", "list.append", PySem.F.plainAttrs_list, PySem.slot_list_append, PySem.type_list_append, l.isList.typeIs, fun b hb => ?_, ?_⟩
          · cases hb
            obtain ⟨o, n, ho, _, ⟨hd, _⟩, _⟩ := l
            exact ⟨o, ho, hd⟩
          · refine Calls.callWith_builtin rfl (Calls.evalArgs_plain (Calls.spliced_cons (S.E hd C X fun u s₁ ru g₁ => Calls.spliced_nil ?_)))
            have l₁ := l.at fun o => g₁.heap a o
            have hlen := (rvs.keeps g₁.heap).length
            have := small_le hs
            refine wpAny_list_append_plain l₁.plain (fun h' hp' same => ?_) (by rw [List.size_toArray]; exact Nat.le_trans (show vs.length ≤ 1000 by omega) (by decide))
            exact q _ _ _ trivial (FR.append (X.grow g₁) oo hb l₁ (rvs.keeps g₁.heap) ru same hp') ((FP.of g₁).trans ⟨GX.refl _, rfl⟩)
        · cases h
      · cases h
    · cases h
  · cases h
theorem evAsnOk (S : Sound w k r) (HU : CompUseOk w k r) {ts : List Expr} {value : Expr} {pos : Pos} {fl : Fl} (h : evAsn r F.env.scope fm ts value = some (fm', fl)) (O : OcAll F) : PS w F fm (k + 1) (.Assign ts value pos) fm' fl := by
  unfold evAsn at h
  split at h
  · exact asgOk S HU h O
  · split at h
    · split at h
      · exact tupOk S h O
      · cases h
    · cases h
  · cases h
theorem evExpOk (S : Sound w k r) {e : Expr} {pos : Pos} {fl : Fl} (h : evExp r F.env.scope fm e = some (fm', fl)) (O : OcAll F) : PS w F fm (k + 1) (.Expr e pos) fm' fl := by
  unfold evExp at h
  split at h
  · split at h
    · split at h
      · split at h
        · split at h
          · exact appOk S h O
          · cases h
        · cases h
      · cases h
    · cases h
  · cases h
theorem evForNOk (S : Sound w k r) {x : Str} {px pos : Pos} {it : Expr} {body orelse : List Stmt} {fl : Fl} (h : evForN r F.env.scope fm x it body orelse = some (fm', fl)) (O : OcAll F) : PS w F fm (k + 1) (.For (.Name x px) it body orelse pos) fm' fl := by
  intro A ow s Q E C1 X q
  have C := C1.less
  unfold evForN at h
  split at h
  · next hx =>
    simp only [Bool.and_eq_true] at hx
    have hx' : F.env.scope.names.lookup x = some .local ∨ F.env.scope.names.lookup x = some .cell := by simpa using hx.1
    split at h
    · next items hit =>
      obtain ⟨h1, h2⟩ := iterOk (Q := fun it' s₂ => codeAny (MM w) A (.forLoop (.Name x px) it' body orelse F.env) (fun r s' => match r with | .ok f => Q f s' | .error e => cameBackBy (MM w) A F.env E e s') s₂) (E := E) S hit C X
        fun I s₁ h₁ fp P St g₁ kk itr => forOk S O hx' h C (X.grow g₁) kk itr fun f ow' s' hf X' p' => q _ _ _ hf X' ((FP.of g₁).trans p')
      exact wpAny_For h1 h2
    · cases h
  · cases h
theorem evForTOk (HG : GenOk w k r) {es : List Expr} {k1 : Nat} {p3 pos : Pos} {it : Expr} {body orelse : List Stmt} {fl : Fl} (h : evForT r F.env.scope fm es it body orelse = some (fm', fl)) (O : OcAll F) : PS w F fm (k + 1) (.For (.Tuple es k1 p3) it body orelse pos) fm' fl := by
  intro A ow s Q E C1 X q
  have C := C1.less
  unfold evForT at h
  split at h
  · split at h
    · split at h
      · split at h
        · split at h
          · split at h
            · split at h
              · next hc =>
                simp only [Bool.and_eq_true, beq_iff_eq, bne_iff_ne] at hc
                obtain ⟨⟨⟨⟨⟨⟨⟨rfl, hg⟩, h1⟩, h2⟩, h3⟩, h4⟩, _⟩, _⟩ := hc
                split at h
                · next str hs =>
                  split at h
                  · next hsm => exact HG O hg h1 h2 h3 h4 hs hsm h C1 X q
                  · cases h
                · cases h
              · cases h
            · cases h
          · cases h
        · cases h
      · cases h
    · cases h
  · cases h
theorem evSOk (S : Sound w k r) (HU : CompUseOk w k r) (HG : GenOk w k r) {st : Stmt} {fl : Fl} (h : evS r F.env.scope fm st = some (fm', fl)) (O : OcAll F) : PS w F fm (k + 1) st fm' fl := by
  intro A ow s Q E C1 X q
  have C := C1.less
  unfold evS at h
  split at h
  · exact evAsnOk S HU h O C1 X q
  · split at h
    · exact augOk S h O C1 X q
    · cases h
  · exact evExpOk S h O C1 X q
  · next t a b pos =>
    refine wpAny_If ?_
    split at h
    · next ht =>
      refine S.T ht C X fun s₁ g₁ => ?_
      rw [if_pos rfl]
      exact runOk S O h C (X.grow g₁) fun f ow' s' hf X' p' => q _ _ _ hf X' ((FP.of g₁).trans p')
    · next ht =>
      refine S.T ht C X fun s₁ g₁ => ?_
      show wpAny (MM w) A (execs b F.env) Q E s₁
      exact runOk S O h C (X.grow g₁) fun f ow' s' hf X' p' => q _ _ _ hf X' ((FP.of g₁).trans p')
    · cases h
  · split at h
    · exact whileOk S O h C X q
    · cases h
  · split at h
    · exact evForNOk S h O C1 X q
    · exact evForTOk HG h O C1 X q
    · cases h
  · split at h
    · next e =>
      split at h
      · next d hd =>
        cases h
        exact wpAny_Return_some (retOk S hd C X fun v s₁ rv g₁ => q (.ret v) ow s₁ rv (X.grow g₁) (FP.of g₁))
      · cases h
    · cases h
  · cases h; exact wpAny_Break (q _ _ _ trivial X (FP.refl _))
  · cases h; exact wpAny_Continue (q _ _ _ trivial X (FP.refl _))
  · cases h
end
end Mine
namespace Mine
noncomputable def fdT (n : String) (i : Nat) (dV kV : Value) (md : String) (t : Nat) (cd : Addr) : FuncData :=
  ⟨Str.ofString n, Str.ofString n, fA i, .stmts (fB i), fS i, mainGlobals, [], dV, kV, .none, .str (Str.ofString md) t, none, .ref cd, .none, builtinsNs⟩
noncomputable def foT (n : String) (i : Nat) (dV kV : Value) (md : String) (t : Nat) (cd : Addr) : Obj := ⟨.type "function", none, .func (fdT n i dV kV md t cd), #[]⟩
theorem fo1 (P : Params) : (KF P).lookup 23 = some (foT "bisect_right" 1 (.ref 15) (.ref 16) "cpy313.bisect" 187 22) := by kernel_rfl
theorem fo2 (P : Params) : (KF P).lookup 32 = some (foT "bisect_left" 2 (.ref 24) (.ref 25) "cpy313.bisect" 187 31) := by kernel_rfl
theorem fo5 (P : Params) : (KF P).lookup 40 = some (foT "pretty_flags" 5 .none .none "cpy313.dis" 217 39) := by kernel_rfl
theorem fo8 (P : Params) : (KF P).lookup 54 = some (foT "_strip_quoted_realnames" 8 .none .none "cpy313.email.utils" 260 53) := by kernel_rfl
theorem fo11 (P : Params) : (KF P).lookup 72 = some (foT "in_table_b1" 11 .none .none "cpy313.stringprep" 284 71) := by kernel_rfl
theorem fo13 (P : Params) : (KF P).lookup 118 = some (foT "map_table_b3" 13 .none .none "cpy313.stringprep" 284 117) := by kernel_rfl
theorem fo15 (P : Params) : (KF P).lookup 125 = some (foT "_law_cascade" 15 .none .none "law_wf0083_01" 2312 124) := by kernel_rfl
theorem fo16 (P : Params) : (KF P).lookup 130 = some (foT "_law_left" 16 .none .none "law_wf0083_01" 2312 129) := by kernel_rfl
theorem fo17 (P : Params) : (KF P).lookup 137 = some (foT "_law_laid" 17 .none .none "law_wf0083_01" 2312 136) := by kernel_rfl
/-- what the call needs of a def's scope -/
noncomputable def scOk (i : Nat) : Bool := (fS i).names.all (fun x => x.2 != .cell) && (fS i).isCoroutine == false && (fS i).isGenerator == false && (fS i).kind == .function && (fS i).names.lookup (Str.ofString "__debug__") == none && (fS i).names.lookup (Str.ofString "__classdict__") == none
  && (paramsOf i).all (fun x => (fS i).names.lookup x == some .local) && decide (paramsOf i).Nodup
theorem zip_lookup {h : Heap} {av : List Addr} : ∀ {ps : List Str} {ds : List D} {vals : List Value} {fm : Fm}, zipB ps ds = some fm → VRs h av vals ds → ∀ {x b}, fm.lookup x = some b → x ∈ ps ∧ ∃ v d, b = .v d ∧ (ps.zip vals).lookup x = some v ∧ VR h av v d
  | [], [], vals, fm, e, _, x, b, hb => by cases e; cases hb
  | [], _ :: _, _, _, e, _, _, _, _ => by cases e
  | _ :: _, [], _, _, e, _, _, _, _ => by cases e
  | p :: ps, d :: ds, vals, fm, e, rv, x, b, hb => by
    simp only [zipB, Option.map_eq_some_iff] at e
    obtain ⟨fm', e, rfl⟩ := e
    obtain ⟨u, us, rfl, r1, r2⟩ := rv.cons_inv
    rw [List.lookup_cons] at hb
    rw [List.zip_cons_cons, List.lookup_cons]
    by_cases q : (x == p) = true
    · rw [q] at hb ⊢
      cases hb
      exact ⟨by rw [eq_of_beq q]; exact .head _, u, d, rfl, rfl, r1⟩
    · have q' : (x == p) = false := by simpa using q
      rw [q'] at hb ⊢
      obtain ⟨m, r⟩ := zip_lookup e r2 hb
      exact ⟨.tail _ m, r⟩
theorem lookup_append {x : Str} : ∀ {l l' : List (Str × Value)}, (l ++ l').lookup x = (l.lookup x).or (l'.lookup x)
  | [], _ => by simp [List.lookup]
  | (y, v) :: l, l' => by
    rw [List.cons_append, List.lookup_cons, List.lookup_cons, lookup_append]
    cases (x == y) <;> rfl
theorem lookup_none_of {x : Str} : ∀ {l : List (Str × Value)}, x ∉ l.map (·.1) → l.lookup x = none
  | [], _ => rfl
  | (y, v) :: l, h => by
    rw [List.lookup_cons]
    have h1 : x ≠ y := fun e => h (by simp [e])
    have h2 : x ∉ l.map (·.1) := fun e => h (by simp [e])
    rw [show (x == y) = false by simpa using h1]
    exact lookup_none_of h2
theorem lookup_reverse {x : Str} : ∀ {l : List (Str × Value)}, (l.map (·.1)).Nodup → l.reverse.lookup x = l.lookup x
  | [], _ => rfl
  | (y, v) :: l, h => by
    rw [List.map_cons, List.nodup_cons] at h
    rw [List.reverse_cons, lookup_append, lookup_reverse h.2, List.lookup_cons]
    by_cases q : x = y
    · subst q
      rw [lookup_none_of h.1]
      simp [List.lookup]
    · rw [show (x == y) = false by simpa using q]
      simp [List.lookup, show (x == y) = false by simpa using q]
section
variable {w : World} {k : Nat} {r : Ev} {A : Around} {s : Shared} {E : Value → Shared → Prop} {av : List Addr} {Q : Value → Shared → Prop}
theorem callFd (S : Sound w k r) {a : Addr} {n : String} {i : Nat} {dV kV : Value} {md : String} {t : Nat} {cd : Addr} {vals all : List Value} {ds : List D} {fm fm' : Fm} {d : D}
    (hlk : (KF w.params).lookup a = some (foT n i dV kV md t cd)) (hcd : codeIn (KF w.params) (.ref cd) (Str.ofString n) = true) (hsc : scOk i = true)
    (C : Cx (k + 1) A) (G : GH w s.heap) (L : Lives s.heap av) (rvs : VRs s.heap av all ds) (hz : zipB (paramsOf i) ds = some fm) (hlen : (paramsOf i).length = all.length)
    (hb : BindsTo s (fdT n i dV kV md t cd) ⟨vals, []⟩ ((paramsOf i).zip all)) (hr : runS r (fS i) fm (fB i) = some (fm', .ret d))
    (q : ∀ v s', VR s'.heap av v d → Grow s s' → Q v s') : wpAny (MM w) A (call (.ref a) vals) Q E s := by
  unfold scOk at hsc
  simp only [Bool.and_eq_true, beq_iff_eq, List.all_eq_true, bne_iff_ne, decide_eq_true_eq] at hsc
  obtain ⟨⟨⟨⟨⟨⟨⟨hcell, hco⟩, hgen⟩, hkind⟩, hdbg⟩, hcls⟩, hloc⟩, hnd⟩ := hsc
  have hkeys : ((paramsOf i).zip all).map (·.1) = paramsOf i := List.map_fst_zip (Nat.le_of_eq hlen)
  refine wpAny_call (codeAny_call_def (o := foT n i dV kV md t cd) (fd := fdT n i dV kV md t cd) (body := fB i) (binds := (paramsOf i).zip all) C.room (G.kin _ _ hlk) rfl G.lim (codeRec_of G.kin hcd) rfl hb
    (fun x hx => hcell x hx) (fun x hx => hloc x.1 (by rw [← hkeys]; exact List.mem_map_of_mem hx)) (fun h₀ hn hk => ?_) hco hgen hkind)
  let F : Fx := ⟨s.heap.get?, callEnv (fdT n i dV kV md t cd) s.heap.objs.size a, av, [s.heap.objs.size], [], []⟩
  have hL : s.heap.get? s.heap.objs.size = none := get_size _
  have X : FR w F fm none { s with heap := h₀, toks := s.toks + ((paramsOf i).zip all).length } :=
    { gb := GB.of G
      keep := fun b o e => hk b o e
      hk := hkind
      hg := rfl
      hb := rfl
      nodbg := hdbg
      nocls := hcls
      nsL := ⟨_, hn, fun x b hb _ => by
        obtain ⟨_, v, d, rfl, e, r⟩ := zip_lookup hz rvs hb
        exact ⟨v, by rw [lookup_reverse (by rw [hkeys]; exact hnd)]; exact e, r.keeps hk⟩⟩
      cel := fun x b hb q => by
        obtain ⟨m, _⟩ := zip_lookup hz rvs hb
        have e := hloc x m
        have e' : F.env.kindOf x = some .local := e
        rw [e'] at q
        rcases q with q | q <;> cases q
      ocel := fun x hx => nomatch hx
      celE := fun x c e => nomatch e
      inj := fun x hx => nomatch hx
      wrl := .head _
      wrb := fun b hb => by
        obtain rfl : b = s.heap.objs.size := List.mem_singleton.mp hb
        exact hL
      own := fun a e => nomatch e
      lives := L.keeps hk
      wrs := fun b hb => by
        obtain rfl : b = s.heap.objs.size := List.mem_singleton.mp hb
        obtain ⟨o, es, ep, ho, hd, _⟩ := hn
        exact ⟨o, ho, fun its n e => by rw [hd] at e; cases e⟩
      acs := fun x hx => nomatch hx }
  have O : OcAll F := fun x hx => by
    have hx' : (fS i).names.lookup x = some .cell := hx
    exfalso
    have : ∀ {l : List (Str × NameKind)}, (∀ y ∈ l, y.2 ≠ .cell) → l.lookup x ≠ some .cell := fun {l} => by
      induction l with
      | nil => intro _ e; cases e
      | cons p l ih =>
        intro hall e
        obtain ⟨y, kd⟩ := p
        rw [List.lookup_cons] at e
        split at e
        · cases e; exact hall _ (.head _) rfl
        · exact ih (fun z hz => hall z (.tail _ hz)) e
    exact this (fun y hy => hcell y hy) hx'
  refine runOk (F := F) S O hr (C.deeper _) X fun f ow' s' hf X' p' => ?_
  rcases okFl hf with ⟨e, _⟩ | ⟨e, _⟩ | ⟨e, _⟩ | ⟨d', v, e, rfl, rv⟩ <;> cases e
  exact q v s' rv ⟨fun b o e => X'.keep b o e, p'.gens, p'.os⟩
end
end Mine
namespace Mine
theorem ps5 : paramsOf 5 = [Str.ofString "flags"] := by kernel_rfl
theorem ps8 : paramsOf 8 = [Str.ofString "addr"] := by kernel_rfl
theorem ps11 : paramsOf 11 = [Str.ofString "code"] := by kernel_rfl
theorem ps13 : paramsOf 13 = [Str.ofString "code"] := by kernel_rfl
theorem ps15 : paramsOf 15 = [Str.ofString "number"] := by kernel_rfl
theorem ps16 : paramsOf 16 = [Str.ofString "triple", Str.ofString "gone", Str.ofString "first", Str.ofString "noise"] := by kernel_rfl
theorem ps17 : paramsOf 17 = [Str.ofString "row", Str.ofString "pair"] := by kernel_rfl
theorem ps1 : paramsOf 1 = [Str.ofString "a", Str.ofString "x", Str.ofString "lo", Str.ofString "hi", Str.ofString "key"] := by kernel_rfl
theorem ps2 : paramsOf 2 = [Str.ofString "a", Str.ofString "x", Str.ofString "lo", Str.ofString "hi", Str.ofString "key"] := by kernel_rfl
theorem sc1 : scOk 1 = true := by kernel_rfl
theorem sc2 : scOk 2 = true := by kernel_rfl
theorem sc5 : scOk 5 = true := by kernel_rfl
theorem sc8 : scOk 8 = true := by kernel_rfl
theorem sc11 : scOk 11 = true := by kernel_rfl
theorem sc13 : scOk 13 = true := by kernel_rfl
theorem sc15 : scOk 15 = true := by kernel_rfl
theorem sc16 : scOk 16 = true := by kernel_rfl
theorem sc17 : scOk 17 = true := by kernel_rfl
theorem cd1 (P : Params) : codeIn (KF P) (.ref 22) (Str.ofString "bisect_right") = true := by kernel_rfl
theorem cd2 (P : Params) : codeIn (KF P) (.ref 31) (Str.ofString "bisect_left") = true := by kernel_rfl
theorem cd5 (P : Params) : codeIn (KF P) (.ref 39) (Str.ofString "pretty_flags") = true := by kernel_rfl
theorem cd8 (P : Params) : codeIn (KF P) (.ref 53) (Str.ofString "_strip_quoted_realnames") = true := by kernel_rfl
theorem cd11 (P : Params) : codeIn (KF P) (.ref 71) (Str.ofString "in_table_b1") = true := by kernel_rfl
theorem cd13 (P : Params) : codeIn (KF P) (.ref 117) (Str.ofString "map_table_b3") = true := by kernel_rfl
theorem cd15 (P : Params) : codeIn (KF P) (.ref 124) (Str.ofString "_law_cascade") = true := by kernel_rfl
theorem cd16 (P : Params) : codeIn (KF P) (.ref 129) (Str.ofString "_law_left") = true := by kernel_rfl
theorem cd17 (P : Params) : codeIn (KF P) (.ref 136) (Str.ofString "_law_laid") = true := by kernel_rfl
theorem bd5 (v : Value) : bindArgs (fdT "pretty_flags" 5 .none .none "cpy313.dis" 217 39) ⟨[v], []⟩ = pure [(Str.ofString "flags", v)] := by kernel_rfl
theorem bd8 (v : Value) : bindArgs (fdT "_strip_quoted_realnames" 8 .none .none "cpy313.email.utils" 260 53) ⟨[v], []⟩ = pure [(Str.ofString "addr", v)] := by kernel_rfl
theorem bd11 (v : Value) : bindArgs (fdT "in_table_b1" 11 .none .none "cpy313.stringprep" 284 71) ⟨[v], []⟩ = pure [(Str.ofString "code", v)] := by kernel_rfl
theorem bd13 (v : Value) : bindArgs (fdT "map_table_b3" 13 .none .none "cpy313.stringprep" 284 117) ⟨[v], []⟩ = pure [(Str.ofString "code", v)] := by kernel_rfl
theorem bd15 (v : Value) : bindArgs (fdT "_law_cascade" 15 .none .none "law_wf0083_01" 2312 124) ⟨[v], []⟩ = pure [(Str.ofString "number", v)] := by kernel_rfl
theorem bd16 (a b c d : Value) : bindArgs (fdT "_law_left" 16 .none .none "law_wf0083_01" 2312 129) ⟨[a, b, c, d], []⟩ = pure [(Str.ofString "triple", a), (Str.ofString "gone", b), (Str.ofString "first", c), (Str.ofString "noise", d)] := by kernel_rfl
theorem bd17 (a b : Value) : bindArgs (fdT "_law_laid" 17 .none .none "law_wf0083_01" 2312 136) ⟨[a, b], []⟩ = pure [(Str.ofString "row", a), (Str.ofString "pair", b)] := by kernel_rfl
end Mine
namespace Mine
noncomputable abbrev sA : Str := Str.ofString "a"
noncomputable abbrev sX : Str := Str.ofString "x"
noncomputable abbrev sLo : Str := Str.ofString "lo"
noncomputable abbrev sHi : Str := Str.ofString "hi"
noncomputable abbrev sKey : Str := Str.ofString "key"
theorem bdBis {s : Shared} {fd : FuncData} {T Kd : Addr} {v1 v2 : Value} {t : Nat} {m : Str → Option Value} {to : Obj} {nn : Nat}
    (p1 : fd.params.posonlyargs = []) (p2 : fd.params.args.map (·.arg) = [sA, sX, sLo, sHi]) (p3 : fd.params.kwonlyargs.map (·.arg) = [sKey]) (p4 : fd.params.vararg = none) (p5 : fd.params.kwarg = none) (p6 : fd.defaults = .ref T) (p7 : fd.kwdefaults = .ref Kd)
    (ho : s.heap.get? T = some to) (hd : to.data = .seq #[.int 0 t, .none] nn) (hn : s.heap.Ns Kd m) (hm : m sKey = some .none) :
    BindsTo s fd ⟨[v1, v2], []⟩ [(sA, v1), (sX, v2), (sLo, .int 0 t), (sHi, .none), (sKey, .none)] :=
  fun _ _ _ _ hq => by
    have e1 : (sLo == sA) = false := by decide
    have e2 : (sLo == sX) = false := by decide
    have e3 : (sHi == sA) = false := by decide
    have e4 : (sHi == sX) = false := by decide
    have e5 : (sHi == sLo) = false := by decide
    have e6 : (sKey == sA) = false := by decide
    have e7 : (sKey == sX) = false := by decide
    have e8 : (sKey == sLo) = false := by decide
    have e9 : (sKey == sHi) = false := by decide
    have e10 : (sX == sA) = false := by decide
    unfold bindArgs
    simp only [p1, p2, p3, p4, p5, p6, p7, List.map_nil, List.nil_append, List.forIn_nil, pure_bind]
    refine wpAny_bind (wpAny_seqItems ho hd ?_)
    simp [List.lookup, e1, e2, e3, e4, e5, e6, e7, e8, e9, e10, List.filter]
    refine wpAny_bind (wpAny_nsGet hn ?_)
    rw [hm]
    simp [List.lookup, List.filterMap, e1, e2, e3, e4, e5, e6, e7, e8, e9, e10]
    exact wpAny_pure hq
theorem ns_of {K : Frag} {h : Heap} {N : Addr} {mg : Str → Option Value} {n : Str} {v : Value} (X : K.In h) (G : h.Ns N mg) (e : nsIn K N n = some (some v)) : mg n = some v := by
  obtain ⟨o, es, ep, ho, hd, _, hf⟩ := G
  unfold nsIn at e
  split at e
  · rename_i c d es' n' sl q
    have := X _ _ q
    rw [ho] at this
    cases this
    cases hd
    split at e
    · rename_i en he
      cases e
      rw [← hf]
      unfold nsFind findBy
      rw [← Array.find?_toList, he]
      rfl
    · split at e <;> cases e
  · cases e
theorem pp1 : (fA 1).posonlyargs = [] ∧ (fA 1).args.map (·.arg) = [sA, sX, sLo, sHi] ∧ (fA 1).kwonlyargs.map (·.arg) = [sKey] ∧ (fA 1).vararg = none ∧ (fA 1).kwarg = none := ⟨by kernel_rfl, by kernel_rfl, by kernel_rfl, by kernel_rfl, by kernel_rfl⟩
theorem pp2 : (fA 2).posonlyargs = [] ∧ (fA 2).args.map (·.arg) = [sA, sX, sLo, sHi] ∧ (fA 2).kwonlyargs.map (·.arg) = [sKey] ∧ (fA 2).vararg = none ∧ (fA 2).kwarg = none := ⟨by kernel_rfl, by kernel_rfl, by kernel_rfl, by kernel_rfl, by kernel_rfl⟩
theorem tp15 (P : Params) : (KF P).lookup 15 = some ⟨.type "tuple", none, .seq #[.int 0 189, .none] 0, #[]⟩ := by kernel_rfl
theorem tp24 (P : Params) : (KF P).lookup 24 = some ⟨.type "tuple", none, .seq #[.int 0 203, .none] 0, #[]⟩ := by kernel_rfl
theorem nk16 (P : Params) : nsOkIn (KF P) 16 = true := by kernel_rfl
theorem nk25 (P : Params) : nsOkIn (KF P) 25 = true := by kernel_rfl
theorem ni16 (P : Params) : nsIn (KF P) 16 sKey = some (some .none) := by kernel_rfl
theorem ni25 (P : Params) : nsIn (KF P) 25 sKey = some (some .none) := by kernel_rfl
theorem zipB_len : ∀ {ps : List Str} {ds : List D} {fm : Fm}, zipB ps ds = some fm → ps.length = ds.length
  | [], [], _, _ => rfl
  | [], _ :: _, _, e => by cases e
  | _ :: _, [], _, e => by cases e
  | p :: ps, d :: ds, fm, e => by
    simp only [zipB, Option.map_eq_some_iff] at e
    obtain ⟨fm', e, _⟩ := e
    simp [zipB_len e]
theorem len1 : ∀ {vs : List Value}, vs.length = 1 → ∃ a, vs = [a]
  | [a], _ => ⟨a, rfl⟩
theorem len2 : ∀ {vs : List Value}, vs.length = 2 → ∃ a b, vs = [a, b]
  | [a, b], _ => ⟨a, b, rfl⟩
theorem len4 : ∀ {vs : List Value}, vs.length = 4 → ∃ a b c d, vs = [a, b, c, d]
  | [a, b, c, d], _ => ⟨a, b, c, d, rfl⟩
section
variable {w : World} {k : Nat} {r : Ev} {A : Around} {s : Shared} {E : Value → Shared → Prop} {av : List Addr} {Q : Value → Shared → Prop}
theorem evCOk (S : Sound w k r) {f : Str} {ds : List D} {d : D} (h : evC r f ds = some d) {vals : List Value} (C : Cx (k + 1) A) (G : GH w s.heap) (L : Lives s.heap av) (rvs : VRs s.heap av vals ds)
    (q : ∀ v s', VR s'.heap av v d → Grow s s' → Q v s') : wpAny (MM w) A (call (.ref (fnAt f)) vals) Q E s := by
  unfold evC at h
  split at h
  · next i dflt hdef =>
    split at h
    · next fm hz =>
      split at h
      · next fm' d' hr =>
        cases h
        have hl := zipB_len hz
        have hv := rvs.length
        have bis : ∀ {a : Addr} {n : String} {i : Nat} {T Kd cd : Addr} {t : Nat}, (fA i).posonlyargs = [] ∧ (fA i).args.map (·.arg) = [sA, sX, sLo, sHi] ∧ (fA i).kwonlyargs.map (·.arg) = [sKey] ∧ (fA i).vararg = none ∧ (fA i).kwarg = none →
            paramsOf i = [sA, sX, sLo, sHi, sKey] → (KF w.params).lookup a = some (foT n i (.ref T) (.ref Kd) "cpy313.bisect" 187 cd) → codeIn (KF w.params) (.ref cd) (Str.ofString n) = true → scOk i = true →
            (KF w.params).lookup T = some ⟨.type "tuple", none, .seq #[.int 0 t, .none] 0, #[]⟩ → nsOkIn (KF w.params) Kd = true → nsIn (KF w.params) Kd sKey = some (some .none) →
            ∀ {fm fm'}, zipB (paramsOf i) (ds ++ [.int 0, .none, .none]) = some fm → runS r (fS i) fm (fB i) = some (fm', .ret d) → wpAny (MM w) A (call (.ref a) vals) Q E s := fun {a n i T Kd cd t} ⟨p1, p2, p3, p4, p5⟩ hps hlk hcd hsc htp hok hni {fm fm'} hz hr => by
          have hl := zipB_len hz
          rw [hps] at hl
          have h2 : vals.length = 2 := by simp at hl; omega
          obtain ⟨v1, v2, rfl⟩ : ∃ a b, vals = [a, b] := len2 h2
          have hns := Heap.Ns.of_isNs (isNs_of_in G.kin hok)
          refine callFd S hlk hcd hsc C G L (all := [v1, v2, .int 0 t, .none, .none]) (VRs.append rvs (VRs.cons (VR.int 0 t) (VRs.cons VR.none (VRs.cons VR.none VRs.nil)))) hz (by rw [hps]; rfl) ?_ hr q
          rw [hps]
          exact bdBis p1 p2 p3 p4 p5 rfl rfl (G.kin _ _ htp) rfl hns (ns_of G.kin hns hni)
        unfold defAtName at hdef
        split at hdef
        · next hf =>
          cases hdef
          rw [eq_of_beq hf]
          exact bis pp1 ps1 (fo1 _) (cd1 _) sc1 (tp15 _) (nk16 _) (ni16 _) hz hr
        · split at hdef
          · next hf =>
            cases hdef
            rw [eq_of_beq hf]
            exact bis pp2 ps2 (fo2 _) (cd2 _) sc2 (tp24 _) (nk25 _) (ni25 _) hz hr
          · split at hdef
            · next hf =>
              cases hdef
              rw [eq_of_beq hf]
              rw [List.append_nil] at hz hl
              have h2 : vals.length = 1 := by rw [ps5] at hl; simp at hl; omega
              obtain ⟨v1, rfl⟩ : ∃ a, vals = [a] := len1 h2
              exact callFd S (fo5 _) (cd5 _) sc5 C G L rvs hz (by rw [ps5]; rfl) (by rw [ps5]; exact BindsTo.of_eq (bd5 v1)) hr q
            · split at hdef
              · next hf =>
                cases hdef
                rw [eq_of_beq hf]
                rw [List.append_nil] at hz hl
                have h2 : vals.length = 1 := by rw [ps8] at hl; simp at hl; omega
                obtain ⟨v1, rfl⟩ : ∃ a, vals = [a] := len1 h2
                exact callFd S (fo8 _) (cd8 _) sc8 C G L rvs hz (by rw [ps8]; rfl) (by rw [ps8]; exact BindsTo.of_eq (bd8 v1)) hr q
              · split at hdef
                · next hf =>
                  cases hdef
                  rw [eq_of_beq hf]
                  rw [List.append_nil] at hz hl
                  have h2 : vals.length = 1 := by rw [ps11] at hl; simp at hl; omega
                  obtain ⟨v1, rfl⟩ : ∃ a, vals = [a] := len1 h2
                  exact callFd S (fo11 _) (cd11 _) sc11 C G L rvs hz (by rw [ps11]; rfl) (by rw [ps11]; exact BindsTo.of_eq (bd11 v1)) hr q
                · split at hdef
                  · next hf =>
                    cases hdef
                    rw [eq_of_beq hf]
                    rw [List.append_nil] at hz hl
                    have h2 : vals.length = 1 := by rw [ps13] at hl; simp at hl; omega
                    obtain ⟨v1, rfl⟩ : ∃ a, vals = [a] := len1 h2
                    exact callFd S (fo13 _) (cd13 _) sc13 C G L rvs hz (by rw [ps13]; rfl) (by rw [ps13]; exact BindsTo.of_eq (bd13 v1)) hr q
                  · split at hdef
                    · next hf =>
                      cases hdef
                      rw [eq_of_beq hf]
                      rw [List.append_nil] at hz hl
                      have h2 : vals.length = 1 := by rw [ps15] at hl; simp at hl; omega
                      obtain ⟨v1, rfl⟩ : ∃ a, vals = [a] := len1 h2
                      exact callFd S (fo15 _) (cd15 _) sc15 C G L rvs hz (by rw [ps15]; rfl) (by rw [ps15]; exact BindsTo.of_eq (bd15 v1)) hr q
                    · split at hdef
                      · next hf =>
                        cases hdef
                        rw [eq_of_beq hf]
                        rw [List.append_nil] at hz hl
                        have h2 : vals.length = 4 := by rw [ps16] at hl; simp at hl; omega
                        obtain ⟨v1, v2, v3, v4, rfl⟩ : ∃ a b c d, vals = [a, b, c, d] := len4 h2
                        exact callFd S (fo16 _) (cd16 _) sc16 C G L rvs hz (by rw [ps16]; rfl) (by rw [ps16]; exact BindsTo.of_eq (bd16 v1 v2 v3 v4)) hr q
                      · split at hdef
                        · next hf =>
                          cases hdef
                          rw [eq_of_beq hf]
                          rw [List.append_nil] at hz hl
                          have h2 : vals.length = 2 := by rw [ps17] at hl; simp at hl; omega
                          obtain ⟨v1, v2, rfl⟩ : ∃ a b, vals = [a, b] := len2 h2
                          exact callFd S (fo17 _) (cd17 _) sc17 C G L rvs hz (by rw [ps17]; rfl) (by rw [ps17]; exact BindsTo.of_eq (bd17 v1 v2)) hr q
                        · cases hdef
      · cases h
    · cases h
  · cases h
end
end Mine
namespace Mine
noncomputable abbrev testsOf (ifs : List Expr) (env : Env) : Sem Bool := forIn ifs true fun c r => if r = true then do let ok ← PySem.isTrue c env (eval c env); pure (ForInStep.yield ok) else pure (ForInStep.yield r)
section
variable {prog : Program} {w : World} {A : Around} {E : Value → Shared → Prop} {R : Result → Shared → Prop} {s : Shared}
theorem compLoop_last {elt t iter : Expr} {gens : List Comprehension} {ifs : List Expr} {scope : Scope} {pos : Pos} {j : Nat} {it acc : Value} {env : Env} (hg : gens[j]? = some ⟨t, iter, ifs, 0⟩) (hn : gens[j + 1]? = none) (I : Nat → Shared → Prop)
    (turn : ∀ n s, I n s → wpAny (model prog w) A (pyNext it) (fun r s₁ => match r with
      | none => R (.ok .next) s₁
      | some v => wpAny (model prog w) A (assign t env v) (fun _ s₂ =>
          wpAny (model prog w) A (testsOf ifs env) (fun ok s₃ =>
            if ok = true then wpAny (model prog w) A (eval elt env) (fun x s₄ =>
              wpAny (model prog w) A (call (.builtin "list.append") [acc, x]) (fun _ s₅ => ∃ m, m < n ∧ I m s₅) (notedBy (model prog w) A env fun e s' => R (.error e) s') s₄) (notedBy (model prog w) A env fun e s' => R (.error e) s') s₃
            else ∃ m, m < n ∧ I m s₃) (notedBy (model prog w) A env fun e s' => R (.error e) s') s₂) (notedBy (model prog w) A env fun e s' => R (.error e) s') s₁) (notedBy (model prog w) A env fun e s' => R (.error e) s') s)
    (n : Nat) (h : I n s) (ht : ∀ v, letOwnedTupleGo t it v = pure ()) :
    codeAny (model prog w) A (.compLoop (.ListComp elt gens scope pos) j it acc env) R s := by
  refine codeAny_loop rfl I (fun n s hI => ?_) n h
  show wpAny _ A ((compTurn (.ListComp elt gens scope pos) j it acc env).onRaise (fun x => do noteFrame x env; theTreesLotGoes x)) _ _ s
  refine wpAny_noted ?_
  unfold compTurn
  simp only [hg, hn]
  refine wpAny_bind (wpAny_standAt (wpAny_bind (wpAny_mono (turn n s hI) (fun r s₁ h₁ => ?_) fun _ _ h' => h')))
  cases r with
  | none => exact wpAny_pure h₁
  | some v =>
    refine wpAny_bind (wpAny_of_eq (ht v) ?_)
    refine wpAny_bind (wpAny_mono h₁ (fun _ s₂ h₂ => wpAny_bind (wpAny_mono h₂ (fun ok s₃ h₃ => ?_) fun _ _ h' => h')) fun _ _ h' => h')
    cases ok with
    | false => exact wpAny_pure ⟨rfl, h₃⟩
    | true =>
      exact wpAny_bind (wpAny_bind (wpAny_mono h₃ (fun x s₄ h₄ => wpAny_bind (wpAny_mono h₄ (fun _ s₅ h₅ => wpAny_pure (wpAny_pure ⟨rfl, h₅⟩)) fun _ _ h' => h')) fun _ _ h' => h'))
theorem compLoop_more {elt t iter t' iter' : Expr} {gens : List Comprehension} {ifs ifs' : List Expr} {scope : Scope} {pos : Pos} {j : Nat} {it acc : Value} {env : Env} (hg : gens[j]? = some ⟨t, iter, ifs, 0⟩) (hn : gens[j + 1]? = some ⟨t', iter', ifs', 0⟩)
    (hs : ∀ x, foldedSetIterable iter' env x = pure x) (I : Nat → Shared → Prop)
    (turn : ∀ n s, I n s → wpAny (model prog w) A (pyNext it) (fun r s₁ => match r with
      | none => R (.ok .next) s₁
      | some v => wpAny (model prog w) A (assign t env v) (fun _ s₂ =>
          wpAny (model prog w) A (testsOf ifs env) (fun ok s₃ =>
            if ok = true then wpAny (model prog w) A (eval iter' env) (fun x s₄ => wpAny (model prog w) A (pyIter x) (fun it' s₅ =>
              codeAny (model prog w) A (.compStart (.ListComp elt gens scope pos) (j + 1) it' acc env) (fun r s₆ => match r with | .ok _ => ∃ m, m < n ∧ I m s₆ | .error e => cameBackBy (model prog w) A env (notedBy (model prog w) A env fun e s' => R (.error e) s') e s₆) s₅)
                (notedBy (model prog w) A env fun e s' => R (.error e) s') s₄) (notedBy (model prog w) A env fun e s' => R (.error e) s') s₃
            else ∃ m, m < n ∧ I m s₃) (notedBy (model prog w) A env fun e s' => R (.error e) s') s₂) (notedBy (model prog w) A env fun e s' => R (.error e) s') s₁) (notedBy (model prog w) A env fun e s' => R (.error e) s') s)
    (n : Nat) (h : I n s) (ht : ∀ v, letOwnedTupleGo t it v = pure ()) :
    codeAny (model prog w) A (.compLoop (.ListComp elt gens scope pos) j it acc env) R s := by
  refine codeAny_loop rfl I (fun n s hI => ?_) n h
  show wpAny _ A ((compTurn (.ListComp elt gens scope pos) j it acc env).onRaise (fun x => do noteFrame x env; theTreesLotGoes x)) _ _ s
  refine wpAny_noted ?_
  unfold compTurn
  simp only [hg, hn]
  refine wpAny_bind (wpAny_standAt (wpAny_bind (wpAny_mono (turn n s hI) (fun r s₁ h₁ => ?_) fun _ _ h' => h')))
  cases r with
  | none => exact wpAny_pure h₁
  | some v =>
    refine wpAny_bind (wpAny_of_eq (ht v) ?_)
    refine wpAny_bind (wpAny_mono h₁ (fun _ s₂ h₂ => wpAny_bind (wpAny_mono h₂ (fun ok s₃ h₃ => ?_) fun _ _ h' => h')) fun _ _ h' => h')
    cases ok with
    | false => exact wpAny_pure ⟨rfl, h₃⟩
    | true =>
      refine wpAny_bind (wpAny_mono h₃ (fun x s₄ h₄ => wpAny_bind (wpAny_standAt ?_)) fun _ _ h' => h')
      refine wpAny_bind (wpAny_of_eq (hs x) ?_)
      refine wpAny_bind (wpAny_holding (wpAny_mono h₄ (fun it' s₅ h₅ => ?_) fun _ _ h' => h'))
      refine wpAny_bind (wpAny_runOwn (h := none) (codeAny_mono h₅ fun r s₆ h₆ => ?_))
      cases r with
      | ok f => exact wpAny_pure ⟨rfl, h₆⟩
      | error e => exact h₆
theorem compStart_j {elt t iter : Expr} {gens : List Comprehension} {ifs : List Expr} {scope : Scope} {pos : Pos} {j : Nat} {it acc : Value} {env : Env} (hg : gens[j]? = some ⟨t, iter, ifs, 0⟩)
    (h0 : codeAny (model prog w) A (.compLoop (.ListComp elt gens scope pos) j it acc env) R s)
    (h : wpAny (model prog w) A (pyIter it) (fun it' s' => codeAny (model prog w) A (.compLoop (.ListComp elt gens scope pos) j it' acc env) R s')
      (notedBy (model prog w) A env fun x s' => R (.error x) s') s) :
    codeAny (model prog w) A (.compStart (.ListComp elt gens scope pos) j it acc env) R s := by
  refine codeAny_of_tree ?_
  show wpAny _ _ ((compStart (.ListComp elt gens scope pos) j it acc env).onRaise (fun x => do noteFrame x env; standAt theWindowsPlace)) _ _ s
  refine wpAny_notedAt ?_
  unfold compStart
  have hc : (clausesOf (.ListComp elt gens scope pos))[j]? = some ⟨t, iter, ifs, 0⟩ := hg
  simp only [hc, Option.elim, bne_self_eq_false, Bool.false_eq_true, if_false]
  refine wpAny_bind (wpAny_askSetting (wpAny_ite ?_))
  split
  · first
      | exact wpAny_bind (wpAny_pure (wpAny_pure (And.intro rfl h0)))
      | exact wpAny_pure (And.intro rfl h0)
  · first
      | exact wpAny_bind (wpAny_rule (wpAny_bind (wpAny_standAt (wpAny_bind (wpAny_mono h (fun it' s' h' => wpAny_pure (And.intro rfl h')) fun _ _ x => x)))))
      | (refine wpAny_bind (wpAny_rule ?_); show wpAny _ _ (standAt iter.pos >>= _) _ _ s; exact wpAny_bind (wpAny_standAt (wpAny_bind (wpAny_mono h (fun it' s' h' => wpAny_pure (And.intro rfl h')) fun _ _ x => x))))
end
end Mine
namespace Mine
section
variable {w : World} {k : Nat} {r : Ev} {F : Fx} {fm fm' : Fm} {A : Around} {s s' : Shared} {E : Value → Shared → Prop} {D : Addr}
theorem notin_cut {X : FR w F fm none s} (hD : F.base D = none) {b : Addr} {o : Obj} (e : F.base b = some o) : b ∉ (some D).toList ++ F.wr := fun q => by
  rcases List.mem_append.mp q with q | q
  · obtain rfl : b = D := by simpa using q
    rw [hD] at e; cases e
  · rw [X.wrb b q] at e; cases e
theorem FR.rebaseD (X : FR w F fm none s) (hD : F.base D = none) : FR w (F.at s.heap (some D)) fm none s :=
  { X with
    gb := fun h kk => X.gb h fun b o e => kk b o (by
      show (if b ∈ _ then none else _) = _
      rw [if_neg (notin_cut (X := X) hD e)]
      exact X.keep b o e)
    keep := fun b o e => by
      change (if b ∈ _ then none else _) = _ at e
      split at e
      · cases e
      · exact e
    wrb := fun b hb => if_pos (List.mem_append_right _ hb)
    own := fun a e => nomatch e }
theorem FR.lessD {h : Heap} (X0 : FR w (F.at h (some D)) fm none s) (Y : FR w (F.at h none) fm' none s') : FR w (F.at h (some D)) fm' none s' := by
  refine Y.less (base := (F.at h (some D)).base) (fun b o e => ?_) X0.gb
  change (if b ∈ _ then none else _) = _ at e
  split at e
  · cases e
  · next hb =>
    show (if b ∈ _ then none else _) = _
    rw [if_neg fun q => hb (List.mem_append_right _ (by simpa using q))]
    exact e
theorem FR.backD {ow' : Option Addr} (X : FR w F fm none s) (hD : F.base D = none) (Y : FR w (F.at s.heap (some D)) fm' ow' s') : FR w F fm' ow' s' := by
  refine Y.less (base := F.base) (fun b o e => ?_) X.gb
  show (if b ∈ _ then none else _) = _
  rw [if_neg (notin_cut (X := X) hD e)]
  exact X.keep b o e
theorem FR.stillD (Y : FR w (F.at s.heap (some D)) fm' none s') {b : Addr} (h1 : b ≠ D) (h2 : b ∉ F.wr) : ∀ o, s.heap.get? b = some o → s'.heap.get? b = some o := by
  have e : (F.at s.heap (some D)).base b = s.heap.get? b := if_neg fun q => (List.mem_append.mp q).elim (fun q => h1 (by simpa using q)) h2
  exact fun o ho => Y.keep b o (e.trans ho)
theorem VR.moveD {v : Value} {d : PyData} (x : VR s.heap F.av v d) (hD : D ∈ F.av) (X : FR w F fm Option.none s) (Y : FR w (F.at s.heap (some D)) fm' Option.none s') : VR s'.heap F.av v d := by
  obtain ⟨n, as, r, hn⟩ := x
  have hs := reads_seq d n r
  refine ⟨n, as, reads_move d n r fun b o its m hb ho _ => ?_, hn⟩
  refine Y.stillD (b := b) (fun q => hn b hb (by rw [q]; exact hD)) (fun q => ?_) o ho
  obtain ⟨o1, its1, m1, ho1, hd1⟩ := hs b hb
  obtain ⟨o', ho', hd'⟩ := X.wrs b q
  rw [ho1] at ho'; cases ho'
  exact hd' _ _ hd1
theorem VRs.moveD {vs : List Value} {ds : List PyData} (x : VRs s.heap F.av vs ds) (hD : D ∈ F.av) (X : FR w F fm none s) (Y : FR w (F.at s.heap (some D)) fm' none s') : VRs s'.heap F.av vs ds := by
  induction ds generalizing vs with
  | nil => rw [x.nil_inv]; exact VRs.nil
  | cons d ds ih => obtain ⟨u, us, rfl, a, b⟩ := x.cons_inv; exact VRs.cons (VR.moveD a hD X Y) (ih b)
theorem tests_false {env : Env} {Q : Bool → Shared → Prop} : ∀ {ifs : List Expr} {s : Shared}, Q false s → wpAny (MM w) A (forIn ifs false fun c r => if r = true then do let ok ← PySem.isTrue c env (eval c env); pure (ForInStep.yield ok) else pure (ForInStep.yield r)) Q E s
  | [], s, q => wpAny_pure q
  | c :: rest, s, q => by
    rw [List.forIn_cons]
    exact wpAny_bind (wpAny_pure (tests_false q))
theorem testsOk (S : Sound w k r) {ow : Option Addr} : ∀ {ifs : List Expr} {b : Bool}, andT r F.env.scope fm ifs = some b → ∀ {A : Around} {s : Shared} {Q : Bool → Shared → Prop} {E : Value → Shared → Prop}, Cx k A → FR w F fm ow s →
    (∀ s', Grow s s' → Q b s') → wpAny (MM w) A (testsOf ifs F.env) Q E s
  | [], b, h => by cases h; intro C X q; exact wpAny_pure (q _ (Grow.refl _))
  | e :: rest, b, h => by
    unfold andT at h
    intro C X q
    show wpAny _ _ (forIn (e :: rest) true _) _ _ _
    rw [List.forIn_cons]
    split at h
    · next ht =>
      simp only [if_true]
      refine wpAny_bind (wpAny_bind (S.T ht C X fun s₁ g₁ => wpAny_pure ?_))
      exact testsOk S h C (X.grow g₁) fun s₂ g₂ => q _ (g₁.trans g₂)
    · next ht =>
      cases h
      simp only [if_true]
      refine wpAny_bind (wpAny_bind (S.T ht C X fun s₁ g₁ => wpAny_pure ?_))
      exact tests_false (q _ g₁)
    · cases h
theorem Itr.weak {h₀ h : Heap} {av bad bad' : List Addr} {I : Addr} {items : List PyData} {fp : List Addr} {P : Nat → Value → Prop} {St : Nat → Heap → Prop} (x : Itr w h₀ h av bad I items fp P St) (q : ∀ a ∈ bad', a ∈ bad) : Itr w h₀ h av bad' I items fp P St :=
  { x with fpo := fun b hb => (x.fpo b hb).imp id fun ⟨o, its, n, ho, hd, hn⟩ => ⟨o, its, n, ho, hd, fun z => hn (q b z)⟩ }
theorem iterCOk (S : Sound w k r) {ow : Option Addr} {it : Expr} {items : List PyData} (h : iterC r F.env.scope fm it = some items) (C : Cx k A) (X : FR w F fm ow s) {Q : Value → Shared → Prop}
    (q : ∀ I s₁ h₁ fp P St, Grow s s₁ → Keeps s₁.heap h₁ → Itr w s₁.heap h₁ (ow.toList ++ F.av) F.ac I items fp P St → Q (.ref I) { s₁ with heap := h₁ }) :
    wpAny (MM w) A (eval it F.env) (fun x s₁ => wpAny (MM w) A (pyIter x) Q E s₁) E s ∧ (∀ x, foldedSetIterable it F.env x = pure x) := by
  have acav : ∀ a ∈ F.ac, a ∈ ow.toList ++ F.av := fun a ha => List.mem_append_right _ (X.acs a ha).1
  have old : ∀ {it : Expr}, iterE r F.env.scope fm it = some items → wpAny (MM w) A (eval it F.env) (fun x s₁ => wpAny (MM w) A (pyIter x) Q E s₁) E s ∧ (∀ x, foldedSetIterable it F.env x = pure x) := fun h =>
    iterOk S h C X fun I s₁ h₁ fp P St g kk itr => q I s₁ h₁ fp P St g kk (itr.weak acav)
  have lst : ∀ {a : Addr} {vs : List Value} {xs : List PyData}, s.heap.IsList a vs.toArray → VRs s.heap (ow.toList ++ F.av) vs xs → a ∉ F.ac → wpAny (MM w) A (pyIter (.ref a)) (fun v s' => ∀ items, items = xs → (∀ I s₁ h₁ fp P St, Grow s s₁ → Keeps s₁.heap h₁ → Itr w s₁.heap h₁ (ow.toList ++ F.av) F.ac I items fp P St → Q (.ref I) { s₁ with heap := h₁ }) → Q v s') E s := fun {a vs xs} hl rvs hna => by
    refine wpAny_pyIter_list hl fun items he q => ?_
    subst he
    refine q _ s _ [s.heap.objs.size, a] (fun i v => vs.toArray[i]? = some v) (fun i h => h.IsListIter s.heap.objs.size a i ∧ h.IsList a vs.toArray) (Grow.refl _) (Keeps.push _ _) ?_
    have hlen := rvs.length
    obtain ⟨o, ho, hc, n, hd⟩ := id hl
    have hne : a ≠ s.heap.objs.size := fun e => by rw [e, get_size] at ho; cases ho
    refine ⟨get_size _, ⟨_, Heap.get?_push_size _ rfl⟩, fun A' hA => ?_, ⟨?_, hl.push _⟩, fun i h st => let ⟨⟨o, ho, _⟩, _⟩ := st; ⟨o, ho⟩, fun b hb => ?_, fun j v d hj hd => ?_⟩
    · have := Walks.list (prog := PySem.Challenge.pw_wf0083_01) (w := w) hA s.heap.objs.size a hne vs.toArray
      rw [show vs.toArray.size = items.length by simp [hlen]] at this
      exact this
    · exact ⟨_, Heap.get?_push_size _ rfl, rfl, rfl⟩
    · rcases List.mem_cons.mp hb with rfl | hb
      · exact .inl rfl
      · obtain rfl : b = a := by simpa using hb
        exact .inr ⟨o, _, _, ho, hd, hna⟩
    · obtain ⟨v', hv', r'⟩ := rvs.get hd
      have : vs[j]? = some v := by simpa using hj
      rw [this] at hv'; cases hv'
      exact r'
  unfold iterC at h
  split at h
  · split at h
    · next xs hb =>
      split at h
      · next hv =>
        cases h
        simp only [Bool.and_eq_true] at hv
        refine ⟨ldB X hv.1 hb fun v rv => ?_, fun x => rfl⟩
        obtain ⟨a, vs, rfl, e, l, rvs⟩ := rv
        subst e
        refine wpAny_mono (lst l.isList rvs fun z => (X.own a rfl).2.1 (X.acs a z).1) (fun v s' h => h _ rfl q) fun _ _ e => e
      · cases h
    · next xs hb =>
      split at h
      · next hv =>
        cases h
        simp only [Bool.and_eq_true] at hv
        refine ⟨ldB X hv.1 hb fun v rv => ?_, fun x => rfl⟩
        obtain ⟨a, vs, rfl, n1, n2, l, rvs⟩ := rv
        refine wpAny_mono (lst l rvs n1) (fun v s' h => h _ rfl q) fun _ _ e => e
      · cases h
    · exact old h
  · exact old h
end
end Mine
namespace Mine
noncomputable def goTurn (r : Ev) (sc : Scope) (elt : Expr) (gs : List Comprehension) (x : Str) (ifs : List Expr) (fm : Fm) (d : PyData) : Option (List PyData) := match andT r sc (setB x (.v d) fm) ifs with
  | some true => (match gs with
    | [] => (r.E sc (setB x (.v d) fm) elt).map fun y => [y]
    | g :: gs => match g with
      | ⟨.Name y _, it, ifs', 0⟩ => match iterC r sc (setB x (.v d) fm) it with
        | some its => compGo r sc elt gs y ifs' (setB x (.v d) fm) its
        | none => none
      | _ => none)
  | some false => some []
  | none => none
theorem compGo_turn {r : Ev} {sc : Scope} {elt : Expr} {gs : List Comprehension} {x : Str} {ifs : List Expr} {fm : Fm} {items out : List PyData} (h : compGo r sc elt gs x ifs fm items = some out) :
    fm.lookup x = none ∧ turnsD (goTurn r sc elt gs x ifs fm) items = some out := by
  cases gs with
  | nil =>
    unfold compGo at h
    split at h
    · next hc =>
      simp only [Bool.and_eq_true, Option.isNone_iff_eq_none] at hc
      exact ⟨hc.1, h⟩
    · cases h
  | cons g gs =>
    unfold compGo at h
    split at h
    · next hc =>
      simp only [Bool.and_eq_true, Option.isNone_iff_eq_none] at hc
      exact ⟨hc.1, h⟩
    · cases h
/-- between two turns -/
structure LJ (w : World) (F : Fx) (fm : Fm) (D I : Addr) (items : List PyData) (fp : List Addr) (P : Nat → Value → Prop) (St : Nat → Heap → Prop) (s0 : Shared) (i : Nat) (ds : List PyData) (s : Shared) : Prop where
  fr : FR w (F.add I) fm none s
  st : St i s.heap
  fpo : ∀ b ∈ fp, b = I ∨ (b ≠ D ∧ b ∉ F.wr ∧ ∃ o, s.heap.get? b = some o)
  pv : ∀ j v d, P j v → items[j]? = some d → VR s.heap (F.add I).av v d
  acc : ∃ ys : List Value, s.heap.PlainList D ys.toArray ∧ VRs s.heap (F.add I).av ys ds
  fp0 : FP s0 s
structure Stand (w : World) (F : Fx) (D I : Addr) (items : List PyData) (fp : List Addr) (P : Nat → Value → Prop) (St : Nat → Heap → Prop) : Prop where
  W : ∀ A : Around, A.handled = none → Walks PySem.Challenge.pw_wf0083_01 w A I fp [I] items.length P St
  stI : ∀ i h, St i h → ∃ o, h.get? I = some o
  dac : D ∈ F.ac
  dbase : F.base D = none
  ibase : F.base I = none
  ne : I ≠ D
  acs : ∀ y, y ∈ F.ac → y ∈ F.av
  iav : I ∉ F.av
section
variable {w : World} {k : Nat} {r : Ev} {F : Fx} {fm fm' : Fm} {A : Around} {s s' : Shared} {E : Value → Shared → Prop} {D I : Addr} {items : List PyData} {fp : List Addr} {P : Nat → Value → Prop} {St : Nat → Heap → Prop} {s0 s1 s2 : Shared} {i : Nat} {ds : List PyData} {v : Value} {d : PyData} {x : Str}
theorem Heap.plain_at {h h' : Heap} {a : Addr} {its : Array Value} (x : h.PlainList a its) (k : ∀ o, h.get? a = some o → h'.get? a = some o) : h'.PlainList a its := let ⟨n, ho⟩ := x; ⟨n, k _ ho⟩
theorem turnStart (H : Stand w F D I items fp P St) (J : LJ w F fm D I items fp P St s0 i ds s1) (C : Cx k A) (hlt : i < items.length) (hd : items[i]? = some d) {Q : Option Value → Shared → Prop}
    (q : ∀ v s2, LJ w F fm D I items fp P St s0 (i + 1) ds s2 → VR s2.heap (F.add I).av v d → Q (some v) s2) : wpAny (MM w) A (pyNext (.ref I)) Q E s1 := by
  refine (H.W A C.handled).item i s1 _ _ hlt J.st fun v h2 tk hP st2 k2 => ?_
  have kI : ∀ b o, b ≠ I → s1.heap.get? b = some o → h2.get? b = some o := fun b o hb e => k2 b o (by simpa using hb) e
  have v2 : ∀ j v d, P j v → items[j]? = some d → VR h2 (F.add I).av v d := fun j v d hj hd => (J.pv j v d hj hd).upd kI (off_av (.head _))
  refine q v _ ⟨J.fr.updAc (x := I) (.head _) H.ibase kI (H.stI _ _ st2), st2, fun b hb => ?_, v2, ?_, ⟨J.fp0.gens, J.fp0.os⟩⟩ (v2 i v d hP hd)
  · by_cases hbI : b = I
    · exact .inl hbI
    · rcases J.fpo b hb with rfl | ⟨n1, n2, o, ho⟩
      · exact absurd rfl hbI
      · exact .inr ⟨n1, n2, o, kI b o hbI ho⟩
  · obtain ⟨ys, hp, hv⟩ := J.acc
    exact ⟨ys, Heap.plain_at hp fun o ho => kI D o (Ne.symm H.ne) ho, hv.upd kI (off_av (.head _))⟩
theorem turnPut (H : Stand w F D I items fp P St) (J : LJ w F fm D I items fp P St s0 i ds s2) (hx : F.env.kindOf x = some .local ∨ x ∈ F.oc) (rv : VR s2.heap (F.add I).av v d) {px : Pos} {Q : Unit → Shared → Prop}
    (q : ∀ s3, FR w ((F.add I).at s2.heap (some D)) (setB x (.v d) fm) none s3 → (∃ ys : List Value, s3.heap.PlainList D ys.toArray ∧ VRs s3.heap (F.add I).av ys ds) → FP s0 s3 → Q () s3) : wpAny (MM w) A (assign (.Name x px) F.env v) Q E s2 := by
  have hbD : (F.add I).base D = none := H.dbase
  refine wpAny_assign_Name (stB (F := (F.add I).at s2.heap none) J.fr.rebase hx (b := .v d) rv fun h' t X' => ?_)
  refine q _ (FR.lessD (FR.rebaseD J.fr hbD) X') ?_ ⟨J.fp0.gens, J.fp0.os⟩
  obtain ⟨ys, hp, hv⟩ := J.acc
  have hDwr : D ∉ F.wr := (J.fr.acs D (.tail _ H.dac)).2.2.1
  refine ⟨ys, Heap.plain_at hp fun o ho => ?_, ?_⟩
  · have := FR.still (F := F.add I) (s := s2) (ow := none) X' (b := D) (fun z => nomatch z) hDwr
    exact this.1 o ho
  · have Y := FR.lessD (FR.rebaseD J.fr hbD) X'
    exact VRs.moveD hv (.tail _ (H.acs _ H.dac)) J.fr Y
theorem turnEnd (C : Cx k A) (H : Stand w F D I items fp P St) (J : LJ w F fm D I items fp P St s0 i ds s2) {ds' : List PyData} (hf : fm.lookup x = none) (Y : FR w ((F.add I).at s2.heap (some D)) (setB x (.v d) fm) none s')
    (acc : ∃ ys : List Value, s'.heap.PlainList D ys.toArray ∧ VRs s'.heap (F.add I).av ys ds') (p : FP s0 s') : LJ w F fm D I items fp P St s0 i ds' s' := by
  have hbD : (F.add I).base D = none := H.dbase
  have hDav : D ∈ (F.add I).av := .tail _ (H.acs _ H.dac)
  have hIwr : I ∉ F.wr := (J.fr.acs I (.head _)).2.2.1
  refine ⟨(FR.backD J.fr hbD Y).sub fun y b e => ?_, (H.W A C.handled).frame _ _ _ J.st fun b hb o ho => ?_, fun b hb => ?_, fun j v d hj hd => VR.moveD (J.pv j v d hj hd) hDav J.fr Y, acc, p⟩
  · rw [lookup_setB]
    have : y ≠ x := fun q => by rw [q, hf] at e; cases e
    rw [if_neg this]; exact e
  · rcases J.fpo b hb with rfl | ⟨n1, n2, _⟩
    · exact FR.stillD (F := F.add b) Y H.ne hIwr o ho
    · exact FR.stillD (F := F.add I) Y n1 n2 o ho
  · rcases J.fpo b hb with rfl | ⟨n1, n2, o, ho⟩
    · exact .inl rfl
    · exact .inr ⟨n1, n2, o, FR.stillD (F := F.add I) Y n1 n2 o ho⟩
theorem loopOk (S : Sound w k r) {elt : Expr} {gens : List Comprehension} {scope : Scope} {pos : Pos} {D : Addr} : ∀ (gs : List Comprehension) {F : Fx} {fm : Fm} {j : Nat} {x : Str} {px : Pos} {iter : Expr} {ifs : List Expr} {items out ds0 : List PyData} {I : Addr} {fp : List Addr}
    {P : Nat → Value → Prop} {St : Nat → Heap → Prop} {A : Around} {s : Shared} {R : Result → Shared → Prop}, gens.drop j = ⟨.Name x px, iter, ifs, 0⟩ :: gs →
    (∀ g ∈ gens, ∃ y py it' ifs', g = ⟨.Name y py, it', ifs', 0⟩ ∧ noSet it' = true ∧ (F.env.kindOf y = some .local ∨ y ∈ F.oc)) → compGo r F.env.scope elt gs x ifs fm items = some out → Cx k A → Stand w F D I items fp P St → LJ w F fm D I items fp P St s 0 ds0 s → (ds0 ++ out).length ≤ 1000 →
    (∀ s' ys, FR w F fm none s' → s'.heap.PlainList D (List.toArray ys) → VRs s'.heap F.av ys (ds0 ++ out) → FP s s' → R (.ok .next) s') → codeAny (MM w) A (.compLoop (.ListComp elt gens scope pos) j (.ref I) (.ref D) F.env) R s := by
  intro gs
  induction gs with
  | nil =>
    intro F fm j x px iter ifs items out ds0 I fp P St A s R hdrop htg hgo C H J0 hsz hR
    obtain ⟨hf, ht⟩ := compGo_turn hgo
    have hj : gens[j]? = some ⟨.Name x px, iter, ifs, 0⟩ := by
      have := congrArg (fun l => l[0]?) hdrop
      simpa [List.getElem?_drop] using this
    have hj1 : gens[j + 1]? = none := by
      have := congrArg (fun l => l[1]?) hdrop
      simpa [List.getElem?_drop] using this
    have hx : F.env.kindOf x = some .local ∨ x ∈ F.oc := by
      obtain ⟨_, _, _, _, e, _, hx⟩ := htg _ (List.mem_of_getElem? hj)
      cases e; exact hx
    refine compLoop_last hj hj1 (fun n s' => ∃ i ds1 rest, n = items.length - i ∧ i ≤ items.length ∧ turnsD (goTurn r F.env.scope elt [] x ifs fm) (items.drop i) = some rest ∧ ds0 ++ out = ds1 ++ rest ∧ LJ w F fm D I items fp P St s i ds1 s') ?_ items.length
      ⟨0, ds0, out, rfl, Nat.zero_le _, ht, rfl, J0⟩ (fun v => rfl)
    rintro n s1 ⟨i, ds1, rest, rfl, hi, htr, hds, J⟩
    by_cases hlt : i < items.length
    · have hd : items[i]? = some items[i] := List.getElem?_eq_getElem hlt
      rw [List.drop_eq_getElem_cons hlt] at htr
      generalize items[i] = d at hd htr
      refine turnStart H J C hlt hd fun v s2 J2 rv => ?_
      refine turnPut H J2 hx rv fun s3 X3 acc3 p3 => ?_
      unfold turnsD at htr
      split at htr
      · next y1 hy1 =>
        split at htr
        · next rest' hrest =>
          split at htr
          · cases htr
            unfold goTurn at hy1
            split at hy1
            · next ht =>
              simp only [Option.map_eq_some_iff] at hy1
              obtain ⟨dy, hdy, rfl⟩ := hy1
              refine testsOk (F := (F.add I).at s2.heap (some D)) S ht C X3 fun s4 g4 => ?_
              rw [if_pos rfl]
              refine S.E (F := (F.add I).at s2.heap (some D)) hdy C (X3.grow g4) fun u s5 ru g5 => ?_
              have X5 := (X3.grow g4).grow g5
              obtain ⟨ys, hp, hv⟩ := acc3
              have hp5 := Heap.plain_at hp fun o ho => g5.heap _ _ (g4.heap _ _ ho)
              have hv5 := (hv.keeps g4.heap).keeps g5.heap
              have hlen := hv.length
              have hlen2 : ds1.length ≤ 1000 := by
                have := congrArg List.length hds
                simp only [List.length_append] at this hsz
                omega
              refine wpAny_list_append_plain hp5 (fun h' hp6 same => ?_) (by rw [List.size_toArray]; exact Nat.le_trans (show ys.length ≤ 1000 by omega) (by decide))
              have k6 := sameBut_keeps same
              have hDac : D ∈ ((F.add I).at s2.heap (some D)).ac := .tail _ H.dac
              have hDb : ((F.add I).at s2.heap (some D)).base D = none := if_pos (List.mem_append_left _ (by simp))
              have X6 : FR w ((F.add I).at s2.heap (some D)) (setB x (.v d) fm) none { s5 with heap := h' } := X5.updAc hDac hDb k6 (let ⟨n, ho⟩ := hp6; ⟨_, ho⟩)
              have hDav : D ∈ (F.add I).av := .tail _ (H.acs _ H.dac)
              have acc6 : ∃ ys' : List Value, h'.PlainList D ys'.toArray ∧ VRs h' (F.add I).av ys' (ds1 ++ [dy]) :=
                ⟨ys ++ [u], by simpa using hp6, (hv5.upd k6 (off_av hDav)).append (VRs.cons (VR.upd ru k6 (off_av hDav)) VRs.nil)⟩
              refine ⟨items.length - (i + 1), by omega, i + 1, ds1 ++ [dy], rest', rfl, hlt, hrest, by rw [hds]; simp, ?_⟩
              exact turnEnd C H J2 hf X6 acc6 (p3.trans ((FP.of g4).trans ((FP.of g5).trans ⟨GX.refl _, rfl⟩)))
            · next ht =>
              cases hy1
              refine testsOk (F := (F.add I).at s2.heap (some D)) S ht C X3 fun s4 g4 => ?_
              rw [if_neg (by simp)]
              refine ⟨items.length - (i + 1), by omega, i + 1, ds1, rest', rfl, hlt, hrest, by rw [hds]; simp, ?_⟩
              obtain ⟨ys, hp, hv⟩ := acc3
              exact turnEnd C H J2 hf (X3.grow g4) ⟨ys, Heap.plain_at hp fun o ho => g4.heap _ _ ho, hv.keeps g4.heap⟩ (p3.trans (FP.of g4))
            · cases hy1
          · cases htr
        · cases htr
      · cases htr
    · have hle : i = items.length := by omega
      subst hle
      rw [List.drop_length] at htr
      cases htr
      refine (H.W A C.handled).done s1 _ _ J.st fun h2 tk k2 => ?_
      have kI : ∀ b o, b ≠ I → s1.heap.get? b = some o → h2.get? b = some o := fun b o hb e => k2 b o (by simpa using hb) e
      have X2 : FR w F fm none { s1 with heap := h2, toks := tk } := J.fr.updDrop H.ibase H.acs (fun a ha => by
        obtain ⟨o, ho⟩ := J.fr.lives a (.tail _ ha)
        exact ⟨o, kI a o (fun e => H.iav (e ▸ ha)) ho⟩) kI
      obtain ⟨ys, hp, hv⟩ := J.acc
      refine hR _ ys X2 (Heap.plain_at hp fun o ho => kI D o (Ne.symm H.ne) ho) ?_ ⟨J.fp0.gens, J.fp0.os⟩
      rw [hds, List.append_nil]
      exact (hv.upd kI (off_av (.head _))).weak fun a ha => .tail _ ha
  | cons g gs ih =>
    intro F fm j x px iter ifs items out ds0 I fp P St A s R hdrop htg hgo C H J0 hsz hR
    obtain ⟨hf, ht⟩ := compGo_turn hgo
    have hj : gens[j]? = some ⟨.Name x px, iter, ifs, 0⟩ := by
      have := congrArg (fun l => l[0]?) hdrop
      simpa [List.getElem?_drop] using this
    have hj1 : gens[j + 1]? = some g := by
      have := congrArg (fun l => l[1]?) hdrop
      simpa [List.getElem?_drop] using this
    have hx : F.env.kindOf x = some .local ∨ x ∈ F.oc := by
      obtain ⟨_, _, _, _, e, _, hx⟩ := htg _ (List.mem_of_getElem? hj)
      cases e; exact hx
    have hdrop1 : gens.drop (j + 1) = g :: gs := by
      have := congrArg (fun l => l.drop 1) hdrop
      simpa [List.drop_drop, Nat.add_comm] using this
    obtain ⟨y, py, iter', ifs', rfl, hns, hy⟩ := htg _ (List.mem_of_getElem? hj1)
    refine compLoop_more hj hj1 (fun z => by cases iter' <;> first | rfl | exact Bool.noConfusion hns) (fun n s' => ∃ i ds1 rest, n = items.length - i ∧ i ≤ items.length ∧ turnsD (goTurn r F.env.scope elt (⟨.Name y py, iter', ifs', 0⟩ :: gs) x ifs fm) (items.drop i) = some rest ∧ ds0 ++ out = ds1 ++ rest ∧ LJ w F fm D I items fp P St s i ds1 s') ?_ items.length
      ⟨0, ds0, out, rfl, Nat.zero_le _, ht, rfl, J0⟩ (fun v => rfl)
    rintro n s1 ⟨i, ds1, rest, rfl, hi, htr, hds, J⟩
    by_cases hlt : i < items.length
    · have hd : items[i]? = some items[i] := List.getElem?_eq_getElem hlt
      rw [List.drop_eq_getElem_cons hlt] at htr
      generalize items[i] = d at hd htr
      refine turnStart H J C hlt hd fun v s2 J2 rv => ?_
      refine turnPut H J2 hx rv fun s3 X3 acc3 p3 => ?_
      unfold turnsD at htr
      split at htr
      · next y1 hy1 =>
        split at htr
        · next rest' hrest =>
          split at htr
          · cases htr
            unfold goTurn at hy1
            split at hy1
            · next ht =>
              refine testsOk (F := (F.add I).at s2.heap (some D)) S ht C X3 fun s4 g4 => ?_
              rw [if_pos rfl]
              simp only at hy1
              split at hy1
              · next its hits =>
                have X4 := X3.grow g4
                have hDac : D ∈ ((F.add I).at s2.heap (some D)).ac := .tail _ H.dac
                refine (iterCOk (F := (F.add I).at s2.heap (some D)) S hits C X4 fun I2 s5 h6 fp2 P2 St2 g5 kk itr => ?_).1
                have X5 := X4.grow g5
                have X6 : FR w (((F.add I).at s2.heap (some D)).add I2) (setB x (.v d) fm) none { s5 with heap := h6 } := X5.addAv itr.new kk itr.here
                obtain ⟨ys, hp, hv⟩ := acc3
                have hp5 := Heap.plain_at hp fun o ho => g5.heap _ _ (g4.heap _ _ ho)
                have hv5 := (hv.keeps g4.heap).keeps g5.heap
                have hDI2 : I2 ≠ D := fun e => by
                  obtain ⟨n, ho⟩ := hp5
                  rw [← e, itr.new] at ho; cases ho
                have hDb : ((F.add I).at s2.heap (some D)).base D = none := if_pos (List.mem_append_left _ (by simp))
                have hI2b : ((F.add I).at s2.heap (some D)).base I2 = none := by
                  cases e : ((F.add I).at s2.heap (some D)).base I2 with
                  | none => rfl
                  | some o => have := X5.keep _ _ e; rw [itr.new] at this; cases this
                have hI2av : I2 ∉ ((F.add I).at s2.heap (some D)).av := fun z => by
                  obtain ⟨o, ho⟩ := X5.lives I2 z
                  rw [itr.new] at ho; cases ho
                have H2 : Stand w ((F.add I).at s2.heap (some D)) D I2 its fp2 P2 St2 := ⟨itr.W, itr.stI, hDac, hDb, hI2b, hDI2, fun z hz => (X5.acs z hz).1, hI2av⟩
                have J2' : LJ w ((F.add I).at s2.heap (some D)) (setB x (.v d) fm) D I2 its fp2 P2 St2 { s5 with heap := h6 } 0 ds1 { s5 with heap := h6 } := by
                  refine ⟨X6, itr.st, fun b hb => ?_, fun j v d hj hd => ?_, ⟨ys, Heap.plain_at hp5 fun o ho => kk _ _ ho, ?_⟩, FP.refl _⟩
                  · rcases itr.fpo b hb with rfl | ⟨o, its', n', ho, hd', hn⟩
                    · exact .inl rfl
                    · refine .inr ⟨fun e => hn (e ▸ hDac), fun z => ?_, o, kk _ _ ho⟩
                      obtain ⟨o', ho', hd''⟩ := X5.wrs b z
                      rw [ho] at ho'; cases ho'
                      exact hd'' _ _ hd'
                  · exact ((itr.P j v d hj hd).avoid_new itr.new).keeps kk
                  · exact (hv5.avoid_new itr.new).keeps kk
                have hsz2 : (ds1 ++ y1).length ≤ 1000 := by
                  have := congrArg List.length hds
                  simp only [List.length_append] at this hsz ⊢
                  omega
                have p5 : FP s { s5 with heap := h6 } := p3.trans ((FP.of g4).trans ((FP.of g5).trans ⟨GX.refl _, rfl⟩))
                have go : ∀ {R' : Result → Shared → Prop}, (∀ s', (∃ m, m < items.length - i ∧ ∃ i ds1 rest, m = items.length - i ∧ i ≤ items.length ∧ turnsD (goTurn r F.env.scope elt (⟨.Name y py, iter', ifs', 0⟩ :: gs) x ifs fm) (items.drop i) = some rest ∧ ds0 ++ out = ds1 ++ rest ∧ LJ w F fm D I items fp P St s i ds1 s') → R' (.ok .next) s') →
                    codeAny (MM w) A (.compLoop (.ListComp elt gens scope pos) (j + 1) (.ref I2) (.ref D) F.env) R' { s5 with heap := h6 } := fun {R'} hR' => by
                  refine ih (F := (F.add I).at s2.heap (some D)) hdrop1 htg hy1 C H2 J2' hsz2 fun s7 ys7 X7 hp7 hv7 p7 => hR' s7 ?_
                  refine ⟨items.length - (i + 1), by omega, i + 1, ds1 ++ y1, rest', rfl, hlt, hrest, by rw [hds]; simp, ?_⟩
                  exact turnEnd C H J2 hf X7 ⟨ys7, hp7, hv7⟩ (p5.trans p7)
                refine compStart_j hj1 (go fun s' h => h) ((itr.W A C.handled).self 0 _ _ _ itr.st (go fun s' h => h))
              · cases hy1
            · next ht =>
              cases hy1
              refine testsOk (F := (F.add I).at s2.heap (some D)) S ht C X3 fun s4 g4 => ?_
              rw [if_neg (by simp)]
              refine ⟨items.length - (i + 1), by omega, i + 1, ds1, rest', rfl, hlt, hrest, by rw [hds]; simp, ?_⟩
              obtain ⟨ys, hp, hv⟩ := acc3
              exact turnEnd C H J2 hf (X3.grow g4) ⟨ys, Heap.plain_at hp fun o ho => g4.heap _ _ ho, hv.keeps g4.heap⟩ (p3.trans (FP.of g4))
            · cases hy1
          · cases htr
        · cases htr
      · cases htr
    · have hle : i = items.length := by omega
      subst hle
      rw [List.drop_length] at htr
      cases htr
      refine (H.W A C.handled).done s1 _ _ J.st fun h2 tk k2 => ?_
      have kI : ∀ b o, b ≠ I → s1.heap.get? b = some o → h2.get? b = some o := fun b o hb e => k2 b o (by simpa using hb) e
      have X2 : FR w F fm none { s1 with heap := h2, toks := tk } := J.fr.updDrop H.ibase H.acs (fun a ha => by
        obtain ⟨o, ho⟩ := J.fr.lives a (.tail _ ha)
        exact ⟨o, kI a o (fun e => H.iav (e ▸ ha)) ho⟩) kI
      obtain ⟨ys, hp, hv⟩ := J.acc
      refine hR _ ys X2 (Heap.plain_at hp fun o ho => kI D o (Ne.symm H.ne) ho) ?_ ⟨J.fp0.gens, J.fp0.os⟩
      rw [hds, List.append_nil]
      exact (hv.upd kI (off_av (.head _))).weak fun a ha => .tail _ ha
end
end Mine
namespace Mine
theorem closure_go {env : Env} (f : Str × NameKind → List (Str × Addr) → Sem (ForInStep (List (Str × Addr))))
    (hf : ∀ n k cs, f (n, k) cs = if k == .free then (do let c ← cellOf env n; pure (.yield ((n, c) :: cs))) else pure (.yield cs)) : ∀ (names : List (Str × NameKind)) (acc : List (Str × Addr)), (∀ nk ∈ names, nk.2 = .free → ∃ c, env.cells.lookup nk.1 = some c) →
    (∀ n c, acc.lookup n = some c → env.cells.lookup n = some c) → ∃ cl, forIn names acc f = pure cl ∧ (∀ n c, cl.lookup n = some c → env.cells.lookup n = some c) ∧ (∀ n c, acc.lookup n = some c → ∃ c', cl.lookup n = some c') ∧ (∀ nk ∈ names, nk.2 = .free → ∃ c, cl.lookup nk.1 = some c)
  | [], acc, _, ha => ⟨acc, by simp, ha, fun n c e => ⟨c, e⟩, fun _ h => nomatch h⟩
  | (n, kd) :: r, acc, h, ha => by
    have hr : ∀ nk ∈ r, nk.2 = .free → ∃ c, env.cells.lookup nk.1 = some c := fun nk hm => h nk (.tail _ hm)
    by_cases hk : kd = .free
    · subst hk
      obtain ⟨c, hc⟩ := h _ (.head _) rfl
      obtain ⟨cl, e, h1, h2, h3⟩ := closure_go f hf r ((n, c) :: acc) hr (fun m c' e => by
        rw [List.lookup_cons] at e
        split at e
        · next q => cases e; rw [eq_of_beq q]; exact hc
        · exact ha m c' e)
      refine ⟨cl, ?_, h1, fun m c' e' => ?_, fun nk hm hf' => ?_⟩
      · rw [List.forIn_cons, hf]
        have : cellOf env n = pure c := by unfold cellOf; simp only [hc]
        simp only [this, beq_self_eq_true, if_true, pure_bind]
        exact e
      · by_cases q : m = n
        · subst q; exact h2 m c (by simp [List.lookup])
        · exact h2 m c' (by rw [List.lookup_cons, show (m == n) = false by simpa using q]; exact e')
      · rcases List.mem_cons.mp hm with rfl | hm
        · exact h2 n c (by simp [List.lookup])
        · exact h3 nk hm hf'
    · obtain ⟨cl, e, h1, h2, h3⟩ := closure_go f hf r acc hr ha
      refine ⟨cl, ?_, h1, h2, fun nk hm hf' => ?_⟩
      · rw [List.forIn_cons, hf]
        have : (kd == NameKind.free) = false := by simpa using hk
        simp only [this, Bool.false_eq_true, if_false, pure_bind]
        exact e
      · rcases List.mem_cons.mp hm with rfl | hm
        · exact absurd hf' hk
        · exact h3 nk hm hf'
theorem closure_of {scope : Scope} {env : Env} (h : ∀ nk ∈ scope.names, nk.2 = .free → ∃ c, env.cells.lookup nk.1 = some c) :
    ∃ cl, closureFor scope env = pure cl ∧ (∀ n c, cl.lookup n = some c → env.cells.lookup n = some c) ∧ (∀ nk ∈ scope.names, nk.2 = .free → ∃ c, cl.lookup nk.1 = some c) := by
  obtain ⟨cl, e, h1, _, h3⟩ := closure_go (env := env) (fun x cs => match x with | (n, k) => if k == .free then (do let c ← cellOf env n; pure (.yield ((n, c) :: cs))) else pure (.yield cs)) (fun _ _ _ => rfl) scope.names [] h (fun n c e => by cases e)
  refine ⟨cl, ?_, h1, h3⟩
  unfold closureFor
  simp only [bind_pure] at *
  rw [← e]
theorem newEnvComp {M : Model} {A : Around} {E : Value → Shared → Prop} {s : Shared} {scope : Scope} {g : Addr} {cl : List (Str × Addr)} {env : Env} {Q : Env → Shared → Prop}
    (q : Q { scope, locals := s.heap.objs.size, globals := g, cells := cellsFrom (s.heap.objs.size + 1) scope.names cl, qual := env.qual, func := none, code := env.code, frame := env.frame, builtins := env.builtins }
      { s with heap := pushCells (s.heap.push { cls := .type "dict", data := .dict #[] }) scope.names }) : wpAny M A (newFunctionEnv scope g cl [] env.qual none .none (some env)) Q E s := by
  simp only [newFunctionEnv, Option.isSome_some, if_true]
  refine wpAny_bind (wpAny_alloc ?_)
  refine wpAny_bind (wpAny_layCells _ (fun name kind cells => by cases hkc : kind == NameKind.cell <;> simp [hkc]) _ _ _ _ ?_)
  rw [show ({ s with heap := s.heap.push { cls := .type "dict", data := .dict #[] } } : Shared).heap.objs.size = s.heap.objs.size + 1 from Heap.size_push ..]
  rw [List.forIn_nil]
  exact wpAny_bind (wpAny_pure (wpAny_pure q))
theorem cellsFrom_append : ∀ (names : List (Str × NameKind)) (n : Nat) (acc : List (Str × Addr)), cellsFrom n names acc = cellsFrom n names [] ++ acc
  | [], _, _ => rfl
  | (x, kd) :: r, n, acc => by
    unfold cellsFrom
    split
    · rw [cellsFrom_append r (n + 1) ((x, n) :: acc), cellsFrom_append r (n + 1) [(x, n)]]
      simp
    · exact cellsFrom_append r n acc
theorem lookupA {β : Type} {x : Str} : ∀ {l l' : List (Str × β)}, (l ++ l').lookup x = (l.lookup x).or (l'.lookup x)
  | [], _ => by simp [List.lookup]
  | (y, v) :: l, l' => by
    rw [List.cons_append, List.lookup_cons, List.lookup_cons, lookupA]
    cases (x == y) <;> rfl
theorem cellsFrom_mem {x : Str} {c : Addr} : ∀ {names : List (Str × NameKind)} {n : Nat}, (x, c) ∈ cellsFrom n names [] → (x, NameKind.cell) ∈ names
  | [], _, h => nomatch h
  | (y, kd) :: r, n, h => by
    unfold cellsFrom at h
    split at h
    · next hk =>
      rw [cellsFrom_append] at h
      rcases List.mem_append.mp h with h | h
      · exact .tail _ (cellsFrom_mem h)
      · have e : (x, c) = (y, n) := by simpa using h
        cases e
        rw [eq_of_beq hk]; exact .head _
    · exact .tail _ (cellsFrom_mem h)
theorem cellsFrom_has {x : Str} : ∀ {names : List (Str × NameKind)} {n : Nat}, (x, NameKind.cell) ∈ names → ∃ c, (cellsFrom n names []).lookup x = some c
  | [], _, h => nomatch h
  | (y, kd) :: r, n, h => by
    unfold cellsFrom
    split
    · rw [cellsFrom_append, lookupA]
      rcases List.mem_cons.mp h with h | h
      · cases h
        cases e : (cellsFrom (n + 1) r []).lookup x with
        | some c => exact ⟨c, rfl⟩
        | none => exact ⟨n, by simp [List.lookup]⟩
      · obtain ⟨c, hc⟩ := cellsFrom_has (n := n + 1) h
        exact ⟨c, by rw [hc]; rfl⟩
    · next hk =>
      rcases List.mem_cons.mp h with h | h
      · cases h; exact absurd rfl hk
      · exact cellsFrom_has h
theorem lookup_kinds {sc scope : Scope} {x : Str} : (kinds sc scope).names.lookup x = (scope.names.lookup x).map fun k => if (k == .free && sc.kind == .function && sc.names.lookup x == some .cell) then .cell else k := by
  show (scope.names.map _).lookup x = _
  induction scope.names with
  | nil => rfl
  | cons p l ih =>
    obtain ⟨y, kd⟩ := p
    rw [List.map_cons, List.lookup_cons]
    have e : ∀ (b : Bool), (if b = true then (y, NameKind.cell) else (y, kd)) = (y, if b = true then NameKind.cell else kd) := fun b => by cases b <;> rfl
    rw [e, List.lookup_cons]
    by_cases q : (x == y) = true
    · rw [q, eq_of_beq q]; rfl
    · have q' : (x == y) = false := by simpa using q
      rw [q']; exact ih
theorem mem_of_lookupK {x : Str} {kd : NameKind} : ∀ {l : List (Str × NameKind)}, l.lookup x = some kd → (x, kd) ∈ l := fun h => mem_of_lookup h
theorem lookup_of_memK {x : Str} {kd : NameKind} : ∀ {l : List (Str × NameKind)}, (l.map (·.1)).Nodup → (x, kd) ∈ l → l.lookup x = some kd
  | [], _, h => nomatch h
  | (y, k2) :: l, hn, h => by
    rw [List.map_cons, List.nodup_cons] at hn
    rw [List.lookup_cons]
    rcases List.mem_cons.mp h with h | h
    · cases h; simp
    · have : x ≠ y := fun e => hn.1 (by rw [← e]; exact List.mem_map_of_mem (f := (·.1)) h)
      rw [show (x == y) = false by simpa using this]
      exact lookup_of_memK hn.2 h
theorem capt_lookup {sc : Scope} {fm : Fm} {x : Str} {b : B} : ∀ {names : List (Str × NameKind)}, (capt sc names fm).lookup x = some b → ∃ b0, b = roB b0 ∧ fm.lookup x = some b0 ∧ (x, NameKind.free) ∈ names
  | [], h => by cases h
  | (y, kd) :: l, h => by
    by_cases hk : kd = .free
    · subst hk
      unfold capt at h
      split at h
      · next b1 hb =>
        rw [List.lookup_cons] at h
        split at h
        · next q => cases h; rw [eq_of_beq q]; exact ⟨b1, rfl, hb, .head _⟩
        · obtain ⟨b0, h1, h2, h3⟩ := capt_lookup h; exact ⟨b0, h1, h2, .tail _ h3⟩
      · obtain ⟨b0, h1, h2, h3⟩ := capt_lookup h; exact ⟨b0, h1, h2, .tail _ h3⟩
    · have e : capt sc ((y, kd) :: l) fm = capt sc l fm := by
        cases kd <;> first | rfl | exact absurd rfl hk
      rw [e] at h
      obtain ⟨b0, h1, h2, h3⟩ := capt_lookup h; exact ⟨b0, h1, h2, .tail _ h3⟩
end Mine
namespace Mine
section
variable {w : World} {k : Nat} {r : Ev} {F : Fx} {fm fm' : Fm} {A : Around} {ow : Option Addr} {s s' : Shared} {E : Value → Shared → Prop}
theorem compSc_iff {sc scope : Scope} (h : compSc sc fm scope = true) : scope.kind = .function ∧ (scope.names.map (·.1)).Nodup ∧ scope.names.lookup (Str.ofString "__debug__") = none ∧ scope.names.lookup (Str.ofString "__classdict__") = none ∧
    ∀ nk ∈ scope.names, nk.2 = .free → (sc.names.lookup nk.1 = some .cell ∨ sc.names.lookup nk.1 = some .free) ∧ (fm.lookup nk.1).isSome = true := by
  unfold compSc at h
  simp only [Bool.and_eq_true, beq_iff_eq, decide_eq_true_eq, List.all_eq_true, Bool.or_eq_true, bne_iff_ne] at h
  obtain ⟨⟨⟨⟨h1, h2⟩, h3⟩, h4⟩, h5⟩ := h
  exact ⟨h1, h2, h3, h4, fun nk hm hf => (h5 nk hm).resolve_left fun q => q hf⟩
/-- the comprehension's frame -/
noncomputable def cFx (F : Fx) (h : Heap) (ow : Option Addr) (scope : Scope) (cl : List (Str × Addr)) (D L : Addr) : Fx where
  base := h.get?
  env := { scope := relabel scope F.env, locals := L, globals := F.env.globals, cells := cellsFrom (L + 1) scope.names cl, qual := F.env.qual, func := none, code := F.env.code, frame := F.env.frame, builtins := F.env.builtins }
  av := D :: (ow.toList ++ F.av)
  wr := L :: (cellsFrom (L + 1) scope.names []).map (·.2)
  oc := (scope.names.filter fun nk => nk.2 == .cell).map (·.1)
  ac := [D]
theorem relabel_kinds {scope : Scope} {env : Env} : relabel scope env = kinds env.scope scope := rfl
theorem compFR {scope : Scope} {cl : List (Str × Addr)} {h₁ : Heap} {s₂ : Shared} {D L I : Addr} (X : FR w F fm ow s) (hsc : compSc F.env.scope fm scope = true) (hcl : ∀ n c, cl.lookup n = some c → F.env.cells.lookup n = some c)
    (hcl2 : ∀ nk ∈ scope.names, nk.2 = .free → ∃ c, cl.lookup nk.1 = some c) (k1 : Keeps s.heap h₁) (hD : s.heap.get? D = none) (hI : s.heap.get? I = none) (hIo : ∃ o, h₁.get? I = some o) (hIL : I < L) (hL : L = h₁.objs.size) (hDL : D < L) (hDo : ∃ o, h₁.get? D = some o)
    (hs : s₂.heap = pushCells (h₁.push { cls := .type "dict", data := .dict #[] }) scope.names) :
    FR w ((cFx F s.heap ow scope cl D L).add I) (capt F.env.scope scope.names fm) none s₂ := by
  obtain ⟨hk, hnd, hdb, hcd, hfree⟩ := compSc_iff hsc
  have kL : Keeps h₁ s₂.heap := fun b o e => by rw [hs]; exact pushCells_keeps _ _ b o (Heap.get?_push_of_some _ e)
  have kk : Keeps s.heap s₂.heap := k1.trans kL
  have hLn : h₁.get? L = none := by rw [hL]; exact get_size _
  have hLs : s.heap.get? L = none := by
    cases e : s.heap.get? L with
    | none => rfl
    | some o => have := k1 _ _ e; rw [hLn] at this; cases this
  have hns : s₂.heap.Ns L fun _ => none := by
    rw [hs, hL]
    exact (Heap.Ns.new h₁ (.type "dict")).keeps (pushCells_keeps _ _)
  have hsz : (h₁.push { cls := .type "dict", data := .dict #[] }).objs.size = L + 1 := by rw [Heap.size_push, hL]
  have ok := cellsFrom_ok scope.names (h₁.push { cls := .type "dict", data := .dict #[] }) (L + 1) [] ⟨fun _ _ hm => (nomatch hm), List.Pairwise.nil⟩ (by rw [hsz]; exact Nat.le_refl _)
  rw [hsz, ← hs] at ok
  have newOld : ∀ {c : Addr}, L + 1 ≤ c → s.heap.get? c = none := fun {c} hc => by
    cases e : s.heap.get? c with
    | none => rfl
    | some o => have h := Heap.lt_size (k1 _ _ e); rw [← hL] at h; exact absurd hc (Nat.not_le_of_lt (Nat.lt_succ_of_lt h))
  have hkind : ∀ x, ((cFx F s.heap ow scope cl D L).add I).env.kindOf x = (scope.names.lookup x).map fun kd => if (kd == .free && F.env.scope.kind == .function && F.env.scope.names.lookup x == some .cell) then .cell else kd := fun x => lookup_kinds
  have hcells : ∀ x, ((cFx F s.heap ow scope cl D L).add I).env.cells.lookup x = ((cellsFrom (L + 1) scope.names []).lookup x).or (cl.lookup x) := fun x => by
    show (cellsFrom (L + 1) scope.names cl).lookup x = _
    rw [cellsFrom_append, lookupA]
  have cellsOf : ∀ x c, ((cFx F s.heap ow scope cl D L).add I).env.cells.lookup x = some c → ((x, c) ∈ cellsFrom (L + 1) scope.names []) ∨ F.env.cells.lookup x = some c := fun x c e => by
    rw [hcells] at e
    cases e1 : (cellsFrom (L + 1) scope.names []).lookup x with
    | some c' => rw [e1] at e; cases e; exact .inl (mem_of_lookup e1)
    | none => rw [e1] at e; exact .inr (hcl x c e)
  have freeCell : ∀ x, (x, NameKind.free) ∈ scope.names → ∃ c, ((cFx F s.heap ow scope cl D L).add I).env.cells.lookup x = some c ∧ F.env.cells.lookup x = some c := fun x hm => by
    obtain ⟨c, hc⟩ := hcl2 _ hm rfl
    refine ⟨c, ?_, hcl x c hc⟩
    rw [hcells]
    cases e1 : (cellsFrom (L + 1) scope.names []).lookup x with
    | some c' =>
      have h1 := lookup_of_memK hnd (cellsFrom_mem (mem_of_lookup e1))
      have h2 := lookup_of_memK hnd hm
      rw [h1] at h2; cases h2
    | none => exact hc
  have hDs₂ : ∃ o, s₂.heap.get? D = some o := let ⟨o, ho⟩ := hDo; ⟨o, kL _ _ ho⟩
  have hIs₂ : ∃ o, s₂.heap.get? I = some o := let ⟨o, ho⟩ := hIo; ⟨o, kL _ _ ho⟩
  have noI : ∀ {a : Addr} {o : Obj}, s.heap.get? a = some o → a ≠ I := fun e q => by rw [q, hI] at e; cases e
  have noID : ∀ {a : Addr} {o : Obj}, s.heap.get? a = some o → a ∉ [I, D] := fun {a o} e q => by
    rcases List.mem_cons.mp q with q | q
    · rw [q, hI] at e; cases e
    · rw [List.mem_singleton.mp q, hD] at e; cases e
  have noD : ∀ {a : Addr} {o : Obj}, s.heap.get? a = some o → a ≠ D := fun e q => by rw [q, hD] at e; cases e
  exact
    { gb := GB.of X.gh
      keep := fun b o e => kk b o e
      hk := hk
      hg := X.hg
      hb := X.hb
      nodbg := by rw [show ((cFx F s.heap ow scope cl D L).add I).env.scope.names.lookup (Str.ofString "__debug__") = _ from hkind _, hdb]; rfl
      nocls := by rw [show ((cFx F s.heap ow scope cl D L).add I).env.scope.names.lookup (Str.ofString "__classdict__") = _ from hkind _, hcd]; rfl
      nsL := ⟨_, hns, fun x b hb q => by
        obtain ⟨b0, _, _, hm⟩ := capt_lookup hb
        have h2 := lookup_of_memK hnd hm
        rw [hkind, h2] at q
        simp only [Option.map_some] at q
        split at q <;> cases q⟩
      cel := fun x b hb q => by
        obtain ⟨b0, rfl, hb0, hm⟩ := capt_lookup hb
        obtain ⟨c, hc, hcF⟩ := freeCell x hm
        obtain ⟨c', v, hc', hi, hbr⟩ := X.cel x b0 hb0 (hfree _ hm rfl).1
        rw [hcF] at hc'; cases hc'
        refine ⟨c, v, hc, hi.keeps kk, ?_⟩
        cases b0 with
        | v d => exact (VR.avoid_new (VR.avoid_new hbr hD) hI).keeps kk
        | own xs =>
          obtain ⟨a, vs, rfl, e, l, rvs⟩ := hbr
          subst e
          obtain ⟨o, _, ho, _⟩ := id l
          exact ⟨a, vs, rfl, noID ho, (fun z => nomatch z), isList_at l.isList fun o ho => kk _ _ ho, ((rvs.avoid_new hD).avoid_new hI).keeps kk⟩
        | ro xs =>
          obtain ⟨a, vs, rfl, n1, n2, l, rvs⟩ := hbr
          obtain ⟨o, ho, _⟩ := id l
          exact ⟨a, vs, rfl, noID ho, (fun z => nomatch z), isList_at l fun o ho => kk _ _ ho, ((rvs.avoid_new hD).avoid_new hI).keeps kk⟩
      ocel := fun x hx => by
        obtain ⟨nk, hm, rfl⟩ := List.mem_map.mp hx
        obtain ⟨hm, hc⟩ := List.mem_filter.mp hm
        obtain ⟨x, kd⟩ := nk
        have hc : kd = .cell := eq_of_beq hc
        subst hc
        obtain ⟨c, hc⟩ := cellsFrom_has (n := L + 1) hm
        refine ⟨?_, c, none, ?_, (ok.empty x c (mem_of_lookup hc)).1, .tail _ (List.mem_map_of_mem (f := (·.2)) (mem_of_lookup hc))⟩
        · rw [hkind, lookup_of_memK hnd hm]; rfl
        · rw [hcells, hc]; rfl
      celE := fun x c e => by
        rcases cellsOf x c e with h | h
        · obtain ⟨o, ho, _⟩ := (ok.empty x c h).1; exact ⟨o, ho⟩
        · obtain ⟨o, ho⟩ := X.celE x c h; exact ⟨o, kk _ _ ho⟩
      inj := fun x hx y c ex ey => by
        obtain ⟨nk, hm, rfl⟩ := List.mem_map.mp hx
        obtain ⟨hm, hc⟩ := List.mem_filter.mp hm
        obtain ⟨x, kd⟩ := nk
        have hc : kd = .cell := eq_of_beq hc
        subst hc
        obtain ⟨c', hc'⟩ := cellsFrom_has (n := L + 1) hm
        have ex' : c = c' := by
          have ex2 : ((cFx F s.heap ow scope cl D L).add I).env.cells.lookup x = some c := ex
          rw [hcells, hc'] at ex2
          exact (Option.some.inj ex2).symm
        subst ex'
        have m1 := mem_of_lookup hc'
        rcases cellsOf y c ey with h | h
        · exact (name_of_addr ok.apart m1 h).symm
        · obtain ⟨o, ho⟩ := X.celE y c h
          rw [newOld (ok.empty x c m1).2] at ho; cases ho
      wrl := .head _
      wrb := fun b hb => by
        rcases List.mem_cons.mp hb with rfl | hb
        · exact hLs
        · obtain ⟨⟨y, c⟩, hm, rfl⟩ := List.mem_map.mp hb
          exact newOld (ok.empty y c hm).2
      own := fun a e => nomatch e
      lives := fun a ha => by
        rcases List.mem_cons.mp ha with rfl | ha
        · exact hIs₂
        · rcases List.mem_cons.mp ha with rfl | ha
          · exact hDs₂
          · exact X.livesAll.keeps kk a ha
      wrs := fun b hb => by
        rcases List.mem_cons.mp hb with rfl | hb
        · obtain ⟨o, es, ep, ho, hd, _⟩ := hns
          exact ⟨o, ho, fun its n e => by rw [hd] at e; cases e⟩
        · obtain ⟨⟨y, c⟩, hm, rfl⟩ := List.mem_map.mp hb
          obtain ⟨o, ho, hd⟩ := (ok.empty y c hm).1
          exact ⟨o, ho, fun its n e => by rw [hd] at e; cases e⟩
      acs := fun x hx => by
        have hxL : x < L := by
          rcases List.mem_cons.mp hx with q | q
          · exact q ▸ hIL
          · exact (List.mem_singleton.mp q) ▸ hDL
        have hxav : x ∈ ((cFx F s.heap ow scope cl D L).add I).av := by
          rcases List.mem_cons.mp hx with q | q
          · rw [q]; exact .head _
          · rw [List.mem_singleton.mp q]; exact .tail _ (.head _)
        refine ⟨hxav, Nat.ne_of_lt hxL, fun z => ?_, fun y c e z => ?_⟩
        · rcases List.mem_cons.mp z with z | z
          · exact Nat.ne_of_lt hxL z
          · obtain ⟨⟨y, c⟩, hm, e⟩ := List.mem_map.mp z
            have h2 := (ok.empty y c hm).2
            have e : c = x := e
            rw [e] at h2
            exact absurd hxL (Nat.not_lt_of_le (Nat.le_of_succ_le h2))
        · rcases cellsOf y c e with h | h
          · have h2 := (ok.empty y c h).2
            rw [z] at h2
            exact absurd hxL (Nat.not_lt_of_le (Nat.le_of_succ_le h2))
          · obtain ⟨o, ho⟩ := X.celE y c h
            exact noID ho (z ▸ hx) }
end
end Mine
namespace Mine
section
variable {w : World} {k : Nat} {r : Ev} {F : Fx} {fm fm' : Fm} {A : Around} {ow : Option Addr} {s s' : Shared} {E : Value → Shared → Prop}
theorem genNames_mem {scope : Scope} : ∀ {gens : List Comprehension}, genNames scope gens = true → ∀ g ∈ gens, ∃ y py it ifs, g = ⟨.Name y py, it, ifs, 0⟩ ∧ noSet it = true ∧ tgtOk scope y = true
  | [], _, g, hg => nomatch hg
  | g0 :: gs, h, g, hg => by
    unfold genNames at h
    split at h
    · next e => cases e
    · next x px it ifs gs' e =>
      cases e
      simp only [Bool.and_eq_true] at h
      rcases List.mem_cons.mp hg with rfl | hg
      · exact ⟨x, px, it, ifs, rfl, h.1.2, h.1.1⟩
      · exact genNames_mem h.2 g hg
    · cases h
theorem compRun (S : Sound w k r) {elt : Expr} {gens : List Comprehension} {scope : Scope} {pos p : Pos} {d : PyData} (h : compE r F.env.scope fm elt gens scope = some d) (C : Cx k A) (X : FR w F fm ow s) {use : Option (Value → Sem Unit)} {Q : Value → Shared → Prop}
    (q : ∀ D L s', Keeps s.heap s'.heap → FP s s' → s.heap.get? L = none → D ≠ L → (∃ m, s'.heap.Ns L m) → VR s'.heap (ow.toList ++ F.av) (.ref D) d → compPost (MM w) A E use Q (.ref D) L (.ok .next) s') :
    wpAny (MM w) A (comprehension (.ListComp elt gens scope pos) scope F.env p (newList []) false (firstIter gens F.env) use) Q E s ∧ firstAsync gens = false := by
  unfold compE at h
  split at h
  · next x px it ifs gs =>
    refine ⟨?_, rfl⟩
    split at h
    · next hc =>
      simp only [Bool.and_eq_true] at hc
      obtain ⟨hsc, hgn⟩ := hc
      split at h
      · next items hits =>
        split at h
        · next out hgo =>
          split at h
          · next hsm =>
            cases h
            obtain ⟨hk, hnd, hdb, hcd, hfree⟩ := compSc_iff hsc
            obtain ⟨cl, hclos, hcl, hcl2⟩ := closure_of (scope := scope) (env := F.env) fun nk hm hf => by
              obtain ⟨h1, h2⟩ := hfree nk hm hf
              obtain ⟨b, hb⟩ := Option.isSome_iff_exists.mp h2
              obtain ⟨c, v, hc, _⟩ := X.cel nk.1 b hb h1
              exact ⟨c, hc⟩
            obtain ⟨run, hfold⟩ := iterCOk (Q := fun it' s₂ => wpAny (MM w) A (newList []) (fun acc s₃ =>
              wpAny (MM w) A (newFunctionEnv scope F.env.globals cl [] F.env.qual none .none (some F.env)) (fun cenv s₄ =>
                codeAny (MM w) A (.compStart (.ListComp elt (⟨.Name x px, it, ifs, 0⟩ :: gs) scope pos) 0 it' acc { cenv with scope := relabel scope F.env }) (compPost (MM w) A E use Q acc cenv.locals) s₄) E s₃) E s₂) (E := E) S hits C X
              fun I s₁ h₁ fp P St g₁ kk itr => by
                refine wpAny_newObj_type (newEnvComp ?_) (by size_fits)
                dsimp only
                have hD : (h₁.push { cls := .type "list", dict := none, data := .seq ([] : List Value).toArray }).objs.size = h₁.objs.size + 1 := Heap.size_push ..
                generalize hH : h₁.push { cls := .type "list", dict := none, data := .seq ([] : List Value).toArray } = H2 at hD ⊢
                have kH : Keeps h₁ H2 := hH ▸ Keeps.push _ _
                have hDo : H2.get? h₁.objs.size = some { cls := .type "list", dict := none, data := .seq ([] : List Value).toArray } := hH ▸ Heap.get?_push_size _ rfl
                obtain ⟨oI, hoI⟩ := itr.here
                have hIlt : I < h₁.objs.size := Heap.lt_size hoI
                have hDnew : s₁.heap.get? h₁.objs.size = none := by
                  cases e : s₁.heap.get? h₁.objs.size with
                  | none => rfl
                  | some o => have := kk _ _ e; rw [get_size] at this; cases this
                have hLnew : s.heap.get? H2.objs.size = none := by
                  cases e : s.heap.get? H2.objs.size with
                  | none => rfl
                  | some o => have := kH _ _ (kk _ _ (g₁.heap _ _ e)); rw [get_size] at this; cases this
                have X1 := X.grow g₁
                let s₄ : Shared := { s₁ with heap := pushCells (H2.push { cls := .type "dict", data := .dict #[] }) scope.names }
                have kL : Keeps H2 s₄.heap := fun b o e => pushCells_keeps _ _ b o (Heap.get?_push_of_some _ e)
                let F' := cFx F s₁.heap ow scope cl h₁.objs.size H2.objs.size
                have Y : FR w (F'.add I) (capt F.env.scope scope.names fm) none s₄ :=
                  compFR (s := s₁) (h₁ := H2) X1 hsc hcl hcl2 (kk.trans kH) hDnew itr.new ⟨oI, kH _ _ hoI⟩ (by rw [hD]; exact Nat.lt_succ_of_lt hIlt) rfl (by rw [hD]; exact Nat.lt_succ_self _) ⟨_, hDo⟩ rfl
                have hID : I ≠ h₁.objs.size := Nat.ne_of_lt hIlt
                have hIav : I ∉ F'.av := fun z => by
                  rcases List.mem_cons.mp z with z | z
                  · exact hID z
                  · obtain ⟨o, ho⟩ := X1.livesAll I z
                    rw [itr.new] at ho; cases ho
                have H : Stand w F' h₁.objs.size I items fp P St := ⟨itr.W, itr.stI, .head _, hDnew, itr.new, hID, fun y hy => by rw [List.mem_singleton.mp hy]; exact .head _, hIav⟩
                have J : LJ w F' (capt F.env.scope scope.names fm) h₁.objs.size I items fp P St s₄ 0 [] s₄ := by
                  refine ⟨Y, (itr.W A C.handled).frame _ _ _ itr.st fun b _ o ho => kL _ _ (kH _ _ ho), fun b hb => ?_, fun j v d hj hd => ?_, ⟨[], ⟨0, kL _ _ hDo⟩, VRs.nil⟩, FP.refl _⟩
                  · rcases itr.fpo b hb with rfl | ⟨o, its', n', ho, hd', hn⟩
                    · exact .inl rfl
                    · refine .inr ⟨fun e => ?_, fun z => ?_, o, kL _ _ (kH _ _ (kk _ _ ho))⟩
                      · rw [e, hDnew] at ho; cases ho
                      · have : (F'.add I).base b = some o := ho
                        rw [Y.wrb b z] at this; cases this
                  · have r0 := itr.P j v d hj hd
                    exact ((r0.avoid_new hDnew).avoid_new itr.new).keeps (kk.trans (kH.trans kL))
                have htg : ∀ g ∈ (⟨.Name x px, it, ifs, 0⟩ :: gs : List Comprehension), ∃ y py it' ifs', g = ⟨.Name y py, it', ifs', 0⟩ ∧ noSet it' = true ∧ (F'.env.kindOf y = some .local ∨ y ∈ F'.oc) := fun g hg => by
                  obtain ⟨y, py, it', ifs', e, h1, h2⟩ := genNames_mem hgn g hg
                  refine ⟨y, py, it', ifs', e, h1, ?_⟩
                  unfold tgtOk at h2
                  simp only [Bool.or_eq_true, beq_iff_eq] at h2
                  rcases h2 with h2 | h2
                  · exact .inl (by rw [show F'.env.kindOf y = _ from lookup_kinds, h2]; rfl)
                  · exact .inr (List.mem_map.mpr ⟨(y, .cell), List.mem_filter.mpr ⟨mem_of_lookup h2, rfl⟩, rfl⟩)
                have go : codeAny (MM w) A (.compLoop (.ListComp elt (⟨.Name x px, it, ifs, 0⟩ :: gs) scope pos) 0 (.ref I) (.ref h₁.objs.size) F'.env) (compPost (MM w) A E use Q (.ref h₁.objs.size) H2.objs.size) s₄ := by
                  refine loopOk S gs (F := F') rfl htg hgo C H J (by simpa using small_le hsm) fun s5 ys X5 hp5 hv5 p5 => ?_
                  have k5 : Keeps s₁.heap s5.heap := fun b o e => X5.keep b o e
                  refine q _ _ s5 (g₁.heap.trans k5) ((FP.of g₁).trans ⟨p5.gens, p5.os⟩) hLnew (by rw [hD]; exact Nat.ne_of_lt (Nat.lt_succ_self _)) ?_ ?_
                  · obtain ⟨m, hm, _⟩ := X5.nsL
                    exact ⟨m, hm⟩
                  · refine VR.list_of hp5.isList (fun z => ?_) (hv5.weak fun a ha => .tail _ ha)
                    obtain ⟨o, ho⟩ := X1.livesAll _ z
                    rw [hDnew] at ho; cases ho
                exact compStart_j rfl go ((itr.W A C.handled).self 0 _ _ _ J.st go)
            exact wpAny_comprehension_free (g := ⟨.Name x px, it, ifs, 0⟩) (gs := gs) rfl hfold hclos hk (fun y hy hl => by
              have := lookup_of_memK hnd (x := y.1) (kd := y.2) hy
              rw [this, hl]) run
          · cases h
        · cases h
      · cases h
    · cases h
  · cases h
end
end Mine
namespace Mine
section
variable {w : World} {k : Nat} {r : Ev} {F : Fx} {fm fm' : Fm} {A : Around} {ow : Option Addr} {s s' : Shared} {E : Value → Shared → Prop}
theorem compOk (S : Sound w k r) : CompOk w k r := by
  intro F fm elt gens scope pos d h A ow s Q E C1 X q
  have C := C1.less
  obtain ⟨h1, h2⟩ := compRun (use := none) (pos := pos) (p := firstIterPos gens pos) (Q := Q) (E := E) S h C X fun D L s' kk p hL hDL ⟨m, hm⟩ rv => by
    refine ⟨m, hm, fun h' same => q _ _ ?_ ⟨fun b o e => ?_, p.gens, p.os⟩⟩
    · exact VR.upd rv (sameBut_keeps same) (off_ns hm)
    · exact sameBut_keeps same b o (fun z => by rw [z, hL] at e; cases e) (kk b o e)
  rw [eval_ListComp, h2]
  exact h1
theorem VR.addNs {h : Heap} {av : List Addr} {v : Value} {d : PyData} {x : Addr} {m : Str → Option Value} (y : VR h av v d) (hn : h.Ns x m) : VR h (x :: av) v d := by
  obtain ⟨n, as, r, ha⟩ := y
  refine ⟨n, as, r, fun a hm z => ?_⟩
  rcases List.mem_cons.mp z with rfl | z
  · obtain ⟨o, its, k, ho, hd⟩ := reads_seq d n r a hm
    exact ns_notSeq hn o ho _ _ hd
  · exact ha a hm z
theorem swaps_true {elt : Expr} {gens : List Comprehension} {scope : Scope} {pos px : Pos} {x : Str} {line : Nat} (hk : F.env.scope.kind = .function) (h : useOk F.env.scope x px pos scope = true) :
    swapsWith (.ListComp elt gens scope pos) (some (.Name x px)) line F.env = pure true := by
  unfold useOk at h
  simp only [Bool.and_eq_true, beq_iff_eq, Bool.not_eq_true'] at h
  obtain ⟨⟨h1, h2⟩, h3⟩ := h
  show (pure (F.env.blockKind == .function && F.env.kindOf x == some .local && px.line == pos.line && !(scope.names.any fun nk => nk.1 == x && (nk.2 == .local || nk.2 == .cell))) : Sem Bool) = pure true
  have e1 : F.env.blockKind = .function := by unfold Env.blockKind; rw [hk]; rfl
  have e2 : F.env.kindOf x = some .local := h1
  rw [e1, e2, h2, h3]
  simp
theorem compUseOk (S : Sound w k r) : CompUseOk w k r := by
  intro F fm elt gens scope pos px spos x d h hu A ow s Q E C1 X q
  have C := C1.less
  have hx : F.env.kindOf x = some .local := by
    unfold useOk at hu
    simp only [Bool.and_eq_true, beq_iff_eq] at hu
    exact hu.1.1
  obtain ⟨h1, h2⟩ := compRun (use := some (assign (.Name x px) F.env)) (pos := pos) (p := firstIterPos gens pos) (Q := fun _ s' => Q .next s') (E := E) S h C X fun D L s' kk p hL hDL ⟨m, hm⟩ rv => by
    show wpAny (MM w) A (assign (.Name x px) F.env (.ref D)) _ _ _
    have Y : FR w (F.add L) fm ow s' := X.addAv hL kk (let ⟨o, _, _, ho, _⟩ := hm; ⟨o, ho⟩)
    have rv' : VR s'.heap (ow.toList ++ (F.add L).av) (.ref D) d := (VR.addNs rv hm).weak fun a ha => by
      rcases List.mem_append.mp ha with ha | ha
      · exact .tail _ (List.mem_append_left _ ha)
      · rcases List.mem_cons.mp ha with rfl | ha
        · exact .head _
        · exact .tail _ (List.mem_append_right _ ha)
    have hLow : L ∉ ow.toList := fun z => by
      cases e : ow with
      | none => rw [e] at z; cases z
      | some a =>
        rw [e] at z
        have : L = a := by simpa using z
        exact (Y.own a e).2.1 (this ▸ .head _)
    have hLwr : L ∉ F.wr := (Y.acs L (.head _)).2.2.1
    refine wpAny_assign_Name (stB (F := (F.add L).at s'.heap ow) Y.rebase (.inl hx) (b := .v d) rv' fun h' t Z => ?_)
    have st := FR.still (F := F.add L) Z hLow hLwr
    refine ⟨m, hm.at' fun o e => st.1 o e, fun h'' same => ?_⟩
    have Z' := FR.back Y Z
    have hLb : F.base L = none := by
      cases e : F.base L with
      | none => rfl
      | some o => have := X.keep _ _ e; rw [hL] at this; cases this
    have hLav : L ∉ F.av := fun z => by
      obtain ⟨o, ho⟩ := X.lives L z
      rw [hL] at ho; cases ho
    have k2 := sameBut_keeps same
    exact q _ (Z'.updDrop hLb (fun y hy => (X.acs y hy).1) (fun a ha => by
      obtain ⟨o, ho⟩ := Z'.lives a (.tail _ ha)
      exact ⟨o, k2 a o (fun e => hLav (e ▸ ha)) ho⟩) k2) ⟨p.gens, p.os⟩
  rw [exec_Assign_Name_used _ _ _ _ (swaps_true X.hk hu)]
  refine wpAny_bind (wpAny_standAt (wpAny_bind ?_))
  show wpAny _ A (do let _ ← comprehension (.ListComp elt gens scope pos) scope F.env (firstIterPos gens pos) (newList []) (firstAsync gens) (firstIter gens F.env) (some (assign (.Name x px) F.env))) _ _ s
  rw [h2]
  exact wpAny_bind (wpAny_mono h1 (fun _ s' hq => wpAny_pure (wpAny_pure hq)) fun _ _ e => e)
end
end Mine
namespace Mine
section
variable {M : Model} {A : Around} {R : GenEnd} {Y : Protocol} {n : Nat} {s₀ : Shared} {c : Code} {fs : List Frame} {s : Shared} {env : Env} {K : Flow → Sem Fin} {H : Value → Sem Fin} {gd : Bool → Bool} {lv : List Value → List Value}
/-- what stands behind a loop of the frame's own -/
noncomputable abbrev backTo1 (env : Env) (K : Flow → Sem Fin) (H : Value → Sem Fin) (gd : Bool → Bool) (lv : List Value → List Value) (r : Result) : Sem Fin := ((match r with | .ok f => (.pure f : Sem Flow) | .error e => .raise e).onRaise fun (x : Value) => do
        if (← field x 1) == Value.none then unsupported "frame.own-activation:exception-without-traceback"
        setFlight x env.frame).wrap K H gd lv
theorem seg_For {target iter : Expr} {body orelse : List Stmt} {pos : Pos} (hs : ∀ x, foldedSetIterable iter env x = pure x)
    (h : wpAny M (A.over c fs) (eval iter env) (fun x s₁ => wpAny M (A.over c fs) (pyIter x) (fun it s₂ => ∀ p l, Seg M A R Y n s₀ (.forLoop target it body orelse env) (M.den (.forLoop target it body orelse env))
      (.ret (backTo1 env K H gd lv) none (gd false) l c p [] :: fs) s₂) (fun x s' => Seg M A R Y n s₀ c (H x) fs s') s₁) (fun x s' => Seg M A R Y n s₀ c (H x) fs s') s) :
    Seg M A R Y n s₀ c ((exec (.For target iter body orelse pos) env).wrap K H gd lv) fs s := by
  rw [exec_For]
  refine seg_at ?_
  show Seg M A R Y n s₀ c (Sem.wrap K H gd lv (eval iter env >>= fun x => foldedSetIterable iter env x >>= fun x => standAt iter.pos >>= fun _ => holding [x] (pyIter x) >>= fun it => runOwn (.forLoop target it body orelse env) env)) fs s
  rw [Sem.bind_eq_wrap', Sem.wrap_wrap]
  refine seg_wrap (wpAny_mono h (fun x s₁ h₁ => ?_) fun _ _ e => e)
  show Seg M A R Y n s₀ c (Sem.wrap K H gd lv (foldedSetIterable iter env x >>= fun x => standAt iter.pos >>= fun _ => holding [x] (pyIter x) >>= fun it => runOwn (.forLoop target it body orelse env) env)) fs s₁
  rw [hs, pure_bind]
  refine seg_at ?_
  show Seg M A R Y n s₀ c (Sem.wrap K H gd lv (holding [x] (pyIter x) >>= fun it => runOwn (.forLoop target it body orelse env) env)) fs s₁
  rw [Sem.bind_eq_wrap', Sem.wrap_wrap]
  refine seg_wrap (wpAny_holding (wpAny_mono h₁ (fun it s₂ h₂ => ?_) fun _ _ e => e))
  exact seg_call fun p => h₂ p _
end
section
variable {prog : Program} {w : World} {A : Around} {R : GenEnd} {Y : Protocol} {n : Nat} {s₀ : Shared} {c : Code} {fs : List Frame} {s : Shared} {env : Env} {K : Flow → Sem Fin} {H : Value → Sem Fin} {gd : Bool → Bool} {lv : List Value → List Value}
noncomputable abbrev loopK (target : Expr) (it : Value) (body orelse : List Stmt) (env : Env) : Flow → Sem Fin := fun f => match f with
  | .next | .cont => .pure (.again (.forLoop target it body orelse env))
  | .brk => .pure (.done .next)
  | .ret v => .pure (.done (.ret v))
noncomputable abbrev noteH (env : Env) : Value → Sem Fin := fun e => (do noteFrame e env; theTreesLotGoes e : Sem Unit).wrap (fun _ => .raise e) .raise id id
theorem seg_forLoop {target : Expr} {it : Value} {body orelse : List Stmt}
    (h : wpAny (model prog w) (A.over (.forLoop target it body orelse env) fs) (pyNext it) (fun r s₁ => match r with
      | none => Seg (model prog w) A R Y n s₀ (.block orelse env) ((model prog w).den (.block orelse env)) fs s₁
      | some v => wpAny (model prog w) (A.over (.forLoop target it body orelse env) fs) (letOwnedTupleGo target it v) (fun _ s₂ => wpAny (model prog w) (A.over (.forLoop target it body orelse env) fs) (assign target env v) (fun _ s₃ =>
          Seg (model prog w) A R Y n s₀ (.forLoop target it body orelse env) ((execs body env).wrap (loopK target it body orelse env) (noteH env) id id) fs s₃)
          (fun _ _ => False) s₂) (fun _ _ => False) s₁) (fun _ _ => False) s) :
    Seg (model prog w) A R Y n s₀ (.forLoop target it body orelse env) ((model prog w).den (.forLoop target it body orelse env)) fs s := by
  show Seg _ A R Y n s₀ _ ((forTurn target it body orelse env).onRaise (fun x => do noteFrame x env; theTreesLotGoes x)) fs s
  unfold forTurn
  rw [Sem.onRaise_eq_wrap]
  refine seg_at ?_
  show Seg _ A R Y n s₀ _ (Sem.wrap _ _ id id ((pyNext it).onRaise (fun _ => standAt { target.pos with line := 0 }) >>= _)) fs s
  rw [Sem.bind_eq_wrap', Sem.wrap_wrap]
  refine seg_wrap (wpAny_onRaise (wpAny_mono h (fun r s₁ h₁ => ?_) fun _ _ f => f.elim))
  cases r with
  | none => exact seg_again rfl h₁
  | some v =>
    show Seg _ A R Y n s₀ _ (Sem.wrap _ _ id id (letOwnedTupleGo target it v >>= _)) fs s₁
    rw [Sem.bind_eq_wrap', Sem.wrap_wrap]
    refine seg_wrap (wpAny_mono h₁ (fun _ s₂ h₂ => ?_) fun _ _ f => f.elim)
    show Seg _ A R Y n s₀ _ (Sem.wrap _ _ id id (assign target env v >>= _)) fs s₂
    rw [Sem.bind_eq_wrap', Sem.wrap_wrap]
    refine seg_wrap (wpAny_mono h₂ (fun _ s₃ h₃ => ?_) fun _ _ f => f.elim)
    show Seg _ A R Y n s₀ _ (Sem.wrap _ _ id id (execs body env >>= _)) fs s₃
    rw [Sem.bind_eq_wrap', Sem.wrap_wrap]
    rw [Sem.wrap_congr (execs body env) _ _ (K' := loopK target it body orelse env) (H' := noteH env)
        (fun f => by cases f <;> rfl)
        (fun e => by first | exact Sem.bind_eq_wrap _ _ | (show (do noteFrame e env; theTreesLotGoes e : Sem Unit).bind (fun _ => .raise e) = _; rw [Sem.bind_eq_wrap]))]
    exact h₃
theorem seg_block_nil (h : Seg (model prog w) A R Y n s₀ (.block [] env) (.pure (.done .next)) fs s) : Seg (model prog w) A R Y n s₀ (.block [] env) ((model prog w).den (.block [] env)) fs s := h
theorem seg_If {test : Expr} {body orelse : List Stmt} {pos : Pos} (h : wpAny (model prog w) (A.over c fs) (PySem.isTrue test env (eval test env)) (fun b s' => if b = true then Seg (model prog w) A R Y n s₀ c ((execs body env).wrap K H gd lv) fs s' else Seg (model prog w) A R Y n s₀ c ((execs orelse env).wrap K H gd lv) fs s') (fun x s' => Seg (model prog w) A R Y n s₀ c (H x) fs s') s) :
    Seg (model prog w) A R Y n s₀ c ((exec (.If test body orelse pos) env).wrap K H gd lv) fs s := by
  rw [exec_If]
  refine seg_at ?_
  show Seg _ A R Y n s₀ c (Sem.wrap K H gd lv (PySem.isTrue test env (eval test env) >>= fun b => if b = true then execs body env else execs orelse env)) fs s
  rw [Sem.bind_eq_wrap', Sem.wrap_wrap]
  refine seg_wrap (wpAny_mono h (fun b s₁ h₁ => ?_) fun _ _ e => e)
  cases b with
  | true => exact h₁
  | false => exact h₁
/-- a statement without a yield -/
theorem seg_stmt {st : Stmt} {rest : List Stmt} (h : wpAny (model prog w) (A.over c fs) (exec st env) (fun f s' => f = .next ∧ Seg (model prog w) A R Y n s₀ c ((execs rest env).wrap K H gd lv) fs s') (fun _ _ => False) s) :
    Seg (model prog w) A R Y n s₀ c ((execs (st :: rest) env).wrap K H gd lv) fs s := by
  refine seg_execs_cons (seg_wrap (wpAny_mono h (fun f s' hf => ?_) fun _ _ f => f.elim))
  obtain ⟨rfl, h'⟩ := hf
  exact h'
end
end Mine
namespace Mine
/-! the generator's text -/
noncomputable abbrev sPos : Str := Str.ofString "pos"
noncomputable abbrev sEsc : Str := Str.ofString "escape"
noncomputable abbrev sCh : Str := Str.ofString "ch"
noncomputable abbrev sAddr : Str := Str.ofString "addr"
noncomputable abbrev bsl : Str := ⟨#[92]⟩
noncomputable def isNm (x : Str) (e : PySem.Expr) : Prop := ∃ p, e = .Name x p
noncomputable def isBs (e : PySem.Expr) : Prop := ∃ k p, e = .Constant (.str bsl) k p
noncomputable def isAsg (x : Str) (c : Const) (st : Stmt) : Prop := ∃ p1 v k p2 p3, st = .Assign [.Name x p1] (.Constant v k p2) p3 ∧ constD v = constD c
noncomputable def isYld (f : PySem.Expr → Prop) (st : Stmt) : Prop := ∃ p1 b k p2 p3 p4, st = .Expr (.Yield (some (.Tuple [.Name sPos p1, b] k p2)) p3) p4 ∧ f b
noncomputable def isBsCh (e : PySem.Expr) : Prop := ∃ k p1 p2 p3, e = .BinOp (.Constant (.str bsl) k p1) .Add (.Name sCh p2) p3
noncomputable def isEq (e : PySem.Expr) : Prop := ∃ p1 k p2 p3, e = .Compare (.Name sCh p1) [.Eq] [.Constant (.str bsl) k p2] p3
noncomputable def isIn (st : Stmt) : Prop := ∃ t a b p, st = .If t [a] [b] p ∧ isEq t ∧ isAsg sEsc (.bool true) a ∧ isYld (isNm sCh) b
noncomputable def isBody (st : Stmt) : Prop := ∃ p y a i p2, st = .If (.Name sEsc p) [y, a] [i] p2 ∧ isYld isBsCh y ∧ isAsg sEsc (.bool false) a ∧ isIn i
noncomputable def isFor (st : Stmt) : Prop := ∃ p1 p2 k p3 p4 p5 p6 bd p7, st = .For (.Tuple [.Name sPos p1, .Name sCh p2] k p3) (.Call (.Name (Str.ofString "enumerate") p4) [.Name sAddr p5] [] p6) [bd] [] p7 ∧ isBody bd
noncomputable def isLast (st : Stmt) : Prop := ∃ p y p2, st = .If (.Name sEsc p) [y] [] p2 ∧ isYld isBs y
theorem gen_text : ∃ a b c d, fB 7 = [a, b, c, d] ∧ isAsg sPos (.int 0) a ∧ isAsg sEsc (.bool false) b ∧ isFor c ∧ isLast d :=
  ⟨_, _, _, _, rfl, ⟨_, _, _, _, _, rfl, rfl⟩, ⟨_, _, _, _, _, rfl, rfl⟩,
    ⟨_, _, _, _, _, _, _, _, _, rfl, _, _, _, _, _, rfl, ⟨_, _, _, _, _, _, rfl, _, _, _, _, rfl⟩, ⟨_, _, _, _, _, rfl, rfl⟩, ⟨_, _, _, _, rfl, ⟨_, _, _, _, rfl⟩, ⟨_, _, _, _, _, rfl, rfl⟩, ⟨_, _, _, _, _, _, rfl, _, rfl⟩⟩⟩,
    ⟨_, _, _, rfl, _, _, _, _, _, _, rfl, _, _, rfl⟩⟩
theorem sc7 : (fS 7).isCoroutine = false ∧ (fS 7).isGenerator = true ∧ (fS 7).kind = .function ∧ (fS 7).names.lookup sPos = some .local ∧ (fS 7).names.lookup sEsc = some .local ∧ (fS 7).names.lookup sCh = some .local ∧ (fS 7).names.lookup sAddr = some .local ∧
    (fS 7).names.lookup (Str.ofString "enumerate") = some .globalImplicit ∧ (fS 7).names.lookup (Str.ofString "__debug__") = none ∧ (fS 7).names.lookup (Str.ofString "__classdict__") = none ∧ (fS 7).names.all (fun x => x.2 != .cell) = true := by
  refine ⟨?_, ?_, ?_, ?_, ?_, ?_, ?_, ?_, ?_, ?_, ?_⟩ <;> kernel_rfl
theorem fo7 (P : Params) : (KF P).lookup 47 = some (foT "_iter_escaped_chars" 7 .none .none "cpy313.email.utils" 260 46) := by kernel_rfl
theorem cd7 (P : Params) : codeIn (KF P) (.ref 46) (Str.ofString "_iter_escaped_chars") = true := by kernel_rfl
theorem bd7 (v : Value) : bindArgs (fdT "_iter_escaped_chars" 7 .none .none "cpy313.email.utils" 260 46) ⟨[v], []⟩ = pure [(Str.ofString "addr", v)] := by kernel_rfl
theorem nsGen (P : Params) : nsIn (KF P) mainGlobals (Str.ofString "_iter_escaped_chars") = some (some (.ref 47)) := by kernel_rfl
theorem bbEnum : bootBuiltins (Str.ofString "enumerate") = some (.type "enumerate") := by kernel_rfl
end Mine
namespace Mine
noncomputable def genv (L : Addr) : Env := callEnv (fdT "_iter_escaped_chars" 7 .none .none "cpy313.email.utils" 260 46) L 47
noncomputable def gFx (base : Base) (L : Addr) : Fx := ⟨base, genv L, [], [L], [], []⟩
noncomputable def flatD : PyData → Bool
  | .int _ | .str _ | .bool _ => true
  | _ => false
noncomputable def flatFm (fm : Fm) : Prop := ∀ x b, fm.lookup x = some b → ∃ d, b = .v d ∧ flatD d = true
theorem VR.flat {h h' : Heap} {av av' : List Addr} {v : Value} {d : PyData} (x : VR h av v d) (f : flatD d = true) : VR h' av' v d := by
  cases d with
  | int i => obtain ⟨t, rfl⟩ := x.int_inv; exact VR.int _ _
  | str i => obtain ⟨t, rfl⟩ := x.str_inv; exact VR.str _ _
  | bool i => rw [x.bool_inv]; exact VR.bool _
  | _ => cases f
theorem flatFm.set {fm : Fm} {x : Str} {d : PyData} (h : flatFm fm) (f : flatD d = true) : flatFm (setB x (.v d) fm) := fun y b e => by
  rw [lookup_setB] at e
  by_cases q : y = x
  · rw [if_pos q] at e; cases e; exact ⟨d, rfl, f⟩
  · rw [if_neg q] at e; exact h y b e
section
variable {w : World} {base : Base} {L it e : Addr} {fm : Fm} {s s' : Shared}
theorem wake (X : FR w (gFx base L) fm none s) (f : flatFm fm) (kL : ∀ o, s.heap.get? L = some o → s'.heap.get? L = some o) (kb : ∀ b o, base b = some o → s'.heap.get? b = some o) : FR w (gFx base L) fm none s' :=
  { X with
    keep := kb
    nsL := let ⟨m, hm, hr⟩ := X.nsL; ⟨m, hm.at' kL, fun x b e q => by
      obtain ⟨v, p, z⟩ := hr x b e q
      obtain ⟨d, rfl, fd⟩ := f x b e
      exact ⟨v, p, VR.flat z fd⟩⟩
    cel := fun x b e q => by
      obtain ⟨c, v, p, z, t⟩ := X.cel x b e q
      cases p
    ocel := fun x e => nomatch e
    celE := fun x c e => nomatch e
    own := fun a e => nomatch e
    lives := fun a ha => nomatch ha
    wrs := fun b hb => by
      obtain ⟨o, ho, hd⟩ := X.wrs b hb
      have hb' : b = L := List.mem_singleton.mp hb
      exact ⟨o, hb' ▸ kL o (hb' ▸ ho), hd⟩
    acs := fun x hx => nomatch hx }
structure GM (L it e : Addr) (s₀ s : Shared) : Prop where
  heap : ∀ b o, b ≠ L → b ≠ it → b ≠ e → s₀.heap.get? b = some o → s.heap.get? b = some o
  gens : s.gens = s₀.gens
  os : s.os = s₀.os
theorem GM.refl (L it e : Addr) (s : Shared) : GM L it e s s := ⟨fun _ _ _ _ _ h => h, rfl, rfl⟩
theorem GM.trans {a b c : Shared} (x : GM L it e a b) (y : GM L it e b c) : GM L it e a c := ⟨fun z o h1 h2 h3 h => y.heap z o h1 h2 h3 (x.heap z o h1 h2 h3 h), y.gens.trans x.gens, y.os.trans x.os⟩
noncomputable def Three (L it e : Addr) (h : Heap) : Prop := (∃ o, h.get? L = some o) ∧ (∃ o, h.get? it = some o) ∧ ∃ o, h.get? e = some o
noncomputable def gY (base : Base) (L it e : Addr) (outs : List (Nat × Str)) : Protocol := fun m s₀ v s₁ kap => ∃ T p x t u, v = .ref T ∧ s₁.heap.IsTuple T #[.int ((p : Nat) : Int) t, .str x u] ∧ outs.reverse[m]? = some (p, x) ∧ GM L it e s₀ s₁ ∧ s₀.heap.get? T = none ∧ Three L it e s₁.heap ∧
  ∀ s'', (∀ b o, (b = L ∨ b = it ∨ b = e) → s₁.heap.get? b = some o → s''.heap.get? b = some o) → (∀ b o, base b = some o → s''.heap.get? b = some o) → kap (.send .none) s''
noncomputable def gR (L it e : Addr) : GenEnd := fun n s₀ r s₁ => r = .ok (.ret .none) ∧ (n = 0 ∧ GM L it e s₀ s₁ ∧ Three L it e s₁.heap)
theorem rev_at {α : Type} {done rem : List α} {a : α} : (done ++ a :: rem).reverse[rem.length]? = some a := by
  rw [List.reverse_append, List.reverse_cons, List.append_assoc]
  rw [List.getElem?_append_right (by simp)]
  simp
/-- an object that is new is new to the segment's start, too -/
theorem GM.fresh {s₀ s : Shared} (x : GM L it e s₀ s) (t : Three L it e s.heap) : s₀.heap.get? s.heap.objs.size = none := by
  cases q : s₀.heap.get? s.heap.objs.size with
  | none => rfl
  | some o =>
    exfalso
    have hn := get_size s.heap
    by_cases h1 : s.heap.objs.size = L
    · obtain ⟨o', h⟩ := t.1; rw [← h1, hn] at h; cases h
    · by_cases h2 : s.heap.objs.size = it
      · obtain ⟨o', h⟩ := t.2.1; rw [← h2, hn] at h; cases h
      · by_cases h3 : s.heap.objs.size = e
        · obtain ⟨o', h⟩ := t.2.2; rw [← h3, hn] at h; cases h
        · have := x.heap _ o h1 h2 h3 q
          rw [hn] at this; cases this
/-- the yield of a pair -/
theorem seg_pair {A : Around} {outs done rem : List (Nat × Str)} {s₀ : Shared} {c : Code} {fs : List Frame} {K : Flow → Sem Fin} {H : Value → Sem Fin} {p : Nat} {x : Str} {a b : PySem.Expr} {k : Nat} {p2 p3 p4 : Pos}
    (X : FR w (gFx base L) fm none s) (f : flatFm fm) (hfs : splitAtGen fs = none) (hfg : fs.any Frame.guarded = false) (ho : outs = done ++ (p, x) :: rem) (G : GM L it e s₀ s) (t3 : Three L it e s.heap) (hbit : base it = none) (hbe : base e = none)
    (hel : plain a = true ∧ plain b = true) (hev : ∀ {Q : List Value → Shared → Prop} {E : Value → Shared → Prop}, (∀ t u tk, Q [.int ((p : Nat) : Int) t, .str x u] { s with toks := tk }) → wpAny (MM w) (A.over c fs) (spliced (backTo p2 (starEach [a, b] (genv L)))) Q E s)
    (h : ∀ s'', FR w (gFx base L) fm none s'' → Three L it e s''.heap → (∀ b o, (b = it ∨ b = e) → s.heap.get? b = some o → s''.heap.get? b = some o) → Seg (MM w) A (gR L it e) (gY base L it e outs) rem.length s'' c (K .next) fs s'') :
    Seg (MM w) A (gR L it e) (gY base L it e outs) (rem.length + 1) s₀ c ((exec (.Expr (.Yield (some (.Tuple [a, b] k p2)) p3) p4) (genv L)).wrap K H id id) fs s := by
  refine seg_Expr_Yield hfs rfl hfg (wpAny_Tuple (hev fun t u tk => ⟨(show 2 ≤ sizeLine from by decide), fun kap hk => ?_⟩)) (by exact sc7.1) (by unfold interactive; rw [show (genv L).scope.kind = .function from sc7.2.2.1]; rfl)
  refine ⟨_, p, x, t, u, rfl, ⟨_, Heap.get?_push_size _ rfl, rfl, _, rfl⟩, by rw [ho]; exact rev_at, ⟨fun b o h1 h2 h3 ho => Heap.get?_push_of_some _ (G.heap b o h1 h2 h3 ho), G.gens, G.os⟩, G.fresh t3,
    ⟨t3.1.imp fun _ z => Heap.get?_push_of_some _ z, t3.2.1.imp fun _ z => Heap.get?_push_of_some _ z, t3.2.2.imp fun _ z => Heap.get?_push_of_some _ z⟩, fun s'' k3 kb => hk .none s'' ?_⟩
  have k3' : ∀ b o, (b = L ∨ b = it ∨ b = e) → s.heap.get? b = some o → s''.heap.get? b = some o := fun b o hb ho => k3 b o hb (Heap.get?_push_of_some _ ho)
  exact h s'' (wake X f (fun o ho => k3' L o (.inl rfl) ho) kb) ⟨t3.1.imp fun _ z => k3' _ _ (.inl rfl) z, t3.2.1.imp fun _ z => k3' _ _ (.inr (.inl rfl)) z, t3.2.2.imp fun _ z => k3' _ _ (.inr (.inr rfl)) z⟩
    fun b o hb ho => k3' b o (.inr hb) ho
end
end Mine
namespace Mine
section
variable {w : World} {base : Base} {L it e : Addr} {fm : Fm} {s s' : Shared}
theorem gVar {x : Str} (h : (fS 7).names.lookup x = some .local) {L : Addr} {base : Base} : isVar (gFx base L).env.scope x = true := by
  unfold isVar
  rw [show (gFx base L).env.scope.names.lookup x = some .local from h]
theorem gLoc {x : Str} (h : (fS 7).names.lookup x = some .local) {L : Addr} {base : Base} : (gFx base L).env.kindOf x = some .local := h
theorem testEsc {A : Around} {b : Bool} {p : Pos} {Q : Bool → Shared → Prop} {E : Value → Shared → Prop} (X : FR w (gFx base L) fm none s) (hb : fm.lookup sEsc = some (.v (.bool b))) (q : Q b s) :
    wpAny (MM w) A (PySem.isTrue (.Name sEsc p) (genv L) (eval (.Name sEsc p) (genv L))) Q E s :=
  wpAny_isTrue_value (ldB (F := gFx base L) X (gVar sc7.2.2.2.2.1) hb fun v rv => by rw [VR.bool_inv rv]; exact wpAny_truthy_bool q) rfl
theorem testCh {A : Around} {c : Nat} {e : PySem.Expr} {Q : Bool → Shared → Prop} {E : Value → Shared → Prop} (he : isEq e) (X : FR w (gFx base L) fm none s) (hb : fm.lookup sCh = some (.v (.str ⟨#[c]⟩))) (q : ∀ tk, Q (c == 92) { s with toks := tk }) :
    wpAny (MM w) A (PySem.isTrue e (genv L) (eval e (genv L))) Q E s := by
  obtain ⟨p1, k, p2, p3, rfl⟩ := he
  refine wpAny_isTrue_Compare1 (ldB (F := gFx base L) X (gVar sc7.2.2.2.2.2.1) hb fun v rv => wpAny_Constant_str ?_) rfl
  obtain ⟨t, rfl⟩ := VR.str_inv rv
  refine P.eq_str (wpAny_truthy_bool ?_)
  have : (((⟨#[c]⟩ : Str).cps.toList == (bsl).cps.toList) : Bool) = (c == 92) := by
    show ([c] == [92]) = _
    by_cases h : c = 92
    · subst h; rfl
    · have h2 : (c == 92) = false := by simpa using h
      rw [h2]; simp [h]
  rw [this]
  exact q _
/-- a name of the generator's is stored; all but its locals stays -/
theorem gStore {A : Around} {x : Str} {d : PyData} {v : Value} {Q : Unit → Shared → Prop} {E : Value → Shared → Prop} (hx : (fS 7).names.lookup x = some .local) (X : FR w (gFx base L) fm none s) (rv : VR s.heap [] v d)
    (q : ∀ h' t, FR w (gFx base L) (setB x (.v d) fm) none { s with heap := h', toks := t } → (∀ b o, b ≠ L → s.heap.get? b = some o → h'.get? b = some o) → h'.objs.size = s.heap.objs.size → Q () { s with heap := h', toks := t }) : wpAny (MM w) A (storeName (genv L) x v) Q E s := by
  refine stBz (F := (gFx base L).at s.heap none) X.rebase (.inl hx) (b := .v d) rv fun h' t hz Y => q h' t (FR.back X Y) (fun b o hb ho => ?_) hz
  exact (FR.still (F := gFx base L) (s := s) (ow := none) Y (b := b) (fun z => nomatch z) (fun z => hb (List.mem_singleton.mp z))).1 o ho
theorem gAsg {A : Around} {x : Str} {b : Bool} {st : Stmt} {Q : Flow → Shared → Prop} {E : Value → Shared → Prop} (hst : isAsg x (.bool b) st) (hx : (fS 7).names.lookup x = some .local) (X : FR w (gFx base L) fm none s)
    (q : ∀ h' t, FR w (gFx base L) (setB x (.v (.bool b)) fm) none { s with heap := h', toks := t } → (∀ b o, b ≠ L → s.heap.get? b = some o → h'.get? b = some o) → h'.objs.size = s.heap.objs.size → Q .next { s with heap := h', toks := t }) : wpAny (MM w) A (exec st (genv L)) Q E s := by
  obtain ⟨p1, v, k, p2, p3, rfl, hv⟩ := hst
  have : v = .bool b := by
    cases v <;> simp_all [constD]
  subst this
  exact wpAny_Assign_Name (wpAny_Constant_bool (gStore hx X (VR.bool b) q)) rfl
theorem gAsgInt {A : Around} {x : Str} {i : Int} {st : Stmt} {Q : Flow → Shared → Prop} {E : Value → Shared → Prop} (hst : isAsg x (.int i) st) (hx : (fS 7).names.lookup x = some .local) (X : FR w (gFx base L) fm none s)
    (q : ∀ h' t, FR w (gFx base L) (setB x (.v (.int i)) fm) none { s with heap := h', toks := t } → (∀ b o, b ≠ L → s.heap.get? b = some o → h'.get? b = some o) → h'.objs.size = s.heap.objs.size → Q .next { s with heap := h', toks := t }) : wpAny (MM w) A (exec st (genv L)) Q E s := by
  obtain ⟨p1, v, k, p2, p3, rfl, hv⟩ := hst
  have : v = .int i := by
    cases v <;> simp_all [constD]
  subst this
  exact wpAny_Assign_Name (wpAny_Constant_int (gStore (s := { s with toks := s.toks + 1 }) hx (X.grow (Grow.tok _ _)) (VR.int i _) q)) rfl
theorem assignEach2 {x y : Str} {p1 p2 : Pos} {env : Env} : assignEach [.Name x p1, .Name y p2] env = [(false, assign (.Name x p1) env), (false, assign (.Name y p2) env)] := by
  simp only [assignEach]
/-- the for's target takes the pair -/
theorem gPair {A : Around} {T : Addr} {i : Int} {t u : Tok} {x : Str} {k : Nat} {p1 p2 p3 : Pos} {Q : Unit → Shared → Prop} {E : Value → Shared → Prop} (hh : A.handled = none) (X : FR w (gFx base L) fm none s) (hT : s.heap.IsTuple T #[.int i t, .str x u])
    (q : ∀ h' t, FR w (gFx base L) (setB sCh (.v (.str x)) (setB sPos (.v (.int i)) fm)) none { s with heap := h', toks := t } → (∀ b o, b ≠ L → s.heap.get? b = some o → h'.get? b = some o) → Q () { s with heap := h', toks := t }) :
    wpAny (MM w) A (assign (.Tuple [.Name sPos p1, .Name sCh p2] k p3) (genv L) (.ref T)) Q E s := by
  refine wpAny_assign_Tuple hh hT (by rw [assignEach2]; rfl) (by rw [assignEach2]; rfl) fun h1 he => ?_
  have k1 := extBut_keeps he
  rw [assignEach2]
  refine wpAny_assignInOrder_more (wpAny_assign_Name (gStore (s := { s with heap := h1 }) sc7.2.2.2.1 (X.keeps k1) (VR.int i t) fun h2 t2 X2 k2 _ => ?_))
  refine wpAny_assignInOrder_more (wpAny_assign_Name (gStore (s := { s with heap := h2, toks := t2 }) sc7.2.2.2.2.2.1 X2 (VR.str x u) fun h3 t3 X3 k3 _ => ?_))
  exact wpAny_assignInOrder_none (q h3 t3 X3 fun b o hb ho => k3 b o hb (k2 b o hb (k1 b o ho)))
end
end Mine
namespace Mine
section
variable {prog : Program} {w : World} {A : Around} {E : Value → Shared → Prop} {s : Shared}
open Sem (wp)
theorem upd_live {h : Heap} {a : Addr} {o : Obj} {vs : Array Value} {g : Array Value → Array Value} (ho : h.get? a = some o) (hd : o.data = .fields vs) : ∃ o', (h.update a (Obj.mapFields g)).get? a = some o' := by
  refine ⟨_, Heap.get?_update_self _ ho ?_⟩
  obtain ⟨cls, di, da, sl⟩ := o
  simp only at hd
  subst hd
  rfl
theorem nextEndA {it : Addr} {x : Str} {t : Tok} {i : Nat} {Q : Value → Shared → Prop} (hh : A.handled = none)
    (hit : s.heap.IsStrIter it "str_ascii_iterator" x t i) (hx : x.cps[i]? = none)
    (hE : ∀ h' e, Heap.ExtBut it s.heap h' → (∃ o, h'.get? it = some o) → (∃ o, h'.get? e = some o ∧ o.cls = .type "StopIteration") → E (.ref e) { s with heap := h' }) :
    wpAny (model prog w) A (Builtin.SmallTypes.nextOf (.ref it)) Q E s := by
  obtain ⟨o, ho, hc, hd⟩ := id hit
  unfold Builtin.SmallTypes.nextOf
  refine wpAny_bind (wpAny_callSpecial?_slot (name := Str.ofString "__next__") hit.typeIs PySem.F.slot_str_ascii_iterator_next
    (wpAny_call_entry PySem.F.slot_str_ascii_iterator_next hit.typeIs PySem.F.entry_str_ascii_iterator_next ?_ (PySem.F.args_str_ascii_iterator_next_1 _)))
  show wpAny _ _ (field (.ref it) 0 >>= _) _ _ s
  refine wpAny_bind (wpAny_field ho hd (x := .str x t) rfl ?_)
  show wpAny _ _ (field (.ref it) 1 >>= _) _ _ s
  refine wpAny_bind (wpAny_field ho hd (x := .int i 0) rfl ?_)
  simp only [Int.toNat_natCast, hx]
  refine wpAny_bind (wpAny_rule (wpAny_bind (wpAny_setField ho hd (by simp) (wpAny_bind (wpAny_letGo ?_)))))
  show wpAny _ _ (newExc (.type "StopIteration") [] >>= _) _ _ _
  refine wpAny_bind ?_
  simp only [newExc, newTuple]
  refine wpAny_bind (wpAny_newObj_type ?_ (by size_fits))
  refine wpAny_bind (m := firstArgMember _ _) (wpAny_of_eq (a := Value.none) (by first | rfl | (simp only [firstArgMember]; rfl)) ?_)
  refine wpAny_newObj_type ?_ (by size_fits)
  simp only [raiseNew]
  refine wpAny_bind (wpAny_handled ?_)
  first | rw [show A.in1.handled = none from hh] | rw [hh]
  refine wpAny_bind (wpAny_pure (wpAny_throw ?_))
  exact hE _ _ (((Heap.SameBut.update ..).extBut.push _).push _) ((upd_live ho hd).imp fun _ z => Heap.get?_push_of_some _ (Heap.get?_push_of_some _ z)) ⟨_, Heap.get?_push_size _ rfl, rfl⟩
theorem nextEndW {it : Addr} {x : Str} {t : Tok} {i : Nat} {Q : Value → Shared → Prop} (hh : A.handled = none)
    (hit : s.heap.IsStrIter it "str_iterator" x t i) (hx : x.cps[i]? = none)
    (hE : ∀ h' e, Heap.ExtBut it s.heap h' → (∃ o, h'.get? it = some o) → (∃ o, h'.get? e = some o ∧ o.cls = .type "StopIteration") → E (.ref e) { s with heap := h' }) :
    wpAny (model prog w) A (Builtin.SmallTypes.nextOf (.ref it)) Q E s := by
  obtain ⟨o, ho, hc, hd⟩ := id hit
  unfold Builtin.SmallTypes.nextOf
  refine wpAny_bind (wpAny_callSpecial?_slot (name := Str.ofString "__next__") hit.typeIs PySem.F.slot_str_iterator_next
    (wpAny_call_entry PySem.F.slot_str_iterator_next hit.typeIs PySem.F.entry_str_iterator_next ?_ (PySem.F.args_str_iterator_next_1 _)))
  show wpAny _ _ (field (.ref it) 0 >>= _) _ _ s
  refine wpAny_bind (wpAny_field ho hd (x := .str x t) rfl ?_)
  show wpAny _ _ (field (.ref it) 1 >>= _) _ _ s
  refine wpAny_bind (wpAny_field ho hd (x := .int i 0) rfl ?_)
  simp only [Int.toNat_natCast, hx]
  refine wpAny_bind (wpAny_rule (wpAny_bind (wpAny_setField ho hd (by simp) (wpAny_bind (wpAny_letGo ?_)))))
  show wpAny _ _ (newExc (.type "StopIteration") [] >>= _) _ _ _
  refine wpAny_bind ?_
  simp only [newExc, newTuple]
  refine wpAny_bind (wpAny_newObj_type ?_ (by size_fits))
  refine wpAny_bind (m := firstArgMember _ _) (wpAny_of_eq (a := Value.none) (by first | rfl | (simp only [firstArgMember]; rfl)) ?_)
  refine wpAny_newObj_type ?_ (by size_fits)
  simp only [raiseNew]
  refine wpAny_bind (wpAny_handled ?_)
  first | rw [show A.in1.handled = none from hh] | rw [hh]
  refine wpAny_bind (wpAny_pure (wpAny_throw ?_))
  exact hE _ _ (((Heap.SameBut.update ..).extBut.push _).push _) ((upd_live ho hd).imp fun _ z => Heap.get?_push_of_some _ (Heap.get?_push_of_some _ z)) ⟨_, Heap.get?_push_size _ rfl, rfl⟩
theorem enumEnd {e it : Addr} {i : Int} {old : Value} {Q : Option Value → Shared → Prop} (he : IsEnum s.heap e it i old)
    (D : ∀ (Q : Value → Shared → Prop) (E : Value → Shared → Prop), (∀ h' e, Heap.ExtBut it s.heap h' → (∃ o, h'.get? it = some o) → (∃ o, h'.get? e = some o ∧ o.cls = .type "StopIteration") → E (.ref e) { s with heap := h' }) → wpAny (model prog w) A.in1 (Builtin.SmallTypes.nextOf (.ref it)) Q E s)
    (hQ : ∀ h', Heap.ExtBut it s.heap h' → (∃ o, h'.get? it = some o) → Q none { s with heap := h' }) : wpAny (model prog w) A (pyNext (.ref e)) Q E s := by
  have hT : s.TypeIs (.ref e) "enumerate" := ⟨_, he, rfl⟩
  unfold pyNext
  refine wpAny_bind (wpAny_attempt (wpAny_callSpecial?_slot (name := Str.ofString "__next__") hT PySem.F.slot_enumerate_next
    (wpAny_call_entry PySem.F.slot_enumerate_next hT PySem.F.entry_enumerate_next ?_ (PySem.F.args_enumerate_next_1 _))))
  show wpAny _ _ (field (.ref e) 2 >>= _) _ _ _
  refine wpAny_bind (wpAny_field he rfl (x := .ref it) rfl ?_)
  refine wpAny_bind (D _ _ fun h' x he' hl hx' => ?_)
  obtain ⟨o, ho, hc⟩ := hx'
  refine wpAny_bind (wpAny_isInstance (T := "StopIteration") (b := true) ⟨o, ho, hc⟩ isSubtype_stop ?_)
  exact wpAny_pure (hQ _ he' hl)
end
end Mine
namespace Mine
noncomputable abbrev gTgt (p1 p2 : Pos) (k : Nat) (p3 : Pos) : PySem.Expr := .Tuple [.Name sPos p1, .Name sCh p2] k p3
noncomputable abbrev gKf : Flow → Sem Fin := fun f => .pure (.done (.ret (match f with | .ret v => v | _ => .none)))
noncomputable abbrev gKl (L : Addr) (lst : Stmt) (Hf : Value → Sem Fin) : Flow → Sem Fin := fun f => match f with
  | .next => (execs [lst] (genv L)).wrap gKf Hf id id
  | f => gKf f
noncomputable abbrev gF0 (L : Addr) (lst : Stmt) (Hf : Value → Sem Fin) (l : List Value) (pp : Pos) : Frame := .ret (backTo1 (genv L) (gKl L lst Hf) Hf id id) none false l (.func (fB 7) (genv L)) pp []
section
variable {w : World} {base : Base} {L it e : Addr} {fm : Fm} {s s' : Shared}
theorem over_handled {A : Around} (h : A.handled = none) (c : Code) (k : Result → Sem Fin) (g : Bool) (l : List Value) (c' : Code) (p : Pos) (kp : List Value) : (A.over c [.ret k none g l c' p kp]).handled = none := h
theorem over_handled0 {A : Around} (h : A.handled = none) (c : Code) : (A.over c []).handled = none := h
theorem genLast {A : Around} {lst : Stmt} {Hf : Value → Sem Fin} {outs done : List (Nat × Str)} {s₀ : Shared} {b : Bool} {i : Nat} (hl : isLast lst) (X : FR w (gFx base L) fm none s) (f : flatFm fm) (hb : fm.lookup sEsc = some (.v (.bool b))) {p : Int} (hp : fm.lookup sPos = some (.v (.int p)))
    (hpi : b = true → p = ((i - 1 : Nat) : Int)) (ho : outs = done ++ escGo i b []) (G : GM L it e s₀ s) (t3 : Three L it e s.heap) (hbit : base it = none) (hbe : base e = none) :
    Seg (MM w) A (gR L it e) (gY base L it e outs) (escGo i b []).length s₀ (.func (fB 7) (genv L)) ((execs [lst] (genv L)).wrap gKf Hf id id) [] s := by
  obtain ⟨p1, y, p2, rfl, hy⟩ := hl
  refine seg_execs_cons (seg_If (testEsc X hb ?_))
  cases b with
  | false =>
    rw [if_neg (by simp)]
    show Seg _ _ _ _ 0 s₀ _ (leafOf (.ok (.ret .none))) [] s
    exact seg_end _ ⟨rfl, rfl, G, t3⟩
  | true =>
    rw [if_pos rfl]
    obtain ⟨q1, bb, k, q2, q3, q4, rfl, hbb⟩ := hy
    obtain ⟨kk, q5, rfl⟩ := hbb
    refine seg_execs_cons ?_
    refine seg_pair (rem := []) (p := i - 1) (x := bsl) X f rfl rfl ho G t3 hbit hbe ⟨rfl, rfl⟩ (fun hq => wpAny_items_cons (ldB (F := gFx base L) X (gVar sc7.2.2.2.1) hp fun v rv => wpAny_items_cons (wpAny_Constant_str (wpAny_items_nil ?_)))) fun s'' X'' t3'' _ => ?_
    · obtain ⟨t, rfl⟩ := VR.int_inv rv
      rw [hpi rfl]
      exact hq t s.toks (s.toks + 1)
    · show Seg _ _ _ _ 0 s'' _ (leafOf (.ok (.ret .none))) [] s''
      exact seg_end _ ⟨rfl, rfl, GM.refl _ _ _ _, t3''⟩
theorem genLoop {A : Around} {lst bd : Stmt} {Hf : Value → Sem Fin} {outs : List (Nat × Str)} {cs : List Nat} {Pt : Nat → Array Value → Prop} {St : Nat → Heap → Prop} {Mid : Nat → Addr → Heap → Prop} {p1 p2 p3 pp : Pos} {k : Nat} {l : List Value}
    (hA : A.handled = none) (hl : isLast lst) (hbd : isBody bd) (hW : ∀ A' : Around, A'.handled = none → WalksT PySem.Challenge.pw_wf0083_01 w A' e [e, it] [e, it] cs.length Pt St Mid)
    (hPt : ∀ i vals, Pt i vals → ∃ c t u, cs[i]? = some c ∧ vals = #[.int ((i : Nat) : Int) t, .str ⟨#[c]⟩ u]) (hSt : ∀ i h, St i h → (∃ o, h.get? e = some o) ∧ ∃ o, h.get? it = some o) (hei : e ≠ it)
    (hDone : ∀ (A' : Around), A'.handled = none → ∀ {s : Shared} {Q : Option Value → Shared → Prop} {E : Value → Shared → Prop}, St cs.length s.heap → (∀ h', (∀ b o, b ≠ it → s.heap.get? b = some o → h'.get? b = some o) → (∃ o, h'.get? it = some o) → Q none { s with heap := h' }) → wpAny (MM w) A' (pyNext (.ref e)) Q E s)
    (hLi : L ≠ it) (hLe : L ≠ e) (hbL : base L = none) (hbit : base it = none) (hbe : base e = none) : ∀ (rest : List Nat) (i : Nat) (b : Bool) (p : Int) {fm : Fm} {s s₀ : Shared} {done : List (Nat × Str)}, cs.drop i = rest → i ≤ cs.length → outs = done ++ escGo i b rest →
    FR w (gFx base L) fm none s → flatFm fm → fm.lookup sEsc = some (.v (.bool b)) → fm.lookup sPos = some (.v (.int p)) → (b = true → p = ((i - 1 : Nat) : Int)) → St i s.heap → GM L it e s₀ s →
    Seg (MM w) A (gR L it e) (gY base L it e outs) (escGo i b rest).length s₀ (.forLoop (gTgt p1 p2 k p3) (.ref e) [bd] [] (genv L)) ((MM w).den (.forLoop (gTgt p1 p2 k p3) (.ref e) [bd] [] (genv L))) [gF0 L lst Hf l pp] s
  | [], i, b, p, fm, s, s₀, done, hd, hi, ho, X, f, hb, hp, hpi, st, G => by
    have hie : i = cs.length := by
      have := List.drop_eq_nil_iff.mp hd
      omega
    subst hie
    have hLx : ∃ o, s.heap.get? L = some o := let ⟨m, ⟨o, _, _, ho, _⟩, _⟩ := X.nsL; ⟨o, ho⟩
    refine seg_forLoop (hDone _ (over_handled hA _ _ _ _ _ _ _) st fun h' k1 hit' => ?_)
    refine seg_block_nil ?_
    show Seg _ _ _ _ _ s₀ _ (leafOf (.ok .next)) _ _
    refine seg_leaf (.ok .next) ?_
    have X1 : FR w (gFx base L) fm none { s with heap := h' } := wake X f (fun o ho => k1 L o hLi ho) fun b o ho => k1 b o (fun z => by rw [z, hbit] at ho; cases ho) (X.keep b o ho)
    exact genLast hl X1 f hb hp hpi ho ⟨fun b o h1 h2 h3 ho => k1 b o h2 (G.heap b o h1 h2 h3 ho), G.gens, G.os⟩ ⟨hLx.imp fun _ z => k1 _ _ hLi z, hit', (hSt _ _ st).1.imp fun _ z => k1 _ _ hei z⟩ hbit hbe
  | c :: rest, i, b, p, fm, s, s₀, done, hd, hi, ho, X, f, hb, hp, hpi, st, G => by
    have hlt : i < cs.length := by
      rcases Nat.lt_or_ge i cs.length with h | h
      · exact h
      · rw [List.drop_eq_nil_iff.mpr h] at hd; cases hd
    have hci : cs[i]? = some c := by
      have := congrArg (fun l => l[0]?) hd
      simpa [List.getElem?_drop] using this
    have hrest : cs.drop (i + 1) = rest := by
      have := congrArg (fun l => l.drop 1) hd
      simpa [List.drop_drop, Nat.add_comm] using this
    have hLx : ∃ o, s.heap.get? L = some o := let ⟨m, ⟨o, _, _, ho, _⟩, _⟩ := X.nsL; ⟨o, ho⟩
    have W := hW _ (over_handled hA (.forLoop (gTgt p1 p2 k p3) (.ref e) [bd] [] (genv L)) (backTo1 (genv L) (gKl L lst Hf) Hf id id) false l (.func (fB 7) (genv L)) pp [])
    refine seg_forLoop (W.item i s _ _ hlt st fun T vals h1 tk hPv hsz hT hM k1 => ?_)
    refine W.go _ _ _ i T { s with heap := h1, toks := tk } _ _ hM fun h2 st2 k2 => ?_
    obtain ⟨c', t, u, hc', rfl⟩ := hPt i vals hPv
    rw [hci] at hc'; cases hc'
    have hTn := W.apart i T h1 hM
    obtain ⟨oT, hoT, hT3⟩ := id hT
    have hT2 : h2.IsTuple T #[.int ((i : Nat) : Int) t, .str ⟨#[c]⟩ u] := ⟨oT, k2 T oT hTn hoT, hT3⟩
    have k12 : ∀ b o, b ≠ it → b ≠ e → s.heap.get? b = some o → h2.get? b = some o := fun b o n1 n2 ho => k2 b o (by simp [n1, n2]) (k1 b o (by simp [n1, n2]) ho)
    have X2 : FR w (gFx base L) fm none { s with heap := h2, toks := tk } := wake X f (fun o ho => k12 L o hLi hLe ho) fun b o ho => k12 b o (fun z => by rw [z, hbit] at ho; cases ho) (fun z => by rw [z, hbe] at ho; cases ho) (X.keep b o ho)
    refine gPair (s := { s with heap := h2, toks := tk }) (over_handled hA _ _ _ _ _ _ _) X2 hT2 fun h3 t3 X3 k3 => ?_
    have f3 : flatFm (setB sCh (.v (.str ⟨#[c]⟩)) (setB sPos (.v (.int (i : Int))) fm)) := (f.set rfl).set rfl
    have hb3 : (setB sCh (.v (.str ⟨#[c]⟩)) (setB sPos (.v (.int (i : Int))) fm)).lookup sEsc = some (.v (.bool b)) := by
      rw [lookup_setB, if_neg (by decide), lookup_setB, if_neg (by decide), hb]
    have hc3 : (setB sCh (.v (.str ⟨#[c]⟩)) (setB sPos (.v (.int (i : Int))) fm)).lookup sCh = some (.v (.str ⟨#[c]⟩)) := by
      rw [lookup_setB, if_pos rfl]
    have hp3 : (setB sCh (.v (.str ⟨#[c]⟩)) (setB sPos (.v (.int (i : Int))) fm)).lookup sPos = some (.v (.int (i : Int))) := by
      rw [lookup_setB, if_neg (by decide), lookup_setB, if_pos rfl]
    generalize setB sCh (.v (.str ⟨#[c]⟩)) (setB sPos (.v (.int (i : Int))) fm) = fm3 at X3 f3 hb3 hc3 hp3
    have G3 : GM L it e s₀ { s with heap := h3, toks := t3 } := ⟨fun b o h1 h2 h3 ho => k3 b o h1 (k12 b o h2 h3 (G.heap b o h1 h2 h3 ho)), G.gens, G.os⟩
    have frame : ∀ {h h' : Heap} {j : Nat}, St j h → (∀ o, h.get? e = some o → h'.get? e = some o) → (∀ o, h.get? it = some o → h'.get? it = some o) → St j h' := fun {h h' j} sj ke ki => W.frame j h h' sj fun b hb o ho => by
      rcases List.mem_cons.mp hb with rfl | hb
      · exact ke o ho
      · have := List.mem_singleton.mp hb; subst this; exact ki o ho
    have st3 : St (i + 1) h3 := frame st2 (fun o ho => k3 e o (Ne.symm hLe) ho) (fun o ho => k3 it o (Ne.symm hLi) ho)
    have three3 : Three L it e h3 := ⟨let ⟨m, ⟨o, _, _, ho, _⟩, _⟩ := X3.nsL; ⟨o, ho⟩, (hSt _ _ st3).2, (hSt _ _ st3).1⟩
    have hbd0 := hbd
    obtain ⟨q1, y, a, i1, q2, rfl, hy, ha, hin⟩ := hbd0
    refine seg_execs_cons (seg_If (testEsc (s := { s with heap := h3, toks := t3 }) X3 hb3 ?_))
    -- the loop goes on
    have go : ∀ {b' : Bool} {fm' : Fm} {s1 s0 : Shared} {done' : List (Nat × Str)}, outs = done' ++ escGo (i + 1) b' rest → FR w (gFx base L) fm' none s1 → flatFm fm' → fm'.lookup sEsc = some (.v (.bool b')) → fm'.lookup sPos = some (.v (.int (i : Int))) → St (i + 1) s1.heap → GM L it e s0 s1 →
        Seg (MM w) A (gR L it e) (gY base L it e outs) (escGo (i + 1) b' rest).length s0 (.forLoop (gTgt p1 p2 k p3) (.ref e) [.If (.Name sEsc q1) [y, a] [i1] q2] [] (genv L)) (.pure (.again (.forLoop (gTgt p1 p2 k p3) (.ref e) [.If (.Name sEsc q1) [y, a] [i1] q2] [] (genv L)))) [gF0 L lst Hf l pp] s1 :=
      fun ho' X' f' hb' hp' st' G' => seg_again rfl (genLoop hA hl hbd hW hPt hSt hei hDone hLi hLe hbL hbit hbe rest (i + 1) _ (i : Int) hrest hlt ho' X' f' hb' hp' (fun _ => by simp) st' G')
    cases b with
    | true =>
      rw [if_pos rfl]
      obtain ⟨q3, bb, kk, q4, q5, q6, rfl, hbb⟩ := hy
      obtain ⟨k2', q7, q8, q9, rfl⟩ := hbb
      have ho' : outs = done ++ (i, ⟨#[92, c]⟩) :: escGo (i + 1) false rest := ho
      refine seg_execs_cons ?_
      show Seg _ _ _ _ ((escGo (i + 1) false rest).length + 1) s₀ _ _ _ _
      refine seg_pair (s := { s with heap := h3, toks := t3 }) X3 f3 rfl rfl ho' G3 three3 hbit hbe ⟨rfl, rfl⟩ (fun hq => ?_) fun s'' X'' t3'' kie => ?_
      · refine wpAny_items_cons (ldB (F := gFx base L) X3 (gVar sc7.2.2.2.1) hp3 fun v rv => wpAny_items_cons (wpAny_BinOp (wpAny_Constant_str ?_)))
        refine ldB (F := gFx base L) (s := { s with heap := h3, toks := t3 + 1 }) (X3.grow (Grow.tok _ _)) (gVar sc7.2.2.2.2.2.1) hc3 fun v2 rv2 => ?_
        obtain ⟨t', rfl⟩ := VR.int_inv rv
        obtain ⟨t'', rfl⟩ := VR.str_inv rv2
        exact PyProof.Rows.add_str (fun t4 tk4 => wpAny_items_nil (hq t' t4 tk4)) (show 1 + 1 ≤ sizeLine from by decide)
      · refine seg_stmt (gAsg ha sc7.2.2.2.2.1 X'' fun h4 t4 X4 k4 _ => ⟨rfl, ?_⟩)
        refine go (done' := done ++ [(i, ⟨#[92, c]⟩)]) (by rw [ho']; simp) X4 (f3.set rfl) (by rw [lookup_setB, if_pos rfl]) (by rw [lookup_setB, if_neg (by decide)]; exact hp3) ?_ ⟨fun b o h1 _ _ ho => k4 b o h1 ho, rfl, rfl⟩
        exact frame st3 (fun o ho => k4 e o (Ne.symm hLe) (kie e o (.inr rfl) ho)) (fun o ho => k4 it o (Ne.symm hLi) (kie it o (.inl rfl) ho))
    | false =>
      rw [if_neg (by simp)]
      obtain ⟨tt, a2, y2, q3, rfl, htt, ha2, hy2⟩ := hin
      refine seg_execs_cons (seg_If (testCh htt (s := { s with heap := h3, toks := t3 }) X3 hc3 fun tk3 => ?_))
      have X3' : FR w (gFx base L) fm3 none { s with heap := h3, toks := tk3 } := X3.grow (Grow.tok _ _)
      by_cases hc92 : c = 92
      · subst hc92
        rw [if_pos (by rfl)]
        have ho' : outs = done ++ escGo (i + 1) true rest := ho
        show Seg _ _ _ _ (escGo (i + 1) true rest).length s₀ _ _ _ _
        refine seg_stmt (gAsg (s := { s with heap := h3, toks := tk3 }) ha2 sc7.2.2.2.2.1 X3' fun h4 t4 X4 k4 _ => ⟨rfl, ?_⟩)
        refine go (done' := done) ho' X4 (f3.set rfl) (by rw [lookup_setB, if_pos rfl]) (by rw [lookup_setB, if_neg (by decide)]; exact hp3) ?_ ⟨fun b o h1 h2 h3 ho => k4 b o h1 (G3.heap b o h1 h2 h3 ho), G3.gens, G3.os⟩
        exact frame st3 (fun o ho => k4 e o (Ne.symm hLe) ho) (fun o ho => k4 it o (Ne.symm hLi) ho)
      · have hcb : (c == 92) = false := by simpa using hc92
        rw [hcb, if_neg (by simp)]
        have he : escGo i false (c :: rest) = (i, ⟨#[c]⟩) :: escGo (i + 1) false rest := by
          show (if c == 92 then _ else _) = _
          rw [hcb]; rfl
        rw [he] at ho ⊢
        obtain ⟨q4, bb, kk, q5, q6, q7, rfl, hbb⟩ := hy2
        obtain ⟨q8, rfl⟩ := hbb
        refine seg_execs_cons ?_
        show Seg _ _ _ _ ((escGo (i + 1) false rest).length + 1) s₀ _ _ _ _
        refine seg_pair (s := { s with heap := h3, toks := tk3 }) X3' f3 rfl rfl ho ⟨G3.heap, G3.gens, G3.os⟩ three3 hbit hbe ⟨rfl, rfl⟩ (fun hq => ?_) fun s'' X'' t3'' kie => ?_
        · refine wpAny_items_cons (ldB (F := gFx base L) X3' (gVar sc7.2.2.2.1) hp3 fun v rv => wpAny_items_cons (ldB (F := gFx base L) X3' (gVar sc7.2.2.2.2.2.1) hc3 fun v2 rv2 => wpAny_items_nil ?_))
          obtain ⟨t', rfl⟩ := VR.int_inv rv
          obtain ⟨t'', rfl⟩ := VR.str_inv rv2
          exact hq t' t'' tk3
        · refine go (done' := done ++ [(i, ⟨#[c]⟩)]) (by rw [ho]; simp) X'' f3 hb3 hp3 ?_ (GM.refl _ _ _ _)
          exact frame st3 (fun o ho => kie e o (.inr rfl) ho) (fun o ho => kie it o (.inl rfl) ho)
end
end Mine
namespace Mine
section
variable {w : World} {base : Base} {L : Addr} {fm : Fm} {s s' : Shared}
theorem gBuiltin {x : Str} {pos : Pos} {v : Value} {A : Around} {Q : Value → Shared → Prop} {E : Value → Shared → Prop} (X : FR w (gFx base L) fm none s) (hg : (fS 7).names.lookup x = some .globalImplicit) (hv : nsIn (KF w.params) mainGlobals x = some none) (hb : bootBuiltins x = some v) (hn : x ≠ "__name__") (q : Q v s) :
    wpAny (MM w) A (eval (.Name x pos) (genv L)) Q E s :=
  builtinOk (F := gFx base L) X (by unfold isGlob; rw [show (gFx base L).env.scope.names.lookup x = some .globalImplicit from hg]) hv hb hn q
theorem genFresh {A : Around} {x : Str} (hA : A.handled = none) (X : FR w (gFx base L) [(sAddr, .v (.str x))] none s) (hbase : ∀ b, s.heap.objs.size ≤ b → base b = none) (hbL : base L = none) :
    Seg (MM w) A (gR L s.heap.objs.size (s.heap.objs.size + 1)) (gY base L s.heap.objs.size (s.heap.objs.size + 1) (escGo 0 false x.cps.toList)) (escGo 0 false x.cps.toList).length s (.func (fB 7) (genv L)) ((MM w).den (.func (fB 7) (genv L))) [] s := by
  obtain ⟨a, b, c, d, e7, ha, hb, hc, hd⟩ := gen_text
  obtain ⟨oL, hoL⟩ : ∃ o, s.heap.get? L = some o := let ⟨m, ⟨o, _, _, ho, _⟩, _⟩ := X.nsL; ⟨o, ho⟩
  have hLlt : L < s.heap.objs.size := Heap.lt_size hoL
  have f0 : flatFm [(sAddr, B.v (.str x))] := fun y bb e => by
    rw [List.lookup_cons] at e
    split at e
    · cases e; exact ⟨_, rfl, rfl⟩
    · cases e
  refine seg_func ?_
  rw [show execs (fB 7) (genv L) = execs [a, b, c, d] (genv L) by rw [e7]]
  refine seg_stmt (gAsgInt ha sc7.2.2.2.1 X fun h1 t1 X1 k1 z1 => ⟨rfl, ?_⟩)
  refine seg_stmt (gAsg (s := { s with heap := h1, toks := t1 }) hb sc7.2.2.2.2.1 X1 fun h2 t2 X2 k2 z2 => ⟨rfl, ?_⟩)
  obtain ⟨p1, p2, k, p3, p4, p5, p6, bd, p7, rfl, hbd⟩ := hc
  have f2 := (f0.set (x := sPos) (d := .int 0) rfl).set (x := sEsc) (d := .bool false) rfl
  have ha2 : (setB sEsc (.v (.bool false)) (setB sPos (.v (.int 0)) [(sAddr, B.v (.str x))])).lookup sAddr = some (.v (.str x)) := by
    rw [lookup_setB, if_neg (by decide), lookup_setB, if_neg (by decide)]; simp [List.lookup]
  have hp2 : (setB sEsc (.v (.bool false)) (setB sPos (.v (.int 0)) [(sAddr, B.v (.str x))])).lookup sPos = some (.v (.int 0)) := by
    rw [lookup_setB, if_neg (by decide), lookup_setB, if_pos rfl]
  have he2 : (setB sEsc (.v (.bool false)) (setB sPos (.v (.int 0)) [(sAddr, B.v (.str x))])).lookup sEsc = some (.v (.bool false)) := by
    rw [lookup_setB, if_pos rfl]
  generalize setB sEsc (.v (.bool false)) (setB sPos (.v (.int 0)) [(sAddr, B.v (.str x))]) = fm2 at X2 f2 ha2 hp2 he2
  have k12 : ∀ b o, b ≠ L → s.heap.get? b = some o → h2.get? b = some o := fun b o hb ho => k2 b o hb (k1 b o hb ho)
  have z12 : h2.objs.size = s.heap.objs.size := z2.trans z1
  refine seg_execs_cons (seg_For (fun x => rfl) ?_)
  refine wpAny_Call_Name_kw (gBuiltin (s := { s with heap := h2, toks := t2 }) X2 sc7.2.2.2.2.2.2.2.1 (nsEnum _) bbEnum (by decide) ?_)
  refine PyProof.Rows.callWith_type1 (wpAny_items_cons (ldB (F := gFx base L) (s := { s with heap := h2, toks := t2 }) X2 (gVar sc7.2.2.2.2.2.2.1) ha2 fun v rv => wpAny_items_nil ?_))
  obtain ⟨t, rfl⟩ := VR.str_inv rv
  refine call_enumerate_str fun h3 hen hit hsz k3 => ?_
  dsimp only at hen hit hsz k3 ⊢
  rw [z12] at hen hit hsz ⊢
  refine wpAny_pyIter_enum hen fun pp l => ?_
  -- the iterators stand
  have X3 : FR w (gFx base L) fm2 none { s with heap := h3, toks := t2 } := X2.keeps k3
  have hx : (0 : Nat) ≤ x.cps.toList.length := Nat.zero_le _
  have G3 : GM L s.heap.objs.size (s.heap.objs.size + 1) s { s with heap := h3, toks := t2 } := ⟨fun b o h1 _ _ ho => k3 b o (k12 b o h1 ho), rfl, rfl⟩
  have hLi : L ≠ s.heap.objs.size := Nat.ne_of_lt hLlt
  have hLe : L ≠ s.heap.objs.size + 1 := Nat.ne_of_lt (Nat.lt_succ_of_lt hLlt)
  have hei : s.heap.objs.size + 1 ≠ s.heap.objs.size := Nat.succ_ne_self _
  have hef : s.heap.objs.size + 1 ∉ [s.heap.objs.size] := by simp
  cases hasc : x.cps.all (· < 128)
  · have hty : strIterType x = "str_iterator" := by unfold strIterType; rw [hasc]; rfl
    rw [hty] at hit
    exact genLoop hA hd hbd (Pt := fun i vals => ∃ t y, (∃ c u, x.cps[i]? = some c ∧ y = .str ⟨#[c]⟩ u) ∧ vals = #[.int i t, y]) (St := fun i h => (∃ old, IsEnum h (s.heap.objs.size + 1) s.heap.objs.size i old) ∧ h.IsStrIter s.heap.objs.size "str_iterator" x t i)
      (Mid := fun i T h => (∃ y, IsEnumOut h (s.heap.objs.size + 1) s.heap.objs.size ((i : Int) + 1) y T) ∧ h.IsStrIter s.heap.objs.size "str_iterator" x t (i + 1) ∧ T ≠ s.heap.objs.size + 1 ∧ T ≠ s.heap.objs.size)
      (fun A' hA' => by
        have := WalksT.enumerateD (Draws.strWide (prog := PySem.Challenge.pw_wf0083_01) (w := w) (A := A'.in1) hA' s.heap.objs.size x t) (s.heap.objs.size + 1) hei hef (by simp)
        simpa using this)
      (fun i vals h => let ⟨t, y, ⟨c, u, hc, hy⟩, hv⟩ := h; ⟨c, t, u, by simpa using hc, by rw [hv, hy]⟩)
      (fun i h st => ⟨let ⟨⟨old, he⟩, _⟩ := st; ⟨_, he⟩, let ⟨_, o, ho, _⟩ := st; ⟨o, ho⟩⟩) hei
      (fun A' hA' {s1 Q E} st q => by
        obtain ⟨⟨old, he⟩, hst⟩ := st
        exact enumEnd he (fun Q E hE => nextEndW hA' hst (by simp) hE) fun h' hx hl => q h' hx hl)
      hLi hLe hbL (hbase _ (Nat.le_refl _)) (hbase _ (Nat.le_succ _)) x.cps.toList 0 false 0 (done := []) rfl hx rfl X3 f2 he2 hp2 (fun q => by cases q) ⟨⟨_, hen⟩, hit⟩ G3
  · have hty : strIterType x = "str_ascii_iterator" := by unfold strIterType; rw [hasc]; rfl
    rw [hty] at hit
    exact genLoop hA hd hbd (Pt := fun i vals => ∃ t y, (∃ c u, x.cps[i]? = some c ∧ y = .str ⟨#[c]⟩ u) ∧ vals = #[.int i t, y]) (St := fun i h => (∃ old, IsEnum h (s.heap.objs.size + 1) s.heap.objs.size i old) ∧ h.IsStrIter s.heap.objs.size "str_ascii_iterator" x t i)
      (Mid := fun i T h => (∃ y, IsEnumOut h (s.heap.objs.size + 1) s.heap.objs.size ((i : Int) + 1) y T) ∧ h.IsStrIter s.heap.objs.size "str_ascii_iterator" x t (i + 1) ∧ T ≠ s.heap.objs.size + 1 ∧ T ≠ s.heap.objs.size)
      (fun A' hA' => by
        have := WalksT.enumerateD (Draws.strAscii (prog := PySem.Challenge.pw_wf0083_01) (w := w) (A := A'.in1) hA' s.heap.objs.size x t) (s.heap.objs.size + 1) hei hef (by simp)
        simpa using this)
      (fun i vals h => let ⟨t, y, ⟨c, u, hc, hy⟩, hv⟩ := h; ⟨c, t, u, by simpa using hc, by rw [hv, hy]⟩)
      (fun i h st => ⟨let ⟨⟨old, he⟩, _⟩ := st; ⟨_, he⟩, let ⟨_, o, ho, _⟩ := st; ⟨o, ho⟩⟩) hei
      (fun A' hA' {s1 Q E} st q => by
        obtain ⟨⟨old, he⟩, hst⟩ := st
        exact enumEnd he (fun Q E hE => nextEndA hA' hst (by simp) hE) fun h' hx hl => q h' hx hl)
      hLi hLe hbL (hbase _ (Nat.le_refl _)) (hbase _ (Nat.le_succ _)) x.cps.toList 0 false 0 (done := []) rfl hx rfl X3 f2 he2 hp2 (fun q => by cases q) ⟨⟨_, hen⟩, hit⟩ G3
end
end Mine
namespace Mine
noncomputable def Fx.adds (F : Fx) (xs : List Addr) : Fx := { F with av := xs ++ F.av, ac := xs ++ F.ac }
theorem BR.addAvs {h : Heap} {ow : Option Addr} {b : B} {v : Value} : ∀ {xs av ac : List Addr}, BR h av ac ow b v → (∀ x ∈ xs, h.get? x = none) → BR h (xs ++ av) (xs ++ ac) ow b v
  | [], _, _, y, _ => y
  | x :: xs, _, _, y, hx => (BR.addAvs y fun z hz => hx z (.tail _ hz)).addAv (hx x (.head _))
theorem BR.dropAvs {h : Heap} {ow : Option Addr} {b : B} {v : Value} : ∀ {xs av ac : List Addr}, BR h (xs ++ av) (xs ++ ac) ow b v → BR h av ac ow b v
  | [], _, _, y => y
  | x :: xs, _, _, y => BR.dropAvs (xs := xs) (BR.dropAv y)
theorem VR.updS {h h' : Heap} {av xs : List Addr} {v : Value} {d : PyData} (y : VR h av v d) (k : ∀ b o, b ∉ xs → h.get? b = some o → h'.get? b = some o) (hx : ∀ x ∈ xs, x ∈ av) : VR h' av v d := by
  obtain ⟨n, as, r, hn⟩ := y
  exact ⟨n, as, reads_move d n r fun b o its m hb ho _ => k b o (fun z => hn b hb (hx b z)) ho, hn⟩
theorem VRs.updS {h h' : Heap} {av xs : List Addr} {vs : List Value} {ds : List PyData} (y : VRs h av vs ds) (k : ∀ b o, b ∉ xs → h.get? b = some o → h'.get? b = some o) (hx : ∀ x ∈ xs, x ∈ av) : VRs h' av vs ds := by
  induction ds generalizing vs with
  | nil => rw [y.nil_inv]; exact VRs.nil
  | cons d ds ih => obtain ⟨u, us, rfl, a, b⟩ := y.cons_inv; exact VRs.cons (a.updS k hx) (ih b)
theorem BR.updS {h h' : Heap} {av ac xs : List Addr} {ow : Option Addr} {b : B} {v : Value} (y : BR h av ac ow b v) (k : ∀ b o, b ∉ xs → h.get? b = some o → h'.get? b = some o)
    (ho : ∀ a, ow = some a → a ∉ xs) (hx : ∀ x ∈ xs, x ∈ av ∧ x ∈ ac) : BR h' av ac ow b v := by
  cases b with
  | v d => exact VR.updS y k fun x hm => List.mem_append_right _ (hx x hm).1
  | own ys =>
    obtain ⟨a, vs, rfl, e, l, r⟩ := y
    exact ⟨a, vs, rfl, e, l.at fun o ho' => k a o (ho a e) ho', r.updS k fun x hm => .tail _ (hx x hm).1⟩
  | ro ys =>
    obtain ⟨a, vs, rfl, e, e', l, r⟩ := y
    exact ⟨a, vs, rfl, e, e', isList_at l fun o ho => k a o (fun q => e (hx a q).2) ho, r.updS k fun x hm => List.mem_append_right _ (hx x hm).1⟩
section
variable {w : World} {F : Fx} {fm : Fm} {ow : Option Addr} {s s' : Shared} {xs : List Addr}
theorem FR.adds (X : FR w F fm ow s) (hx : ∀ x ∈ xs, s.heap.get? x = none) (k : Keeps s.heap s'.heap) (he : ∀ x ∈ xs, ∃ o, s'.heap.get? x = some o) : FR w (F.adds xs) fm ow s' := by
  have Y := X.keeps k
  have up : ∀ {b v}, BR s.heap F.av F.ac ow b v → BR s'.heap (F.adds xs).av (F.adds xs).ac ow b v := fun y => (y.addAvs hx).keeps k
  have no : ∀ {a : Addr} {o : Obj}, s.heap.get? a = some o → a ∉ xs := fun e q => by rw [hx _ q] at e; cases e
  obtain ⟨m, hm, hr⟩ := X.nsL
  exact { Y with
    nsL := ⟨m, hm.keeps k, fun y c e q => let ⟨u, p, r⟩ := hr y c e q; ⟨u, p, up r⟩⟩
    cel := fun y c e q => let ⟨a, u, p, r, t⟩ := X.cel y c e q; ⟨a, u, p, r.keeps k, up t⟩
    own := fun a e => by
      obtain ⟨p, q, vs, l⟩ := Y.own a e
      obtain ⟨_, _, vs', o, n, ho, _⟩ := X.own a e
      exact ⟨p, fun z => (List.mem_append.mp z).elim (no ho) q, vs, l⟩
    lives := fun a ha => (List.mem_append.mp ha).elim (he a) (Y.lives a)
    acs := fun y hy => by
      rcases List.mem_append.mp hy with hy | hy
      · refine ⟨List.mem_append_left _ hy, fun z => ?_, fun q => ?_, fun z c hz q => ?_⟩
        · obtain ⟨o, _, _, ho, _⟩ := hm
          exact no ho (z ▸ hy)
        · obtain ⟨o, ho, _⟩ := X.wrs _ q
          exact no ho hy
        · obtain ⟨o, ho⟩ := X.celE z c hz
          exact no ho (q ▸ hy)
      · obtain ⟨a, b⟩ := X.acs y hy
        exact ⟨List.mem_append_right _ a, b⟩ }
theorem FR.updS (X : FR w (F.adds xs) fm ow s) (hb : ∀ x ∈ xs, F.base x = none) (k : ∀ b o, b ∉ xs → s.heap.get? b = some o → s'.heap.get? b = some o) (he : ∀ x ∈ xs, ∃ o, s'.heap.get? x = some o) : FR w (F.adds xs) fm ow s' := by
  have hx : ∀ x ∈ xs, x ∈ (F.adds xs).ac := fun x hm => List.mem_append_left _ hm
  have ho : ∀ a, ow = some a → a ∉ xs := fun a e q => (X.own a e).2.1 (List.mem_append_left _ q)
  have up : ∀ {b v}, BR s.heap (F.adds xs).av (F.adds xs).ac ow b v → BR s'.heap (F.adds xs).av (F.adds xs).ac ow b v := fun y => y.updS k ho fun x hm => ⟨List.mem_append_left _ hm, hx x hm⟩
  exact { X with
    keep := fun c o e => k c o (fun q => by rw [show (F.adds xs).base c = F.base c from rfl, hb c q] at e; cases e) (X.keep c o e)
    nsL := let ⟨m, hm, hr⟩ := X.nsL; ⟨m, hm.at' fun o e => k _ o (fun q => (X.acs _ (hx _ q)).2.1 rfl) e, fun y c e q => let ⟨u, p, r⟩ := hr y c e q; ⟨u, p, up r⟩⟩
    cel := fun y c e q => let ⟨a, u, p, r, t⟩ := X.cel y c e q; ⟨a, u, p, let ⟨o, ho', hd⟩ := r; ⟨o, k _ _ (fun z => (X.acs _ (hx _ z)).2.2.2 _ _ p rfl) ho', hd⟩, up t⟩
    ocel := fun y e => let ⟨p, c, u, q, r, t⟩ := X.ocel y e; ⟨p, c, u, q, let ⟨o, ho', hd⟩ := r; ⟨o, k _ _ (fun z => (X.acs _ (hx _ z)).2.2.2 _ _ q rfl) ho', hd⟩, t⟩
    own := fun a e => let ⟨p, q, vs, l⟩ := X.own a e; ⟨p, q, vs, l.at fun o => k a o (ho a e)⟩
    lives := fun a ha => by
      by_cases q : a ∈ xs
      · exact he a q
      · exact (X.lives a ha).imp fun _ z => k _ _ q z
    celE := fun y c e => (X.celE y c e).imp fun _ h => k _ _ (fun z => (X.acs _ (hx _ z)).2.2.2 _ _ e rfl) h
    wrs := fun b hb => let ⟨o, ho', r⟩ := X.wrs b hb; ⟨o, k _ _ (fun q => (X.acs _ (hx _ q)).2.2.1 hb) ho', r⟩ }
theorem FR.dropS (X : FR w (F.adds xs) fm ow s) (Y : ∀ y, y ∈ F.ac → y ∈ F.av) : FR w F fm ow s :=
  { X with
    nsL := let ⟨m, hm, hr⟩ := X.nsL; ⟨m, hm, fun y c e q => let ⟨u, p, r⟩ := hr y c e q; ⟨u, p, BR.dropAvs r⟩⟩
    cel := fun y c e q => let ⟨a, u, p, r, t⟩ := X.cel y c e q; ⟨a, u, p, r, BR.dropAvs t⟩
    own := fun a e => let ⟨p, q, vs, l⟩ := X.own a e; ⟨p, fun z => q (List.mem_append_right _ z), vs, l⟩
    lives := fun a ha => X.lives a (List.mem_append_right _ ha)
    acs := fun y hy => let ⟨_, b⟩ := X.acs y (List.mem_append_right _ hy); ⟨Y y hy, b⟩ }
end
section
variable {prog : Program} {w : World} {A : Around} {E : Value → Shared → Prop} {s : Shared}
theorem pyNextGen {a : Addr} {g n : Nat} {gs : GenState} {P : Nat → Shared → Shared → Prop} {Y : Protocol} {Q : Option Value → Shared → Prop} (hh : A.handled = none)
    (hl : s.heap.NoLimit) (hroom : A.depth < recursionLimit)
    (hg : s.heap.IsGen a g) (hgs : s.gens[g]? = some gs)
    (hgo : gs.Goes (model prog w) A.in1 (fun n s₀ r s₁ => r = .ok (.ret .none) ∧ P n s₀ s₁) Y n (.send .none) (s.setGen g .running))
    (hY : ∀ v s₁ gs', gs'.bare = true → Y (n - 1) (s.setGen g .running) v s₁ (fun r' s'' => match n with
        | 0 => False
        | m + 1 => gs'.Goes (model prog w) A.in1 (fun n s₀ r s₁ => r = .ok (.ret .none) ∧ P n s₀ s₁) Y m r' s'') → Q (some v) (s₁.setGen g gs'))
    (hP : ∀ s₁, P n (s.setGen g .running) s₁ → ∀ h', (∀ b o, s₁.heap.get? b = some o → h'.get? b = some o) → Q none { s₁.setGen g .finished with heap := h' }) :
    wpAny (model prog w) A (pyNext (.ref a)) Q E s := by
  unfold pyNext
  refine wpAny_bind (wpAny_attempt (wpAny_callSpecial?_slot (name := Str.ofString "__next__") hg.typeIs slot_gen_next
    (wpAny_call_entry slot_gen_next hg.typeIs entry_gen_next ?_ (args_gen_next _))))
  show wpAny _ _ (Builtin.Generator.genWake (.ref a) (.send .none)) _ _ s
  unfold Builtin.Generator.genWake
  refine wpAny_bind (wpAny_holding (wpAny_genNumber hg (wpAny_bind (wpAny_genState hgs ?_))))
  cases gs with
  | running => exact hgo.elim
  | finished => exact hgo.elim
  | _ =>
    refine wpAny_bind (wpAny_roomToWake hl hroom ?_)
    show wpAny _ _ (.resume g (.send .none) [] _) _ _ s
    refine wpAny_resumeQ hgs hgo (fun x s₁ hx => ?_) (fun v s₁ gs' hb hv => ?_)
    · obtain ⟨rfl, hp⟩ := hx
      show wpAny _ _ (newExc (.type "StopIteration") [] >>= _) _ _ _
      refine wpAny_bind ?_
      simp only [newExc, newTuple]
      refine wpAny_bind (wpAny_newObj_type ?_ (by size_fits))
      refine wpAny_bind (m := firstArgMember _ _) (wpAny_of_eq (a := Value.none) (by first | rfl | (simp only [firstArgMember]; rfl)) ?_)
      refine wpAny_newObj_type ?_ (by size_fits)
      simp only [raiseNew]
      refine wpAny_bind (wpAny_bind (wpAny_handled ?_))
      rw [show A.in1.handled = none from hh]
      refine wpAny_throw ?_
      refine wpAny_bind (wpAny_isInstance (T := "StopIteration") (b := true) ⟨_, Heap.get?_push_size _ rfl, rfl⟩ isSubtype_stop ?_)
      exact wpAny_pure (hP s₁ hp _ fun b o hb => Heap.get?_push_of_some _ (Heap.get?_push_of_some _ hb))
    · exact wpAny_pure ⟨v, rfl, wpAny_pure (hY v s₁ gs' hb hv)⟩
theorem noGo {a T g : Nat} {elts : List PySem.Expr} {k : Nat} {pos : Pos} {Q : Unit → Shared → Prop} (hg : s.heap.IsGen a g) (q : Q () s) : wpAny (model prog w) A (letOwnedTupleGo (.Tuple elts k pos) (.ref a) (.ref T)) Q E s := by
  obtain ⟨⟨cls, di, da, sl⟩, nm, qn, ho, hc, hd, hsl⟩ := hg
  simp only at hc hd hsl
  subst hc hd hsl
  unfold letOwnedTupleGo
  refine wpAny_bind (wpAny_load ho ?_)
  exact wpAny_pure q
end
end Mine
namespace Mine
section
variable {w : World} {k : Nat} {r : Ev} {F : Fx} {fm fm' : Fm} {A : Around} {ow : Option Addr} {s s' : Shared} {E : Value → Shared → Prop}
noncomputable def PutPair (x y : Str) (p : Nat × Str) (fm : Fm) : Fm := setB y (.v (.str p.2)) (setB x (.v (.int p.1)) fm)
theorem setGen_get {s : Shared} {g : Nat} {st : GenState} (h : g < s.gens.size) : (s.setGen g st).gens[g]? = some st := by
  simp [Shared.setGen, h]
theorem setGen_other {s : Shared} {g i : Nat} {st : GenState} (h : i ≠ g) : (s.setGen g st).gens[i]? = s.gens[i]? := by
  simp [Shared.setGen, Array.getElem?_setIfInBounds, Ne.symm h]
theorem setGen_size {s : Shared} {g : Nat} {st : GenState} : (s.setGen g st).gens.size = s.gens.size := by
  simp [Shared.setGen]
/-- what the loop's turns keep of the generators -/
theorem GX.put {a : Array GenState} {s : Shared} {g : Nat} {st : GenState} (x : GX a s.gens) (hg : a.size ≤ g) (hb : st.bare = true) : GX a (s.setGen g st).gens where
  size := by rw [setGen_size]; exact x.size
  old := fun i hi => by rw [setGen_other (Nat.ne_of_lt (Nat.lt_of_lt_of_le hi hg))]; exact x.old i hi
  bare := fun i z hi hz => by
    by_cases q : i = g
    · subst q
      by_cases hlt : i < s.gens.size
      · rw [setGen_get hlt] at hz; cases hz; exact hb
      · rw [Array.getElem?_eq_none (by rw [setGen_size]; omega)] at hz; cases hz
    · rw [setGen_other q] at hz; exact x.bare i z hi hz
theorem setTwo {x y : Str} {p1 p2 p3 : Pos} {kk : Nat} {T : Addr} {i : Nat} {t u : Tok} {z : Str} {Q : Unit → Shared → Prop} (hh : A.handled = none) (hx : F.env.kindOf x = some .local) (hy : F.env.kindOf y = some .local) (X : FR w F fm ow s) (hT : s.heap.IsTuple T #[.int ((i : Nat) : Int) t, .str z u])
    (q : ∀ s', FR w F (PutPair x y (i, z) fm) ow s' → FP s s' → s'.gens = s.gens → Q () s') : wpAny (MM w) A (assign (.Tuple [.Name x p1, .Name y p2] kk p3) F.env (.ref T)) Q E s := by
  refine wpAny_assign_Tuple hh hT (by rw [assignEach2]; rfl) (by rw [assignEach2]; rfl) fun h1 he => ?_
  rw [assignEach2]
  refine wpAny_assignInOrder_more (wpAny_assign_Name (stB (s := { s with heap := h1 }) (X.keeps (extBut_keeps he)) (.inl hx) (b := .v (.int i)) (VR.int _ t) fun h2 t2 X2 => ?_))
  refine wpAny_assignInOrder_more (wpAny_assign_Name (stB (s := { s with heap := h2, toks := t2 }) X2 (.inl hy) (b := .v (.str z)) (VR.str _ u) fun h3 t3 X3 => ?_))
  exact wpAny_assignInOrder_none (q _ X3 ⟨GX.refl _, rfl⟩ rfl)
theorem rev_get {α : Type} {l : List α} {i : Nat} (h : i < l.length) : l.reverse[l.length - i - 1]? = l[i]? := by
  rw [List.getElem?_reverse (by omega)]
  congr 1
  omega
/-- between two turns over a generator -/
structure GJ (w : World) (F : Fx) (A : Around) (L it e a g : Nat) (outs : List (Nat × Str)) (sA s₁ s₃ : Shared) (fm0 : Fm) (ow0 : Option Addr) (i : Nat) (fm : Fm) (ow : Option Addr) (s : Shared) : Prop where
  fr : (s = s₃ ∧ fm = fm0 ∧ ow = ow0) ∨ FR w (F.adds [L, it, e]) fm ow s
  gen : s.heap.IsGen a g
  lim : s.heap.NoLimit
  gx : GX sA.gens s.gens
  os : s.os = sA.os
  go : ∃ gs, s.gens[g]? = some gs ∧ gs.Goes (MM w) A.in1 (gR L it e) (gY F.base L it e outs) (outs.length - i) (.send .none) (s.setGen g .running)
theorem genFor (S : Sound w k r) (O : OcAll F) {x y : Str} {p1 p2 p3 : Pos} {kk : Nat} {body : List Stmt} {outs : List (Nat × Str)} {fl : Fl} {L it e a g : Nat} {sA s₁ s₃ : Shared} (hx : F.env.kindOf x = some .local) (hy : F.env.kindOf y = some .local)
    (h : forS r F.env.scope (PutPair x y) body [] fm outs = some (fm', fl)) (C : Cx k A) (X : FR w F fm ow s₁) (k13 : Keeps s₁.heap s₃.heap) (nL : s₁.heap.get? L = none) (nit : s₁.heap.get? it = none) (ne : s₁.heap.get? e = none) (na : s₁.heap.get? a = none)
    (aL : a ≠ L) (ait : a ≠ it) (ae : a ≠ e) (hgA : sA.gens.size ≤ g) (J0 : GJ w F A L it e a g outs sA s₁ s₃ fm ow 0 fm ow s₃) {Q : Flow → Shared → Prop}
    (q : ∀ f ow' s', FlR s'.heap F.av fl f → FR w F fm' ow' s' → FP sA s' → Q f s') :
    codeAny (MM w) A (.forLoop (.Tuple [.Name x p1, .Name y p2] kk p3) (.ref a) body [] F.env) (fun r s' => match r with | .ok f => Q f s' | .error e => cameBackBy (MM w) A F.env E e s') s₃ := by
  have hacs : ∀ y, y ∈ F.ac → y ∈ F.av := fun y hy => (X.acs y hy).1
  have bnone : ∀ b, s₁.heap.get? b = none → F.base b = none := fun b hb => by
    cases e : F.base b with
    | none => rfl
    | some o => have := X.keep _ _ e; rw [hb] at this; cases this
  have old : ∀ {b o}, s₁.heap.get? b = some o → b ≠ L ∧ b ≠ it ∧ b ≠ e := fun {b o} ho => ⟨(fun q => by rw [q, nL] at ho; cases ho), (fun q => by rw [q, nit] at ho; cases ho), (fun q => by rw [q, ne] at ho; cases ho)⟩
  have xsn : ∀ z ∈ [L, it, e], s₁.heap.get? z = none := fun z hz => by
    rcases List.mem_cons.mp hz with rfl | hz
    · exact nL
    · rcases List.mem_cons.mp hz with rfl | hz
      · exact nit
      · rw [List.mem_singleton.mp hz]; exact ne
  have xb : ∀ z ∈ [L, it, e], F.base z = none := fun z hz => bnone z (xsn z hz)
  have nin : ∀ {b : Addr}, b ∉ [L, it, e] ↔ b ≠ L ∧ b ≠ it ∧ b ≠ e := fun {b} => by simp
  refine codeAny_forLoop_any (fun n s' => ∃ i fm1 ow1, n = outs.length + 1 - i ∧ i ≤ outs.length ∧ forS r F.env.scope (PutPair x y) body [] fm1 (outs.drop i) = some (fm', fl) ∧ GJ w F A L it e a g outs sA s₁ s₃ fm ow i fm1 ow1 s') ?_ (outs.length + 1) ⟨0, fm, ow, rfl, Nat.zero_le _, h, J0⟩
  rintro n s1 ⟨i, fm1, ow1, rfl, hi, h1, J⟩
  obtain ⟨gs, hgs, hgo⟩ := J.go
  have hglt : g < s1.gens.size := (Array.getElem?_eq_some_iff.mp hgs).1
  have kb1 : ∀ b o, F.base b = some o → s1.heap.get? b = some o := fun b o ho => by
    rcases J.fr with ⟨rfl, _, _⟩ | Y
    · exact k13 b o (X.keep b o ho)
    · exact Y.keep b o ho
  have bx : ∀ {b o}, F.base b = some o → b ≠ L ∧ b ≠ it ∧ b ≠ e := fun {b o} ho => nin.mp fun z => by rw [xb b z] at ho; cases ho
  refine pyNextGen (P := fun n s₀ s₁ => n = 0 ∧ GM L it e s₀ s₁ ∧ Three L it e s₁.heap) C.handled J.lim C.room J.gen hgs hgo (fun v s2 gs' hbare hY => ?_) fun s2 hP h' hk => ?_
  · -- a turn
    obtain ⟨T, p, z, t, u, rfl, hT, hrev, G, hTn, three, hkap⟩ := hY
    have kb2 : ∀ b o, F.base b = some o → s2.heap.get? b = some o := fun b o ho => G.heap b o (bx ho).1 (bx ho).2.1 (bx ho).2.2 (kb1 b o ho)
    have hil : i < outs.length := by
      rcases Nat.lt_or_ge i outs.length with hlt | hge
      · exact hlt
      · exfalso
        have e0 : outs.length - i = 0 := by omega
        rw [e0] at hkap
        exact hkap s2 (fun b o _ ho => ho) kb2
    obtain ⟨m, hm⟩ : ∃ m, outs.length - i = m + 1 := ⟨outs.length - i - 1, by omega⟩
    rw [hm] at hrev hkap
    have hmi : outs.length - (i + 1) = m := by omega
    have hout : outs[i]? = some (p, z) := by
      rw [← rev_get hil, hm]; exact hrev
    rw [List.drop_eq_getElem_cons hil] at h1
    have hgi : outs[i] = (p, z) := by
      have := List.getElem?_eq_getElem hil
      rw [this] at hout; exact Option.some.inj hout
    rw [hgi] at h1
    have three' : ∀ z ∈ [L, it, e], ∃ o, s2.heap.get? z = some o := fun z hz => by
      rcases List.mem_cons.mp hz with rfl | hz
      · exact three.1
      · rcases List.mem_cons.mp hz with rfl | hz
        · exact three.2.1
        · rw [List.mem_singleton.mp hz]; exact three.2.2
    have X2 : FR w (F.adds [L, it, e]) fm1 ow1 (s2.setGen g gs') := by
      rcases J.fr with ⟨rfl, rfl, rfl⟩ | Y
      · exact X.adds xsn (fun b o ho => G.heap b o (old ho).1 (old ho).2.1 (old ho).2.2 (k13 b o ho)) three'
      · exact Y.updS xb (fun b o hb ho => G.heap b o (nin.mp hb).1 (nin.mp hb).2.1 (nin.mp hb).2.2 ho) three'
    obtain ⟨og, nm, qn, hog, hogr⟩ := J.gen
    have gen2 : (s2.setGen g gs').heap.IsGen a g := ⟨og, nm, qn, G.heap a og aL ait ae hog, hogr⟩
    have hT2 : (s2.setGen g gs').heap.IsTuple T #[.int ((p : Nat) : Int) t, .str z u] := hT
    have s2g : s2.gens.size = s1.gens.size := by rw [G.gens]; exact setGen_size
    have gx2 : GX sA.gens (s2.setGen g gs').gens := GX.put (by rw [G.gens]; exact GX.put J.gx hgA rfl) hgA hbare
    have os2 : (s2.setGen g gs').os = sA.os := G.os.trans J.os
    have hgs2 : (s2.setGen g gs').gens[g]? = some gs' := setGen_get (by rw [s2g]; exact hglt)
    have kap2 : ∀ s'', (∀ b o, (b = L ∨ b = it ∨ b = e) → (s2.setGen g gs').heap.get? b = some o → s''.heap.get? b = some o) → (∀ b o, F.base b = some o → s''.heap.get? b = some o) → gs'.Goes (MM w) A.in1 (gR L it e) (gY F.base L it e outs) m (.send .none) s'' := hkap
    have fresh_a : ∀ {ow2 : Option Addr} {s : Shared} {fm2 : Fm}, FR w (F.adds [L, it, e]) fm2 ow2 s → s.heap.IsGen a g → a ∉ ow2.toList := fun {ow2 s fm2} Y hgen hz => by
      cases eo : ow2 with
      | none => rw [eo] at hz; cases hz
      | some b =>
        rw [eo] at hz
        obtain rfl : a = b := by simpa using hz
        obtain ⟨_, _, vs, o, n, ho, _, _, hd⟩ := Y.own a eo
        obtain ⟨o', _, _, ho', _, hd', _⟩ := hgen
        rw [ho] at ho'; cases ho'
        rw [hd] at hd'; cases hd'
    have hawr : a ∉ F.wr := fun z => by
      obtain ⟨o, ho, _⟩ := X.wrs a z
      rw [na] at ho; cases ho
    generalize hs2 : s2.setGen g gs' = s2' at X2 gen2 hT2 gx2 os2 hgs2 kap2 ⊢
    clear hkap
    refine noGo gen2 ?_
    have O2 : OcAll ((F.adds [L, it, e]).at s2'.heap ow1) := O
    refine setTwo (F := (F.adds [L, it, e]).at s2'.heap ow1) C.handled hx hy X2.rebase hT2 fun s3 X3 p3 hg3 => ?_
    -- what stands after a turn
    have after : ∀ {fm4 ow4 s4}, FR w ((F.adds [L, it, e]).at s2'.heap ow1) fm4 ow4 s4 → FP s2' s4 → GJ w F A L it e a g outs sA s₁ s₃ fm ow (i + 1) fm4 ow4 s4 := fun {fm4 ow4 s4} X4 p4 => by
      have stl : ∀ z ∈ [L, it, e], ∀ o, s2'.heap.get? z = some o → s4.heap.get? z = some o := fun z hz => by
        have hac := X2.acs z (List.mem_append_left _ hz)
        refine (FR.still (F := F.adds [L, it, e]) (s := s2') X4 (fun hm => ?_) hac.2.2.1).1
        cases eo : ow1 with
        | none => rw [eo] at hm; cases hm
        | some b =>
          rw [eo] at hm
          have : z = b := by simpa using hm
          exact (X2.own b eo).2.1 (this ▸ hac.1)
      have gen4 : s4.heap.IsGen a g := let ⟨o, nm, qn, ho, rr⟩ := gen2; ⟨o, nm, qn, (FR.still (F := F.adds [L, it, e]) (s := s2') X4 (fresh_a X2 gen2) hawr).1 o ho, rr⟩
      have X4' := X2.back X4
      refine ⟨.inr X4', gen4, X4'.gh.lim, gx2.trans p4.gens, p4.os.trans os2, gs', ?_, ?_⟩
      · rw [p4.gens.old g (Array.getElem?_eq_some_iff.mp hgs2).1]; exact hgs2
      · rw [hmi]
        refine kap2 _ (fun b o hb ho => stl b (by rcases hb with rfl | rfl | rfl <;> simp) o ho) fun b o ho => X4'.keep b o ho
    have out : ∀ {f ow4 s4}, FlR s4.heap F.av fl f → FR w ((F.adds [L, it, e]).at s2'.heap ow1) fm' ow4 s4 → FP s2' s4 → Q f s4 := fun {f ow4 s4} hf X4 p4 =>
      q _ _ _ hf (FR.dropS (X2.back X4) hacs) ⟨gx2.trans p4.gens, p4.os.trans os2⟩
    unfold forS at h1
    split at h1
    · next fm2 hb =>
      refine runOk (F := (F.adds [L, it, e]).at s2'.heap ow1) S O2 hb C X3 fun f ow4 s4 hf X4 p4 => ?_
      rcases okFl hf with ⟨_, rfl⟩ | ⟨ee, _⟩ | ⟨ee, _⟩ | ⟨_, _, ee, _⟩ <;> first | cases ee | skip
      exact ⟨outs.length + 1 - (i + 1), by omega, i + 1, _, ow4, rfl, hil, h1, after X4 (p3.trans p4)⟩
    · next fm2 hb =>
      refine runOk (F := (F.adds [L, it, e]).at s2'.heap ow1) S O2 hb C X3 fun f ow4 s4 hf X4 p4 => ?_
      rcases okFl hf with ⟨ee, _⟩ | ⟨ee, _⟩ | ⟨_, rfl⟩ | ⟨_, _, ee, _⟩ <;> first | cases ee | skip
      exact ⟨outs.length + 1 - (i + 1), by omega, i + 1, _, ow4, rfl, hil, h1, after X4 (p3.trans p4)⟩
    · next fm2 hb =>
      cases h1
      refine runOk (F := (F.adds [L, it, e]).at s2'.heap ow1) S O2 hb C X3 fun f ow4 s4 hf X4 p4 => ?_
      rcases okFl hf with ⟨ee, _⟩ | ⟨_, rfl⟩ | ⟨ee, _⟩ | ⟨_, _, ee, _⟩ <;> first | cases ee | skip
      exact out (f := .next) trivial X4 (p3.trans p4)
    · next n1 n2 n3 =>
      refine runOk (F := (F.adds [L, it, e]).at s2'.heap ow1) S O2 h1 C X3 fun f ow4 s4 hf X4 p4 => ?_
      rcases okFl hf with ⟨rfl, _⟩ | ⟨rfl, _⟩ | ⟨rfl, _⟩ | ⟨d', v', rfl, rfl, rv⟩
      · exact absurd h1 (n1 _)
      · exact absurd h1 (n3 _)
      · exact absurd h1 (n2 _)
      · exact out (f := .ret v') (VR.weak rv fun a ha => List.mem_append_right _ ha) X4 (p3.trans p4)
  · -- the end
    obtain ⟨hn0, G, three⟩ := hP
    have three' : ∀ z ∈ [L, it, e], ∃ o, h'.get? z = some o := fun z hz => by
      rcases List.mem_cons.mp hz with rfl | hz
      · exact three.1.imp fun _ z => hk _ _ z
      · rcases List.mem_cons.mp hz with rfl | hz
        · exact three.2.1.imp fun _ z => hk _ _ z
        · rw [List.mem_singleton.mp hz]; exact three.2.2.imp fun _ z => hk _ _ z
    have hil : i = outs.length := by omega
    subst hil
    rw [List.drop_length] at h1
    unfold forS runS at h1
    cases h1
    refine wpAny_execs_nil (q .next ow1 _ trivial ?_ ⟨GX.put (s := { s2 with heap := h' }) (by rw [show ({ s2 with heap := h' } : Shared).gens = _ from G.gens]; exact GX.put J.gx hgA rfl) hgA rfl, G.os.trans J.os⟩)
    rcases J.fr with ⟨rfl, rfl, rfl⟩ | Y
    · exact X.keeps fun b o ho => hk b o (G.heap b o (old ho).1 (old ho).2.1 (old ho).2.2 (k13 b o ho))
    · exact FR.dropS (Y.updS (s' := { s2.setGen g .finished with heap := h' }) xb (fun b o hb ho => hk b o (G.heap b o (nin.mp hb).1 (nin.mp hb).2.1 (nin.mp hb).2.2 ho)) three') hacs
end
end Mine
namespace Mine
section
variable {w : World} {k : Nat} {r : Ev}
theorem genOk (S : Sound w k r) : GenOk w k r := by
  intro F fm fm' x y p1 p2 p3 p4 p5 p6 k1 e body str fl O hg hx hy hxy hpl he hsm h A ow s Q E C1 X q
  have C := C1.less
  refine wpAny_For ?_ (fun x => rfl)
  refine wpAny_Call_Name_kw (globOk X hg (nsGen _) ?_)
  have hsp : backTo p5 (starEach [e] F.env) = (false, eval e F.env) :: backTo p5 (starEach [] F.env) := by rw [starEach_cons hpl]; rfl
  refine Calls.callWith_function (o := foT "_iter_escaped_chars" 7 .none .none "cpy313.email.utils" 260 46) (fd := fdT "_iter_escaped_chars" 7 .none .none "cpy313.email.utils" 260 46) ?_
  rw [hsp]
  refine Calls.evalArgs_plain ?_
  rw [← hsp]
  refine wpAny_items_cons (S.E he C X fun v s₁ rv g₁ => wpAny_items_nil ?_) (starEach_cons hpl)
  obtain ⟨t, rfl⟩ := rv.str_inv
  have X1 := X.grow g₁
  have hfo := X1.gh.kin _ _ (fo7 w.params)
  refine ⟨⟨hfo, rfl⟩, ?_⟩
  show wpAny (MM w) A (call (.ref 47) [.str str t]) _ E s₁
  refine wpAny_call (codeAny_call_generator C.room hfo rfl sc7.1 sc7.2.1 rfl (codeRec_of X1.gh.kin (cd7 _)) ?_)
  rw [bd7]
  refine wpAny_pure (wpAny_newFunctionEnv (fun z hz => ?_) (fun z hz => ?_) (fun h' hns hsb => ?_) sc7.2.2.1)
  · have := List.all_eq_true.mp sc7.2.2.2.2.2.2.2.2.2.2 z hz
    simpa using this
  · have : z = (sAddr, .str str t) := by simpa using hz
    rw [this]; exact sc7.2.2.2.2.2.2.1
  dsimp only at hns hsb ⊢
  have hz : h'.objs.size = s₁.heap.objs.size + 1 := by rw [hsb.1, Heap.size_push]
  have kh : Keeps s₁.heap h' := fun b o ho => hsb.extBut b o (fun z => by rw [z, get_size] at ho; cases ho) (Heap.get?_push_of_some _ ho)
  refine ⟨X1.gh.lim.keeps kh, ?_⟩
  have hgen : ∀ {o : Obj}, o = ({ cls := .type "generator", data := .fields #[.int s₁.gens.size 0, .str (fdT "_iter_escaped_chars" 7 .none .none "cpy313.email.utils" 260 46).name (s₁.toks + 1), .str (fdT "_iter_escaped_chars" 7 .none .none "cpy313.email.utils" 260 46).qualname (s₁.toks + 1 + 1)] } : Obj) →
      (h'.push o).IsGen h'.objs.size s₁.gens.size := fun {o} eo => by
    subst eo
    exact ⟨_, _, _, Heap.get?_push_size _ rfl, rfl, rfl, rfl⟩
  refine wpAny_pyIter_gen (hgen rfl) ?_
  have kp : ∀ o, Keeps s₁.heap (h'.push o) := fun o => kh.trans (Keeps.push _ _)
  have hLn : s₁.heap.get? s₁.heap.objs.size = none := get_size _
  have above : ∀ {b}, s₁.heap.objs.size ≤ b → s₁.heap.get? b = none := fun {b} hb => by
    cases e : s₁.heap.get? b with
    | none => rfl
    | some o => exact absurd (Heap.lt_size e) (Nat.not_lt.mpr hb)
  have bnone : ∀ {b}, s₁.heap.get? b = none → F.base b = none := fun {b} hb => by
    cases e : F.base b with
    | none => rfl
    | some o => have := X1.keep _ _ e; rw [hb] at this; cases this
  have gX : ∀ (o : Obj) (s₃ : Shared), s₃.heap = h'.push o → FR w (gFx F.base s₁.heap.objs.size) [(sAddr, .v (.str str))] none s₃ := fun o s₃ e3 => by
    have hns3 : s₃.heap.Ns s₁.heap.objs.size (fun x => [(Str.ofString "addr", Value.str str t)].reverse.lookup x) := by rw [e3]; exact hns.keeps (Keeps.push _ _)
    exact
      { gb := X.gb
        keep := fun b o ho => by rw [e3]; exact kp _ b o (X1.keep b o ho)
        hk := sc7.2.2.1
        hg := rfl
        hb := rfl
        nodbg := sc7.2.2.2.2.2.2.2.2.1
        nocls := sc7.2.2.2.2.2.2.2.2.2.1
        nsL := ⟨_, hns3, fun z b hb _ => by
          rw [List.lookup_cons] at hb
          split at hb
          · next hq =>
            cases hb
            have hq := eq_of_beq hq
            subst hq
            exact ⟨.str str t, by simp [List.lookup], VR.str _ _⟩
          · cases hb⟩
        cel := fun z b hb q => by
          rw [List.lookup_cons] at hb
          split at hb
          · next hq =>
            have hq := eq_of_beq hq
            subst hq
            have hk : (gFx F.base s₁.heap.objs.size).env.kindOf sAddr = some .local := sc7.2.2.2.2.2.2.1
            rw [hk] at q
            rcases q with q | q <;> cases q
          · cases hb
        ocel := fun z hz => nomatch hz
        celE := fun z c e => nomatch e
        inj := fun z hz => nomatch hz
        wrl := .head _
        wrb := fun b hb => by rw [List.mem_singleton.mp hb]; exact bnone hLn
        own := fun a e => nomatch e
        lives := fun a ha => nomatch ha
        wrs := fun b hb => by
          rw [List.mem_singleton.mp hb]
          obtain ⟨o, es, ep, ho, hd, _⟩ := hns3
          exact ⟨o, ho, fun its n e => by rw [hd] at e; cases e⟩
        acs := fun z hz => nomatch hz }
  have hzp : ∀ o, (h'.push o).objs.size = s₁.heap.objs.size + 2 := fun o => by rw [Heap.size_push, hz]
  refine genFor (L := s₁.heap.objs.size) (it := s₁.heap.objs.size + 2) (e := s₁.heap.objs.size + 2 + 1) (a := h'.objs.size) (g := s₁.gens.size) (sA := s) (s₁ := s₁) S O hx hy h C X1 ?_ hLn (above (by omega)) (above (by omega)) (above (by rw [hz]; omega))
    (by rw [hz]; omega) (by rw [hz]; omega) (by rw [hz]; omega) g₁.gens.size ?_ q
  · exact kp _
  · refine ⟨.inl ⟨rfl, rfl, rfl⟩, hgen rfl, X1.gh.lim.keeps (kp _), ?_, g₁.os, .fresh (.func (fB 7) (genv s₁.heap.objs.size)), ?_, ?_⟩
    · refine g₁.gens.trans ⟨by simp, fun i hi => ?_, fun i z hi hz => ?_⟩
      · simp [Array.getElem?_push, Nat.ne_of_lt hi]
      · change (s₁.gens.push _)[i]? = some z at hz
        rw [Array.getElem?_push] at hz
        split at hz
        · cases hz; rfl
        · exact absurd hz (by rw [Array.getElem?_eq_none hi]; simp)
    · show (s₁.gens.push _)[s₁.gens.size]? = _
      simp; rfl
    · refine ⟨rfl, ?_⟩
      have hb0 : ∀ b, s₁.heap.objs.size + 2 ≤ b → F.base b = none := fun b hb => bnone (above (by omega))
      have key : ∀ (o : Obj) (s₃ : Shared), s₃.heap = h'.push o → Seg (MM w) A.in1 (gR s₁.heap.objs.size (s₁.heap.objs.size + 2) (s₁.heap.objs.size + 2 + 1)) (gY F.base s₁.heap.objs.size (s₁.heap.objs.size + 2) (s₁.heap.objs.size + 2 + 1) (escGo 0 false str.cps.toList))
          (escGo 0 false str.cps.toList).length s₃ (.func (fB 7) (genv s₁.heap.objs.size)) ((MM w).den (.func (fB 7) (genv s₁.heap.objs.size))) [] s₃ := fun o s₃ e3 => by
        have hs3 : s₃.heap.objs.size = s₁.heap.objs.size + 2 := by rw [e3]; exact hzp o
        have := genFresh (w := w) (base := F.base) (L := s₁.heap.objs.size) (x := str) (A := A.in1) (s := s₃) C.handled (gX o s₃ e3) (fun b hb => hb0 b (hs3 ▸ hb)) (bnone hLn)
        rw [hs3] at this
        exact this
      exact key _ _ rfl
end
end Mine
namespace Mine
theorem soundNext {w : World} {k : Nat} {r : Ev} (S : Sound w k r) : Sound w (k + 1) (nextEv r) := by
  refine ⟨?_, ?_, ?_, ?_⟩
  · intro F fm e d h
    exact evEOk S (compOk S) h
  · intro F fm e b h
    exact evTOk S h
  · intro F fm st fm' fl h O
    exact evSOk S (compUseOk S) (genOk S) h O
  · intro f ds d h A s av vals Q E C G L rvs q
    exact evCOk S h C G L rvs q
theorem soundEv (w : World) : ∀ n : Nat, Sound w n (ev n)
  | 0 => by
    refine ⟨?_, ?_, ?_, ?_⟩
    · intro F fm e d h; cases h
    · intro F fm e b h; cases h
    · intro F fm st fm' fl h O; cases h
    · intro f ds d h; cases h
  | n + 1 => soundNext (soundEv w n)
end Mine
namespace Mine
theorem fo18 (P : Params) : (KF P).lookup 142 = some (foT "law" 18 .none .none "law_wf0083_01" 2312 141) := by kernel_rfl
theorem cd18 (P : Params) : codeIn (KF P) (.ref 141) (Str.ofString "law") = true := by kernel_rfl
theorem bd18 (v : Value) : bindArgs (fdT "law" 18 .none .none "law_wf0083_01" 2312 141) ⟨[v], []⟩ = pure [(Str.ofString "script", v)] := by kernel_rfl
noncomputable def sc18b : Bool := (fS 18).isCoroutine == false && (fS 18).isGenerator == false && (fS 18).kind == .function && (fS 18).names.lookup (Str.ofString "__debug__") == none && (fS 18).names.lookup (Str.ofString "__classdict__") == none
  && (fS 18).names.lookup (Str.ofString "script") == some .local && decide ((fS 18).names.map (·.1)).Nodup
theorem sc18 : sc18b = true := by kernel_rfl
section
variable {w : World} {s : Shared} {E : Value → Shared → Prop}
theorem lawCall {n : Nat} {A : Around} {script : List PyData} {v : Value} {Q : Value → Shared → Prop} {d : PyData} (hev : evLaw (ev n) script = some d) (C : Cx (n + 1) A) (G : GH w s.heap) (rv : VR s.heap [] v (.list script))
    (q : ∀ v s', VR s'.heap [] v d → Grow s s' → Q v s') : wpAny (MM w) A (call (.ref 142) [v]) Q E s := by
  have hsc := sc18
  unfold sc18b at hsc
  simp only [Bool.and_eq_true, beq_iff_eq, decide_eq_true_eq] at hsc
  obtain ⟨⟨⟨⟨⟨⟨hco, hgen⟩, hk⟩, hdb⟩, hcd⟩, hsl⟩, hnd⟩ := hsc
  unfold evLaw at hev
  split at hev
  · next fm' d' hr =>
    cases hev
    refine wpAny_call (codeAny_call_cells (o := foT "law" 18 .none .none "law_wf0083_01" 2312 141) (fd := fdT "law" 18 .none .none "law_wf0083_01" 2312 141) (body := fB 18) C.room (G.kin _ _ (fo18 _)) rfl G.lim (codeRec_of G.kin (cd18 _)) rfl (bd18 v) rfl
      (fun z hz => .inl (by rw [List.mem_singleton.mp hz]; exact hsl)) (fun s₁ I => ?_) hco hgen hk)
    let env := callEnvC (fdT "law" 18 .none .none "law_wf0083_01" 2312 141) s.heap.objs.size 142
    let ocs : List Str := ((fS 18).names.filter fun nk => nk.2 == .cell).map (·.1)
    let F : Fx := ⟨s.heap.get?, env, [], s.heap.objs.size :: ocs.filterMap (env.cells.lookup ·), ocs, []⟩
    have hkS : env.kindOf (Str.ofString "script") = some .local := hsl
    have hcells : env.cells = cellsFrom (s.heap.objs.size + 1) (fS 18).names [] := rfl
    have hbl : bindL env.kindOf [(Str.ofString "script", v)] (fun _ => none) (Str.ofString "script") = some v := by
      simp [bindL, hkS]
    have hns := I.toInCall.ns
    have kk : Keeps s.heap s₁.heap := I.toInCall.keep
    have newOld : ∀ {c : Addr}, s.heap.objs.size ≤ c → s.heap.get? c = none := fun {c} hc => by
      cases e : s.heap.get? c with
      | none => rfl
      | some o => exact absurd (Heap.lt_size e) (Nat.not_lt.mpr hc)
    have above : ∀ {x c}, env.cells.lookup x = some c → s.heap.objs.size < c := fun {x c} h => I.above x c (mem_of_lookup h)
    have ocsC : ∀ {x}, x ∈ ocs → (fS 18).names.lookup x = some .cell ∧ ∃ c, env.cells.lookup x = some c := fun {x} hx => by
      obtain ⟨nk, hm, rfl⟩ := List.mem_map.mp hx
      obtain ⟨hm, hc⟩ := List.mem_filter.mp hm
      obtain ⟨x, kd⟩ := nk
      have hc : kd = .cell := eq_of_beq hc
      subst hc
      exact ⟨lookup_of_memK hnd hm, cellsFrom_has hm⟩
    have wrC : ∀ {b}, b ∈ ocs.filterMap (env.cells.lookup ·) → ∃ x, env.cells.lookup x = some b := fun {b} hb => by
      obtain ⟨x, _, h⟩ := List.mem_filterMap.mp hb
      exact ⟨x, h⟩
    have X : FR w F [(Str.ofString "script", .v (.list script))] none s₁ :=
      { gb := GB.of G
        keep := fun b o e => kk b o e
        hk := hk
        hg := rfl
        hb := rfl
        nodbg := hdb
        nocls := hcd
        nsL := ⟨_, hns, fun x b hb _ => by
          rw [List.lookup_cons] at hb
          split at hb
          · next hq =>
            cases hb
            have hq := eq_of_beq hq
            subst hq
            exact ⟨v, hbl, rv.keeps kk⟩
          · cases hb⟩
        cel := fun x b hb q => by
          rw [List.lookup_cons] at hb
          split at hb
          · next hq =>
            have hq := eq_of_beq hq
            subst hq
            have e : F.env.kindOf (Str.ofString "script") = some .local := hkS
            rw [e] at q
            rcases q with q | q <;> cases q
          · cases hb
        ocel := fun x hx => by
          obtain ⟨h1, c, hc⟩ := ocsC hx
          exact ⟨h1, c, _, hc, I.cell x c hc, .tail _ (List.mem_filterMap.mpr ⟨x, hx, hc⟩)⟩
        celE := fun x c e => let ⟨o, ho, _⟩ := I.cell x c e; ⟨o, ho⟩
        inj := fun x hx y c ex ey => name_of_addr I.apart (mem_of_lookup ey) (mem_of_lookup ex)
        wrl := .head _
        wrb := fun b hb => by
          rcases List.mem_cons.mp hb with rfl | hb
          · exact newOld (Nat.le_refl _)
          · obtain ⟨x, hx⟩ := wrC hb
            exact newOld (Nat.le_of_lt (above hx))
        own := fun a e => nomatch e
        lives := fun a ha => nomatch ha
        wrs := fun b hb => by
          rcases List.mem_cons.mp hb with rfl | hb
          · obtain ⟨o, es, ep, ho, hd, _⟩ := hns
            exact ⟨o, ho, fun its n e => by rw [hd] at e; cases e⟩
          · obtain ⟨x, hx⟩ := wrC hb
            obtain ⟨o, ho, hd⟩ := I.cell x b hx
            exact ⟨o, ho, fun its n e => by rw [hd] at e; cases e⟩
        acs := fun x hx => nomatch hx }
    have O : OcAll F := fun x hx => by
      have hx' : (fS 18).names.lookup x = some .cell := hx
      exact List.mem_map.mpr ⟨(x, .cell), List.mem_filter.mpr ⟨mem_of_lookup hx', rfl⟩, rfl⟩
    obtain ⟨h0, tk0, e0⟩ := I.toInCall.same
    refine runOk (F := F) (soundEv w n) O hr (C.deeper _) X fun f ow' s' hf X' p' => ?_
    rcases okFl hf with ⟨e, _⟩ | ⟨e, _⟩ | ⟨e, _⟩ | ⟨d', v', e, rfl, rv'⟩ <;> cases e
    refine q v' s' rv' ⟨fun b o e => X'.keep b o e, ?_, ?_⟩
    · have := p'.gens; rw [e0] at this; exact this
    · have := p'.os; rw [e0] at this; exact this
  · cases hev
end
end Mine
namespace Mine
noncomputable def KAs : List Addr := [2, 3, 6, 15, 16, 17, 19, 20, 22, 23, 24, 25, 26, 28, 29, 31, 32, 33, 34, 36, 37, 39, 40, 41, 43, 44, 46, 47, 48, 50, 51, 53, 54, 62, 66, 68, 69, 71, 72, 73, 112, 114, 115, 117, 118, 119, 121, 122, 124, 125, 126, 129, 130, 131, 133, 134, 136, 137, 138, 141, 142]
theorem KAs_eq : ∀ P, KAs = (KF P).map (·.1) := fun _ => rfl
noncomputable abbrev HK : Hook := kHook KF KAs KAs_eq
noncomputable def qv : Program := view PySem.Challenge.pw_wf0083_01 [4, 5, 7, 8, 10, 11, 12, 13, 15, 16, 17, 18]
noncomputable def lse : List Str := [Str.ofString "bisect_right", Str.ofString "bisect_left", Str.ofString "COMPILER_FLAG_NAMES", Str.ofString "b1_set", Str.ofString "b3_exceptions"]
noncomputable abbrev theRow : OpenRow := OpenLaw.row PySem.Challenge.rw_wf0083_01
noncomputable abbrev LeftAt (N : Nat) : Prop := LeftO theRow.prog qv lse (fun s => xlAt qv [] s && recOk (RowW.records theRow.toRowW) s) HK.obs HK.val N
theorem nd_ints : ∀ xs : List Int, ndAll (xs.map PyData.int) = true
  | [] => rfl
  | x :: xs => by show (true && ndAll (xs.map PyData.int)) = true; rw [nd_ints xs]; rfl
theorem roomLaw : Cx 41 callerA := ⟨rfl, by decide +kernel, by decide +kernel⟩
theorem nsLaw (P : Params) : nsIn (KF P) mainGlobals (Str.ofString "law") = some (some (.ref 142)) := by kernel_rfl
end Mine
set_option maxHeartbeats 8000000 in
theorem Mine.holds (left_ok : ∃ N, Mine.LeftAt N) (plain : ∀ xs : List Int, xs.length ≤ 63 → Mine.evLaw (Mine.ev 40) (xs.map PyData.int) = some (.bool true)) : PySem.Challenge.rw_wf0083_01.Holds := by
  w_on
  refine holds_law (by kernel_rfl) fun said => ?_
  obtain ⟨N, hl⟩ := left_ok
  refine holds_open (q := Mine.qv) (loose := Mine.lse) (Xt := fun s => xlAt Mine.qv [] s && recOk (RowW.records Mine.theRow.toRowW) s) (XP := XL Mine.qv []) (Yf := Hook.obs Mine.HK) (Ya := Hook.val Mine.HK) (YP := Hook.says Mine.HK) (N := N) hl (Hook.of Mine.HK) (Hook.keeps Mine.HK) (fun s e => xl_of s (Bool.and_eq_true_iff.mp e).1) XL.keeps (by rfl) (by rfl) (by rfl) (fun s e => recFacts_of (Bool.and_eq_true_iff.mp e).2) (by first | rfl | fail "open_line: no head takes a call that writes beside a table") (by first | assumption | decide +kernel) (by decide +kernel) ⟨rfl, rfl, rfl, rfl, rfl, by decide +kernel⟩ ?hw ?hc
  case hw => w_witness2
  k_fill
  intro w s₀ s₁ mg mb G Y fa o pm cd doc dV kV ho hd hcd hD hmg hg args vals as hpre hlay hrd hwl hlo
  have KX := kIn_of Y
  clear hd hcd hD Y
  refine Ground.open G ?_
  intro T B D TE TW
  wrow_args hpre hlay hrd hwl hlo
  rename_i xs _ _ hlay1 _ _ _ as2 a vs as3 hL ra _ r0 hI _ hlen _
  have hfa : fa = 142 := by
    have h1 := mg_of KX T.g (Mine.nsLaw _)
    have h2 : mg (Str.ofString "law") = some (.ref fa) := hmg
    rw [h1] at h2; cases h2; rfl
  subst hfa
  have GHs : Mine.GH w s₁.heap := ⟨KX, ⟨mg, mb, T.g, T.b, T.builtins⟩, T.nolimit⟩
  have rv : Mine.VR s₁.heap [] (.ref a) (.list (xs.map PyData.int)) := Mine.VR.list_of hL (fun z => nomatch z) ⟨Mine.nd_ints xs, as3, ra, fun _ _ z => nomatch z⟩
  refine Mine.lawCall (n := 40) (plain xs (by omega)) Mine.roomLaw GHs rv fun v s' rv' g => ?_
  rw [rv'.bool_inv]
  refine ⟨.inl ⟨_, .bool true, [], rfl, fun cls => ?_, ?_, ?_, ?_⟩, .of_keep g.heap, g.os, ?_⟩
  · rfl
  · exact .bool true
  · first | kernel_rfl | with_unfolding_all rfl | (simp [OpenLaw.row]; done) | trace_state
  · intro hu; exact ⟨List.nodup_nil, fun _ z => nomatch z⟩
  · have := g.gens; rw [hg] at this; exact this.allBare
noncomputable section
namespace Mine
noncomputable def ob11_1 (P : Params) : Obj := ⟨(.type "tuple"), none, .seq (List.toArray []) 0, #[]⟩
noncomputable def ob12_1 (P : Params) : Obj := ⟨.none, none, .fields (List.toArray []), #[]⟩
noncomputable def ob13_1 (P : Params) : Obj := ⟨(.type "code"), none, .fields (List.toArray [(.str (Str.ofString "<module>") 182), (.str (Str.ofString "<module>") 183), (.str (Str.ofString "/claim/cut.py") 184), (.int 1 0), (.int 0 0), (.int 0 0), (.int 0 0), (.int 0 0), (.ref 11), (.bool false), (.int 181 0), (.ref 12), .none, .none, .none, .none, (.int 185 0), (.int 1 0), (.str (Str.ofString "/claim/cut.py") 186)]), #[]⟩
noncomputable def ob14_1 (P : Params) : Obj := ⟨(.type "frame"), none, .plain, #[some (.ref 13), some (.ref 3), some (.ref 3), none, some (.str (Str.ofString "__main__") 164), none, some (.ref 0)]⟩
noncomputable def ob3_3 (P : Params) : Obj := ⟨(.type "dict"), none, .dict (List.toArray [⟨PyData.keyHash P (Str.ofString "__name__"), (.str (Str.ofString "__name__") 165), (.str (Str.ofString "cpy313.bisect") 187)⟩, ⟨PyData.keyHash P (Str.ofString "__doc__"), (.str (Str.ofString "__doc__") 166), .none⟩, ⟨PyData.keyHash P (Str.ofString "__package__"), (.str (Str.ofString "__package__") 167), .none⟩, ⟨PyData.keyHash P (Str.ofString "__loader__"), (.str (Str.ofString "__loader__") 168), (.builtin "__main__.__loader__#opaque")⟩, ⟨PyData.keyHash P (Str.ofString "__spec__"), (.str (Str.ofString "__spec__") 169), .none⟩, ⟨PyData.keyHash P (Str.ofString "__annotations__"), (.str (Str.ofString "__annotations__") 170), (.ref 6)⟩, ⟨PyData.keyHash P (Str.ofString "__builtins__"), (.str (Str.ofString "__builtins__") 171), (.ref 4)⟩, ⟨PyData.keyHash P (Str.ofString "__file__"), (.str (Str.ofString "__file__") 173), (.str (Str.ofString "/claim/cut.py") 172)⟩, ⟨PyData.keyHash P (Str.ofString "__cached__"), (.str (Str.ofString "__cached__") 174), .none⟩]) 9, #[]⟩
noncomputable def ob3_4 (P : Params) : Obj := ⟨(.type "dict"), none, .dict (List.toArray [⟨PyData.keyHash P (Str.ofString "__name__"), (.str (Str.ofString "__name__") 165), (.str (Str.ofString "cpy313.bisect") 187)⟩, ⟨PyData.keyHash P (Str.ofString "__doc__"), (.str (Str.ofString "__doc__") 166), .none⟩, ⟨PyData.keyHash P (Str.ofString "__package__"), (.str (Str.ofString "__package__") 167), .none⟩, ⟨PyData.keyHash P (Str.ofString "__loader__"), (.str (Str.ofString "__loader__") 168), (.builtin "__main__.__loader__#opaque")⟩, ⟨PyData.keyHash P (Str.ofString "__spec__"), (.str (Str.ofString "__spec__") 169), .none⟩, ⟨PyData.keyHash P (Str.ofString "__annotations__"), (.str (Str.ofString "__annotations__") 170), (.ref 6)⟩, ⟨PyData.keyHash P (Str.ofString "__builtins__"), (.str (Str.ofString "__builtins__") 171), (.ref 4)⟩, ⟨PyData.keyHash P (Str.ofString "__file__"), (.str (Str.ofString "__file__") 173), (.str (Str.ofString "/claim/cut.py") 172)⟩, ⟨PyData.keyHash P (Str.ofString "__cached__"), (.str (Str.ofString "__cached__") 174), .none⟩, ⟨PyData.keyHash P (Str.ofString "bisect_right"), (.str (Str.ofString "bisect_right") 202), (.ref 23)⟩]) 10, #[]⟩
noncomputable def ob12_4 (P : Params) : Obj := ⟨.none, none, .fields (List.toArray [(.int 2 0), (.int 0 0), (.ref 22)]), #[]⟩
noncomputable def ob15_4 (P : Params) : Obj := ⟨(.type "tuple"), none, .seq (List.toArray [(.int 0 189), .none]) 0, #[]⟩
noncomputable def ob16_4 (P : Params) : Obj := ⟨(.type "dict"), none, .dict (List.toArray [⟨PyData.keyHash P (Str.ofString "key"), (.str (Str.ofString "key") 190), .none⟩]) 1, #[]⟩
noncomputable def ob17_4 (P : Params) : Obj := ⟨(.type "tuple"), none, .seq (List.toArray []) 0, #[]⟩
noncomputable def ob18_4 (P : Params) : Obj := ⟨.none, none, .fields (List.toArray []), #[]⟩
noncomputable def ob19_4 (P : Params) : Obj := ⟨(.type "tuple"), none, .seq (List.toArray [(.str (Str.ofString "a") 194), (.str (Str.ofString "x") 195), (.str (Str.ofString "lo") 196), (.str (Str.ofString "hi") 197), (.str (Str.ofString "key") 198), (.str (Str.ofString "mid") 199)]) 0, #[]⟩
noncomputable def ob20_4 (P : Params) : Obj := ⟨(.type "tuple"), none, .seq (List.toArray []) 0, #[]⟩
noncomputable def ob21_4 (P : Params) : Obj := ⟨.none, none, .func ⟨(Str.ofString "bisect_right"), (Str.ofString "bisect_right"), fA 1, .stmts (fB 1), fS 1, 0, [], .none, .none, .none, .none, none, .none, .none, 0⟩, #[]⟩
noncomputable def ob22_4 (P : Params) : Obj := ⟨(.type "code"), none, .fields (List.toArray [(.str (Str.ofString "bisect_right") 191), (.str (Str.ofString "bisect_right") 192), (.str (Str.ofString "/claim/cut.py") 193), (.int 2 0), (.int 4 0), (.int 0 0), (.int 1 0), (.int 3 0), (.ref 17), (.bool true), (.int 181 0), (.ref 18), .none, (.ref 19), (.ref 20), (.ref 21), (.int 200 0), (.int 2 0), (.str (Str.ofString "/claim/cut.py") 201)]), #[]⟩
noncomputable def ob23_4 (P : Params) : Obj := ⟨(.type "function"), none, .func ⟨(Str.ofString "bisect_right"), (Str.ofString "bisect_right"), fA 1, .stmts (fB 1), fS 1, 3, [], (.ref 15), (.ref 16), .none, (.str (Str.ofString "cpy313.bisect") 187), none, (.ref 22), .none, 0⟩, #[]⟩
noncomputable def ob3_5 (P : Params) : Obj := ⟨(.type "dict"), none, .dict (List.toArray [⟨PyData.keyHash P (Str.ofString "__name__"), (.str (Str.ofString "__name__") 165), (.str (Str.ofString "cpy313.bisect") 187)⟩, ⟨PyData.keyHash P (Str.ofString "__doc__"), (.str (Str.ofString "__doc__") 166), .none⟩, ⟨PyData.keyHash P (Str.ofString "__package__"), (.str (Str.ofString "__package__") 167), .none⟩, ⟨PyData.keyHash P (Str.ofString "__loader__"), (.str (Str.ofString "__loader__") 168), (.builtin "__main__.__loader__#opaque")⟩, ⟨PyData.keyHash P (Str.ofString "__spec__"), (.str (Str.ofString "__spec__") 169), .none⟩, ⟨PyData.keyHash P (Str.ofString "__annotations__"), (.str (Str.ofString "__annotations__") 170), (.ref 6)⟩, ⟨PyData.keyHash P (Str.ofString "__builtins__"), (.str (Str.ofString "__builtins__") 171), (.ref 4)⟩, ⟨PyData.keyHash P (Str.ofString "__file__"), (.str (Str.ofString "__file__") 173), (.str (Str.ofString "/claim/cut.py") 172)⟩, ⟨PyData.keyHash P (Str.ofString "__cached__"), (.str (Str.ofString "__cached__") 174), .none⟩, ⟨PyData.keyHash P (Str.ofString "bisect_right"), (.str (Str.ofString "bisect_right") 202), (.ref 23)⟩, ⟨PyData.keyHash P (Str.ofString "bisect_left"), (.str (Str.ofString "bisect_left") 216), (.ref 32)⟩]) 11, #[]⟩
noncomputable def ob12_5 (P : Params) : Obj := ⟨.none, none, .fields (List.toArray [(.int 2 0), (.int 0 0), (.ref 22), (.int 22 0), (.int 0 0), (.ref 31)]), #[]⟩
noncomputable def ob24_5 (P : Params) : Obj := ⟨(.type "tuple"), none, .seq (List.toArray [(.int 0 203), .none]) 0, #[]⟩
noncomputable def ob25_5 (P : Params) : Obj := ⟨(.type "dict"), none, .dict (List.toArray [⟨PyData.keyHash P (Str.ofString "key"), (.str (Str.ofString "key") 204), .none⟩]) 1, #[]⟩
noncomputable def ob26_5 (P : Params) : Obj := ⟨(.type "tuple"), none, .seq (List.toArray []) 0, #[]⟩
noncomputable def ob27_5 (P : Params) : Obj := ⟨.none, none, .fields (List.toArray []), #[]⟩
noncomputable def ob28_5 (P : Params) : Obj := ⟨(.type "tuple"), none, .seq (List.toArray [(.str (Str.ofString "a") 208), (.str (Str.ofString "x") 209), (.str (Str.ofString "lo") 210), (.str (Str.ofString "hi") 211), (.str (Str.ofString "key") 212), (.str (Str.ofString "mid") 213)]) 0, #[]⟩
noncomputable def ob29_5 (P : Params) : Obj := ⟨(.type "tuple"), none, .seq (List.toArray []) 0, #[]⟩
noncomputable def ob30_5 (P : Params) : Obj := ⟨.none, none, .func ⟨(Str.ofString "bisect_left"), (Str.ofString "bisect_left"), fA 2, .stmts (fB 2), fS 2, 0, [], .none, .none, .none, .none, none, .none, .none, 0⟩, #[]⟩
noncomputable def ob31_5 (P : Params) : Obj := ⟨(.type "code"), none, .fields (List.toArray [(.str (Str.ofString "bisect_left") 205), (.str (Str.ofString "bisect_left") 206), (.str (Str.ofString "/claim/cut.py") 207), (.int 22 0), (.int 4 0), (.int 0 0), (.int 1 0), (.int 3 0), (.ref 26), (.bool true), (.int 181 0), (.ref 27), .none, (.ref 28), (.ref 29), (.ref 30), (.int 214 0), (.int 22 0), (.str (Str.ofString "/claim/cut.py") 215)]), #[]⟩
noncomputable def ob32_5 (P : Params) : Obj := ⟨(.type "function"), none, .func ⟨(Str.ofString "bisect_left"), (Str.ofString "bisect_left"), fA 2, .stmts (fB 2), fS 2, 3, [], (.ref 24), (.ref 25), .none, (.str (Str.ofString "cpy313.bisect") 187), none, (.ref 31), .none, 0⟩, #[]⟩
noncomputable def ob3_6 (P : Params) : Obj := ⟨(.type "dict"), none, .dict (List.toArray [⟨PyData.keyHash P (Str.ofString "__name__"), (.str (Str.ofString "__name__") 165), (.str (Str.ofString "cpy313.dis") 217)⟩, ⟨PyData.keyHash P (Str.ofString "__doc__"), (.str (Str.ofString "__doc__") 166), .none⟩, ⟨PyData.keyHash P (Str.ofString "__package__"), (.str (Str.ofString "__package__") 167), .none⟩, ⟨PyData.keyHash P (Str.ofString "__loader__"), (.str (Str.ofString "__loader__") 168), (.builtin "__main__.__loader__#opaque")⟩, ⟨PyData.keyHash P (Str.ofString "__spec__"), (.str (Str.ofString "__spec__") 169), .none⟩, ⟨PyData.keyHash P (Str.ofString "__annotations__"), (.str (Str.ofString "__annotations__") 170), (.ref 6)⟩, ⟨PyData.keyHash P (Str.ofString "__builtins__"), (.str (Str.ofString "__builtins__") 171), (.ref 4)⟩, ⟨PyData.keyHash P (Str.ofString "__file__"), (.str (Str.ofString "__file__") 173), (.str (Str.ofString "/claim/cut.py") 172)⟩, ⟨PyData.keyHash P (Str.ofString "__cached__"), (.str (Str.ofString "__cached__") 174), .none⟩, ⟨PyData.keyHash P (Str.ofString "bisect_right"), (.str (Str.ofString "bisect_right") 202), (.ref 23)⟩, ⟨PyData.keyHash P (Str.ofString "bisect_left"), (.str (Str.ofString "bisect_left") 216), (.ref 32)⟩]) 11, #[]⟩
noncomputable def ob3_7 (P : Params) : Obj := ⟨(.type "dict"), none, .dict (List.toArray [⟨PyData.keyHash P (Str.ofString "__name__"), (.str (Str.ofString "__name__") 165), (.str (Str.ofString "cpy313.dis") 217)⟩, ⟨PyData.keyHash P (Str.ofString "__doc__"), (.str (Str.ofString "__doc__") 166), .none⟩, ⟨PyData.keyHash P (Str.ofString "__package__"), (.str (Str.ofString "__package__") 167), .none⟩, ⟨PyData.keyHash P (Str.ofString "__loader__"), (.str (Str.ofString "__loader__") 168), (.builtin "__main__.__loader__#opaque")⟩, ⟨PyData.keyHash P (Str.ofString "__spec__"), (.str (Str.ofString "__spec__") 169), .none⟩, ⟨PyData.keyHash P (Str.ofString "__annotations__"), (.str (Str.ofString "__annotations__") 170), (.ref 6)⟩, ⟨PyData.keyHash P (Str.ofString "__builtins__"), (.str (Str.ofString "__builtins__") 171), (.ref 4)⟩, ⟨PyData.keyHash P (Str.ofString "__file__"), (.str (Str.ofString "__file__") 173), (.str (Str.ofString "/claim/cut.py") 172)⟩, ⟨PyData.keyHash P (Str.ofString "__cached__"), (.str (Str.ofString "__cached__") 174), .none⟩, ⟨PyData.keyHash P (Str.ofString "bisect_right"), (.str (Str.ofString "bisect_right") 202), (.ref 23)⟩, ⟨PyData.keyHash P (Str.ofString "bisect_left"), (.str (Str.ofString "bisect_left") 216), (.ref 32)⟩, ⟨PyData.keyHash P (Str.ofString "COMPILER_FLAG_NAMES"), (.str (Str.ofString "COMPILER_FLAG_NAMES") 249), (.ref 33)⟩]) 12, #[]⟩
noncomputable def ob33_7 (P : Params) : Obj := ⟨(.type "dict"), none, .dict (List.toArray [⟨1, (.int 1 219), (.str (Str.ofString "OPTIMIZED") 220)⟩, ⟨2, (.int 2 221), (.str (Str.ofString "NEWLOCALS") 222)⟩, ⟨4, (.int 4 223), (.str (Str.ofString "VARARGS") 224)⟩, ⟨8, (.int 8 225), (.str (Str.ofString "VARKEYWORDS") 226)⟩, ⟨16, (.int 16 227), (.str (Str.ofString "NESTED") 228)⟩, ⟨32, (.int 32 229), (.str (Str.ofString "GENERATOR") 230)⟩, ⟨64, (.int 64 231), (.str (Str.ofString "NOFREE") 232)⟩, ⟨128, (.int 128 233), (.str (Str.ofString "COROUTINE") 234)⟩, ⟨256, (.int 256 235), (.str (Str.ofString "ITERABLE_COROUTINE") 236)⟩, ⟨512, (.int 512 237), (.str (Str.ofString "ASYNC_GENERATOR") 238)⟩]) 10, #[]⟩
noncomputable def ob3_8 (P : Params) : Obj := ⟨(.type "dict"), none, .dict (List.toArray [⟨PyData.keyHash P (Str.ofString "__name__"), (.str (Str.ofString "__name__") 165), (.str (Str.ofString "cpy313.dis") 217)⟩, ⟨PyData.keyHash P (Str.ofString "__doc__"), (.str (Str.ofString "__doc__") 166), .none⟩, ⟨PyData.keyHash P (Str.ofString "__package__"), (.str (Str.ofString "__package__") 167), .none⟩, ⟨PyData.keyHash P (Str.ofString "__loader__"), (.str (Str.ofString "__loader__") 168), (.builtin "__main__.__loader__#opaque")⟩, ⟨PyData.keyHash P (Str.ofString "__spec__"), (.str (Str.ofString "__spec__") 169), .none⟩, ⟨PyData.keyHash P (Str.ofString "__annotations__"), (.str (Str.ofString "__annotations__") 170), (.ref 6)⟩, ⟨PyData.keyHash P (Str.ofString "__builtins__"), (.str (Str.ofString "__builtins__") 171), (.ref 4)⟩, ⟨PyData.keyHash P (Str.ofString "__file__"), (.str (Str.ofString "__file__") 173), (.str (Str.ofString "/claim/cut.py") 172)⟩, ⟨PyData.keyHash P (Str.ofString "__cached__"), (.str (Str.ofString "__cached__") 174), .none⟩, ⟨PyData.keyHash P (Str.ofString "bisect_right"), (.str (Str.ofString "bisect_right") 202), (.ref 23)⟩, ⟨PyData.keyHash P (Str.ofString "bisect_left"), (.str (Str.ofString "bisect_left") 216), (.ref 32)⟩, ⟨PyData.keyHash P (Str.ofString "COMPILER_FLAG_NAMES"), (.str (Str.ofString "COMPILER_FLAG_NAMES") 249), (.ref 33)⟩, ⟨PyData.keyHash P (Str.ofString "pretty_flags"), (.str (Str.ofString "pretty_flags") 259), (.ref 40)⟩]) 13, #[]⟩
noncomputable def ob12_8 (P : Params) : Obj := ⟨.none, none, .fields (List.toArray [(.int 2 0), (.int 0 0), (.ref 22), (.int 22 0), (.int 0 0), (.ref 31), (.int 44 0), (.int 0 0), (.ref 39)]), #[]⟩
noncomputable def ob34_8 (P : Params) : Obj := ⟨(.type "tuple"), none, .seq (List.toArray []) 0, #[]⟩
noncomputable def ob35_8 (P : Params) : Obj := ⟨.none, none, .fields (List.toArray []), #[]⟩
noncomputable def ob36_8 (P : Params) : Obj := ⟨(.type "tuple"), none, .seq (List.toArray [(.str (Str.ofString "flags") 253), (.str (Str.ofString "names") 254), (.str (Str.ofString "i") 255), (.str (Str.ofString "flag") 256)]) 0, #[]⟩
noncomputable def ob37_8 (P : Params) : Obj := ⟨(.type "tuple"), none, .seq (List.toArray []) 0, #[]⟩
noncomputable def ob38_8 (P : Params) : Obj := ⟨.none, none, .func ⟨(Str.ofString "pretty_flags"), (Str.ofString "pretty_flags"), fA 5, .stmts (fB 5), fS 5, 0, [], .none, .none, .none, .none, none, .none, .none, 0⟩, #[]⟩
noncomputable def ob39_8 (P : Params) : Obj := ⟨(.type "code"), none, .fields (List.toArray [(.str (Str.ofString "pretty_flags") 250), (.str (Str.ofString "pretty_flags") 251), (.str (Str.ofString "/claim/cut.py") 252), (.int 44 0), (.int 1 0), (.int 0 0), (.int 0 0), (.int 3 0), (.ref 34), (.bool true), (.int 181 0), (.ref 35), .none, (.ref 36), (.ref 37), (.ref 38), (.int 257 0), (.int 44 0), (.str (Str.ofString "/claim/cut.py") 258)]), #[]⟩
noncomputable def ob40_8 (P : Params) : Obj := ⟨(.type "function"), none, .func ⟨(Str.ofString "pretty_flags"), (Str.ofString "pretty_flags"), fA 5, .stmts (fB 5), fS 5, 3, [], .none, .none, .none, (.str (Str.ofString "cpy313.dis") 217), none, (.ref 39), .none, 0⟩, #[]⟩
noncomputable def ob3_9 (P : Params) : Obj := ⟨(.type "dict"), none, .dict (List.toArray [⟨PyData.keyHash P (Str.ofString "__name__"), (.str (Str.ofString "__name__") 165), (.str (Str.ofString "cpy313.email.utils") 260)⟩, ⟨PyData.keyHash P (Str.ofString "__doc__"), (.str (Str.ofString "__doc__") 166), .none⟩, ⟨PyData.keyHash P (Str.ofString "__package__"), (.str (Str.ofString "__package__") 167), .none⟩, ⟨PyData.keyHash P (Str.ofString "__loader__"), (.str (Str.ofString "__loader__") 168), (.builtin "__main__.__loader__#opaque")⟩, ⟨PyData.keyHash P (Str.ofString "__spec__"), (.str (Str.ofString "__spec__") 169), .none⟩, ⟨PyData.keyHash P (Str.ofString "__annotations__"), (.str (Str.ofString "__annotations__") 170), (.ref 6)⟩, ⟨PyData.keyHash P (Str.ofString "__builtins__"), (.str (Str.ofString "__builtins__") 171), (.ref 4)⟩, ⟨PyData.keyHash P (Str.ofString "__file__"), (.str (Str.ofString "__file__") 173), (.str (Str.ofString "/claim/cut.py") 172)⟩, ⟨PyData.keyHash P (Str.ofString "__cached__"), (.str (Str.ofString "__cached__") 174), .none⟩, ⟨PyData.keyHash P (Str.ofString "bisect_right"), (.str (Str.ofString "bisect_right") 202), (.ref 23)⟩, ⟨PyData.keyHash P (Str.ofString "bisect_left"), (.str (Str.ofString "bisect_left") 216), (.ref 32)⟩, ⟨PyData.keyHash P (Str.ofString "COMPILER_FLAG_NAMES"), (.str (Str.ofString "COMPILER_FLAG_NAMES") 249), (.ref 33)⟩, ⟨PyData.keyHash P (Str.ofString "pretty_flags"), (.str (Str.ofString "pretty_flags") 259), (.ref 40)⟩]) 13, #[]⟩
noncomputable def ob3_10 (P : Params) : Obj := ⟨(.type "dict"), none, .dict (List.toArray [⟨PyData.keyHash P (Str.ofString "__name__"), (.str (Str.ofString "__name__") 165), (.str (Str.ofString "cpy313.email.utils") 260)⟩, ⟨PyData.keyHash P (Str.ofString "__doc__"), (.str (Str.ofString "__doc__") 166), .none⟩, ⟨PyData.keyHash P (Str.ofString "__package__"), (.str (Str.ofString "__package__") 167), .none⟩, ⟨PyData.keyHash P (Str.ofString "__loader__"), (.str (Str.ofString "__loader__") 168), (.builtin "__main__.__loader__#opaque")⟩, ⟨PyData.keyHash P (Str.ofString "__spec__"), (.str (Str.ofString "__spec__") 169), .none⟩, ⟨PyData.keyHash P (Str.ofString "__annotations__"), (.str (Str.ofString "__annotations__") 170), (.ref 6)⟩, ⟨PyData.keyHash P (Str.ofString "__builtins__"), (.str (Str.ofString "__builtins__") 171), (.ref 4)⟩, ⟨PyData.keyHash P (Str.ofString "__file__"), (.str (Str.ofString "__file__") 173), (.str (Str.ofString "/claim/cut.py") 172)⟩, ⟨PyData.keyHash P (Str.ofString "__cached__"), (.str (Str.ofString "__cached__") 174), .none⟩, ⟨PyData.keyHash P (Str.ofString "bisect_right"), (.str (Str.ofString "bisect_right") 202), (.ref 23)⟩, ⟨PyData.keyHash P (Str.ofString "bisect_left"), (.str (Str.ofString "bisect_left") 216), (.ref 32)⟩, ⟨PyData.keyHash P (Str.ofString "COMPILER_FLAG_NAMES"), (.str (Str.ofString "COMPILER_FLAG_NAMES") 249), (.ref 33)⟩, ⟨PyData.keyHash P (Str.ofString "pretty_flags"), (.str (Str.ofString "pretty_flags") 259), (.ref 40)⟩, ⟨PyData.keyHash P (Str.ofString "_iter_escaped_chars"), (.str (Str.ofString "_iter_escaped_chars") 271), (.ref 47)⟩]) 14, #[]⟩
noncomputable def ob12_10 (P : Params) : Obj := ⟨.none, none, .fields (List.toArray [(.int 2 0), (.int 0 0), (.ref 22), (.int 22 0), (.int 0 0), (.ref 31), (.int 44 0), (.int 0 0), (.ref 39), (.int 57 0), (.int 0 0), (.ref 46)]), #[]⟩
noncomputable def ob41_10 (P : Params) : Obj := ⟨(.type "tuple"), none, .seq (List.toArray []) 0, #[]⟩
noncomputable def ob42_10 (P : Params) : Obj := ⟨.none, none, .fields (List.toArray []), #[]⟩
noncomputable def ob43_10 (P : Params) : Obj := ⟨(.type "tuple"), none, .seq (List.toArray [(.str (Str.ofString "addr") 265), (.str (Str.ofString "pos") 266), (.str (Str.ofString "escape") 267), (.str (Str.ofString "ch") 268)]) 0, #[]⟩
noncomputable def ob44_10 (P : Params) : Obj := ⟨(.type "tuple"), none, .seq (List.toArray []) 0, #[]⟩
noncomputable def ob45_10 (P : Params) : Obj := ⟨.none, none, .func ⟨(Str.ofString "_iter_escaped_chars"), (Str.ofString "_iter_escaped_chars"), fA 7, .stmts (fB 7), fS 7, 0, [], .none, .none, .none, .none, none, .none, .none, 0⟩, #[]⟩
noncomputable def ob46_10 (P : Params) : Obj := ⟨(.type "code"), none, .fields (List.toArray [(.str (Str.ofString "_iter_escaped_chars") 262), (.str (Str.ofString "_iter_escaped_chars") 263), (.str (Str.ofString "/claim/cut.py") 264), (.int 57 0), (.int 1 0), (.int 0 0), (.int 0 0), (.int 35 0), (.ref 41), (.bool true), (.int 181 0), (.ref 42), .none, (.ref 43), (.ref 44), (.ref 45), (.int 269 0), (.int 57 0), (.str (Str.ofString "/claim/cut.py") 270)]), #[]⟩
noncomputable def ob47_10 (P : Params) : Obj := ⟨(.type "function"), none, .func ⟨(Str.ofString "_iter_escaped_chars"), (Str.ofString "_iter_escaped_chars"), fA 7, .stmts (fB 7), fS 7, 3, [], .none, .none, .none, (.str (Str.ofString "cpy313.email.utils") 260), none, (.ref 46), .none, 0⟩, #[]⟩
noncomputable def ob3_11 (P : Params) : Obj := ⟨(.type "dict"), none, .dict (List.toArray [⟨PyData.keyHash P (Str.ofString "__name__"), (.str (Str.ofString "__name__") 165), (.str (Str.ofString "cpy313.email.utils") 260)⟩, ⟨PyData.keyHash P (Str.ofString "__doc__"), (.str (Str.ofString "__doc__") 166), .none⟩, ⟨PyData.keyHash P (Str.ofString "__package__"), (.str (Str.ofString "__package__") 167), .none⟩, ⟨PyData.keyHash P (Str.ofString "__loader__"), (.str (Str.ofString "__loader__") 168), (.builtin "__main__.__loader__#opaque")⟩, ⟨PyData.keyHash P (Str.ofString "__spec__"), (.str (Str.ofString "__spec__") 169), .none⟩, ⟨PyData.keyHash P (Str.ofString "__annotations__"), (.str (Str.ofString "__annotations__") 170), (.ref 6)⟩, ⟨PyData.keyHash P (Str.ofString "__builtins__"), (.str (Str.ofString "__builtins__") 171), (.ref 4)⟩, ⟨PyData.keyHash P (Str.ofString "__file__"), (.str (Str.ofString "__file__") 173), (.str (Str.ofString "/claim/cut.py") 172)⟩, ⟨PyData.keyHash P (Str.ofString "__cached__"), (.str (Str.ofString "__cached__") 174), .none⟩, ⟨PyData.keyHash P (Str.ofString "bisect_right"), (.str (Str.ofString "bisect_right") 202), (.ref 23)⟩, ⟨PyData.keyHash P (Str.ofString "bisect_left"), (.str (Str.ofString "bisect_left") 216), (.ref 32)⟩, ⟨PyData.keyHash P (Str.ofString "COMPILER_FLAG_NAMES"), (.str (Str.ofString "COMPILER_FLAG_NAMES") 249), (.ref 33)⟩, ⟨PyData.keyHash P (Str.ofString "pretty_flags"), (.str (Str.ofString "pretty_flags") 259), (.ref 40)⟩, ⟨PyData.keyHash P (Str.ofString "_iter_escaped_chars"), (.str (Str.ofString "_iter_escaped_chars") 271), (.ref 47)⟩, ⟨PyData.keyHash P (Str.ofString "_strip_quoted_realnames"), (.str (Str.ofString "_strip_quoted_realnames") 283), (.ref 54)⟩]) 15, #[]⟩
noncomputable def ob12_11 (P : Params) : Obj := ⟨.none, none, .fields (List.toArray [(.int 2 0), (.int 0 0), (.ref 22), (.int 22 0), (.int 0 0), (.ref 31), (.int 44 0), (.int 0 0), (.ref 39), (.int 57 0), (.int 0 0), (.ref 46), (.int 70 0), (.int 0 0), (.ref 53)]), #[]⟩
noncomputable def ob48_11 (P : Params) : Obj := ⟨(.type "tuple"), none, .seq (List.toArray []) 0, #[]⟩
noncomputable def ob49_11 (P : Params) : Obj := ⟨.none, none, .fields (List.toArray []), #[]⟩
noncomputable def ob50_11 (P : Params) : Obj := ⟨(.type "tuple"), none, .seq (List.toArray [(.str (Str.ofString "addr") 275), (.str (Str.ofString "start") 276), (.str (Str.ofString "open_pos") 277), (.str (Str.ofString "result") 278), (.str (Str.ofString "pos") 279), (.str (Str.ofString "ch") 280)]) 0, #[]⟩
noncomputable def ob51_11 (P : Params) : Obj := ⟨(.type "tuple"), none, .seq (List.toArray []) 0, #[]⟩
noncomputable def ob52_11 (P : Params) : Obj := ⟨.none, none, .func ⟨(Str.ofString "_strip_quoted_realnames"), (Str.ofString "_strip_quoted_realnames"), fA 8, .stmts (fB 8), fS 8, 0, [], .none, .none, .none, .none, none, .none, .none, 0⟩, #[]⟩
noncomputable def ob53_11 (P : Params) : Obj := ⟨(.type "code"), none, .fields (List.toArray [(.str (Str.ofString "_strip_quoted_realnames") 272), (.str (Str.ofString "_strip_quoted_realnames") 273), (.str (Str.ofString "/claim/cut.py") 274), (.int 70 0), (.int 1 0), (.int 0 0), (.int 0 0), (.int 3 0), (.ref 48), (.bool true), (.int 181 0), (.ref 49), .none, (.ref 50), (.ref 51), (.ref 52), (.int 281 0), (.int 70 0), (.str (Str.ofString "/claim/cut.py") 282)]), #[]⟩
noncomputable def ob54_11 (P : Params) : Obj := ⟨(.type "function"), none, .func ⟨(Str.ofString "_strip_quoted_realnames"), (Str.ofString "_strip_quoted_realnames"), fA 8, .stmts (fB 8), fS 8, 3, [], .none, .none, .none, (.str (Str.ofString "cpy313.email.utils") 260), none, (.ref 53), .none, 0⟩, #[]⟩
noncomputable def ob3_12 (P : Params) : Obj := ⟨(.type "dict"), none, .dict (List.toArray [⟨PyData.keyHash P (Str.ofString "__name__"), (.str (Str.ofString "__name__") 165), (.str (Str.ofString "cpy313.stringprep") 284)⟩, ⟨PyData.keyHash P (Str.ofString "__doc__"), (.str (Str.ofString "__doc__") 166), .none⟩, ⟨PyData.keyHash P (Str.ofString "__package__"), (.str (Str.ofString "__package__") 167), .none⟩, ⟨PyData.keyHash P (Str.ofString "__loader__"), (.str (Str.ofString "__loader__") 168), (.builtin "__main__.__loader__#opaque")⟩, ⟨PyData.keyHash P (Str.ofString "__spec__"), (.str (Str.ofString "__spec__") 169), .none⟩, ⟨PyData.keyHash P (Str.ofString "__annotations__"), (.str (Str.ofString "__annotations__") 170), (.ref 6)⟩, ⟨PyData.keyHash P (Str.ofString "__builtins__"), (.str (Str.ofString "__builtins__") 171), (.ref 4)⟩, ⟨PyData.keyHash P (Str.ofString "__file__"), (.str (Str.ofString "__file__") 173), (.str (Str.ofString "/claim/cut.py") 172)⟩, ⟨PyData.keyHash P (Str.ofString "__cached__"), (.str (Str.ofString "__cached__") 174), .none⟩, ⟨PyData.keyHash P (Str.ofString "bisect_right"), (.str (Str.ofString "bisect_right") 202), (.ref 23)⟩, ⟨PyData.keyHash P (Str.ofString "bisect_left"), (.str (Str.ofString "bisect_left") 216), (.ref 32)⟩, ⟨PyData.keyHash P (Str.ofString "COMPILER_FLAG_NAMES"), (.str (Str.ofString "COMPILER_FLAG_NAMES") 249), (.ref 33)⟩, ⟨PyData.keyHash P (Str.ofString "pretty_flags"), (.str (Str.ofString "pretty_flags") 259), (.ref 40)⟩, ⟨PyData.keyHash P (Str.ofString "_iter_escaped_chars"), (.str (Str.ofString "_iter_escaped_chars") 271), (.ref 47)⟩, ⟨PyData.keyHash P (Str.ofString "_strip_quoted_realnames"), (.str (Str.ofString "_strip_quoted_realnames") 283), (.ref 54)⟩]) 15, #[]⟩
noncomputable def ob3_13 (P : Params) : Obj := ⟨(.type "dict"), none, .dict (List.toArray [⟨PyData.keyHash P (Str.ofString "__name__"), (.str (Str.ofString "__name__") 165), (.str (Str.ofString "cpy313.stringprep") 284)⟩, ⟨PyData.keyHash P (Str.ofString "__doc__"), (.str (Str.ofString "__doc__") 166), .none⟩, ⟨PyData.keyHash P (Str.ofString "__package__"), (.str (Str.ofString "__package__") 167), .none⟩, ⟨PyData.keyHash P (Str.ofString "__loader__"), (.str (Str.ofString "__loader__") 168), (.builtin "__main__.__loader__#opaque")⟩, ⟨PyData.keyHash P (Str.ofString "__spec__"), (.str (Str.ofString "__spec__") 169), .none⟩, ⟨PyData.keyHash P (Str.ofString "__annotations__"), (.str (Str.ofString "__annotations__") 170), (.ref 6)⟩, ⟨PyData.keyHash P (Str.ofString "__builtins__"), (.str (Str.ofString "__builtins__") 171), (.ref 4)⟩, ⟨PyData.keyHash P (Str.ofString "__file__"), (.str (Str.ofString "__file__") 173), (.str (Str.ofString "/claim/cut.py") 172)⟩, ⟨PyData.keyHash P (Str.ofString "__cached__"), (.str (Str.ofString "__cached__") 174), .none⟩, ⟨PyData.keyHash P (Str.ofString "bisect_right"), (.str (Str.ofString "bisect_right") 202), (.ref 23)⟩, ⟨PyData.keyHash P (Str.ofString "bisect_left"), (.str (Str.ofString "bisect_left") 216), (.ref 32)⟩, ⟨PyData.keyHash P (Str.ofString "COMPILER_FLAG_NAMES"), (.str (Str.ofString "COMPILER_FLAG_NAMES") 249), (.ref 33)⟩, ⟨PyData.keyHash P (Str.ofString "pretty_flags"), (.str (Str.ofString "pretty_flags") 259), (.ref 40)⟩, ⟨PyData.keyHash P (Str.ofString "_iter_escaped_chars"), (.str (Str.ofString "_iter_escaped_chars") 271), (.ref 47)⟩, ⟨PyData.keyHash P (Str.ofString "_strip_quoted_realnames"), (.str (Str.ofString "_strip_quoted_realnames") 283), (.ref 54)⟩, ⟨PyData.keyHash P (Str.ofString "b1_set"), (.str (Str.ofString "b1_set") 345), (.ref 62)⟩]) 16, #[]⟩
noncomputable def ob55_13 (P : Params) : Obj := ⟨(.type "list"), none, .seq (List.toArray [(.int 173 286), (.int 847 287), (.int 6150 288), (.int 6155 289), (.int 6156 290), (.int 6157 291), (.int 8203 292), (.int 8204 293), (.int 8205 294), (.int 8288 295), (.int 65279 296)]) 0, #[]⟩
noncomputable def ob56_13 (P : Params) : Obj := ⟨(.type "range"), none, .fields (List.toArray [(.int 65024 297), (.int 65040 298), (.int 1 299)]), #[]⟩
noncomputable def ob57_13 (P : Params) : Obj := ⟨(.type "list"), none, .seq (List.toArray [(.int 65024 302), (.int 65025 303), (.int 65026 304), (.int 65027 305), (.int 65028 306), (.int 65029 307), (.int 65030 308), (.int 65031 309), (.int 65032 310), (.int 65033 311), (.int 65034 312), (.int 65035 313), (.int 65036 314), (.int 65037 315), (.int 65038 316), (.int 65039 317)]) 18, #[]⟩
noncomputable def ob58_13 (P : Params) : Obj := ⟨(.type "range_iterator"), none, .fields (List.toArray [(.int 65040 0), (.int 0 0), (.int 1 0)]), #[]⟩
noncomputable def ob59_13 (P : Params) : Obj := ⟨(.type "tuple"), none, .seq (List.toArray []) 0, #[]⟩
noncomputable def ob60_13 (P : Params) : Obj := ⟨(.type "StopIteration"), none, .fields (List.toArray [(.ref 59), .none, .none, .none, (.bool false), .none]), #[]⟩
noncomputable def ob61_13 (P : Params) : Obj := ⟨(.type "list"), none, .seq (List.toArray [(.int 173 286), (.int 847 287), (.int 6150 288), (.int 6155 289), (.int 6156 290), (.int 6157 291), (.int 8203 292), (.int 8204 293), (.int 8205 294), (.int 8288 295), (.int 65279 296), (.int 65024 302), (.int 65025 303), (.int 65026 304), (.int 65027 305), (.int 65028 306), (.int 65029 307), (.int 65030 308), (.int 65031 309), (.int 65032 310), (.int 65033 311), (.int 65034 312), (.int 65035 313), (.int 65036 314), (.int 65037 315), (.int 65038 316), (.int 65039 317)]) 0, #[]⟩
noncomputable def ob62_13 (P : Params) : Obj := ⟨(.type "set"), none, .set (List.toArray [(65024, (.int 65024 302)), (65025, (.int 65025 303)), (65026, (.int 65026 304)), (65027, (.int 65027 305)), (65028, (.int 65028 306)), (65029, (.int 65029 307)), (6150, (.int 6150 288)), (65030, (.int 65030 308)), (65031, (.int 65031 309)), (65032, (.int 65032 310)), (65033, (.int 65033 311)), (6155, (.int 6155 289)), (6156, (.int 6156 290)), (6157, (.int 6157 291)), (8203, (.int 8203 292)), (8204, (.int 8204 293)), (8205, (.int 8205 294)), (65034, (.int 65034 312)), (65035, (.int 65035 313)), (65036, (.int 65036 314)), (65037, (.int 65037 315)), (65038, (.int 65038 316)), (65039, (.int 65039 317)), (173, (.int 173 286)), (847, (.int 847 287)), (8288, (.int 8288 295)), (65279, (.int 65279 296))]) 29 ⟨127, List.toArray [0, 1, 2, 3, 4, 5, 6, 7, 8, 9, 10, 11, 12, 13, 14, 15, 16, 17, 18, 19, 20, 21, 22, 45, 79, 96, 127], List.toArray [], 0, !P.followText "set-order", 2, true⟩, #[]⟩
noncomputable def ob63_13 (P : Params) : Obj := ⟨(.type "list_iterator"), none, .fields (List.toArray [.none, (.int 27 0)]), #[]⟩
noncomputable def ob64_13 (P : Params) : Obj := ⟨(.type "tuple"), none, .seq (List.toArray []) 0, #[]⟩
noncomputable def ob65_13 (P : Params) : Obj := ⟨(.type "StopIteration"), none, .fields (List.toArray [(.ref 64), .none, .none, .none, (.bool false), .none]), #[]⟩
noncomputable def ob3_14 (P : Params) : Obj := ⟨(.type "dict"), none, .dict (List.toArray [⟨PyData.keyHash P (Str.ofString "__name__"), (.str (Str.ofString "__name__") 165), (.str (Str.ofString "cpy313.stringprep") 284)⟩, ⟨PyData.keyHash P (Str.ofString "__doc__"), (.str (Str.ofString "__doc__") 166), .none⟩, ⟨PyData.keyHash P (Str.ofString "__package__"), (.str (Str.ofString "__package__") 167), .none⟩, ⟨PyData.keyHash P (Str.ofString "__loader__"), (.str (Str.ofString "__loader__") 168), (.builtin "__main__.__loader__#opaque")⟩, ⟨PyData.keyHash P (Str.ofString "__spec__"), (.str (Str.ofString "__spec__") 169), .none⟩, ⟨PyData.keyHash P (Str.ofString "__annotations__"), (.str (Str.ofString "__annotations__") 170), (.ref 6)⟩, ⟨PyData.keyHash P (Str.ofString "__builtins__"), (.str (Str.ofString "__builtins__") 171), (.ref 4)⟩, ⟨PyData.keyHash P (Str.ofString "__file__"), (.str (Str.ofString "__file__") 173), (.str (Str.ofString "/claim/cut.py") 172)⟩, ⟨PyData.keyHash P (Str.ofString "__cached__"), (.str (Str.ofString "__cached__") 174), .none⟩, ⟨PyData.keyHash P (Str.ofString "bisect_right"), (.str (Str.ofString "bisect_right") 202), (.ref 23)⟩, ⟨PyData.keyHash P (Str.ofString "bisect_left"), (.str (Str.ofString "bisect_left") 216), (.ref 32)⟩, ⟨PyData.keyHash P (Str.ofString "COMPILER_FLAG_NAMES"), (.str (Str.ofString "COMPILER_FLAG_NAMES") 249), (.ref 33)⟩, ⟨PyData.keyHash P (Str.ofString "pretty_flags"), (.str (Str.ofString "pretty_flags") 259), (.ref 40)⟩, ⟨PyData.keyHash P (Str.ofString "_iter_escaped_chars"), (.str (Str.ofString "_iter_escaped_chars") 271), (.ref 47)⟩, ⟨PyData.keyHash P (Str.ofString "_strip_quoted_realnames"), (.str (Str.ofString "_strip_quoted_realnames") 283), (.ref 54)⟩, ⟨PyData.keyHash P (Str.ofString "b1_set"), (.str (Str.ofString "b1_set") 345), (.ref 62)⟩, ⟨PyData.keyHash P (Str.ofString "in_table_b1"), (.str (Str.ofString "in_table_b1") 352), (.ref 72)⟩]) 17, #[]⟩
noncomputable def ob12_14 (P : Params) : Obj := ⟨.none, none, .fields (List.toArray [(.int 2 0), (.int 0 0), (.ref 22), (.int 22 0), (.int 0 0), (.ref 31), (.int 44 0), (.int 0 0), (.ref 39), (.int 57 0), (.int 0 0), (.ref 46), (.int 70 0), (.int 0 0), (.ref 53), (.int 90 0), (.int 0 0), (.ref 71)]), #[]⟩
noncomputable def ob66_14 (P : Params) : Obj := ⟨(.type "tuple"), none, .seq (List.toArray []) 0, #[]⟩
noncomputable def ob67_14 (P : Params) : Obj := ⟨.none, none, .fields (List.toArray []), #[]⟩
noncomputable def ob68_14 (P : Params) : Obj := ⟨(.type "tuple"), none, .seq (List.toArray [(.str (Str.ofString "code") 349)]) 0, #[]⟩
noncomputable def ob69_14 (P : Params) : Obj := ⟨(.type "tuple"), none, .seq (List.toArray []) 0, #[]⟩
noncomputable def ob70_14 (P : Params) : Obj := ⟨.none, none, .func ⟨(Str.ofString "in_table_b1"), (Str.ofString "in_table_b1"), fA 11, .stmts (fB 11), fS 11, 0, [], .none, .none, .none, .none, none, .none, .none, 0⟩, #[]⟩
noncomputable def ob71_14 (P : Params) : Obj := ⟨(.type "code"), none, .fields (List.toArray [(.str (Str.ofString "in_table_b1") 346), (.str (Str.ofString "in_table_b1") 347), (.str (Str.ofString "/claim/cut.py") 348), (.int 90 0), (.int 1 0), (.int 0 0), (.int 0 0), (.int 3 0), (.ref 66), (.bool true), (.int 181 0), (.ref 67), .none, (.ref 68), (.ref 69), (.ref 70), (.int 350 0), (.int 90 0), (.str (Str.ofString "/claim/cut.py") 351)]), #[]⟩
noncomputable def ob72_14 (P : Params) : Obj := ⟨(.type "function"), none, .func ⟨(Str.ofString "in_table_b1"), (Str.ofString "in_table_b1"), fA 11, .stmts (fB 11), fS 11, 3, [], .none, .none, .none, (.str (Str.ofString "cpy313.stringprep") 284), none, (.ref 71), .none, 0⟩, #[]⟩
noncomputable def ob3_15 (P : Params) : Obj := ⟨(.type "dict"), none, .dict (List.toArray [⟨PyData.keyHash P (Str.ofString "__name__"), (.str (Str.ofString "__name__") 165), (.str (Str.ofString "cpy313.stringprep") 284)⟩, ⟨PyData.keyHash P (Str.ofString "__doc__"), (.str (Str.ofString "__doc__") 166), .none⟩, ⟨PyData.keyHash P (Str.ofString "__package__"), (.str (Str.ofString "__package__") 167), .none⟩, ⟨PyData.keyHash P (Str.ofString "__loader__"), (.str (Str.ofString "__loader__") 168), (.builtin "__main__.__loader__#opaque")⟩, ⟨PyData.keyHash P (Str.ofString "__spec__"), (.str (Str.ofString "__spec__") 169), .none⟩, ⟨PyData.keyHash P (Str.ofString "__annotations__"), (.str (Str.ofString "__annotations__") 170), (.ref 6)⟩, ⟨PyData.keyHash P (Str.ofString "__builtins__"), (.str (Str.ofString "__builtins__") 171), (.ref 4)⟩, ⟨PyData.keyHash P (Str.ofString "__file__"), (.str (Str.ofString "__file__") 173), (.str (Str.ofString "/claim/cut.py") 172)⟩, ⟨PyData.keyHash P (Str.ofString "__cached__"), (.str (Str.ofString "__cached__") 174), .none⟩, ⟨PyData.keyHash P (Str.ofString "bisect_right"), (.str (Str.ofString "bisect_right") 202), (.ref 23)⟩, ⟨PyData.keyHash P (Str.ofString "bisect_left"), (.str (Str.ofString "bisect_left") 216), (.ref 32)⟩, ⟨PyData.keyHash P (Str.ofString "COMPILER_FLAG_NAMES"), (.str (Str.ofString "COMPILER_FLAG_NAMES") 249), (.ref 33)⟩, ⟨PyData.keyHash P (Str.ofString "pretty_flags"), (.str (Str.ofString "pretty_flags") 259), (.ref 40)⟩, ⟨PyData.keyHash P (Str.ofString "_iter_escaped_chars"), (.str (Str.ofString "_iter_escaped_chars") 271), (.ref 47)⟩, ⟨PyData.keyHash P (Str.ofString "_strip_quoted_realnames"), (.str (Str.ofString "_strip_quoted_realnames") 283), (.ref 54)⟩, ⟨PyData.keyHash P (Str.ofString "b1_set"), (.str (Str.ofString "b1_set") 345), (.ref 62)⟩, ⟨PyData.keyHash P (Str.ofString "in_table_b1"), (.str (Str.ofString "in_table_b1") 352), (.ref 72)⟩, ⟨PyData.keyHash P (Str.ofString "b3_exceptions"), (.str (Str.ofString "b3_exceptions") 2303), (.ref 73)⟩]) 18, #[]⟩
noncomputable def ob73_15 (P : Params) : Obj := ⟨(.type "dict"), none, .dict (List.toArray [⟨181, (.int 181 353), (.str (Str.mk #[956]) 354)⟩, ⟨223, (.int 223 356), (.str (Str.ofString "ss") 357)⟩, ⟨304, (.int 304 359), (.str (Str.mk #[105, 775]) 360)⟩, ⟨329, (.int 329 362), (.str (Str.mk #[700, 110]) 363)⟩, ⟨383, (.int 383 365), (.str (Str.ofString "s") 366)⟩, ⟨496, (.int 496 368), (.str (Str.mk #[106, 780]) 369)⟩, ⟨837, (.int 837 371), (.str (Str.mk #[953]) 372)⟩, ⟨890, (.int 890 374), (.str (Str.mk #[32, 953]) 375)⟩, ⟨912, (.int 912 377), (.str (Str.mk #[953, 776, 769]) 378)⟩, ⟨944, (.int 944 380), (.str (Str.mk #[965, 776, 769]) 381)⟩, ⟨962, (.int 962 383), (.str (Str.mk #[963]) 384)⟩, ⟨976, (.int 976 386), (.str (Str.mk #[946]) 387)⟩, ⟨977, (.int 977 389), (.str (Str.mk #[952]) 390)⟩, ⟨978, (.int 978 392), (.str (Str.mk #[965]) 393)⟩, ⟨979, (.int 979 395), (.str (Str.mk #[973]) 396)⟩, ⟨980, (.int 980 398), (.str (Str.mk #[971]) 399)⟩, ⟨981, (.int 981 401), (.str (Str.mk #[966]) 402)⟩, ⟨982, (.int 982 404), (.str (Str.mk #[960]) 405)⟩, ⟨1008, (.int 1008 407), (.str (Str.mk #[954]) 408)⟩, ⟨1009, (.int 1009 410), (.str (Str.mk #[961]) 411)⟩, ⟨1010, (.int 1010 413), (.str (Str.mk #[963]) 414)⟩, ⟨1013, (.int 1013 416), (.str (Str.mk #[949]) 417)⟩, ⟨1415, (.int 1415 419), (.str (Str.mk #[1381, 1410]) 420)⟩, ⟨7830, (.int 7830 422), (.str (Str.mk #[104, 817]) 423)⟩, ⟨7831, (.int 7831 425), (.str (Str.mk #[116, 776]) 426)⟩, ⟨7832, (.int 7832 428), (.str (Str.mk #[119, 778]) 429)⟩, ⟨7833, (.int 7833 431), (.str (Str.mk #[121, 778]) 432)⟩, ⟨7834, (.int 7834 434), (.str (Str.mk #[97, 702]) 435)⟩, ⟨7835, (.int 7835 437), (.str (Str.mk #[7777]) 438)⟩, ⟨8016, (.int 8016 440), (.str (Str.mk #[965, 787]) 441)⟩, ⟨8018, (.int 8018 443), (.str (Str.mk #[965, 787, 768]) 444)⟩, ⟨8020, (.int 8020 446), (.str (Str.mk #[965, 787, 769]) 447)⟩, ⟨8022, (.int 8022 449), (.str (Str.mk #[965, 787, 834]) 450)⟩, ⟨8064, (.int 8064 452), (.str (Str.mk #[7936, 953]) 453)⟩, ⟨8065, (.int 8065 455), (.str (Str.mk #[7937, 953]) 456)⟩, ⟨8066, (.int 8066 458), (.str (Str.mk #[7938, 953]) 459)⟩, ⟨8067, (.int 8067 461), (.str (Str.mk #[7939, 953]) 462)⟩, ⟨8068, (.int 8068 464), (.str (Str.mk #[7940, 953]) 465)⟩, ⟨8069, (.int 8069 467), (.str (Str.mk #[7941, 953]) 468)⟩, ⟨8070, (.int 8070 470), (.str (Str.mk #[7942, 953]) 471)⟩, ⟨8071, (.int 8071 473), (.str (Str.mk #[7943, 953]) 474)⟩, ⟨8072, (.int 8072 476), (.str (Str.mk #[7936, 953]) 477)⟩, ⟨8073, (.int 8073 479), (.str (Str.mk #[7937, 953]) 480)⟩, ⟨8074, (.int 8074 482), (.str (Str.mk #[7938, 953]) 483)⟩, ⟨8075, (.int 8075 485), (.str (Str.mk #[7939, 953]) 486)⟩, ⟨8076, (.int 8076 488), (.str (Str.mk #[7940, 953]) 489)⟩, ⟨8077, (.int 8077 491), (.str (Str.mk #[7941, 953]) 492)⟩, ⟨8078, (.int 8078 494), (.str (Str.mk #[7942, 953]) 495)⟩, ⟨8079, (.int 8079 497), (.str (Str.mk #[7943, 953]) 498)⟩, ⟨8080, (.int 8080 500), (.str (Str.mk #[7968, 953]) 501)⟩, ⟨8081, (.int 8081 503), (.str (Str.mk #[7969, 953]) 504)⟩, ⟨8082, (.int 8082 506), (.str (Str.mk #[7970, 953]) 507)⟩, ⟨8083, (.int 8083 509), (.str (Str.mk #[7971, 953]) 510)⟩, ⟨8084, (.int 8084 512), (.str (Str.mk #[7972, 953]) 513)⟩, ⟨8085, (.int 8085 515), (.str (Str.mk #[7973, 953]) 516)⟩, ⟨8086, (.int 8086 518), (.str (Str.mk #[7974, 953]) 519)⟩, ⟨8087, (.int 8087 521), (.str (Str.mk #[7975, 953]) 522)⟩, ⟨8088, (.int 8088 524), (.str (Str.mk #[7968, 953]) 525)⟩, ⟨8089, (.int 8089 527), (.str (Str.mk #[7969, 953]) 528)⟩, ⟨8090, (.int 8090 530), (.str (Str.mk #[7970, 953]) 531)⟩, ⟨8091, (.int 8091 533), (.str (Str.mk #[7971, 953]) 534)⟩, ⟨8092, (.int 8092 536), (.str (Str.mk #[7972, 953]) 537)⟩, ⟨8093, (.int 8093 539), (.str (Str.mk #[7973, 953]) 540)⟩, ⟨8094, (.int 8094 542), (.str (Str.mk #[7974, 953]) 543)⟩, ⟨8095, (.int 8095 545), (.str (Str.mk #[7975, 953]) 546)⟩, ⟨8096, (.int 8096 548), (.str (Str.mk #[8032, 953]) 549)⟩, ⟨8097, (.int 8097 551), (.str (Str.mk #[8033, 953]) 552)⟩, ⟨8098, (.int 8098 554), (.str (Str.mk #[8034, 953]) 555)⟩, ⟨8099, (.int 8099 557), (.str (Str.mk #[8035, 953]) 558)⟩, ⟨8100, (.int 8100 560), (.str (Str.mk #[8036, 953]) 561)⟩, ⟨8101, (.int 8101 563), (.str (Str.mk #[8037, 953]) 564)⟩, ⟨8102, (.int 8102 566), (.str (Str.mk #[8038, 953]) 567)⟩, ⟨8103, (.int 8103 569), (.str (Str.mk #[8039, 953]) 570)⟩, ⟨8104, (.int 8104 572), (.str (Str.mk #[8032, 953]) 573)⟩, ⟨8105, (.int 8105 575), (.str (Str.mk #[8033, 953]) 576)⟩, ⟨8106, (.int 8106 578), (.str (Str.mk #[8034, 953]) 579)⟩, ⟨8107, (.int 8107 581), (.str (Str.mk #[8035, 953]) 582)⟩, ⟨8108, (.int 8108 584), (.str (Str.mk #[8036, 953]) 585)⟩, ⟨8109, (.int 8109 587), (.str (Str.mk #[8037, 953]) 588)⟩, ⟨8110, (.int 8110 590), (.str (Str.mk #[8038, 953]) 591)⟩, ⟨8111, (.int 8111 593), (.str (Str.mk #[8039, 953]) 594)⟩, ⟨8114, (.int 8114 596), (.str (Str.mk #[8048, 953]) 597)⟩, ⟨8115, (.int 8115 599), (.str (Str.mk #[945, 953]) 600)⟩, ⟨8116, (.int 8116 602), (.str (Str.mk #[940, 953]) 603)⟩, ⟨8118, (.int 8118 605), (.str (Str.mk #[945, 834]) 606)⟩, ⟨8119, (.int 8119 608), (.str (Str.mk #[945, 834, 953]) 609)⟩, ⟨8124, (.int 8124 611), (.str (Str.mk #[945, 953]) 612)⟩, ⟨8126, (.int 8126 614), (.str (Str.mk #[953]) 615)⟩, ⟨8130, (.int 8130 617), (.str (Str.mk #[8052, 953]) 618)⟩, ⟨8131, (.int 8131 620), (.str (Str.mk #[951, 953]) 621)⟩, ⟨8132, (.int 8132 623), (.str (Str.mk #[942, 953]) 624)⟩, ⟨8134, (.int 8134 626), (.str (Str.mk #[951, 834]) 627)⟩, ⟨8135, (.int 8135 629), (.str (Str.mk #[951, 834, 953]) 630)⟩, ⟨8140, (.int 8140 632), (.str (Str.mk #[951, 953]) 633)⟩, ⟨8146, (.int 8146 635), (.str (Str.mk #[953, 776, 768]) 636)⟩, ⟨8147, (.int 8147 638), (.str (Str.mk #[953, 776, 769]) 639)⟩, ⟨8150, (.int 8150 641), (.str (Str.mk #[953, 834]) 642)⟩, ⟨8151, (.int 8151 644), (.str (Str.mk #[953, 776, 834]) 645)⟩, ⟨8162, (.int 8162 647), (.str (Str.mk #[965, 776, 768]) 648)⟩, ⟨8163, (.int 8163 650), (.str (Str.mk #[965, 776, 769]) 651)⟩, ⟨8164, (.int 8164 653), (.str (Str.mk #[961, 787]) 654)⟩, ⟨8166, (.int 8166 656), (.str (Str.mk #[965, 834]) 657)⟩, ⟨8167, (.int 8167 659), (.str (Str.mk #[965, 776, 834]) 660)⟩, ⟨8178, (.int 8178 662), (.str (Str.mk #[8060, 953]) 663)⟩, ⟨8179, (.int 8179 665), (.str (Str.mk #[969, 953]) 666)⟩, ⟨8180, (.int 8180 668), (.str (Str.mk #[974, 953]) 669)⟩, ⟨8182, (.int 8182 671), (.str (Str.mk #[969, 834]) 672)⟩, ⟨8183, (.int 8183 674), (.str (Str.mk #[969, 834, 953]) 675)⟩, ⟨8188, (.int 8188 677), (.str (Str.mk #[969, 953]) 678)⟩, ⟨8360, (.int 8360 680), (.str (Str.ofString "rs") 681)⟩, ⟨8450, (.int 8450 683), (.str (Str.ofString "c") 684)⟩, ⟨8451, (.int 8451 686), (.str (Str.mk #[176, 99]) 687)⟩, ⟨8455, (.int 8455 689), (.str (Str.mk #[603]) 690)⟩, ⟨8457, (.int 8457 692), (.str (Str.mk #[176, 102]) 693)⟩, ⟨8459, (.int 8459 695), (.str (Str.ofString "h") 696)⟩, ⟨8460, (.int 8460 698), (.str (Str.ofString "h") 699)⟩, ⟨8461, (.int 8461 701), (.str (Str.ofString "h") 702)⟩, ⟨8464, (.int 8464 704), (.str (Str.ofString "i") 705)⟩, ⟨8465, (.int 8465 707), (.str (Str.ofString "i") 708)⟩, ⟨8466, (.int 8466 710), (.str (Str.ofString "l") 711)⟩, ⟨8469, (.int 8469 713), (.str (Str.ofString "n") 714)⟩, ⟨8470, (.int 8470 716), (.str (Str.ofString "no") 717)⟩, ⟨8473, (.int 8473 719), (.str (Str.ofString "p") 720)⟩, ⟨8474, (.int 8474 722), (.str (Str.ofString "q") 723)⟩, ⟨8475, (.int 8475 725), (.str (Str.ofString "r") 726)⟩, ⟨8476, (.int 8476 728), (.str (Str.ofString "r") 729)⟩, ⟨8477, (.int 8477 731), (.str (Str.ofString "r") 732)⟩, ⟨8480, (.int 8480 734), (.str (Str.ofString "sm") 735)⟩, ⟨8481, (.int 8481 737), (.str (Str.ofString "tel") 738)⟩, ⟨8482, (.int 8482 740), (.str (Str.ofString "tm") 741)⟩, ⟨8484, (.int 8484 743), (.str (Str.ofString "z") 744)⟩, ⟨8488, (.int 8488 746), (.str (Str.ofString "z") 747)⟩, ⟨8492, (.int 8492 749), (.str (Str.ofString "b") 750)⟩, ⟨8493, (.int 8493 752), (.str (Str.ofString "c") 753)⟩, ⟨8496, (.int 8496 755), (.str (Str.ofString "e") 756)⟩, ⟨8497, (.int 8497 758), (.str (Str.ofString "f") 759)⟩, ⟨8499, (.int 8499 761), (.str (Str.ofString "m") 762)⟩, ⟨8510, (.int 8510 764), (.str (Str.mk #[947]) 765)⟩, ⟨8511, (.int 8511 767), (.str (Str.mk #[960]) 768)⟩, ⟨8517, (.int 8517 770), (.str (Str.ofString "d") 771)⟩, ⟨13169, (.int 13169 773), (.str (Str.ofString "hpa") 774)⟩, ⟨13171, (.int 13171 776), (.str (Str.ofString "au") 777)⟩, ⟨13173, (.int 13173 779), (.str (Str.ofString "ov") 780)⟩, ⟨13184, (.int 13184 782), (.str (Str.ofString "pa") 783)⟩, ⟨13185, (.int 13185 785), (.str (Str.ofString "na") 786)⟩, ⟨13186, (.int 13186 788), (.str (Str.mk #[956, 97]) 789)⟩, ⟨13187, (.int 13187 791), (.str (Str.ofString "ma") 792)⟩, ⟨13188, (.int 13188 794), (.str (Str.ofString "ka") 795)⟩, ⟨13189, (.int 13189 797), (.str (Str.ofString "kb") 798)⟩, ⟨13190, (.int 13190 800), (.str (Str.ofString "mb") 801)⟩, ⟨13191, (.int 13191 803), (.str (Str.ofString "gb") 804)⟩, ⟨13194, (.int 13194 806), (.str (Str.ofString "pf") 807)⟩, ⟨13195, (.int 13195 809), (.str (Str.ofString "nf") 810)⟩, ⟨13196, (.int 13196 812), (.str (Str.mk #[956, 102]) 813)⟩, ⟨13200, (.int 13200 815), (.str (Str.ofString "hz") 816)⟩, ⟨13201, (.int 13201 818), (.str (Str.ofString "khz") 819)⟩, ⟨13202, (.int 13202 821), (.str (Str.ofString "mhz") 822)⟩, ⟨13203, (.int 13203 824), (.str (Str.ofString "ghz") 825)⟩, ⟨13204, (.int 13204 827), (.str (Str.ofString "thz") 828)⟩, ⟨13225, (.int 13225 830), (.str (Str.ofString "pa") 831)⟩, ⟨13226, (.int 13226 833), (.str (Str.ofString "kpa") 834)⟩, ⟨13227, (.int 13227 836), (.str (Str.ofString "mpa") 837)⟩, ⟨13228, (.int 13228 839), (.str (Str.ofString "gpa") 840)⟩, ⟨13236, (.int 13236 842), (.str (Str.ofString "pv") 843)⟩, ⟨13237, (.int 13237 845), (.str (Str.ofString "nv") 846)⟩, ⟨13238, (.int 13238 848), (.str (Str.mk #[956, 118]) 849)⟩, ⟨13239, (.int 13239 851), (.str (Str.ofString "mv") 852)⟩, ⟨13240, (.int 13240 854), (.str (Str.ofString "kv") 855)⟩, ⟨13241, (.int 13241 857), (.str (Str.ofString "mv") 858)⟩, ⟨13242, (.int 13242 860), (.str (Str.ofString "pw") 861)⟩, ⟨13243, (.int 13243 863), (.str (Str.ofString "nw") 864)⟩, ⟨13244, (.int 13244 866), (.str (Str.mk #[956, 119]) 867)⟩, ⟨13245, (.int 13245 869), (.str (Str.ofString "mw") 870)⟩, ⟨13246, (.int 13246 872), (.str (Str.ofString "kw") 873)⟩, ⟨13247, (.int 13247 875), (.str (Str.ofString "mw") 876)⟩, ⟨13248, (.int 13248 878), (.str (Str.mk #[107, 969]) 879)⟩, ⟨13249, (.int 13249 881), (.str (Str.mk #[109, 969]) 882)⟩, ⟨13251, (.int 13251 884), (.str (Str.ofString "bq") 885)⟩, ⟨13254, (.int 13254 887), (.str (Str.mk #[99, 8725, 107, 103]) 888)⟩, ⟨13255, (.int 13255 890), (.str (Str.ofString "co.") 891)⟩, ⟨13256, (.int 13256 893), (.str (Str.ofString "db") 894)⟩, ⟨13257, (.int 13257 896), (.str (Str.ofString "gy") 897)⟩, ⟨13259, (.int 13259 899), (.str (Str.ofString "hp") 900)⟩, ⟨13261, (.int 13261 902), (.str (Str.ofString "kk") 903)⟩, ⟨13262, (.int 13262 905), (.str (Str.ofString "km") 906)⟩, ⟨13271, (.int 13271 908), (.str (Str.ofString "ph") 909)⟩, ⟨13273, (.int 13273 911), (.str (Str.ofString "ppm") 912)⟩, ⟨13274, (.int 13274 914), (.str (Str.ofString "pr") 915)⟩, ⟨13276, (.int 13276 917), (.str (Str.ofString "sv") 918)⟩, ⟨13277, (.int 13277 920), (.str (Str.ofString "wb") 921)⟩, ⟨64256, (.int 64256 923), (.str (Str.ofString "ff") 924)⟩, ⟨64257, (.int 64257 926), (.str (Str.ofString "fi") 927)⟩, ⟨64258, (.int 64258 929), (.str (Str.ofString "fl") 930)⟩, ⟨64259, (.int 64259 932), (.str (Str.ofString "ffi") 933)⟩, ⟨64260, (.int 64260 935), (.str (Str.ofString "ffl") 936)⟩, ⟨64261, (.int 64261 938), (.str (Str.ofString "st") 939)⟩, ⟨64262, (.int 64262 941), (.str (Str.ofString "st") 942)⟩, ⟨64275, (.int 64275 944), (.str (Str.mk #[1396, 1398]) 945)⟩, ⟨64276, (.int 64276 947), (.str (Str.mk #[1396, 1381]) 948)⟩, ⟨64277, (.int 64277 950), (.str (Str.mk #[1396, 1387]) 951)⟩, ⟨64278, (.int 64278 953), (.str (Str.mk #[1406, 1398]) 954)⟩, ⟨64279, (.int 64279 956), (.str (Str.mk #[1396, 1389]) 957)⟩, ⟨119808, (.int 119808 959), (.str (Str.ofString "a") 960)⟩, ⟨119809, (.int 119809 962), (.str (Str.ofString "b") 963)⟩, ⟨119810, (.int 119810 965), (.str (Str.ofString "c") 966)⟩, ⟨119811, (.int 119811 968), (.str (Str.ofString "d") 969)⟩, ⟨119812, (.int 119812 971), (.str (Str.ofString "e") 972)⟩, ⟨119813, (.int 119813 974), (.str (Str.ofString "f") 975)⟩, ⟨119814, (.int 119814 977), (.str (Str.ofString "g") 978)⟩, ⟨119815, (.int 119815 980), (.str (Str.ofString "h") 981)⟩, ⟨119816, (.int 119816 983), (.str (Str.ofString "i") 984)⟩, ⟨119817, (.int 119817 986), (.str (Str.ofString "j") 987)⟩, ⟨119818, (.int 119818 989), (.str (Str.ofString "k") 990)⟩, ⟨119819, (.int 119819 992), (.str (Str.ofString "l") 993)⟩, ⟨119820, (.int 119820 995), (.str (Str.ofString "m") 996)⟩, ⟨119821, (.int 119821 998), (.str (Str.ofString "n") 999)⟩, ⟨119822, (.int 119822 1001), (.str (Str.ofString "o") 1002)⟩, ⟨119823, (.int 119823 1004), (.str (Str.ofString "p") 1005)⟩, ⟨119824, (.int 119824 1007), (.str (Str.ofString "q") 1008)⟩, ⟨119825, (.int 119825 1010), (.str (Str.ofString "r") 1011)⟩, ⟨119826, (.int 119826 1013), (.str (Str.ofString "s") 1014)⟩, ⟨119827, (.int 119827 1016), (.str (Str.ofString "t") 1017)⟩, ⟨119828, (.int 119828 1019), (.str (Str.ofString "u") 1020)⟩, ⟨119829, (.int 119829 1022), (.str (Str.ofString "v") 1023)⟩, ⟨119830, (.int 119830 1025), (.str (Str.ofString "w") 1026)⟩, ⟨119831, (.int 119831 1028), (.str (Str.ofString "x") 1029)⟩, ⟨119832, (.int 119832 1031), (.str (Str.ofString "y") 1032)⟩, ⟨119833, (.int 119833 1034), (.str (Str.ofString "z") 1035)⟩, ⟨119860, (.int 119860 1037), (.str (Str.ofString "a") 1038)⟩, ⟨119861, (.int 119861 1040), (.str (Str.ofString "b") 1041)⟩, ⟨119862, (.int 119862 1043), (.str (Str.ofString "c") 1044)⟩, ⟨119863, (.int 119863 1046), (.str (Str.ofString "d") 1047)⟩, ⟨119864, (.int 119864 1049), (.str (Str.ofString "e") 1050)⟩, ⟨119865, (.int 119865 1052), (.str (Str.ofString "f") 1053)⟩, ⟨119866, (.int 119866 1055), (.str (Str.ofString "g") 1056)⟩, ⟨119867, (.int 119867 1058), (.str (Str.ofString "h") 1059)⟩, ⟨119868, (.int 119868 1061), (.str (Str.ofString "i") 1062)⟩, ⟨119869, (.int 119869 1064), (.str (Str.ofString "j") 1065)⟩, ⟨119870, (.int 119870 1067), (.str (Str.ofString "k") 1068)⟩, ⟨119871, (.int 119871 1070), (.str (Str.ofString "l") 1071)⟩, ⟨119872, (.int 119872 1073), (.str (Str.ofString "m") 1074)⟩, ⟨119873, (.int 119873 1076), (.str (Str.ofString "n") 1077)⟩, ⟨119874, (.int 119874 1079), (.str (Str.ofString "o") 1080)⟩, ⟨119875, (.int 119875 1082), (.str (Str.ofString "p") 1083)⟩, ⟨119876, (.int 119876 1085), (.str (Str.ofString "q") 1086)⟩, ⟨119877, (.int 119877 1088), (.str (Str.ofString "r") 1089)⟩, ⟨119878, (.int 119878 1091), (.str (Str.ofString "s") 1092)⟩, ⟨119879, (.int 119879 1094), (.str (Str.ofString "t") 1095)⟩, ⟨119880, (.int 119880 1097), (.str (Str.ofString "u") 1098)⟩, ⟨119881, (.int 119881 1100), (.str (Str.ofString "v") 1101)⟩, ⟨119882, (.int 119882 1103), (.str (Str.ofString "w") 1104)⟩, ⟨119883, (.int 119883 1106), (.str (Str.ofString "x") 1107)⟩, ⟨119884, (.int 119884 1109), (.str (Str.ofString "y") 1110)⟩, ⟨119885, (.int 119885 1112), (.str (Str.ofString "z") 1113)⟩, ⟨119912, (.int 119912 1115), (.str (Str.ofString "a") 1116)⟩, ⟨119913, (.int 119913 1118), (.str (Str.ofString "b") 1119)⟩, ⟨119914, (.int 119914 1121), (.str (Str.ofString "c") 1122)⟩, ⟨119915, (.int 119915 1124), (.str (Str.ofString "d") 1125)⟩, ⟨119916, (.int 119916 1127), (.str (Str.ofString "e") 1128)⟩, ⟨119917, (.int 119917 1130), (.str (Str.ofString "f") 1131)⟩, ⟨119918, (.int 119918 1133), (.str (Str.ofString "g") 1134)⟩, ⟨119919, (.int 119919 1136), (.str (Str.ofString "h") 1137)⟩, ⟨119920, (.int 119920 1139), (.str (Str.ofString "i") 1140)⟩, ⟨119921, (.int 119921 1142), (.str (Str.ofString "j") 1143)⟩, ⟨119922, (.int 119922 1145), (.str (Str.ofString "k") 1146)⟩, ⟨119923, (.int 119923 1148), (.str (Str.ofString "l") 1149)⟩, ⟨119924, (.int 119924 1151), (.str (Str.ofString "m") 1152)⟩, ⟨119925, (.int 119925 1154), (.str (Str.ofString "n") 1155)⟩, ⟨119926, (.int 119926 1157), (.str (Str.ofString "o") 1158)⟩, ⟨119927, (.int 119927 1160), (.str (Str.ofString "p") 1161)⟩, ⟨119928, (.int 119928 1163), (.str (Str.ofString "q") 1164)⟩, ⟨119929, (.int 119929 1166), (.str (Str.ofString "r") 1167)⟩, ⟨119930, (.int 119930 1169), (.str (Str.ofString "s") 1170)⟩, ⟨119931, (.int 119931 1172), (.str (Str.ofString "t") 1173)⟩, ⟨119932, (.int 119932 1175), (.str (Str.ofString "u") 1176)⟩, ⟨119933, (.int 119933 1178), (.str (Str.ofString "v") 1179)⟩, ⟨119934, (.int 119934 1181), (.str (Str.ofString "w") 1182)⟩, ⟨119935, (.int 119935 1184), (.str (Str.ofString "x") 1185)⟩, ⟨119936, (.int 119936 1187), (.str (Str.ofString "y") 1188)⟩, ⟨119937, (.int 119937 1190), (.str (Str.ofString "z") 1191)⟩, ⟨119964, (.int 119964 1193), (.str (Str.ofString "a") 1194)⟩, ⟨119966, (.int 119966 1196), (.str (Str.ofString "c") 1197)⟩, ⟨119967, (.int 119967 1199), (.str (Str.ofString "d") 1200)⟩, ⟨119970, (.int 119970 1202), (.str (Str.ofString "g") 1203)⟩, ⟨119973, (.int 119973 1205), (.str (Str.ofString "j") 1206)⟩, ⟨119974, (.int 119974 1208), (.str (Str.ofString "k") 1209)⟩, ⟨119977, (.int 119977 1211), (.str (Str.ofString "n") 1212)⟩, ⟨119978, (.int 119978 1214), (.str (Str.ofString "o") 1215)⟩, ⟨119979, (.int 119979 1217), (.str (Str.ofString "p") 1218)⟩, ⟨119980, (.int 119980 1220), (.str (Str.ofString "q") 1221)⟩, ⟨119982, (.int 119982 1223), (.str (Str.ofString "s") 1224)⟩, ⟨119983, (.int 119983 1226), (.str (Str.ofString "t") 1227)⟩, ⟨119984, (.int 119984 1229), (.str (Str.ofString "u") 1230)⟩, ⟨119985, (.int 119985 1232), (.str (Str.ofString "v") 1233)⟩, ⟨119986, (.int 119986 1235), (.str (Str.ofString "w") 1236)⟩, ⟨119987, (.int 119987 1238), (.str (Str.ofString "x") 1239)⟩, ⟨119988, (.int 119988 1241), (.str (Str.ofString "y") 1242)⟩, ⟨119989, (.int 119989 1244), (.str (Str.ofString "z") 1245)⟩, ⟨120016, (.int 120016 1247), (.str (Str.ofString "a") 1248)⟩, ⟨120017, (.int 120017 1250), (.str (Str.ofString "b") 1251)⟩, ⟨120018, (.int 120018 1253), (.str (Str.ofString "c") 1254)⟩, ⟨120019, (.int 120019 1256), (.str (Str.ofString "d") 1257)⟩, ⟨120020, (.int 120020 1259), (.str (Str.ofString "e") 1260)⟩, ⟨120021, (.int 120021 1262), (.str (Str.ofString "f") 1263)⟩, ⟨120022, (.int 120022 1265), (.str (Str.ofString "g") 1266)⟩, ⟨120023, (.int 120023 1268), (.str (Str.ofString "h") 1269)⟩, ⟨120024, (.int 120024 1271), (.str (Str.ofString "i") 1272)⟩, ⟨120025, (.int 120025 1274), (.str (Str.ofString "j") 1275)⟩, ⟨120026, (.int 120026 1277), (.str (Str.ofString "k") 1278)⟩, ⟨120027, (.int 120027 1280), (.str (Str.ofString "l") 1281)⟩, ⟨120028, (.int 120028 1283), (.str (Str.ofString "m") 1284)⟩, ⟨120029, (.int 120029 1286), (.str (Str.ofString "n") 1287)⟩, ⟨120030, (.int 120030 1289), (.str (Str.ofString "o") 1290)⟩, ⟨120031, (.int 120031 1292), (.str (Str.ofString "p") 1293)⟩, ⟨120032, (.int 120032 1295), (.str (Str.ofString "q") 1296)⟩, ⟨120033, (.int 120033 1298), (.str (Str.ofString "r") 1299)⟩, ⟨120034, (.int 120034 1301), (.str (Str.ofString "s") 1302)⟩, ⟨120035, (.int 120035 1304), (.str (Str.ofString "t") 1305)⟩, ⟨120036, (.int 120036 1307), (.str (Str.ofString "u") 1308)⟩, ⟨120037, (.int 120037 1310), (.str (Str.ofString "v") 1311)⟩, ⟨120038, (.int 120038 1313), (.str (Str.ofString "w") 1314)⟩, ⟨120039, (.int 120039 1316), (.str (Str.ofString "x") 1317)⟩, ⟨120040, (.int 120040 1319), (.str (Str.ofString "y") 1320)⟩, ⟨120041, (.int 120041 1322), (.str (Str.ofString "z") 1323)⟩, ⟨120068, (.int 120068 1325), (.str (Str.ofString "a") 1326)⟩, ⟨120069, (.int 120069 1328), (.str (Str.ofString "b") 1329)⟩, ⟨120071, (.int 120071 1331), (.str (Str.ofString "d") 1332)⟩, ⟨120072, (.int 120072 1334), (.str (Str.ofString "e") 1335)⟩, ⟨120073, (.int 120073 1337), (.str (Str.ofString "f") 1338)⟩, ⟨120074, (.int 120074 1340), (.str (Str.ofString "g") 1341)⟩, ⟨120077, (.int 120077 1343), (.str (Str.ofString "j") 1344)⟩, ⟨120078, (.int 120078 1346), (.str (Str.ofString "k") 1347)⟩, ⟨120079, (.int 120079 1349), (.str (Str.ofString "l") 1350)⟩, ⟨120080, (.int 120080 1352), (.str (Str.ofString "m") 1353)⟩, ⟨120081, (.int 120081 1355), (.str (Str.ofString "n") 1356)⟩, ⟨120082, (.int 120082 1358), (.str (Str.ofString "o") 1359)⟩, ⟨120083, (.int 120083 1361), (.str (Str.ofString "p") 1362)⟩, ⟨120084, (.int 120084 1364), (.str (Str.ofString "q") 1365)⟩, ⟨120086, (.int 120086 1367), (.str (Str.ofString "s") 1368)⟩, ⟨120087, (.int 120087 1370), (.str (Str.ofString "t") 1371)⟩, ⟨120088, (.int 120088 1373), (.str (Str.ofString "u") 1374)⟩, ⟨120089, (.int 120089 1376), (.str (Str.ofString "v") 1377)⟩, ⟨120090, (.int 120090 1379), (.str (Str.ofString "w") 1380)⟩, ⟨120091, (.int 120091 1382), (.str (Str.ofString "x") 1383)⟩, ⟨120092, (.int 120092 1385), (.str (Str.ofString "y") 1386)⟩, ⟨120120, (.int 120120 1388), (.str (Str.ofString "a") 1389)⟩, ⟨120121, (.int 120121 1391), (.str (Str.ofString "b") 1392)⟩, ⟨120123, (.int 120123 1394), (.str (Str.ofString "d") 1395)⟩, ⟨120124, (.int 120124 1397), (.str (Str.ofString "e") 1398)⟩, ⟨120125, (.int 120125 1400), (.str (Str.ofString "f") 1401)⟩, ⟨120126, (.int 120126 1403), (.str (Str.ofString "g") 1404)⟩, ⟨120128, (.int 120128 1406), (.str (Str.ofString "i") 1407)⟩, ⟨120129, (.int 120129 1409), (.str (Str.ofString "j") 1410)⟩, ⟨120130, (.int 120130 1412), (.str (Str.ofString "k") 1413)⟩, ⟨120131, (.int 120131 1415), (.str (Str.ofString "l") 1416)⟩, ⟨120132, (.int 120132 1418), (.str (Str.ofString "m") 1419)⟩, ⟨120134, (.int 120134 1421), (.str (Str.ofString "o") 1422)⟩, ⟨120138, (.int 120138 1424), (.str (Str.ofString "s") 1425)⟩, ⟨120139, (.int 120139 1427), (.str (Str.ofString "t") 1428)⟩, ⟨120140, (.int 120140 1430), (.str (Str.ofString "u") 1431)⟩, ⟨120141, (.int 120141 1433), (.str (Str.ofString "v") 1434)⟩, ⟨120142, (.int 120142 1436), (.str (Str.ofString "w") 1437)⟩, ⟨120143, (.int 120143 1439), (.str (Str.ofString "x") 1440)⟩, ⟨120144, (.int 120144 1442), (.str (Str.ofString "y") 1443)⟩, ⟨120172, (.int 120172 1445), (.str (Str.ofString "a") 1446)⟩, ⟨120173, (.int 120173 1448), (.str (Str.ofString "b") 1449)⟩, ⟨120174, (.int 120174 1451), (.str (Str.ofString "c") 1452)⟩, ⟨120175, (.int 120175 1454), (.str (Str.ofString "d") 1455)⟩, ⟨120176, (.int 120176 1457), (.str (Str.ofString "e") 1458)⟩, ⟨120177, (.int 120177 1460), (.str (Str.ofString "f") 1461)⟩, ⟨120178, (.int 120178 1463), (.str (Str.ofString "g") 1464)⟩, ⟨120179, (.int 120179 1466), (.str (Str.ofString "h") 1467)⟩, ⟨120180, (.int 120180 1469), (.str (Str.ofString "i") 1470)⟩, ⟨120181, (.int 120181 1472), (.str (Str.ofString "j") 1473)⟩, ⟨120182, (.int 120182 1475), (.str (Str.ofString "k") 1476)⟩, ⟨120183, (.int 120183 1478), (.str (Str.ofString "l") 1479)⟩, ⟨120184, (.int 120184 1481), (.str (Str.ofString "m") 1482)⟩, ⟨120185, (.int 120185 1484), (.str (Str.ofString "n") 1485)⟩, ⟨120186, (.int 120186 1487), (.str (Str.ofString "o") 1488)⟩, ⟨120187, (.int 120187 1490), (.str (Str.ofString "p") 1491)⟩, ⟨120188, (.int 120188 1493), (.str (Str.ofString "q") 1494)⟩, ⟨120189, (.int 120189 1496), (.str (Str.ofString "r") 1497)⟩, ⟨120190, (.int 120190 1499), (.str (Str.ofString "s") 1500)⟩, ⟨120191, (.int 120191 1502), (.str (Str.ofString "t") 1503)⟩, ⟨120192, (.int 120192 1505), (.str (Str.ofString "u") 1506)⟩, ⟨120193, (.int 120193 1508), (.str (Str.ofString "v") 1509)⟩, ⟨120194, (.int 120194 1511), (.str (Str.ofString "w") 1512)⟩, ⟨120195, (.int 120195 1514), (.str (Str.ofString "x") 1515)⟩, ⟨120196, (.int 120196 1517), (.str (Str.ofString "y") 1518)⟩, ⟨120197, (.int 120197 1520), (.str (Str.ofString "z") 1521)⟩, ⟨120224, (.int 120224 1523), (.str (Str.ofString "a") 1524)⟩, ⟨120225, (.int 120225 1526), (.str (Str.ofString "b") 1527)⟩, ⟨120226, (.int 120226 1529), (.str (Str.ofString "c") 1530)⟩, ⟨120227, (.int 120227 1532), (.str (Str.ofString "d") 1533)⟩, ⟨120228, (.int 120228 1535), (.str (Str.ofString "e") 1536)⟩, ⟨120229, (.int 120229 1538), (.str (Str.ofString "f") 1539)⟩, ⟨120230, (.int 120230 1541), (.str (Str.ofString "g") 1542)⟩, ⟨120231, (.int 120231 1544), (.str (Str.ofString "h") 1545)⟩, ⟨120232, (.int 120232 1547), (.str (Str.ofString "i") 1548)⟩, ⟨120233, (.int 120233 1550), (.str (Str.ofString "j") 1551)⟩, ⟨120234, (.int 120234 1553), (.str (Str.ofString "k") 1554)⟩, ⟨120235, (.int 120235 1556), (.str (Str.ofString "l") 1557)⟩, ⟨120236, (.int 120236 1559), (.str (Str.ofString "m") 1560)⟩, ⟨120237, (.int 120237 1562), (.str (Str.ofString "n") 1563)⟩, ⟨120238, (.int 120238 1565), (.str (Str.ofString "o") 1566)⟩, ⟨120239, (.int 120239 1568), (.str (Str.ofString "p") 1569)⟩, ⟨120240, (.int 120240 1571), (.str (Str.ofString "q") 1572)⟩, ⟨120241, (.int 120241 1574), (.str (Str.ofString "r") 1575)⟩, ⟨120242, (.int 120242 1577), (.str (Str.ofString "s") 1578)⟩, ⟨120243, (.int 120243 1580), (.str (Str.ofString "t") 1581)⟩, ⟨120244, (.int 120244 1583), (.str (Str.ofString "u") 1584)⟩, ⟨120245, (.int 120245 1586), (.str (Str.ofString "v") 1587)⟩, ⟨120246, (.int 120246 1589), (.str (Str.ofString "w") 1590)⟩, ⟨120247, (.int 120247 1592), (.str (Str.ofString "x") 1593)⟩, ⟨120248, (.int 120248 1595), (.str (Str.ofString "y") 1596)⟩, ⟨120249, (.int 120249 1598), (.str (Str.ofString "z") 1599)⟩, ⟨120276, (.int 120276 1601), (.str (Str.ofString "a") 1602)⟩, ⟨120277, (.int 120277 1604), (.str (Str.ofString "b") 1605)⟩, ⟨120278, (.int 120278 1607), (.str (Str.ofString "c") 1608)⟩, ⟨120279, (.int 120279 1610), (.str (Str.ofString "d") 1611)⟩, ⟨120280, (.int 120280 1613), (.str (Str.ofString "e") 1614)⟩, ⟨120281, (.int 120281 1616), (.str (Str.ofString "f") 1617)⟩, ⟨120282, (.int 120282 1619), (.str (Str.ofString "g") 1620)⟩, ⟨120283, (.int 120283 1622), (.str (Str.ofString "h") 1623)⟩, ⟨120284, (.int 120284 1625), (.str (Str.ofString "i") 1626)⟩, ⟨120285, (.int 120285 1628), (.str (Str.ofString "j") 1629)⟩, ⟨120286, (.int 120286 1631), (.str (Str.ofString "k") 1632)⟩, ⟨120287, (.int 120287 1634), (.str (Str.ofString "l") 1635)⟩, ⟨120288, (.int 120288 1637), (.str (Str.ofString "m") 1638)⟩, ⟨120289, (.int 120289 1640), (.str (Str.ofString "n") 1641)⟩, ⟨120290, (.int 120290 1643), (.str (Str.ofString "o") 1644)⟩, ⟨120291, (.int 120291 1646), (.str (Str.ofString "p") 1647)⟩, ⟨120292, (.int 120292 1649), (.str (Str.ofString "q") 1650)⟩, ⟨120293, (.int 120293 1652), (.str (Str.ofString "r") 1653)⟩, ⟨120294, (.int 120294 1655), (.str (Str.ofString "s") 1656)⟩, ⟨120295, (.int 120295 1658), (.str (Str.ofString "t") 1659)⟩, ⟨120296, (.int 120296 1661), (.str (Str.ofString "u") 1662)⟩, ⟨120297, (.int 120297 1664), (.str (Str.ofString "v") 1665)⟩, ⟨120298, (.int 120298 1667), (.str (Str.ofString "w") 1668)⟩, ⟨120299, (.int 120299 1670), (.str (Str.ofString "x") 1671)⟩, ⟨120300, (.int 120300 1673), (.str (Str.ofString "y") 1674)⟩, ⟨120301, (.int 120301 1676), (.str (Str.ofString "z") 1677)⟩, ⟨120328, (.int 120328 1679), (.str (Str.ofString "a") 1680)⟩, ⟨120329, (.int 120329 1682), (.str (Str.ofString "b") 1683)⟩, ⟨120330, (.int 120330 1685), (.str (Str.ofString "c") 1686)⟩, ⟨120331, (.int 120331 1688), (.str (Str.ofString "d") 1689)⟩, ⟨120332, (.int 120332 1691), (.str (Str.ofString "e") 1692)⟩, ⟨120333, (.int 120333 1694), (.str (Str.ofString "f") 1695)⟩, ⟨120334, (.int 120334 1697), (.str (Str.ofString "g") 1698)⟩, ⟨120335, (.int 120335 1700), (.str (Str.ofString "h") 1701)⟩, ⟨120336, (.int 120336 1703), (.str (Str.ofString "i") 1704)⟩, ⟨120337, (.int 120337 1706), (.str (Str.ofString "j") 1707)⟩, ⟨120338, (.int 120338 1709), (.str (Str.ofString "k") 1710)⟩, ⟨120339, (.int 120339 1712), (.str (Str.ofString "l") 1713)⟩, ⟨120340, (.int 120340 1715), (.str (Str.ofString "m") 1716)⟩, ⟨120341, (.int 120341 1718), (.str (Str.ofString "n") 1719)⟩, ⟨120342, (.int 120342 1721), (.str (Str.ofString "o") 1722)⟩, ⟨120343, (.int 120343 1724), (.str (Str.ofString "p") 1725)⟩, ⟨120344, (.int 120344 1727), (.str (Str.ofString "q") 1728)⟩, ⟨120345, (.int 120345 1730), (.str (Str.ofString "r") 1731)⟩, ⟨120346, (.int 120346 1733), (.str (Str.ofString "s") 1734)⟩, ⟨120347, (.int 120347 1736), (.str (Str.ofString "t") 1737)⟩, ⟨120348, (.int 120348 1739), (.str (Str.ofString "u") 1740)⟩, ⟨120349, (.int 120349 1742), (.str (Str.ofString "v") 1743)⟩, ⟨120350, (.int 120350 1745), (.str (Str.ofString "w") 1746)⟩, ⟨120351, (.int 120351 1748), (.str (Str.ofString "x") 1749)⟩, ⟨120352, (.int 120352 1751), (.str (Str.ofString "y") 1752)⟩, ⟨120353, (.int 120353 1754), (.str (Str.ofString "z") 1755)⟩, ⟨120380, (.int 120380 1757), (.str (Str.ofString "a") 1758)⟩, ⟨120381, (.int 120381 1760), (.str (Str.ofString "b") 1761)⟩, ⟨120382, (.int 120382 1763), (.str (Str.ofString "c") 1764)⟩, ⟨120383, (.int 120383 1766), (.str (Str.ofString "d") 1767)⟩, ⟨120384, (.int 120384 1769), (.str (Str.ofString "e") 1770)⟩, ⟨120385, (.int 120385 1772), (.str (Str.ofString "f") 1773)⟩, ⟨120386, (.int 120386 1775), (.str (Str.ofString "g") 1776)⟩, ⟨120387, (.int 120387 1778), (.str (Str.ofString "h") 1779)⟩, ⟨120388, (.int 120388 1781), (.str (Str.ofString "i") 1782)⟩, ⟨120389, (.int 120389 1784), (.str (Str.ofString "j") 1785)⟩, ⟨120390, (.int 120390 1787), (.str (Str.ofString "k") 1788)⟩, ⟨120391, (.int 120391 1790), (.str (Str.ofString "l") 1791)⟩, ⟨120392, (.int 120392 1793), (.str (Str.ofString "m") 1794)⟩, ⟨120393, (.int 120393 1796), (.str (Str.ofString "n") 1797)⟩, ⟨120394, (.int 120394 1799), (.str (Str.ofString "o") 1800)⟩, ⟨120395, (.int 120395 1802), (.str (Str.ofString "p") 1803)⟩, ⟨120396, (.int 120396 1805), (.str (Str.ofString "q") 1806)⟩, ⟨120397, (.int 120397 1808), (.str (Str.ofString "r") 1809)⟩, ⟨120398, (.int 120398 1811), (.str (Str.ofString "s") 1812)⟩, ⟨120399, (.int 120399 1814), (.str (Str.ofString "t") 1815)⟩, ⟨120400, (.int 120400 1817), (.str (Str.ofString "u") 1818)⟩, ⟨120401, (.int 120401 1820), (.str (Str.ofString "v") 1821)⟩, ⟨120402, (.int 120402 1823), (.str (Str.ofString "w") 1824)⟩, ⟨120403, (.int 120403 1826), (.str (Str.ofString "x") 1827)⟩, ⟨120404, (.int 120404 1829), (.str (Str.ofString "y") 1830)⟩, ⟨120405, (.int 120405 1832), (.str (Str.ofString "z") 1833)⟩, ⟨120432, (.int 120432 1835), (.str (Str.ofString "a") 1836)⟩, ⟨120433, (.int 120433 1838), (.str (Str.ofString "b") 1839)⟩, ⟨120434, (.int 120434 1841), (.str (Str.ofString "c") 1842)⟩, ⟨120435, (.int 120435 1844), (.str (Str.ofString "d") 1845)⟩, ⟨120436, (.int 120436 1847), (.str (Str.ofString "e") 1848)⟩, ⟨120437, (.int 120437 1850), (.str (Str.ofString "f") 1851)⟩, ⟨120438, (.int 120438 1853), (.str (Str.ofString "g") 1854)⟩, ⟨120439, (.int 120439 1856), (.str (Str.ofString "h") 1857)⟩, ⟨120440, (.int 120440 1859), (.str (Str.ofString "i") 1860)⟩, ⟨120441, (.int 120441 1862), (.str (Str.ofString "j") 1863)⟩, ⟨120442, (.int 120442 1865), (.str (Str.ofString "k") 1866)⟩, ⟨120443, (.int 120443 1868), (.str (Str.ofString "l") 1869)⟩, ⟨120444, (.int 120444 1871), (.str (Str.ofString "m") 1872)⟩, ⟨120445, (.int 120445 1874), (.str (Str.ofString "n") 1875)⟩, ⟨120446, (.int 120446 1877), (.str (Str.ofString "o") 1878)⟩, ⟨120447, (.int 120447 1880), (.str (Str.ofString "p") 1881)⟩, ⟨120448, (.int 120448 1883), (.str (Str.ofString "q") 1884)⟩, ⟨120449, (.int 120449 1886), (.str (Str.ofString "r") 1887)⟩, ⟨120450, (.int 120450 1889), (.str (Str.ofString "s") 1890)⟩, ⟨120451, (.int 120451 1892), (.str (Str.ofString "t") 1893)⟩, ⟨120452, (.int 120452 1895), (.str (Str.ofString "u") 1896)⟩, ⟨120453, (.int 120453 1898), (.str (Str.ofString "v") 1899)⟩, ⟨120454, (.int 120454 1901), (.str (Str.ofString "w") 1902)⟩, ⟨120455, (.int 120455 1904), (.str (Str.ofString "x") 1905)⟩, ⟨120456, (.int 120456 1907), (.str (Str.ofString "y") 1908)⟩, ⟨120457, (.int 120457 1910), (.str (Str.ofString "z") 1911)⟩, ⟨120488, (.int 120488 1913), (.str (Str.mk #[945]) 1914)⟩, ⟨120489, (.int 120489 1916), (.str (Str.mk #[946]) 1917)⟩, ⟨120490, (.int 120490 1919), (.str (Str.mk #[947]) 1920)⟩, ⟨120491, (.int 120491 1922), (.str (Str.mk #[948]) 1923)⟩, ⟨120492, (.int 120492 1925), (.str (Str.mk #[949]) 1926)⟩, ⟨120493, (.int 120493 1928), (.str (Str.mk #[950]) 1929)⟩, ⟨120494, (.int 120494 1931), (.str (Str.mk #[951]) 1932)⟩, ⟨120495, (.int 120495 1934), (.str (Str.mk #[952]) 1935)⟩, ⟨120496, (.int 120496 1937), (.str (Str.mk #[953]) 1938)⟩, ⟨120497, (.int 120497 1940), (.str (Str.mk #[954]) 1941)⟩, ⟨120498, (.int 120498 1943), (.str (Str.mk #[955]) 1944)⟩, ⟨120499, (.int 120499 1946), (.str (Str.mk #[956]) 1947)⟩, ⟨120500, (.int 120500 1949), (.str (Str.mk #[957]) 1950)⟩, ⟨120501, (.int 120501 1952), (.str (Str.mk #[958]) 1953)⟩, ⟨120502, (.int 120502 1955), (.str (Str.mk #[959]) 1956)⟩, ⟨120503, (.int 120503 1958), (.str (Str.mk #[960]) 1959)⟩, ⟨120504, (.int 120504 1961), (.str (Str.mk #[961]) 1962)⟩, ⟨120505, (.int 120505 1964), (.str (Str.mk #[952]) 1965)⟩, ⟨120506, (.int 120506 1967), (.str (Str.mk #[963]) 1968)⟩, ⟨120507, (.int 120507 1970), (.str (Str.mk #[964]) 1971)⟩, ⟨120508, (.int 120508 1973), (.str (Str.mk #[965]) 1974)⟩, ⟨120509, (.int 120509 1976), (.str (Str.mk #[966]) 1977)⟩, ⟨120510, (.int 120510 1979), (.str (Str.mk #[967]) 1980)⟩, ⟨120511, (.int 120511 1982), (.str (Str.mk #[968]) 1983)⟩, ⟨120512, (.int 120512 1985), (.str (Str.mk #[969]) 1986)⟩, ⟨120531, (.int 120531 1988), (.str (Str.mk #[963]) 1989)⟩, ⟨120546, (.int 120546 1991), (.str (Str.mk #[945]) 1992)⟩, ⟨120547, (.int 120547 1994), (.str (Str.mk #[946]) 1995)⟩, ⟨120548, (.int 120548 1997), (.str (Str.mk #[947]) 1998)⟩, ⟨120549, (.int 120549 2000), (.str (Str.mk #[948]) 2001)⟩, ⟨120550, (.int 120550 2003), (.str (Str.mk #[949]) 2004)⟩, ⟨120551, (.int 120551 2006), (.str (Str.mk #[950]) 2007)⟩, ⟨120552, (.int 120552 2009), (.str (Str.mk #[951]) 2010)⟩, ⟨120553, (.int 120553 2012), (.str (Str.mk #[952]) 2013)⟩, ⟨120554, (.int 120554 2015), (.str (Str.mk #[953]) 2016)⟩, ⟨120555, (.int 120555 2018), (.str (Str.mk #[954]) 2019)⟩, ⟨120556, (.int 120556 2021), (.str (Str.mk #[955]) 2022)⟩, ⟨120557, (.int 120557 2024), (.str (Str.mk #[956]) 2025)⟩, ⟨120558, (.int 120558 2027), (.str (Str.mk #[957]) 2028)⟩, ⟨120559, (.int 120559 2030), (.str (Str.mk #[958]) 2031)⟩, ⟨120560, (.int 120560 2033), (.str (Str.mk #[959]) 2034)⟩, ⟨120561, (.int 120561 2036), (.str (Str.mk #[960]) 2037)⟩, ⟨120562, (.int 120562 2039), (.str (Str.mk #[961]) 2040)⟩, ⟨120563, (.int 120563 2042), (.str (Str.mk #[952]) 2043)⟩, ⟨120564, (.int 120564 2045), (.str (Str.mk #[963]) 2046)⟩, ⟨120565, (.int 120565 2048), (.str (Str.mk #[964]) 2049)⟩, ⟨120566, (.int 120566 2051), (.str (Str.mk #[965]) 2052)⟩, ⟨120567, (.int 120567 2054), (.str (Str.mk #[966]) 2055)⟩, ⟨120568, (.int 120568 2057), (.str (Str.mk #[967]) 2058)⟩, ⟨120569, (.int 120569 2060), (.str (Str.mk #[968]) 2061)⟩, ⟨120570, (.int 120570 2063), (.str (Str.mk #[969]) 2064)⟩, ⟨120589, (.int 120589 2066), (.str (Str.mk #[963]) 2067)⟩, ⟨120604, (.int 120604 2069), (.str (Str.mk #[945]) 2070)⟩, ⟨120605, (.int 120605 2072), (.str (Str.mk #[946]) 2073)⟩, ⟨120606, (.int 120606 2075), (.str (Str.mk #[947]) 2076)⟩, ⟨120607, (.int 120607 2078), (.str (Str.mk #[948]) 2079)⟩, ⟨120608, (.int 120608 2081), (.str (Str.mk #[949]) 2082)⟩, ⟨120609, (.int 120609 2084), (.str (Str.mk #[950]) 2085)⟩, ⟨120610, (.int 120610 2087), (.str (Str.mk #[951]) 2088)⟩, ⟨120611, (.int 120611 2090), (.str (Str.mk #[952]) 2091)⟩, ⟨120612, (.int 120612 2093), (.str (Str.mk #[953]) 2094)⟩, ⟨120613, (.int 120613 2096), (.str (Str.mk #[954]) 2097)⟩, ⟨120614, (.int 120614 2099), (.str (Str.mk #[955]) 2100)⟩, ⟨120615, (.int 120615 2102), (.str (Str.mk #[956]) 2103)⟩, ⟨120616, (.int 120616 2105), (.str (Str.mk #[957]) 2106)⟩, ⟨120617, (.int 120617 2108), (.str (Str.mk #[958]) 2109)⟩, ⟨120618, (.int 120618 2111), (.str (Str.mk #[959]) 2112)⟩, ⟨120619, (.int 120619 2114), (.str (Str.mk #[960]) 2115)⟩, ⟨120620, (.int 120620 2117), (.str (Str.mk #[961]) 2118)⟩, ⟨120621, (.int 120621 2120), (.str (Str.mk #[952]) 2121)⟩, ⟨120622, (.int 120622 2123), (.str (Str.mk #[963]) 2124)⟩, ⟨120623, (.int 120623 2126), (.str (Str.mk #[964]) 2127)⟩, ⟨120624, (.int 120624 2129), (.str (Str.mk #[965]) 2130)⟩, ⟨120625, (.int 120625 2132), (.str (Str.mk #[966]) 2133)⟩, ⟨120626, (.int 120626 2135), (.str (Str.mk #[967]) 2136)⟩, ⟨120627, (.int 120627 2138), (.str (Str.mk #[968]) 2139)⟩, ⟨120628, (.int 120628 2141), (.str (Str.mk #[969]) 2142)⟩, ⟨120647, (.int 120647 2144), (.str (Str.mk #[963]) 2145)⟩, ⟨120662, (.int 120662 2147), (.str (Str.mk #[945]) 2148)⟩, ⟨120663, (.int 120663 2150), (.str (Str.mk #[946]) 2151)⟩, ⟨120664, (.int 120664 2153), (.str (Str.mk #[947]) 2154)⟩, ⟨120665, (.int 120665 2156), (.str (Str.mk #[948]) 2157)⟩, ⟨120666, (.int 120666 2159), (.str (Str.mk #[949]) 2160)⟩, ⟨120667, (.int 120667 2162), (.str (Str.mk #[950]) 2163)⟩, ⟨120668, (.int 120668 2165), (.str (Str.mk #[951]) 2166)⟩, ⟨120669, (.int 120669 2168), (.str (Str.mk #[952]) 2169)⟩, ⟨120670, (.int 120670 2171), (.str (Str.mk #[953]) 2172)⟩, ⟨120671, (.int 120671 2174), (.str (Str.mk #[954]) 2175)⟩, ⟨120672, (.int 120672 2177), (.str (Str.mk #[955]) 2178)⟩, ⟨120673, (.int 120673 2180), (.str (Str.mk #[956]) 2181)⟩, ⟨120674, (.int 120674 2183), (.str (Str.mk #[957]) 2184)⟩, ⟨120675, (.int 120675 2186), (.str (Str.mk #[958]) 2187)⟩, ⟨120676, (.int 120676 2189), (.str (Str.mk #[959]) 2190)⟩, ⟨120677, (.int 120677 2192), (.str (Str.mk #[960]) 2193)⟩, ⟨120678, (.int 120678 2195), (.str (Str.mk #[961]) 2196)⟩, ⟨120679, (.int 120679 2198), (.str (Str.mk #[952]) 2199)⟩, ⟨120680, (.int 120680 2201), (.str (Str.mk #[963]) 2202)⟩, ⟨120681, (.int 120681 2204), (.str (Str.mk #[964]) 2205)⟩, ⟨120682, (.int 120682 2207), (.str (Str.mk #[965]) 2208)⟩, ⟨120683, (.int 120683 2210), (.str (Str.mk #[966]) 2211)⟩, ⟨120684, (.int 120684 2213), (.str (Str.mk #[967]) 2214)⟩, ⟨120685, (.int 120685 2216), (.str (Str.mk #[968]) 2217)⟩, ⟨120686, (.int 120686 2219), (.str (Str.mk #[969]) 2220)⟩, ⟨120705, (.int 120705 2222), (.str (Str.mk #[963]) 2223)⟩, ⟨120720, (.int 120720 2225), (.str (Str.mk #[945]) 2226)⟩, ⟨120721, (.int 120721 2228), (.str (Str.mk #[946]) 2229)⟩, ⟨120722, (.int 120722 2231), (.str (Str.mk #[947]) 2232)⟩, ⟨120723, (.int 120723 2234), (.str (Str.mk #[948]) 2235)⟩, ⟨120724, (.int 120724 2237), (.str (Str.mk #[949]) 2238)⟩, ⟨120725, (.int 120725 2240), (.str (Str.mk #[950]) 2241)⟩, ⟨120726, (.int 120726 2243), (.str (Str.mk #[951]) 2244)⟩, ⟨120727, (.int 120727 2246), (.str (Str.mk #[952]) 2247)⟩, ⟨120728, (.int 120728 2249), (.str (Str.mk #[953]) 2250)⟩, ⟨120729, (.int 120729 2252), (.str (Str.mk #[954]) 2253)⟩, ⟨120730, (.int 120730 2255), (.str (Str.mk #[955]) 2256)⟩, ⟨120731, (.int 120731 2258), (.str (Str.mk #[956]) 2259)⟩, ⟨120732, (.int 120732 2261), (.str (Str.mk #[957]) 2262)⟩, ⟨120733, (.int 120733 2264), (.str (Str.mk #[958]) 2265)⟩, ⟨120734, (.int 120734 2267), (.str (Str.mk #[959]) 2268)⟩, ⟨120735, (.int 120735 2270), (.str (Str.mk #[960]) 2271)⟩, ⟨120736, (.int 120736 2273), (.str (Str.mk #[961]) 2274)⟩, ⟨120737, (.int 120737 2276), (.str (Str.mk #[952]) 2277)⟩, ⟨120738, (.int 120738 2279), (.str (Str.mk #[963]) 2280)⟩, ⟨120739, (.int 120739 2282), (.str (Str.mk #[964]) 2283)⟩, ⟨120740, (.int 120740 2285), (.str (Str.mk #[965]) 2286)⟩, ⟨120741, (.int 120741 2288), (.str (Str.mk #[966]) 2289)⟩, ⟨120742, (.int 120742 2291), (.str (Str.mk #[967]) 2292)⟩, ⟨120743, (.int 120743 2293), (.str (Str.mk #[968]) 2294)⟩, ⟨120744, (.int 120744 2295), (.str (Str.mk #[969]) 2296)⟩, ⟨120763, (.int 120763 2297), (.str (Str.mk #[963]) 2298)⟩]) 650, #[]⟩
noncomputable def ob74_15 (P : Params) : Obj := ⟨(.type "dict"), none, .dict (List.toArray [⟨982, (.int 982 404), (.str (Str.mk #[960]) 405)⟩, ⟨1008, (.int 1008 407), (.str (Str.mk #[954]) 408)⟩, ⟨1009, (.int 1009 410), (.str (Str.mk #[961]) 411)⟩, ⟨1010, (.int 1010 413), (.str (Str.mk #[963]) 414)⟩, ⟨1013, (.int 1013 416), (.str (Str.mk #[949]) 417)⟩, ⟨1415, (.int 1415 419), (.str (Str.mk #[1381, 1410]) 420)⟩, ⟨7830, (.int 7830 422), (.str (Str.mk #[104, 817]) 423)⟩, ⟨7831, (.int 7831 425), (.str (Str.mk #[116, 776]) 426)⟩, ⟨7832, (.int 7832 428), (.str (Str.mk #[119, 778]) 429)⟩, ⟨7833, (.int 7833 431), (.str (Str.mk #[121, 778]) 432)⟩, ⟨7834, (.int 7834 434), (.str (Str.mk #[97, 702]) 435)⟩, ⟨7835, (.int 7835 437), (.str (Str.mk #[7777]) 438)⟩, ⟨8016, (.int 8016 440), (.str (Str.mk #[965, 787]) 441)⟩, ⟨8018, (.int 8018 443), (.str (Str.mk #[965, 787, 768]) 444)⟩, ⟨8020, (.int 8020 446), (.str (Str.mk #[965, 787, 769]) 447)⟩, ⟨8022, (.int 8022 449), (.str (Str.mk #[965, 787, 834]) 450)⟩, ⟨8064, (.int 8064 452), (.str (Str.mk #[7936, 953]) 453)⟩]) 17, #[]⟩
noncomputable def ob75_15 (P : Params) : Obj := ⟨(.type "dict"), none, .dict (List.toArray [⟨8065, (.int 8065 455), (.str (Str.mk #[7937, 953]) 456)⟩, ⟨8066, (.int 8066 458), (.str (Str.mk #[7938, 953]) 459)⟩, ⟨8067, (.int 8067 461), (.str (Str.mk #[7939, 953]) 462)⟩, ⟨8068, (.int 8068 464), (.str (Str.mk #[7940, 953]) 465)⟩, ⟨8069, (.int 8069 467), (.str (Str.mk #[7941, 953]) 468)⟩, ⟨8070, (.int 8070 470), (.str (Str.mk #[7942, 953]) 471)⟩, ⟨8071, (.int 8071 473), (.str (Str.mk #[7943, 953]) 474)⟩, ⟨8072, (.int 8072 476), (.str (Str.mk #[7936, 953]) 477)⟩, ⟨8073, (.int 8073 479), (.str (Str.mk #[7937, 953]) 480)⟩, ⟨8074, (.int 8074 482), (.str (Str.mk #[7938, 953]) 483)⟩, ⟨8075, (.int 8075 485), (.str (Str.mk #[7939, 953]) 486)⟩, ⟨8076, (.int 8076 488), (.str (Str.mk #[7940, 953]) 489)⟩, ⟨8077, (.int 8077 491), (.str (Str.mk #[7941, 953]) 492)⟩, ⟨8078, (.int 8078 494), (.str (Str.mk #[7942, 953]) 495)⟩, ⟨8079, (.int 8079 497), (.str (Str.mk #[7943, 953]) 498)⟩, ⟨8080, (.int 8080 500), (.str (Str.mk #[7968, 953]) 501)⟩, ⟨8081, (.int 8081 503), (.str (Str.mk #[7969, 953]) 504)⟩]) 17, #[]⟩
noncomputable def ob76_15 (P : Params) : Obj := ⟨(.type "dict"), none, .dict (List.toArray [⟨8082, (.int 8082 506), (.str (Str.mk #[7970, 953]) 507)⟩, ⟨8083, (.int 8083 509), (.str (Str.mk #[7971, 953]) 510)⟩, ⟨8084, (.int 8084 512), (.str (Str.mk #[7972, 953]) 513)⟩, ⟨8085, (.int 8085 515), (.str (Str.mk #[7973, 953]) 516)⟩, ⟨8086, (.int 8086 518), (.str (Str.mk #[7974, 953]) 519)⟩, ⟨8087, (.int 8087 521), (.str (Str.mk #[7975, 953]) 522)⟩, ⟨8088, (.int 8088 524), (.str (Str.mk #[7968, 953]) 525)⟩, ⟨8089, (.int 8089 527), (.str (Str.mk #[7969, 953]) 528)⟩, ⟨8090, (.int 8090 530), (.str (Str.mk #[7970, 953]) 531)⟩, ⟨8091, (.int 8091 533), (.str (Str.mk #[7971, 953]) 534)⟩, ⟨8092, (.int 8092 536), (.str (Str.mk #[7972, 953]) 537)⟩, ⟨8093, (.int 8093 539), (.str (Str.mk #[7973, 953]) 540)⟩, ⟨8094, (.int 8094 542), (.str (Str.mk #[7974, 953]) 543)⟩, ⟨8095, (.int 8095 545), (.str (Str.mk #[7975, 953]) 546)⟩, ⟨8096, (.int 8096 548), (.str (Str.mk #[8032, 953]) 549)⟩, ⟨8097, (.int 8097 551), (.str (Str.mk #[8033, 953]) 552)⟩, ⟨8098, (.int 8098 554), (.str (Str.mk #[8034, 953]) 555)⟩]) 17, #[]⟩
noncomputable def ob77_15 (P : Params) : Obj := ⟨(.type "dict"), none, .dict (List.toArray [⟨8099, (.int 8099 557), (.str (Str.mk #[8035, 953]) 558)⟩, ⟨8100, (.int 8100 560), (.str (Str.mk #[8036, 953]) 561)⟩, ⟨8101, (.int 8101 563), (.str (Str.mk #[8037, 953]) 564)⟩, ⟨8102, (.int 8102 566), (.str (Str.mk #[8038, 953]) 567)⟩, ⟨8103, (.int 8103 569), (.str (Str.mk #[8039, 953]) 570)⟩, ⟨8104, (.int 8104 572), (.str (Str.mk #[8032, 953]) 573)⟩, ⟨8105, (.int 8105 575), (.str (Str.mk #[8033, 953]) 576)⟩, ⟨8106, (.int 8106 578), (.str (Str.mk #[8034, 953]) 579)⟩, ⟨8107, (.int 8107 581), (.str (Str.mk #[8035, 953]) 582)⟩, ⟨8108, (.int 8108 584), (.str (Str.mk #[8036, 953]) 585)⟩, ⟨8109, (.int 8109 587), (.str (Str.mk #[8037, 953]) 588)⟩, ⟨8110, (.int 8110 590), (.str (Str.mk #[8038, 953]) 591)⟩, ⟨8111, (.int 8111 593), (.str (Str.mk #[8039, 953]) 594)⟩, ⟨8114, (.int 8114 596), (.str (Str.mk #[8048, 953]) 597)⟩, ⟨8115, (.int 8115 599), (.str (Str.mk #[945, 953]) 600)⟩, ⟨8116, (.int 8116 602), (.str (Str.mk #[940, 953]) 603)⟩, ⟨8118, (.int 8118 605), (.str (Str.mk #[945, 834]) 606)⟩]) 17, #[]⟩
noncomputable def ob78_15 (P : Params) : Obj := ⟨(.type "dict"), none, .dict (List.toArray [⟨8119, (.int 8119 608), (.str (Str.mk #[945, 834, 953]) 609)⟩, ⟨8124, (.int 8124 611), (.str (Str.mk #[945, 953]) 612)⟩, ⟨8126, (.int 8126 614), (.str (Str.mk #[953]) 615)⟩, ⟨8130, (.int 8130 617), (.str (Str.mk #[8052, 953]) 618)⟩, ⟨8131, (.int 8131 620), (.str (Str.mk #[951, 953]) 621)⟩, ⟨8132, (.int 8132 623), (.str (Str.mk #[942, 953]) 624)⟩, ⟨8134, (.int 8134 626), (.str (Str.mk #[951, 834]) 627)⟩, ⟨8135, (.int 8135 629), (.str (Str.mk #[951, 834, 953]) 630)⟩, ⟨8140, (.int 8140 632), (.str (Str.mk #[951, 953]) 633)⟩, ⟨8146, (.int 8146 635), (.str (Str.mk #[953, 776, 768]) 636)⟩, ⟨8147, (.int 8147 638), (.str (Str.mk #[953, 776, 769]) 639)⟩, ⟨8150, (.int 8150 641), (.str (Str.mk #[953, 834]) 642)⟩, ⟨8151, (.int 8151 644), (.str (Str.mk #[953, 776, 834]) 645)⟩, ⟨8162, (.int 8162 647), (.str (Str.mk #[965, 776, 768]) 648)⟩, ⟨8163, (.int 8163 650), (.str (Str.mk #[965, 776, 769]) 651)⟩, ⟨8164, (.int 8164 653), (.str (Str.mk #[961, 787]) 654)⟩, ⟨8166, (.int 8166 656), (.str (Str.mk #[965, 834]) 657)⟩]) 17, #[]⟩
noncomputable def ob79_15 (P : Params) : Obj := ⟨(.type "dict"), none, .dict (List.toArray [⟨8167, (.int 8167 659), (.str (Str.mk #[965, 776, 834]) 660)⟩, ⟨8178, (.int 8178 662), (.str (Str.mk #[8060, 953]) 663)⟩, ⟨8179, (.int 8179 665), (.str (Str.mk #[969, 953]) 666)⟩, ⟨8180, (.int 8180 668), (.str (Str.mk #[974, 953]) 669)⟩, ⟨8182, (.int 8182 671), (.str (Str.mk #[969, 834]) 672)⟩, ⟨8183, (.int 8183 674), (.str (Str.mk #[969, 834, 953]) 675)⟩, ⟨8188, (.int 8188 677), (.str (Str.mk #[969, 953]) 678)⟩, ⟨8360, (.int 8360 680), (.str (Str.ofString "rs") 681)⟩, ⟨8450, (.int 8450 683), (.str (Str.ofString "c") 684)⟩, ⟨8451, (.int 8451 686), (.str (Str.mk #[176, 99]) 687)⟩, ⟨8455, (.int 8455 689), (.str (Str.mk #[603]) 690)⟩, ⟨8457, (.int 8457 692), (.str (Str.mk #[176, 102]) 693)⟩, ⟨8459, (.int 8459 695), (.str (Str.ofString "h") 696)⟩, ⟨8460, (.int 8460 698), (.str (Str.ofString "h") 699)⟩, ⟨8461, (.int 8461 701), (.str (Str.ofString "h") 702)⟩, ⟨8464, (.int 8464 704), (.str (Str.ofString "i") 705)⟩, ⟨8465, (.int 8465 707), (.str (Str.ofString "i") 708)⟩]) 17, #[]⟩
noncomputable def ob80_15 (P : Params) : Obj := ⟨(.type "dict"), none, .dict (List.toArray [⟨8466, (.int 8466 710), (.str (Str.ofString "l") 711)⟩, ⟨8469, (.int 8469 713), (.str (Str.ofString "n") 714)⟩, ⟨8470, (.int 8470 716), (.str (Str.ofString "no") 717)⟩, ⟨8473, (.int 8473 719), (.str (Str.ofString "p") 720)⟩, ⟨8474, (.int 8474 722), (.str (Str.ofString "q") 723)⟩, ⟨8475, (.int 8475 725), (.str (Str.ofString "r") 726)⟩, ⟨8476, (.int 8476 728), (.str (Str.ofString "r") 729)⟩, ⟨8477, (.int 8477 731), (.str (Str.ofString "r") 732)⟩, ⟨8480, (.int 8480 734), (.str (Str.ofString "sm") 735)⟩, ⟨8481, (.int 8481 737), (.str (Str.ofString "tel") 738)⟩, ⟨8482, (.int 8482 740), (.str (Str.ofString "tm") 741)⟩, ⟨8484, (.int 8484 743), (.str (Str.ofString "z") 744)⟩, ⟨8488, (.int 8488 746), (.str (Str.ofString "z") 747)⟩, ⟨8492, (.int 8492 749), (.str (Str.ofString "b") 750)⟩, ⟨8493, (.int 8493 752), (.str (Str.ofString "c") 753)⟩, ⟨8496, (.int 8496 755), (.str (Str.ofString "e") 756)⟩, ⟨8497, (.int 8497 758), (.str (Str.ofString "f") 759)⟩]) 17, #[]⟩
noncomputable def ob81_15 (P : Params) : Obj := ⟨(.type "dict"), none, .dict (List.toArray [⟨8499, (.int 8499 761), (.str (Str.ofString "m") 762)⟩, ⟨8510, (.int 8510 764), (.str (Str.mk #[947]) 765)⟩, ⟨8511, (.int 8511 767), (.str (Str.mk #[960]) 768)⟩, ⟨8517, (.int 8517 770), (.str (Str.ofString "d") 771)⟩, ⟨13169, (.int 13169 773), (.str (Str.ofString "hpa") 774)⟩, ⟨13171, (.int 13171 776), (.str (Str.ofString "au") 777)⟩, ⟨13173, (.int 13173 779), (.str (Str.ofString "ov") 780)⟩, ⟨13184, (.int 13184 782), (.str (Str.ofString "pa") 783)⟩, ⟨13185, (.int 13185 785), (.str (Str.ofString "na") 786)⟩, ⟨13186, (.int 13186 788), (.str (Str.mk #[956, 97]) 789)⟩, ⟨13187, (.int 13187 791), (.str (Str.ofString "ma") 792)⟩, ⟨13188, (.int 13188 794), (.str (Str.ofString "ka") 795)⟩, ⟨13189, (.int 13189 797), (.str (Str.ofString "kb") 798)⟩, ⟨13190, (.int 13190 800), (.str (Str.ofString "mb") 801)⟩, ⟨13191, (.int 13191 803), (.str (Str.ofString "gb") 804)⟩, ⟨13194, (.int 13194 806), (.str (Str.ofString "pf") 807)⟩, ⟨13195, (.int 13195 809), (.str (Str.ofString "nf") 810)⟩]) 17, #[]⟩
noncomputable def ob82_15 (P : Params) : Obj := ⟨(.type "dict"), none, .dict (List.toArray [⟨13196, (.int 13196 812), (.str (Str.mk #[956, 102]) 813)⟩, ⟨13200, (.int 13200 815), (.str (Str.ofString "hz") 816)⟩, ⟨13201, (.int 13201 818), (.str (Str.ofString "khz") 819)⟩, ⟨13202, (.int 13202 821), (.str (Str.ofString "mhz") 822)⟩, ⟨13203, (.int 13203 824), (.str (Str.ofString "ghz") 825)⟩, ⟨13204, (.int 13204 827), (.str (Str.ofString "thz") 828)⟩, ⟨13225, (.int 13225 830), (.str (Str.ofString "pa") 831)⟩, ⟨13226, (.int 13226 833), (.str (Str.ofString "kpa") 834)⟩, ⟨13227, (.int 13227 836), (.str (Str.ofString "mpa") 837)⟩, ⟨13228, (.int 13228 839), (.str (Str.ofString "gpa") 840)⟩, ⟨13236, (.int 13236 842), (.str (Str.ofString "pv") 843)⟩, ⟨13237, (.int 13237 845), (.str (Str.ofString "nv") 846)⟩, ⟨13238, (.int 13238 848), (.str (Str.mk #[956, 118]) 849)⟩, ⟨13239, (.int 13239 851), (.str (Str.ofString "mv") 852)⟩, ⟨13240, (.int 13240 854), (.str (Str.ofString "kv") 855)⟩, ⟨13241, (.int 13241 857), (.str (Str.ofString "mv") 858)⟩, ⟨13242, (.int 13242 860), (.str (Str.ofString "pw") 861)⟩]) 17, #[]⟩
noncomputable def ob83_15 (P : Params) : Obj := ⟨(.type "dict"), none, .dict (List.toArray [⟨13243, (.int 13243 863), (.str (Str.ofString "nw") 864)⟩, ⟨13244, (.int 13244 866), (.str (Str.mk #[956, 119]) 867)⟩, ⟨13245, (.int 13245 869), (.str (Str.ofString "mw") 870)⟩, ⟨13246, (.int 13246 872), (.str (Str.ofString "kw") 873)⟩, ⟨13247, (.int 13247 875), (.str (Str.ofString "mw") 876)⟩, ⟨13248, (.int 13248 878), (.str (Str.mk #[107, 969]) 879)⟩, ⟨13249, (.int 13249 881), (.str (Str.mk #[109, 969]) 882)⟩, ⟨13251, (.int 13251 884), (.str (Str.ofString "bq") 885)⟩, ⟨13254, (.int 13254 887), (.str (Str.mk #[99, 8725, 107, 103]) 888)⟩, ⟨13255, (.int 13255 890), (.str (Str.ofString "co.") 891)⟩, ⟨13256, (.int 13256 893), (.str (Str.ofString "db") 894)⟩, ⟨13257, (.int 13257 896), (.str (Str.ofString "gy") 897)⟩, ⟨13259, (.int 13259 899), (.str (Str.ofString "hp") 900)⟩, ⟨13261, (.int 13261 902), (.str (Str.ofString "kk") 903)⟩, ⟨13262, (.int 13262 905), (.str (Str.ofString "km") 906)⟩, ⟨13271, (.int 13271 908), (.str (Str.ofString "ph") 909)⟩, ⟨13273, (.int 13273 911), (.str (Str.ofString "ppm") 912)⟩]) 17, #[]⟩
noncomputable def ob84_15 (P : Params) : Obj := ⟨(.type "dict"), none, .dict (List.toArray [⟨13274, (.int 13274 914), (.str (Str.ofString "pr") 915)⟩, ⟨13276, (.int 13276 917), (.str (Str.ofString "sv") 918)⟩, ⟨13277, (.int 13277 920), (.str (Str.ofString "wb") 921)⟩, ⟨64256, (.int 64256 923), (.str (Str.ofString "ff") 924)⟩, ⟨64257, (.int 64257 926), (.str (Str.ofString "fi") 927)⟩, ⟨64258, (.int 64258 929), (.str (Str.ofString "fl") 930)⟩, ⟨64259, (.int 64259 932), (.str (Str.ofString "ffi") 933)⟩, ⟨64260, (.int 64260 935), (.str (Str.ofString "ffl") 936)⟩, ⟨64261, (.int 64261 938), (.str (Str.ofString "st") 939)⟩, ⟨64262, (.int 64262 941), (.str (Str.ofString "st") 942)⟩, ⟨64275, (.int 64275 944), (.str (Str.mk #[1396, 1398]) 945)⟩, ⟨64276, (.int 64276 947), (.str (Str.mk #[1396, 1381]) 948)⟩, ⟨64277, (.int 64277 950), (.str (Str.mk #[1396, 1387]) 951)⟩, ⟨64278, (.int 64278 953), (.str (Str.mk #[1406, 1398]) 954)⟩, ⟨64279, (.int 64279 956), (.str (Str.mk #[1396, 1389]) 957)⟩, ⟨119808, (.int 119808 959), (.str (Str.ofString "a") 960)⟩, ⟨119809, (.int 119809 962), (.str (Str.ofString "b") 963)⟩]) 17, #[]⟩
noncomputable def ob85_15 (P : Params) : Obj := ⟨(.type "dict"), none, .dict (List.toArray [⟨119810, (.int 119810 965), (.str (Str.ofString "c") 966)⟩, ⟨119811, (.int 119811 968), (.str (Str.ofString "d") 969)⟩, ⟨119812, (.int 119812 971), (.str (Str.ofString "e") 972)⟩, ⟨119813, (.int 119813 974), (.str (Str.ofString "f") 975)⟩, ⟨119814, (.int 119814 977), (.str (Str.ofString "g") 978)⟩, ⟨119815, (.int 119815 980), (.str (Str.ofString "h") 981)⟩, ⟨119816, (.int 119816 983), (.str (Str.ofString "i") 984)⟩, ⟨119817, (.int 119817 986), (.str (Str.ofString "j") 987)⟩, ⟨119818, (.int 119818 989), (.str (Str.ofString "k") 990)⟩, ⟨119819, (.int 119819 992), (.str (Str.ofString "l") 993)⟩, ⟨119820, (.int 119820 995), (.str (Str.ofString "m") 996)⟩, ⟨119821, (.int 119821 998), (.str (Str.ofString "n") 999)⟩, ⟨119822, (.int 119822 1001), (.str (Str.ofString "o") 1002)⟩, ⟨119823, (.int 119823 1004), (.str (Str.ofString "p") 1005)⟩, ⟨119824, (.int 119824 1007), (.str (Str.ofString "q") 1008)⟩, ⟨119825, (.int 119825 1010), (.str (Str.ofString "r") 1011)⟩, ⟨119826, (.int 119826 1013), (.str (Str.ofString "s") 1014)⟩]) 17, #[]⟩
noncomputable def ob86_15 (P : Params) : Obj := ⟨(.type "dict"), none, .dict (List.toArray [⟨119827, (.int 119827 1016), (.str (Str.ofString "t") 1017)⟩, ⟨119828, (.int 119828 1019), (.str (Str.ofString "u") 1020)⟩, ⟨119829, (.int 119829 1022), (.str (Str.ofString "v") 1023)⟩, ⟨119830, (.int 119830 1025), (.str (Str.ofString "w") 1026)⟩, ⟨119831, (.int 119831 1028), (.str (Str.ofString "x") 1029)⟩, ⟨119832, (.int 119832 1031), (.str (Str.ofString "y") 1032)⟩, ⟨119833, (.int 119833 1034), (.str (Str.ofString "z") 1035)⟩, ⟨119860, (.int 119860 1037), (.str (Str.ofString "a") 1038)⟩, ⟨119861, (.int 119861 1040), (.str (Str.ofString "b") 1041)⟩, ⟨119862, (.int 119862 1043), (.str (Str.ofString "c") 1044)⟩, ⟨119863, (.int 119863 1046), (.str (Str.ofString "d") 1047)⟩, ⟨119864, (.int 119864 1049), (.str (Str.ofString "e") 1050)⟩, ⟨119865, (.int 119865 1052), (.str (Str.ofString "f") 1053)⟩, ⟨119866, (.int 119866 1055), (.str (Str.ofString "g") 1056)⟩, ⟨119867, (.int 119867 1058), (.str (Str.ofString "h") 1059)⟩, ⟨119868, (.int 119868 1061), (.str (Str.ofString "i") 1062)⟩, ⟨119869, (.int 119869 1064), (.str (Str.ofString "j") 1065)⟩]) 17, #[]⟩
noncomputable def ob87_15 (P : Params) : Obj := ⟨(.type "dict"), none, .dict (List.toArray [⟨119870, (.int 119870 1067), (.str (Str.ofString "k") 1068)⟩, ⟨119871, (.int 119871 1070), (.str (Str.ofString "l") 1071)⟩, ⟨119872, (.int 119872 1073), (.str (Str.ofString "m") 1074)⟩, ⟨119873, (.int 119873 1076), (.str (Str.ofString "n") 1077)⟩, ⟨119874, (.int 119874 1079), (.str (Str.ofString "o") 1080)⟩, ⟨119875, (.int 119875 1082), (.str (Str.ofString "p") 1083)⟩, ⟨119876, (.int 119876 1085), (.str (Str.ofString "q") 1086)⟩, ⟨119877, (.int 119877 1088), (.str (Str.ofString "r") 1089)⟩, ⟨119878, (.int 119878 1091), (.str (Str.ofString "s") 1092)⟩, ⟨119879, (.int 119879 1094), (.str (Str.ofString "t") 1095)⟩, ⟨119880, (.int 119880 1097), (.str (Str.ofString "u") 1098)⟩, ⟨119881, (.int 119881 1100), (.str (Str.ofString "v") 1101)⟩, ⟨119882, (.int 119882 1103), (.str (Str.ofString "w") 1104)⟩, ⟨119883, (.int 119883 1106), (.str (Str.ofString "x") 1107)⟩, ⟨119884, (.int 119884 1109), (.str (Str.ofString "y") 1110)⟩, ⟨119885, (.int 119885 1112), (.str (Str.ofString "z") 1113)⟩, ⟨119912, (.int 119912 1115), (.str (Str.ofString "a") 1116)⟩]) 17, #[]⟩
noncomputable def ob88_15 (P : Params) : Obj := ⟨(.type "dict"), none, .dict (List.toArray [⟨119913, (.int 119913 1118), (.str (Str.ofString "b") 1119)⟩, ⟨119914, (.int 119914 1121), (.str (Str.ofString "c") 1122)⟩, ⟨119915, (.int 119915 1124), (.str (Str.ofString "d") 1125)⟩, ⟨119916, (.int 119916 1127), (.str (Str.ofString "e") 1128)⟩, ⟨119917, (.int 119917 1130), (.str (Str.ofString "f") 1131)⟩, ⟨119918, (.int 119918 1133), (.str (Str.ofString "g") 1134)⟩, ⟨119919, (.int 119919 1136), (.str (Str.ofString "h") 1137)⟩, ⟨119920, (.int 119920 1139), (.str (Str.ofString "i") 1140)⟩, ⟨119921, (.int 119921 1142), (.str (Str.ofString "j") 1143)⟩, ⟨119922, (.int 119922 1145), (.str (Str.ofString "k") 1146)⟩, ⟨119923, (.int 119923 1148), (.str (Str.ofString "l") 1149)⟩, ⟨119924, (.int 119924 1151), (.str (Str.ofString "m") 1152)⟩, ⟨119925, (.int 119925 1154), (.str (Str.ofString "n") 1155)⟩, ⟨119926, (.int 119926 1157), (.str (Str.ofString "o") 1158)⟩, ⟨119927, (.int 119927 1160), (.str (Str.ofString "p") 1161)⟩, ⟨119928, (.int 119928 1163), (.str (Str.ofString "q") 1164)⟩, ⟨119929, (.int 119929 1166), (.str (Str.ofString "r") 1167)⟩]) 17, #[]⟩
noncomputable def ob89_15 (P : Params) : Obj := ⟨(.type "dict"), none, .dict (List.toArray [⟨119930, (.int 119930 1169), (.str (Str.ofString "s") 1170)⟩, ⟨119931, (.int 119931 1172), (.str (Str.ofString "t") 1173)⟩, ⟨119932, (.int 119932 1175), (.str (Str.ofString "u") 1176)⟩, ⟨119933, (.int 119933 1178), (.str (Str.ofString "v") 1179)⟩, ⟨119934, (.int 119934 1181), (.str (Str.ofString "w") 1182)⟩, ⟨119935, (.int 119935 1184), (.str (Str.ofString "x") 1185)⟩, ⟨119936, (.int 119936 1187), (.str (Str.ofString "y") 1188)⟩, ⟨119937, (.int 119937 1190), (.str (Str.ofString "z") 1191)⟩, ⟨119964, (.int 119964 1193), (.str (Str.ofString "a") 1194)⟩, ⟨119966, (.int 119966 1196), (.str (Str.ofString "c") 1197)⟩, ⟨119967, (.int 119967 1199), (.str (Str.ofString "d") 1200)⟩, ⟨119970, (.int 119970 1202), (.str (Str.ofString "g") 1203)⟩, ⟨119973, (.int 119973 1205), (.str (Str.ofString "j") 1206)⟩, ⟨119974, (.int 119974 1208), (.str (Str.ofString "k") 1209)⟩, ⟨119977, (.int 119977 1211), (.str (Str.ofString "n") 1212)⟩, ⟨119978, (.int 119978 1214), (.str (Str.ofString "o") 1215)⟩, ⟨119979, (.int 119979 1217), (.str (Str.ofString "p") 1218)⟩]) 17, #[]⟩
noncomputable def ob90_15 (P : Params) : Obj := ⟨(.type "dict"), none, .dict (List.toArray [⟨119980, (.int 119980 1220), (.str (Str.ofString "q") 1221)⟩, ⟨119982, (.int 119982 1223), (.str (Str.ofString "s") 1224)⟩, ⟨119983, (.int 119983 1226), (.str (Str.ofString "t") 1227)⟩, ⟨119984, (.int 119984 1229), (.str (Str.ofString "u") 1230)⟩, ⟨119985, (.int 119985 1232), (.str (Str.ofString "v") 1233)⟩, ⟨119986, (.int 119986 1235), (.str (Str.ofString "w") 1236)⟩, ⟨119987, (.int 119987 1238), (.str (Str.ofString "x") 1239)⟩, ⟨119988, (.int 119988 1241), (.str (Str.ofString "y") 1242)⟩, ⟨119989, (.int 119989 1244), (.str (Str.ofString "z") 1245)⟩, ⟨120016, (.int 120016 1247), (.str (Str.ofString "a") 1248)⟩, ⟨120017, (.int 120017 1250), (.str (Str.ofString "b") 1251)⟩, ⟨120018, (.int 120018 1253), (.str (Str.ofString "c") 1254)⟩, ⟨120019, (.int 120019 1256), (.str (Str.ofString "d") 1257)⟩, ⟨120020, (.int 120020 1259), (.str (Str.ofString "e") 1260)⟩, ⟨120021, (.int 120021 1262), (.str (Str.ofString "f") 1263)⟩, ⟨120022, (.int 120022 1265), (.str (Str.ofString "g") 1266)⟩, ⟨120023, (.int 120023 1268), (.str (Str.ofString "h") 1269)⟩]) 17, #[]⟩
noncomputable def ob91_15 (P : Params) : Obj := ⟨(.type "dict"), none, .dict (List.toArray [⟨120024, (.int 120024 1271), (.str (Str.ofString "i") 1272)⟩, ⟨120025, (.int 120025 1274), (.str (Str.ofString "j") 1275)⟩, ⟨120026, (.int 120026 1277), (.str (Str.ofString "k") 1278)⟩, ⟨120027, (.int 120027 1280), (.str (Str.ofString "l") 1281)⟩, ⟨120028, (.int 120028 1283), (.str (Str.ofString "m") 1284)⟩, ⟨120029, (.int 120029 1286), (.str (Str.ofString "n") 1287)⟩, ⟨120030, (.int 120030 1289), (.str (Str.ofString "o") 1290)⟩, ⟨120031, (.int 120031 1292), (.str (Str.ofString "p") 1293)⟩, ⟨120032, (.int 120032 1295), (.str (Str.ofString "q") 1296)⟩, ⟨120033, (.int 120033 1298), (.str (Str.ofString "r") 1299)⟩, ⟨120034, (.int 120034 1301), (.str (Str.ofString "s") 1302)⟩, ⟨120035, (.int 120035 1304), (.str (Str.ofString "t") 1305)⟩, ⟨120036, (.int 120036 1307), (.str (Str.ofString "u") 1308)⟩, ⟨120037, (.int 120037 1310), (.str (Str.ofString "v") 1311)⟩, ⟨120038, (.int 120038 1313), (.str (Str.ofString "w") 1314)⟩, ⟨120039, (.int 120039 1316), (.str (Str.ofString "x") 1317)⟩, ⟨120040, (.int 120040 1319), (.str (Str.ofString "y") 1320)⟩]) 17, #[]⟩
noncomputable def ob92_15 (P : Params) : Obj := ⟨(.type "dict"), none, .dict (List.toArray [⟨120041, (.int 120041 1322), (.str (Str.ofString "z") 1323)⟩, ⟨120068, (.int 120068 1325), (.str (Str.ofString "a") 1326)⟩, ⟨120069, (.int 120069 1328), (.str (Str.ofString "b") 1329)⟩, ⟨120071, (.int 120071 1331), (.str (Str.ofString "d") 1332)⟩, ⟨120072, (.int 120072 1334), (.str (Str.ofString "e") 1335)⟩, ⟨120073, (.int 120073 1337), (.str (Str.ofString "f") 1338)⟩, ⟨120074, (.int 120074 1340), (.str (Str.ofString "g") 1341)⟩, ⟨120077, (.int 120077 1343), (.str (Str.ofString "j") 1344)⟩, ⟨120078, (.int 120078 1346), (.str (Str.ofString "k") 1347)⟩, ⟨120079, (.int 120079 1349), (.str (Str.ofString "l") 1350)⟩, ⟨120080, (.int 120080 1352), (.str (Str.ofString "m") 1353)⟩, ⟨120081, (.int 120081 1355), (.str (Str.ofString "n") 1356)⟩, ⟨120082, (.int 120082 1358), (.str (Str.ofString "o") 1359)⟩, ⟨120083, (.int 120083 1361), (.str (Str.ofString "p") 1362)⟩, ⟨120084, (.int 120084 1364), (.str (Str.ofString "q") 1365)⟩, ⟨120086, (.int 120086 1367), (.str (Str.ofString "s") 1368)⟩, ⟨120087, (.int 120087 1370), (.str (Str.ofString "t") 1371)⟩]) 17, #[]⟩
noncomputable def ob93_15 (P : Params) : Obj := ⟨(.type "dict"), none, .dict (List.toArray [⟨120088, (.int 120088 1373), (.str (Str.ofString "u") 1374)⟩, ⟨120089, (.int 120089 1376), (.str (Str.ofString "v") 1377)⟩, ⟨120090, (.int 120090 1379), (.str (Str.ofString "w") 1380)⟩, ⟨120091, (.int 120091 1382), (.str (Str.ofString "x") 1383)⟩, ⟨120092, (.int 120092 1385), (.str (Str.ofString "y") 1386)⟩, ⟨120120, (.int 120120 1388), (.str (Str.ofString "a") 1389)⟩, ⟨120121, (.int 120121 1391), (.str (Str.ofString "b") 1392)⟩, ⟨120123, (.int 120123 1394), (.str (Str.ofString "d") 1395)⟩, ⟨120124, (.int 120124 1397), (.str (Str.ofString "e") 1398)⟩, ⟨120125, (.int 120125 1400), (.str (Str.ofString "f") 1401)⟩, ⟨120126, (.int 120126 1403), (.str (Str.ofString "g") 1404)⟩, ⟨120128, (.int 120128 1406), (.str (Str.ofString "i") 1407)⟩, ⟨120129, (.int 120129 1409), (.str (Str.ofString "j") 1410)⟩, ⟨120130, (.int 120130 1412), (.str (Str.ofString "k") 1413)⟩, ⟨120131, (.int 120131 1415), (.str (Str.ofString "l") 1416)⟩, ⟨120132, (.int 120132 1418), (.str (Str.ofString "m") 1419)⟩, ⟨120134, (.int 120134 1421), (.str (Str.ofString "o") 1422)⟩]) 17, #[]⟩
noncomputable def ob94_15 (P : Params) : Obj := ⟨(.type "dict"), none, .dict (List.toArray [⟨120138, (.int 120138 1424), (.str (Str.ofString "s") 1425)⟩, ⟨120139, (.int 120139 1427), (.str (Str.ofString "t") 1428)⟩, ⟨120140, (.int 120140 1430), (.str (Str.ofString "u") 1431)⟩, ⟨120141, (.int 120141 1433), (.str (Str.ofString "v") 1434)⟩, ⟨120142, (.int 120142 1436), (.str (Str.ofString "w") 1437)⟩, ⟨120143, (.int 120143 1439), (.str (Str.ofString "x") 1440)⟩, ⟨120144, (.int 120144 1442), (.str (Str.ofString "y") 1443)⟩, ⟨120172, (.int 120172 1445), (.str (Str.ofString "a") 1446)⟩, ⟨120173, (.int 120173 1448), (.str (Str.ofString "b") 1449)⟩, ⟨120174, (.int 120174 1451), (.str (Str.ofString "c") 1452)⟩, ⟨120175, (.int 120175 1454), (.str (Str.ofString "d") 1455)⟩, ⟨120176, (.int 120176 1457), (.str (Str.ofString "e") 1458)⟩, ⟨120177, (.int 120177 1460), (.str (Str.ofString "f") 1461)⟩, ⟨120178, (.int 120178 1463), (.str (Str.ofString "g") 1464)⟩, ⟨120179, (.int 120179 1466), (.str (Str.ofString "h") 1467)⟩, ⟨120180, (.int 120180 1469), (.str (Str.ofString "i") 1470)⟩, ⟨120181, (.int 120181 1472), (.str (Str.ofString "j") 1473)⟩]) 17, #[]⟩
noncomputable def ob95_15 (P : Params) : Obj := ⟨(.type "dict"), none, .dict (List.toArray [⟨120182, (.int 120182 1475), (.str (Str.ofString "k") 1476)⟩, ⟨120183, (.int 120183 1478), (.str (Str.ofString "l") 1479)⟩, ⟨120184, (.int 120184 1481), (.str (Str.ofString "m") 1482)⟩, ⟨120185, (.int 120185 1484), (.str (Str.ofString "n") 1485)⟩, ⟨120186, (.int 120186 1487), (.str (Str.ofString "o") 1488)⟩, ⟨120187, (.int 120187 1490), (.str (Str.ofString "p") 1491)⟩, ⟨120188, (.int 120188 1493), (.str (Str.ofString "q") 1494)⟩, ⟨120189, (.int 120189 1496), (.str (Str.ofString "r") 1497)⟩, ⟨120190, (.int 120190 1499), (.str (Str.ofString "s") 1500)⟩, ⟨120191, (.int 120191 1502), (.str (Str.ofString "t") 1503)⟩, ⟨120192, (.int 120192 1505), (.str (Str.ofString "u") 1506)⟩, ⟨120193, (.int 120193 1508), (.str (Str.ofString "v") 1509)⟩, ⟨120194, (.int 120194 1511), (.str (Str.ofString "w") 1512)⟩, ⟨120195, (.int 120195 1514), (.str (Str.ofString "x") 1515)⟩, ⟨120196, (.int 120196 1517), (.str (Str.ofString "y") 1518)⟩, ⟨120197, (.int 120197 1520), (.str (Str.ofString "z") 1521)⟩, ⟨120224, (.int 120224 1523), (.str (Str.ofString "a") 1524)⟩]) 17, #[]⟩
noncomputable def ob96_15 (P : Params) : Obj := ⟨(.type "dict"), none, .dict (List.toArray [⟨120225, (.int 120225 1526), (.str (Str.ofString "b") 1527)⟩, ⟨120226, (.int 120226 1529), (.str (Str.ofString "c") 1530)⟩, ⟨120227, (.int 120227 1532), (.str (Str.ofString "d") 1533)⟩, ⟨120228, (.int 120228 1535), (.str (Str.ofString "e") 1536)⟩, ⟨120229, (.int 120229 1538), (.str (Str.ofString "f") 1539)⟩, ⟨120230, (.int 120230 1541), (.str (Str.ofString "g") 1542)⟩, ⟨120231, (.int 120231 1544), (.str (Str.ofString "h") 1545)⟩, ⟨120232, (.int 120232 1547), (.str (Str.ofString "i") 1548)⟩, ⟨120233, (.int 120233 1550), (.str (Str.ofString "j") 1551)⟩, ⟨120234, (.int 120234 1553), (.str (Str.ofString "k") 1554)⟩, ⟨120235, (.int 120235 1556), (.str (Str.ofString "l") 1557)⟩, ⟨120236, (.int 120236 1559), (.str (Str.ofString "m") 1560)⟩, ⟨120237, (.int 120237 1562), (.str (Str.ofString "n") 1563)⟩, ⟨120238, (.int 120238 1565), (.str (Str.ofString "o") 1566)⟩, ⟨120239, (.int 120239 1568), (.str (Str.ofString "p") 1569)⟩, ⟨120240, (.int 120240 1571), (.str (Str.ofString "q") 1572)⟩, ⟨120241, (.int 120241 1574), (.str (Str.ofString "r") 1575)⟩]) 17, #[]⟩
noncomputable def ob97_15 (P : Params) : Obj := ⟨(.type "dict"), none, .dict (List.toArray [⟨120242, (.int 120242 1577), (.str (Str.ofString "s") 1578)⟩, ⟨120243, (.int 120243 1580), (.str (Str.ofString "t") 1581)⟩, ⟨120244, (.int 120244 1583), (.str (Str.ofString "u") 1584)⟩, ⟨120245, (.int 120245 1586), (.str (Str.ofString "v") 1587)⟩, ⟨120246, (.int 120246 1589), (.str (Str.ofString "w") 1590)⟩, ⟨120247, (.int 120247 1592), (.str (Str.ofString "x") 1593)⟩, ⟨120248, (.int 120248 1595), (.str (Str.ofString "y") 1596)⟩, ⟨120249, (.int 120249 1598), (.str (Str.ofString "z") 1599)⟩, ⟨120276, (.int 120276 1601), (.str (Str.ofString "a") 1602)⟩, ⟨120277, (.int 120277 1604), (.str (Str.ofString "b") 1605)⟩, ⟨120278, (.int 120278 1607), (.str (Str.ofString "c") 1608)⟩, ⟨120279, (.int 120279 1610), (.str (Str.ofString "d") 1611)⟩, ⟨120280, (.int 120280 1613), (.str (Str.ofString "e") 1614)⟩, ⟨120281, (.int 120281 1616), (.str (Str.ofString "f") 1617)⟩, ⟨120282, (.int 120282 1619), (.str (Str.ofString "g") 1620)⟩, ⟨120283, (.int 120283 1622), (.str (Str.ofString "h") 1623)⟩, ⟨120284, (.int 120284 1625), (.str (Str.ofString "i") 1626)⟩]) 17, #[]⟩
noncomputable def ob98_15 (P : Params) : Obj := ⟨(.type "dict"), none, .dict (List.toArray [⟨120285, (.int 120285 1628), (.str (Str.ofString "j") 1629)⟩, ⟨120286, (.int 120286 1631), (.str (Str.ofString "k") 1632)⟩, ⟨120287, (.int 120287 1634), (.str (Str.ofString "l") 1635)⟩, ⟨120288, (.int 120288 1637), (.str (Str.ofString "m") 1638)⟩, ⟨120289, (.int 120289 1640), (.str (Str.ofString "n") 1641)⟩, ⟨120290, (.int 120290 1643), (.str (Str.ofString "o") 1644)⟩, ⟨120291, (.int 120291 1646), (.str (Str.ofString "p") 1647)⟩, ⟨120292, (.int 120292 1649), (.str (Str.ofString "q") 1650)⟩, ⟨120293, (.int 120293 1652), (.str (Str.ofString "r") 1653)⟩, ⟨120294, (.int 120294 1655), (.str (Str.ofString "s") 1656)⟩, ⟨120295, (.int 120295 1658), (.str (Str.ofString "t") 1659)⟩, ⟨120296, (.int 120296 1661), (.str (Str.ofString "u") 1662)⟩, ⟨120297, (.int 120297 1664), (.str (Str.ofString "v") 1665)⟩, ⟨120298, (.int 120298 1667), (.str (Str.ofString "w") 1668)⟩, ⟨120299, (.int 120299 1670), (.str (Str.ofString "x") 1671)⟩, ⟨120300, (.int 120300 1673), (.str (Str.ofString "y") 1674)⟩, ⟨120301, (.int 120301 1676), (.str (Str.ofString "z") 1677)⟩]) 17, #[]⟩
noncomputable def ob99_15 (P : Params) : Obj := ⟨(.type "dict"), none, .dict (List.toArray [⟨120328, (.int 120328 1679), (.str (Str.ofString "a") 1680)⟩, ⟨120329, (.int 120329 1682), (.str (Str.ofString "b") 1683)⟩, ⟨120330, (.int 120330 1685), (.str (Str.ofString "c") 1686)⟩, ⟨120331, (.int 120331 1688), (.str (Str.ofString "d") 1689)⟩, ⟨120332, (.int 120332 1691), (.str (Str.ofString "e") 1692)⟩, ⟨120333, (.int 120333 1694), (.str (Str.ofString "f") 1695)⟩, ⟨120334, (.int 120334 1697), (.str (Str.ofString "g") 1698)⟩, ⟨120335, (.int 120335 1700), (.str (Str.ofString "h") 1701)⟩, ⟨120336, (.int 120336 1703), (.str (Str.ofString "i") 1704)⟩, ⟨120337, (.int 120337 1706), (.str (Str.ofString "j") 1707)⟩, ⟨120338, (.int 120338 1709), (.str (Str.ofString "k") 1710)⟩, ⟨120339, (.int 120339 1712), (.str (Str.ofString "l") 1713)⟩, ⟨120340, (.int 120340 1715), (.str (Str.ofString "m") 1716)⟩, ⟨120341, (.int 120341 1718), (.str (Str.ofString "n") 1719)⟩, ⟨120342, (.int 120342 1721), (.str (Str.ofString "o") 1722)⟩, ⟨120343, (.int 120343 1724), (.str (Str.ofString "p") 1725)⟩, ⟨120344, (.int 120344 1727), (.str (Str.ofString "q") 1728)⟩]) 17, #[]⟩
noncomputable def ob100_15 (P : Params) : Obj := ⟨(.type "dict"), none, .dict (List.toArray [⟨120345, (.int 120345 1730), (.str (Str.ofString "r") 1731)⟩, ⟨120346, (.int 120346 1733), (.str (Str.ofString "s") 1734)⟩, ⟨120347, (.int 120347 1736), (.str (Str.ofString "t") 1737)⟩, ⟨120348, (.int 120348 1739), (.str (Str.ofString "u") 1740)⟩, ⟨120349, (.int 120349 1742), (.str (Str.ofString "v") 1743)⟩, ⟨120350, (.int 120350 1745), (.str (Str.ofString "w") 1746)⟩, ⟨120351, (.int 120351 1748), (.str (Str.ofString "x") 1749)⟩, ⟨120352, (.int 120352 1751), (.str (Str.ofString "y") 1752)⟩, ⟨120353, (.int 120353 1754), (.str (Str.ofString "z") 1755)⟩, ⟨120380, (.int 120380 1757), (.str (Str.ofString "a") 1758)⟩, ⟨120381, (.int 120381 1760), (.str (Str.ofString "b") 1761)⟩, ⟨120382, (.int 120382 1763), (.str (Str.ofString "c") 1764)⟩, ⟨120383, (.int 120383 1766), (.str (Str.ofString "d") 1767)⟩, ⟨120384, (.int 120384 1769), (.str (Str.ofString "e") 1770)⟩, ⟨120385, (.int 120385 1772), (.str (Str.ofString "f") 1773)⟩, ⟨120386, (.int 120386 1775), (.str (Str.ofString "g") 1776)⟩, ⟨120387, (.int 120387 1778), (.str (Str.ofString "h") 1779)⟩]) 17, #[]⟩
noncomputable def ob101_15 (P : Params) : Obj := ⟨(.type "dict"), none, .dict (List.toArray [⟨120388, (.int 120388 1781), (.str (Str.ofString "i") 1782)⟩, ⟨120389, (.int 120389 1784), (.str (Str.ofString "j") 1785)⟩, ⟨120390, (.int 120390 1787), (.str (Str.ofString "k") 1788)⟩, ⟨120391, (.int 120391 1790), (.str (Str.ofString "l") 1791)⟩, ⟨120392, (.int 120392 1793), (.str (Str.ofString "m") 1794)⟩, ⟨120393, (.int 120393 1796), (.str (Str.ofString "n") 1797)⟩, ⟨120394, (.int 120394 1799), (.str (Str.ofString "o") 1800)⟩, ⟨120395, (.int 120395 1802), (.str (Str.ofString "p") 1803)⟩, ⟨120396, (.int 120396 1805), (.str (Str.ofString "q") 1806)⟩, ⟨120397, (.int 120397 1808), (.str (Str.ofString "r") 1809)⟩, ⟨120398, (.int 120398 1811), (.str (Str.ofString "s") 1812)⟩, ⟨120399, (.int 120399 1814), (.str (Str.ofString "t") 1815)⟩, ⟨120400, (.int 120400 1817), (.str (Str.ofString "u") 1818)⟩, ⟨120401, (.int 120401 1820), (.str (Str.ofString "v") 1821)⟩, ⟨120402, (.int 120402 1823), (.str (Str.ofString "w") 1824)⟩, ⟨120403, (.int 120403 1826), (.str (Str.ofString "x") 1827)⟩, ⟨120404, (.int 120404 1829), (.str (Str.ofString "y") 1830)⟩]) 17, #[]⟩
noncomputable def ob102_15 (P : Params) : Obj := ⟨(.type "dict"), none, .dict (List.toArray [⟨120405, (.int 120405 1832), (.str (Str.ofString "z") 1833)⟩, ⟨120432, (.int 120432 1835), (.str (Str.ofString "a") 1836)⟩, ⟨120433, (.int 120433 1838), (.str (Str.ofString "b") 1839)⟩, ⟨120434, (.int 120434 1841), (.str (Str.ofString "c") 1842)⟩, ⟨120435, (.int 120435 1844), (.str (Str.ofString "d") 1845)⟩, ⟨120436, (.int 120436 1847), (.str (Str.ofString "e") 1848)⟩, ⟨120437, (.int 120437 1850), (.str (Str.ofString "f") 1851)⟩, ⟨120438, (.int 120438 1853), (.str (Str.ofString "g") 1854)⟩, ⟨120439, (.int 120439 1856), (.str (Str.ofString "h") 1857)⟩, ⟨120440, (.int 120440 1859), (.str (Str.ofString "i") 1860)⟩, ⟨120441, (.int 120441 1862), (.str (Str.ofString "j") 1863)⟩, ⟨120442, (.int 120442 1865), (.str (Str.ofString "k") 1866)⟩, ⟨120443, (.int 120443 1868), (.str (Str.ofString "l") 1869)⟩, ⟨120444, (.int 120444 1871), (.str (Str.ofString "m") 1872)⟩, ⟨120445, (.int 120445 1874), (.str (Str.ofString "n") 1875)⟩, ⟨120446, (.int 120446 1877), (.str (Str.ofString "o") 1878)⟩, ⟨120447, (.int 120447 1880), (.str (Str.ofString "p") 1881)⟩]) 17, #[]⟩
noncomputable def ob103_15 (P : Params) : Obj := ⟨(.type "dict"), none, .dict (List.toArray [⟨120448, (.int 120448 1883), (.str (Str.ofString "q") 1884)⟩, ⟨120449, (.int 120449 1886), (.str (Str.ofString "r") 1887)⟩, ⟨120450, (.int 120450 1889), (.str (Str.ofString "s") 1890)⟩, ⟨120451, (.int 120451 1892), (.str (Str.ofString "t") 1893)⟩, ⟨120452, (.int 120452 1895), (.str (Str.ofString "u") 1896)⟩, ⟨120453, (.int 120453 1898), (.str (Str.ofString "v") 1899)⟩, ⟨120454, (.int 120454 1901), (.str (Str.ofString "w") 1902)⟩, ⟨120455, (.int 120455 1904), (.str (Str.ofString "x") 1905)⟩, ⟨120456, (.int 120456 1907), (.str (Str.ofString "y") 1908)⟩, ⟨120457, (.int 120457 1910), (.str (Str.ofString "z") 1911)⟩, ⟨120488, (.int 120488 1913), (.str (Str.mk #[945]) 1914)⟩, ⟨120489, (.int 120489 1916), (.str (Str.mk #[946]) 1917)⟩, ⟨120490, (.int 120490 1919), (.str (Str.mk #[947]) 1920)⟩, ⟨120491, (.int 120491 1922), (.str (Str.mk #[948]) 1923)⟩, ⟨120492, (.int 120492 1925), (.str (Str.mk #[949]) 1926)⟩, ⟨120493, (.int 120493 1928), (.str (Str.mk #[950]) 1929)⟩, ⟨120494, (.int 120494 1931), (.str (Str.mk #[951]) 1932)⟩]) 17, #[]⟩
noncomputable def ob104_15 (P : Params) : Obj := ⟨(.type "dict"), none, .dict (List.toArray [⟨120495, (.int 120495 1934), (.str (Str.mk #[952]) 1935)⟩, ⟨120496, (.int 120496 1937), (.str (Str.mk #[953]) 1938)⟩, ⟨120497, (.int 120497 1940), (.str (Str.mk #[954]) 1941)⟩, ⟨120498, (.int 120498 1943), (.str (Str.mk #[955]) 1944)⟩, ⟨120499, (.int 120499 1946), (.str (Str.mk #[956]) 1947)⟩, ⟨120500, (.int 120500 1949), (.str (Str.mk #[957]) 1950)⟩, ⟨120501, (.int 120501 1952), (.str (Str.mk #[958]) 1953)⟩, ⟨120502, (.int 120502 1955), (.str (Str.mk #[959]) 1956)⟩, ⟨120503, (.int 120503 1958), (.str (Str.mk #[960]) 1959)⟩, ⟨120504, (.int 120504 1961), (.str (Str.mk #[961]) 1962)⟩, ⟨120505, (.int 120505 1964), (.str (Str.mk #[952]) 1965)⟩, ⟨120506, (.int 120506 1967), (.str (Str.mk #[963]) 1968)⟩, ⟨120507, (.int 120507 1970), (.str (Str.mk #[964]) 1971)⟩, ⟨120508, (.int 120508 1973), (.str (Str.mk #[965]) 1974)⟩, ⟨120509, (.int 120509 1976), (.str (Str.mk #[966]) 1977)⟩, ⟨120510, (.int 120510 1979), (.str (Str.mk #[967]) 1980)⟩, ⟨120511, (.int 120511 1982), (.str (Str.mk #[968]) 1983)⟩]) 17, #[]⟩
noncomputable def ob105_15 (P : Params) : Obj := ⟨(.type "dict"), none, .dict (List.toArray [⟨120512, (.int 120512 1985), (.str (Str.mk #[969]) 1986)⟩, ⟨120531, (.int 120531 1988), (.str (Str.mk #[963]) 1989)⟩, ⟨120546, (.int 120546 1991), (.str (Str.mk #[945]) 1992)⟩, ⟨120547, (.int 120547 1994), (.str (Str.mk #[946]) 1995)⟩, ⟨120548, (.int 120548 1997), (.str (Str.mk #[947]) 1998)⟩, ⟨120549, (.int 120549 2000), (.str (Str.mk #[948]) 2001)⟩, ⟨120550, (.int 120550 2003), (.str (Str.mk #[949]) 2004)⟩, ⟨120551, (.int 120551 2006), (.str (Str.mk #[950]) 2007)⟩, ⟨120552, (.int 120552 2009), (.str (Str.mk #[951]) 2010)⟩, ⟨120553, (.int 120553 2012), (.str (Str.mk #[952]) 2013)⟩, ⟨120554, (.int 120554 2015), (.str (Str.mk #[953]) 2016)⟩, ⟨120555, (.int 120555 2018), (.str (Str.mk #[954]) 2019)⟩, ⟨120556, (.int 120556 2021), (.str (Str.mk #[955]) 2022)⟩, ⟨120557, (.int 120557 2024), (.str (Str.mk #[956]) 2025)⟩, ⟨120558, (.int 120558 2027), (.str (Str.mk #[957]) 2028)⟩, ⟨120559, (.int 120559 2030), (.str (Str.mk #[958]) 2031)⟩, ⟨120560, (.int 120560 2033), (.str (Str.mk #[959]) 2034)⟩]) 17, #[]⟩
noncomputable def ob106_15 (P : Params) : Obj := ⟨(.type "dict"), none, .dict (List.toArray [⟨120561, (.int 120561 2036), (.str (Str.mk #[960]) 2037)⟩, ⟨120562, (.int 120562 2039), (.str (Str.mk #[961]) 2040)⟩, ⟨120563, (.int 120563 2042), (.str (Str.mk #[952]) 2043)⟩, ⟨120564, (.int 120564 2045), (.str (Str.mk #[963]) 2046)⟩, ⟨120565, (.int 120565 2048), (.str (Str.mk #[964]) 2049)⟩, ⟨120566, (.int 120566 2051), (.str (Str.mk #[965]) 2052)⟩, ⟨120567, (.int 120567 2054), (.str (Str.mk #[966]) 2055)⟩, ⟨120568, (.int 120568 2057), (.str (Str.mk #[967]) 2058)⟩, ⟨120569, (.int 120569 2060), (.str (Str.mk #[968]) 2061)⟩, ⟨120570, (.int 120570 2063), (.str (Str.mk #[969]) 2064)⟩, ⟨120589, (.int 120589 2066), (.str (Str.mk #[963]) 2067)⟩, ⟨120604, (.int 120604 2069), (.str (Str.mk #[945]) 2070)⟩, ⟨120605, (.int 120605 2072), (.str (Str.mk #[946]) 2073)⟩, ⟨120606, (.int 120606 2075), (.str (Str.mk #[947]) 2076)⟩, ⟨120607, (.int 120607 2078), (.str (Str.mk #[948]) 2079)⟩, ⟨120608, (.int 120608 2081), (.str (Str.mk #[949]) 2082)⟩, ⟨120609, (.int 120609 2084), (.str (Str.mk #[950]) 2085)⟩]) 17, #[]⟩
noncomputable def ob107_15 (P : Params) : Obj := ⟨(.type "dict"), none, .dict (List.toArray [⟨120610, (.int 120610 2087), (.str (Str.mk #[951]) 2088)⟩, ⟨120611, (.int 120611 2090), (.str (Str.mk #[952]) 2091)⟩, ⟨120612, (.int 120612 2093), (.str (Str.mk #[953]) 2094)⟩, ⟨120613, (.int 120613 2096), (.str (Str.mk #[954]) 2097)⟩, ⟨120614, (.int 120614 2099), (.str (Str.mk #[955]) 2100)⟩, ⟨120615, (.int 120615 2102), (.str (Str.mk #[956]) 2103)⟩, ⟨120616, (.int 120616 2105), (.str (Str.mk #[957]) 2106)⟩, ⟨120617, (.int 120617 2108), (.str (Str.mk #[958]) 2109)⟩, ⟨120618, (.int 120618 2111), (.str (Str.mk #[959]) 2112)⟩, ⟨120619, (.int 120619 2114), (.str (Str.mk #[960]) 2115)⟩, ⟨120620, (.int 120620 2117), (.str (Str.mk #[961]) 2118)⟩, ⟨120621, (.int 120621 2120), (.str (Str.mk #[952]) 2121)⟩, ⟨120622, (.int 120622 2123), (.str (Str.mk #[963]) 2124)⟩, ⟨120623, (.int 120623 2126), (.str (Str.mk #[964]) 2127)⟩, ⟨120624, (.int 120624 2129), (.str (Str.mk #[965]) 2130)⟩, ⟨120625, (.int 120625 2132), (.str (Str.mk #[966]) 2133)⟩, ⟨120626, (.int 120626 2135), (.str (Str.mk #[967]) 2136)⟩]) 17, #[]⟩
noncomputable def ob108_15 (P : Params) : Obj := ⟨(.type "dict"), none, .dict (List.toArray [⟨120627, (.int 120627 2138), (.str (Str.mk #[968]) 2139)⟩, ⟨120628, (.int 120628 2141), (.str (Str.mk #[969]) 2142)⟩, ⟨120647, (.int 120647 2144), (.str (Str.mk #[963]) 2145)⟩, ⟨120662, (.int 120662 2147), (.str (Str.mk #[945]) 2148)⟩, ⟨120663, (.int 120663 2150), (.str (Str.mk #[946]) 2151)⟩, ⟨120664, (.int 120664 2153), (.str (Str.mk #[947]) 2154)⟩, ⟨120665, (.int 120665 2156), (.str (Str.mk #[948]) 2157)⟩, ⟨120666, (.int 120666 2159), (.str (Str.mk #[949]) 2160)⟩, ⟨120667, (.int 120667 2162), (.str (Str.mk #[950]) 2163)⟩, ⟨120668, (.int 120668 2165), (.str (Str.mk #[951]) 2166)⟩, ⟨120669, (.int 120669 2168), (.str (Str.mk #[952]) 2169)⟩, ⟨120670, (.int 120670 2171), (.str (Str.mk #[953]) 2172)⟩, ⟨120671, (.int 120671 2174), (.str (Str.mk #[954]) 2175)⟩, ⟨120672, (.int 120672 2177), (.str (Str.mk #[955]) 2178)⟩, ⟨120673, (.int 120673 2180), (.str (Str.mk #[956]) 2181)⟩, ⟨120674, (.int 120674 2183), (.str (Str.mk #[957]) 2184)⟩, ⟨120675, (.int 120675 2186), (.str (Str.mk #[958]) 2187)⟩]) 17, #[]⟩
noncomputable def ob109_15 (P : Params) : Obj := ⟨(.type "dict"), none, .dict (List.toArray [⟨120676, (.int 120676 2189), (.str (Str.mk #[959]) 2190)⟩, ⟨120677, (.int 120677 2192), (.str (Str.mk #[960]) 2193)⟩, ⟨120678, (.int 120678 2195), (.str (Str.mk #[961]) 2196)⟩, ⟨120679, (.int 120679 2198), (.str (Str.mk #[952]) 2199)⟩, ⟨120680, (.int 120680 2201), (.str (Str.mk #[963]) 2202)⟩, ⟨120681, (.int 120681 2204), (.str (Str.mk #[964]) 2205)⟩, ⟨120682, (.int 120682 2207), (.str (Str.mk #[965]) 2208)⟩, ⟨120683, (.int 120683 2210), (.str (Str.mk #[966]) 2211)⟩, ⟨120684, (.int 120684 2213), (.str (Str.mk #[967]) 2214)⟩, ⟨120685, (.int 120685 2216), (.str (Str.mk #[968]) 2217)⟩, ⟨120686, (.int 120686 2219), (.str (Str.mk #[969]) 2220)⟩, ⟨120705, (.int 120705 2222), (.str (Str.mk #[963]) 2223)⟩, ⟨120720, (.int 120720 2225), (.str (Str.mk #[945]) 2226)⟩, ⟨120721, (.int 120721 2228), (.str (Str.mk #[946]) 2229)⟩, ⟨120722, (.int 120722 2231), (.str (Str.mk #[947]) 2232)⟩, ⟨120723, (.int 120723 2234), (.str (Str.mk #[948]) 2235)⟩, ⟨120724, (.int 120724 2237), (.str (Str.mk #[949]) 2238)⟩]) 17, #[]⟩
noncomputable def ob110_15 (P : Params) : Obj := ⟨(.type "dict"), none, .dict (List.toArray [⟨120725, (.int 120725 2240), (.str (Str.mk #[950]) 2241)⟩, ⟨120726, (.int 120726 2243), (.str (Str.mk #[951]) 2244)⟩, ⟨120727, (.int 120727 2246), (.str (Str.mk #[952]) 2247)⟩, ⟨120728, (.int 120728 2249), (.str (Str.mk #[953]) 2250)⟩, ⟨120729, (.int 120729 2252), (.str (Str.mk #[954]) 2253)⟩, ⟨120730, (.int 120730 2255), (.str (Str.mk #[955]) 2256)⟩, ⟨120731, (.int 120731 2258), (.str (Str.mk #[956]) 2259)⟩, ⟨120732, (.int 120732 2261), (.str (Str.mk #[957]) 2262)⟩, ⟨120733, (.int 120733 2264), (.str (Str.mk #[958]) 2265)⟩, ⟨120734, (.int 120734 2267), (.str (Str.mk #[959]) 2268)⟩, ⟨120735, (.int 120735 2270), (.str (Str.mk #[960]) 2271)⟩, ⟨120736, (.int 120736 2273), (.str (Str.mk #[961]) 2274)⟩, ⟨120737, (.int 120737 2276), (.str (Str.mk #[952]) 2277)⟩, ⟨120738, (.int 120738 2279), (.str (Str.mk #[963]) 2280)⟩, ⟨120739, (.int 120739 2282), (.str (Str.mk #[964]) 2283)⟩, ⟨120740, (.int 120740 2285), (.str (Str.mk #[965]) 2286)⟩, ⟨120741, (.int 120741 2288), (.str (Str.mk #[966]) 2289)⟩]) 17, #[]⟩
noncomputable def ob111_15 (P : Params) : Obj := ⟨(.type "dict"), none, .dict (List.toArray [⟨120742, (.int 120742 2291), (.str (Str.mk #[967]) 2292)⟩, ⟨120743, (.int 120743 2293), (.str (Str.mk #[968]) 2294)⟩, ⟨120744, (.int 120744 2295), (.str (Str.mk #[969]) 2296)⟩, ⟨120763, (.int 120763 2297), (.str (Str.mk #[963]) 2298)⟩]) 4, #[]⟩
noncomputable def ob3_16 (P : Params) : Obj := ⟨(.type "dict"), none, .dict (List.toArray [⟨PyData.keyHash P (Str.ofString "__name__"), (.str (Str.ofString "__name__") 165), (.str (Str.ofString "cpy313.stringprep") 284)⟩, ⟨PyData.keyHash P (Str.ofString "__doc__"), (.str (Str.ofString "__doc__") 166), .none⟩, ⟨PyData.keyHash P (Str.ofString "__package__"), (.str (Str.ofString "__package__") 167), .none⟩, ⟨PyData.keyHash P (Str.ofString "__loader__"), (.str (Str.ofString "__loader__") 168), (.builtin "__main__.__loader__#opaque")⟩, ⟨PyData.keyHash P (Str.ofString "__spec__"), (.str (Str.ofString "__spec__") 169), .none⟩, ⟨PyData.keyHash P (Str.ofString "__annotations__"), (.str (Str.ofString "__annotations__") 170), (.ref 6)⟩, ⟨PyData.keyHash P (Str.ofString "__builtins__"), (.str (Str.ofString "__builtins__") 171), (.ref 4)⟩, ⟨PyData.keyHash P (Str.ofString "__file__"), (.str (Str.ofString "__file__") 173), (.str (Str.ofString "/claim/cut.py") 172)⟩, ⟨PyData.keyHash P (Str.ofString "__cached__"), (.str (Str.ofString "__cached__") 174), .none⟩, ⟨PyData.keyHash P (Str.ofString "bisect_right"), (.str (Str.ofString "bisect_right") 202), (.ref 23)⟩, ⟨PyData.keyHash P (Str.ofString "bisect_left"), (.str (Str.ofString "bisect_left") 216), (.ref 32)⟩, ⟨PyData.keyHash P (Str.ofString "COMPILER_FLAG_NAMES"), (.str (Str.ofString "COMPILER_FLAG_NAMES") 249), (.ref 33)⟩, ⟨PyData.keyHash P (Str.ofString "pretty_flags"), (.str (Str.ofString "pretty_flags") 259), (.ref 40)⟩, ⟨PyData.keyHash P (Str.ofString "_iter_escaped_chars"), (.str (Str.ofString "_iter_escaped_chars") 271), (.ref 47)⟩, ⟨PyData.keyHash P (Str.ofString "_strip_quoted_realnames"), (.str (Str.ofString "_strip_quoted_realnames") 283), (.ref 54)⟩, ⟨PyData.keyHash P (Str.ofString "b1_set"), (.str (Str.ofString "b1_set") 345), (.ref 62)⟩, ⟨PyData.keyHash P (Str.ofString "in_table_b1"), (.str (Str.ofString "in_table_b1") 352), (.ref 72)⟩, ⟨PyData.keyHash P (Str.ofString "b3_exceptions"), (.str (Str.ofString "b3_exceptions") 2303), (.ref 73)⟩, ⟨PyData.keyHash P (Str.ofString "map_table_b3"), (.str (Str.ofString "map_table_b3") 2311), (.ref 118)⟩]) 19, #[]⟩
noncomputable def ob12_16 (P : Params) : Obj := ⟨.none, none, .fields (List.toArray [(.int 2 0), (.int 0 0), (.ref 22), (.int 22 0), (.int 0 0), (.ref 31), (.int 44 0), (.int 0 0), (.ref 39), (.int 57 0), (.int 0 0), (.ref 46), (.int 70 0), (.int 0 0), (.ref 53), (.int 90 0), (.int 0 0), (.ref 71), (.int 93 0), (.int 0 0), (.ref 117)]), #[]⟩
noncomputable def ob112_16 (P : Params) : Obj := ⟨(.type "tuple"), none, .seq (List.toArray []) 0, #[]⟩
noncomputable def ob113_16 (P : Params) : Obj := ⟨.none, none, .fields (List.toArray []), #[]⟩
noncomputable def ob114_16 (P : Params) : Obj := ⟨(.type "tuple"), none, .seq (List.toArray [(.str (Str.ofString "code") 2307), (.str (Str.ofString "r") 2308)]) 0, #[]⟩
noncomputable def ob115_16 (P : Params) : Obj := ⟨(.type "tuple"), none, .seq (List.toArray []) 0, #[]⟩
noncomputable def ob116_16 (P : Params) : Obj := ⟨.none, none, .func ⟨(Str.ofString "map_table_b3"), (Str.ofString "map_table_b3"), fA 13, .stmts (fB 13), fS 13, 0, [], .none, .none, .none, .none, none, .none, .none, 0⟩, #[]⟩
noncomputable def ob117_16 (P : Params) : Obj := ⟨(.type "code"), none, .fields (List.toArray [(.str (Str.ofString "map_table_b3") 2304), (.str (Str.ofString "map_table_b3") 2305), (.str (Str.ofString "/claim/cut.py") 2306), (.int 93 0), (.int 1 0), (.int 0 0), (.int 0 0), (.int 3 0), (.ref 112), (.bool true), (.int 181 0), (.ref 113), .none, (.ref 114), (.ref 115), (.ref 116), (.int 2309 0), (.int 93 0), (.str (Str.ofString "/claim/cut.py") 2310)]), #[]⟩
noncomputable def ob118_16 (P : Params) : Obj := ⟨(.type "function"), none, .func ⟨(Str.ofString "map_table_b3"), (Str.ofString "map_table_b3"), fA 13, .stmts (fB 13), fS 13, 3, [], .none, .none, .none, (.str (Str.ofString "cpy313.stringprep") 284), none, (.ref 117), .none, 0⟩, #[]⟩
noncomputable def ob3_17 (P : Params) : Obj := ⟨(.type "dict"), none, .dict (List.toArray [⟨PyData.keyHash P (Str.ofString "__name__"), (.str (Str.ofString "__name__") 165), (.str (Str.ofString "law_wf0083_01") 2312)⟩, ⟨PyData.keyHash P (Str.ofString "__doc__"), (.str (Str.ofString "__doc__") 166), .none⟩, ⟨PyData.keyHash P (Str.ofString "__package__"), (.str (Str.ofString "__package__") 167), .none⟩, ⟨PyData.keyHash P (Str.ofString "__loader__"), (.str (Str.ofString "__loader__") 168), (.builtin "__main__.__loader__#opaque")⟩, ⟨PyData.keyHash P (Str.ofString "__spec__"), (.str (Str.ofString "__spec__") 169), .none⟩, ⟨PyData.keyHash P (Str.ofString "__annotations__"), (.str (Str.ofString "__annotations__") 170), (.ref 6)⟩, ⟨PyData.keyHash P (Str.ofString "__builtins__"), (.str (Str.ofString "__builtins__") 171), (.ref 4)⟩, ⟨PyData.keyHash P (Str.ofString "__file__"), (.str (Str.ofString "__file__") 173), (.str (Str.ofString "/claim/cut.py") 172)⟩, ⟨PyData.keyHash P (Str.ofString "__cached__"), (.str (Str.ofString "__cached__") 174), .none⟩, ⟨PyData.keyHash P (Str.ofString "bisect_right"), (.str (Str.ofString "bisect_right") 202), (.ref 23)⟩, ⟨PyData.keyHash P (Str.ofString "bisect_left"), (.str (Str.ofString "bisect_left") 216), (.ref 32)⟩, ⟨PyData.keyHash P (Str.ofString "COMPILER_FLAG_NAMES"), (.str (Str.ofString "COMPILER_FLAG_NAMES") 249), (.ref 33)⟩, ⟨PyData.keyHash P (Str.ofString "pretty_flags"), (.str (Str.ofString "pretty_flags") 259), (.ref 40)⟩, ⟨PyData.keyHash P (Str.ofString "_iter_escaped_chars"), (.str (Str.ofString "_iter_escaped_chars") 271), (.ref 47)⟩, ⟨PyData.keyHash P (Str.ofString "_strip_quoted_realnames"), (.str (Str.ofString "_strip_quoted_realnames") 283), (.ref 54)⟩, ⟨PyData.keyHash P (Str.ofString "b1_set"), (.str (Str.ofString "b1_set") 345), (.ref 62)⟩, ⟨PyData.keyHash P (Str.ofString "in_table_b1"), (.str (Str.ofString "in_table_b1") 352), (.ref 72)⟩, ⟨PyData.keyHash P (Str.ofString "b3_exceptions"), (.str (Str.ofString "b3_exceptions") 2303), (.ref 73)⟩, ⟨PyData.keyHash P (Str.ofString "map_table_b3"), (.str (Str.ofString "map_table_b3") 2311), (.ref 118)⟩]) 19, #[]⟩
noncomputable def ob3_18 (P : Params) : Obj := ⟨(.type "dict"), none, .dict (List.toArray [⟨PyData.keyHash P (Str.ofString "__name__"), (.str (Str.ofString "__name__") 165), (.str (Str.ofString "law_wf0083_01") 2312)⟩, ⟨PyData.keyHash P (Str.ofString "__doc__"), (.str (Str.ofString "__doc__") 166), .none⟩, ⟨PyData.keyHash P (Str.ofString "__package__"), (.str (Str.ofString "__package__") 167), .none⟩, ⟨PyData.keyHash P (Str.ofString "__loader__"), (.str (Str.ofString "__loader__") 168), (.builtin "__main__.__loader__#opaque")⟩, ⟨PyData.keyHash P (Str.ofString "__spec__"), (.str (Str.ofString "__spec__") 169), .none⟩, ⟨PyData.keyHash P (Str.ofString "__annotations__"), (.str (Str.ofString "__annotations__") 170), (.ref 6)⟩, ⟨PyData.keyHash P (Str.ofString "__builtins__"), (.str (Str.ofString "__builtins__") 171), (.ref 4)⟩, ⟨PyData.keyHash P (Str.ofString "__file__"), (.str (Str.ofString "__file__") 173), (.str (Str.ofString "/claim/cut.py") 172)⟩, ⟨PyData.keyHash P (Str.ofString "__cached__"), (.str (Str.ofString "__cached__") 174), .none⟩, ⟨PyData.keyHash P (Str.ofString "bisect_right"), (.str (Str.ofString "bisect_right") 202), (.ref 23)⟩, ⟨PyData.keyHash P (Str.ofString "bisect_left"), (.str (Str.ofString "bisect_left") 216), (.ref 32)⟩, ⟨PyData.keyHash P (Str.ofString "COMPILER_FLAG_NAMES"), (.str (Str.ofString "COMPILER_FLAG_NAMES") 249), (.ref 33)⟩, ⟨PyData.keyHash P (Str.ofString "pretty_flags"), (.str (Str.ofString "pretty_flags") 259), (.ref 40)⟩, ⟨PyData.keyHash P (Str.ofString "_iter_escaped_chars"), (.str (Str.ofString "_iter_escaped_chars") 271), (.ref 47)⟩, ⟨PyData.keyHash P (Str.ofString "_strip_quoted_realnames"), (.str (Str.ofString "_strip_quoted_realnames") 283), (.ref 54)⟩, ⟨PyData.keyHash P (Str.ofString "b1_set"), (.str (Str.ofString "b1_set") 345), (.ref 62)⟩, ⟨PyData.keyHash P (Str.ofString "in_table_b1"), (.str (Str.ofString "in_table_b1") 352), (.ref 72)⟩, ⟨PyData.keyHash P (Str.ofString "b3_exceptions"), (.str (Str.ofString "b3_exceptions") 2303), (.ref 73)⟩, ⟨PyData.keyHash P (Str.ofString "map_table_b3"), (.str (Str.ofString "map_table_b3") 2311), (.ref 118)⟩, ⟨PyData.keyHash P (Str.ofString "_law_cascade"), (.str (Str.ofString "_law_cascade") 2324), (.ref 125)⟩]) 20, #[]⟩
noncomputable def ob12_18 (P : Params) : Obj := ⟨.none, none, .fields (List.toArray [(.int 2 0), (.int 0 0), (.ref 22), (.int 22 0), (.int 0 0), (.ref 31), (.int 44 0), (.int 0 0), (.ref 39), (.int 57 0), (.int 0 0), (.ref 46), (.int 70 0), (.int 0 0), (.ref 53), (.int 90 0), (.int 0 0), (.ref 71), (.int 93 0), (.int 0 0), (.ref 117), (.int 99 0), (.int 0 0), (.ref 124)]), #[]⟩
noncomputable def ob119_18 (P : Params) : Obj := ⟨(.type "tuple"), none, .seq (List.toArray []) 0, #[]⟩
noncomputable def ob120_18 (P : Params) : Obj := ⟨.none, none, .fields (List.toArray []), #[]⟩
noncomputable def ob121_18 (P : Params) : Obj := ⟨(.type "tuple"), none, .seq (List.toArray [(.str (Str.ofString "number") 2317), (.str (Str.ofString "columns") 2318), (.str (Str.ofString "places") 2319), (.str (Str.ofString "column") 2320), (.str (Str.ofString "c") 2321)]) 0, #[]⟩
noncomputable def ob122_18 (P : Params) : Obj := ⟨(.type "tuple"), none, .seq (List.toArray []) 0, #[]⟩
noncomputable def ob123_18 (P : Params) : Obj := ⟨.none, none, .func ⟨(Str.ofString "_law_cascade"), (Str.ofString "_law_cascade"), fA 15, .stmts (fB 15), fS 15, 0, [], .none, .none, .none, .none, none, .none, .none, 0⟩, #[]⟩
noncomputable def ob124_18 (P : Params) : Obj := ⟨(.type "code"), none, .fields (List.toArray [(.str (Str.ofString "_law_cascade") 2314), (.str (Str.ofString "_law_cascade") 2315), (.str (Str.ofString "/claim/cut.py") 2316), (.int 99 0), (.int 1 0), (.int 0 0), (.int 0 0), (.int 3 0), (.ref 119), (.bool true), (.int 181 0), (.ref 120), .none, (.ref 121), (.ref 122), (.ref 123), (.int 2322 0), (.int 99 0), (.str (Str.ofString "/claim/cut.py") 2323)]), #[]⟩
noncomputable def ob125_18 (P : Params) : Obj := ⟨(.type "function"), none, .func ⟨(Str.ofString "_law_cascade"), (Str.ofString "_law_cascade"), fA 15, .stmts (fB 15), fS 15, 3, [], .none, .none, .none, (.str (Str.ofString "law_wf0083_01") 2312), none, (.ref 124), .none, 0⟩, #[]⟩
noncomputable def ob3_19 (P : Params) : Obj := ⟨(.type "dict"), none, .dict (List.toArray [⟨PyData.keyHash P (Str.ofString "__name__"), (.str (Str.ofString "__name__") 165), (.str (Str.ofString "law_wf0083_01") 2312)⟩, ⟨PyData.keyHash P (Str.ofString "__doc__"), (.str (Str.ofString "__doc__") 166), .none⟩, ⟨PyData.keyHash P (Str.ofString "__package__"), (.str (Str.ofString "__package__") 167), .none⟩, ⟨PyData.keyHash P (Str.ofString "__loader__"), (.str (Str.ofString "__loader__") 168), (.builtin "__main__.__loader__#opaque")⟩, ⟨PyData.keyHash P (Str.ofString "__spec__"), (.str (Str.ofString "__spec__") 169), .none⟩, ⟨PyData.keyHash P (Str.ofString "__annotations__"), (.str (Str.ofString "__annotations__") 170), (.ref 6)⟩, ⟨PyData.keyHash P (Str.ofString "__builtins__"), (.str (Str.ofString "__builtins__") 171), (.ref 4)⟩, ⟨PyData.keyHash P (Str.ofString "__file__"), (.str (Str.ofString "__file__") 173), (.str (Str.ofString "/claim/cut.py") 172)⟩, ⟨PyData.keyHash P (Str.ofString "__cached__"), (.str (Str.ofString "__cached__") 174), .none⟩, ⟨PyData.keyHash P (Str.ofString "bisect_right"), (.str (Str.ofString "bisect_right") 202), (.ref 23)⟩, ⟨PyData.keyHash P (Str.ofString "bisect_left"), (.str (Str.ofString "bisect_left") 216), (.ref 32)⟩, ⟨PyData.keyHash P (Str.ofString "COMPILER_FLAG_NAMES"), (.str (Str.ofString "COMPILER_FLAG_NAMES") 249), (.ref 33)⟩, ⟨PyData.keyHash P (Str.ofString "pretty_flags"), (.str (Str.ofString "pretty_flags") 259), (.ref 40)⟩, ⟨PyData.keyHash P (Str.ofString "_iter_escaped_chars"), (.str (Str.ofString "_iter_escaped_chars") 271), (.ref 47)⟩, ⟨PyData.keyHash P (Str.ofString "_strip_quoted_realnames"), (.str (Str.ofString "_strip_quoted_realnames") 283), (.ref 54)⟩, ⟨PyData.keyHash P (Str.ofString "b1_set"), (.str (Str.ofString "b1_set") 345), (.ref 62)⟩, ⟨PyData.keyHash P (Str.ofString "in_table_b1"), (.str (Str.ofString "in_table_b1") 352), (.ref 72)⟩, ⟨PyData.keyHash P (Str.ofString "b3_exceptions"), (.str (Str.ofString "b3_exceptions") 2303), (.ref 73)⟩, ⟨PyData.keyHash P (Str.ofString "map_table_b3"), (.str (Str.ofString "map_table_b3") 2311), (.ref 118)⟩, ⟨PyData.keyHash P (Str.ofString "_law_cascade"), (.str (Str.ofString "_law_cascade") 2324), (.ref 125)⟩, ⟨PyData.keyHash P (Str.ofString "_law_left"), (.str (Str.ofString "_law_left") 2330), (.ref 130)⟩]) 21, #[]⟩
noncomputable def ob12_19 (P : Params) : Obj := ⟨.none, none, .fields (List.toArray [(.int 2 0), (.int 0 0), (.ref 22), (.int 22 0), (.int 0 0), (.ref 31), (.int 44 0), (.int 0 0), (.ref 39), (.int 57 0), (.int 0 0), (.ref 46), (.int 70 0), (.int 0 0), (.ref 53), (.int 90 0), (.int 0 0), (.ref 71), (.int 93 0), (.int 0 0), (.ref 117), (.int 99 0), (.int 0 0), (.ref 124), (.int 107 0), (.int 0 0), (.ref 129)]), #[]⟩
noncomputable def ob126_19 (P : Params) : Obj := ⟨(.type "tuple"), none, .seq (List.toArray []) 0, #[]⟩
noncomputable def ob127_19 (P : Params) : Obj := ⟨.none, none, .fields (List.toArray []), #[]⟩
noncomputable def ob128_19 (P : Params) : Obj := ⟨.none, none, .func ⟨(Str.ofString "_law_left"), (Str.ofString "_law_left"), fA 16, .stmts (fB 16), fS 16, 0, [], .none, .none, .none, .none, none, .none, .none, 0⟩, #[]⟩
noncomputable def ob129_19 (P : Params) : Obj := ⟨(.type "code"), none, .fields (List.toArray [(.str (Str.ofString "_law_left") 2325), (.str (Str.ofString "_law_left") 2326), (.str (Str.ofString "/claim/cut.py") 2327), (.int 107 0), (.int 4 0), (.int 0 0), (.int 0 0), (.int 3 0), (.ref 126), (.bool true), (.int 181 0), (.ref 127), .none, .none, .none, (.ref 128), (.int 2328 0), (.int 107 0), (.str (Str.ofString "/claim/cut.py") 2329)]), #[]⟩
noncomputable def ob130_19 (P : Params) : Obj := ⟨(.type "function"), none, .func ⟨(Str.ofString "_law_left"), (Str.ofString "_law_left"), fA 16, .stmts (fB 16), fS 16, 3, [], .none, .none, .none, (.str (Str.ofString "law_wf0083_01") 2312), none, (.ref 129), .none, 0⟩, #[]⟩
noncomputable def ob3_20 (P : Params) : Obj := ⟨(.type "dict"), none, .dict (List.toArray [⟨PyData.keyHash P (Str.ofString "__name__"), (.str (Str.ofString "__name__") 165), (.str (Str.ofString "law_wf0083_01") 2312)⟩, ⟨PyData.keyHash P (Str.ofString "__doc__"), (.str (Str.ofString "__doc__") 166), .none⟩, ⟨PyData.keyHash P (Str.ofString "__package__"), (.str (Str.ofString "__package__") 167), .none⟩, ⟨PyData.keyHash P (Str.ofString "__loader__"), (.str (Str.ofString "__loader__") 168), (.builtin "__main__.__loader__#opaque")⟩, ⟨PyData.keyHash P (Str.ofString "__spec__"), (.str (Str.ofString "__spec__") 169), .none⟩, ⟨PyData.keyHash P (Str.ofString "__annotations__"), (.str (Str.ofString "__annotations__") 170), (.ref 6)⟩, ⟨PyData.keyHash P (Str.ofString "__builtins__"), (.str (Str.ofString "__builtins__") 171), (.ref 4)⟩, ⟨PyData.keyHash P (Str.ofString "__file__"), (.str (Str.ofString "__file__") 173), (.str (Str.ofString "/claim/cut.py") 172)⟩, ⟨PyData.keyHash P (Str.ofString "__cached__"), (.str (Str.ofString "__cached__") 174), .none⟩, ⟨PyData.keyHash P (Str.ofString "bisect_right"), (.str (Str.ofString "bisect_right") 202), (.ref 23)⟩, ⟨PyData.keyHash P (Str.ofString "bisect_left"), (.str (Str.ofString "bisect_left") 216), (.ref 32)⟩, ⟨PyData.keyHash P (Str.ofString "COMPILER_FLAG_NAMES"), (.str (Str.ofString "COMPILER_FLAG_NAMES") 249), (.ref 33)⟩, ⟨PyData.keyHash P (Str.ofString "pretty_flags"), (.str (Str.ofString "pretty_flags") 259), (.ref 40)⟩, ⟨PyData.keyHash P (Str.ofString "_iter_escaped_chars"), (.str (Str.ofString "_iter_escaped_chars") 271), (.ref 47)⟩, ⟨PyData.keyHash P (Str.ofString "_strip_quoted_realnames"), (.str (Str.ofString "_strip_quoted_realnames") 283), (.ref 54)⟩, ⟨PyData.keyHash P (Str.ofString "b1_set"), (.str (Str.ofString "b1_set") 345), (.ref 62)⟩, ⟨PyData.keyHash P (Str.ofString "in_table_b1"), (.str (Str.ofString "in_table_b1") 352), (.ref 72)⟩, ⟨PyData.keyHash P (Str.ofString "b3_exceptions"), (.str (Str.ofString "b3_exceptions") 2303), (.ref 73)⟩, ⟨PyData.keyHash P (Str.ofString "map_table_b3"), (.str (Str.ofString "map_table_b3") 2311), (.ref 118)⟩, ⟨PyData.keyHash P (Str.ofString "_law_cascade"), (.str (Str.ofString "_law_cascade") 2324), (.ref 125)⟩, ⟨PyData.keyHash P (Str.ofString "_law_left"), (.str (Str.ofString "_law_left") 2330), (.ref 130)⟩, ⟨PyData.keyHash P (Str.ofString "_law_laid"), (.str (Str.ofString "_law_laid") 2339), (.ref 137)⟩]) 22, #[]⟩
noncomputable def ob12_20 (P : Params) : Obj := ⟨.none, none, .fields (List.toArray [(.int 2 0), (.int 0 0), (.ref 22), (.int 22 0), (.int 0 0), (.ref 31), (.int 44 0), (.int 0 0), (.ref 39), (.int 57 0), (.int 0 0), (.ref 46), (.int 70 0), (.int 0 0), (.ref 53), (.int 90 0), (.int 0 0), (.ref 71), (.int 93 0), (.int 0 0), (.ref 117), (.int 99 0), (.int 0 0), (.ref 124), (.int 107 0), (.int 0 0), (.ref 129), (.int 114 0), (.int 0 0), (.ref 136)]), #[]⟩
noncomputable def ob131_20 (P : Params) : Obj := ⟨(.type "tuple"), none, .seq (List.toArray []) 0, #[]⟩
noncomputable def ob132_20 (P : Params) : Obj := ⟨.none, none, .fields (List.toArray []), #[]⟩
noncomputable def ob133_20 (P : Params) : Obj := ⟨(.type "tuple"), none, .seq (List.toArray [(.str (Str.ofString "row") 2334), (.str (Str.ofString "pair") 2335), (.str (Str.ofString "k") 2336)]) 0, #[]⟩
noncomputable def ob134_20 (P : Params) : Obj := ⟨(.type "tuple"), none, .seq (List.toArray []) 0, #[]⟩
noncomputable def ob135_20 (P : Params) : Obj := ⟨.none, none, .func ⟨(Str.ofString "_law_laid"), (Str.ofString "_law_laid"), fA 17, .stmts (fB 17), fS 17, 0, [], .none, .none, .none, .none, none, .none, .none, 0⟩, #[]⟩
noncomputable def ob136_20 (P : Params) : Obj := ⟨(.type "code"), none, .fields (List.toArray [(.str (Str.ofString "_law_laid") 2331), (.str (Str.ofString "_law_laid") 2332), (.str (Str.ofString "/claim/cut.py") 2333), (.int 114 0), (.int 2 0), (.int 0 0), (.int 0 0), (.int 3 0), (.ref 131), (.bool true), (.int 181 0), (.ref 132), .none, (.ref 133), (.ref 134), (.ref 135), (.int 2337 0), (.int 114 0), (.str (Str.ofString "/claim/cut.py") 2338)]), #[]⟩
noncomputable def ob137_20 (P : Params) : Obj := ⟨(.type "function"), none, .func ⟨(Str.ofString "_law_laid"), (Str.ofString "_law_laid"), fA 17, .stmts (fB 17), fS 17, 3, [], .none, .none, .none, (.str (Str.ofString "law_wf0083_01") 2312), none, (.ref 136), .none, 0⟩, #[]⟩
noncomputable def ob3_21 (P : Params) : Obj := ⟨(.type "dict"), none, .dict (List.toArray [⟨PyData.keyHash P (Str.ofString "__name__"), (.str (Str.ofString "__name__") 165), (.str (Str.ofString "law_wf0083_01") 2312)⟩, ⟨PyData.keyHash P (Str.ofString "__doc__"), (.str (Str.ofString "__doc__") 166), .none⟩, ⟨PyData.keyHash P (Str.ofString "__package__"), (.str (Str.ofString "__package__") 167), .none⟩, ⟨PyData.keyHash P (Str.ofString "__loader__"), (.str (Str.ofString "__loader__") 168), (.builtin "__main__.__loader__#opaque")⟩, ⟨PyData.keyHash P (Str.ofString "__spec__"), (.str (Str.ofString "__spec__") 169), .none⟩, ⟨PyData.keyHash P (Str.ofString "__annotations__"), (.str (Str.ofString "__annotations__") 170), (.ref 6)⟩, ⟨PyData.keyHash P (Str.ofString "__builtins__"), (.str (Str.ofString "__builtins__") 171), (.ref 4)⟩, ⟨PyData.keyHash P (Str.ofString "__file__"), (.str (Str.ofString "__file__") 173), (.str (Str.ofString "/claim/cut.py") 172)⟩, ⟨PyData.keyHash P (Str.ofString "__cached__"), (.str (Str.ofString "__cached__") 174), .none⟩, ⟨PyData.keyHash P (Str.ofString "bisect_right"), (.str (Str.ofString "bisect_right") 202), (.ref 23)⟩, ⟨PyData.keyHash P (Str.ofString "bisect_left"), (.str (Str.ofString "bisect_left") 216), (.ref 32)⟩, ⟨PyData.keyHash P (Str.ofString "COMPILER_FLAG_NAMES"), (.str (Str.ofString "COMPILER_FLAG_NAMES") 249), (.ref 33)⟩, ⟨PyData.keyHash P (Str.ofString "pretty_flags"), (.str (Str.ofString "pretty_flags") 259), (.ref 40)⟩, ⟨PyData.keyHash P (Str.ofString "_iter_escaped_chars"), (.str (Str.ofString "_iter_escaped_chars") 271), (.ref 47)⟩, ⟨PyData.keyHash P (Str.ofString "_strip_quoted_realnames"), (.str (Str.ofString "_strip_quoted_realnames") 283), (.ref 54)⟩, ⟨PyData.keyHash P (Str.ofString "b1_set"), (.str (Str.ofString "b1_set") 345), (.ref 62)⟩, ⟨PyData.keyHash P (Str.ofString "in_table_b1"), (.str (Str.ofString "in_table_b1") 352), (.ref 72)⟩, ⟨PyData.keyHash P (Str.ofString "b3_exceptions"), (.str (Str.ofString "b3_exceptions") 2303), (.ref 73)⟩, ⟨PyData.keyHash P (Str.ofString "map_table_b3"), (.str (Str.ofString "map_table_b3") 2311), (.ref 118)⟩, ⟨PyData.keyHash P (Str.ofString "_law_cascade"), (.str (Str.ofString "_law_cascade") 2324), (.ref 125)⟩, ⟨PyData.keyHash P (Str.ofString "_law_left"), (.str (Str.ofString "_law_left") 2330), (.ref 130)⟩, ⟨PyData.keyHash P (Str.ofString "_law_laid"), (.str (Str.ofString "_law_laid") 2339), (.ref 137)⟩, ⟨PyData.keyHash P (Str.ofString "law"), (.str (Str.ofString "law") 2345), (.ref 142)⟩]) 23, #[]⟩
noncomputable def ob12_21 (P : Params) : Obj := ⟨.none, none, .fields (List.toArray [(.int 2 0), (.int 0 0), (.ref 22), (.int 22 0), (.int 0 0), (.ref 31), (.int 44 0), (.int 0 0), (.ref 39), (.int 57 0), (.int 0 0), (.ref 46), (.int 70 0), (.int 0 0), (.ref 53), (.int 90 0), (.int 0 0), (.ref 71), (.int 93 0), (.int 0 0), (.ref 117), (.int 99 0), (.int 0 0), (.ref 124), (.int 107 0), (.int 0 0), (.ref 129), (.int 114 0), (.int 0 0), (.ref 136), (.int 119 0), (.int 0 0), (.ref 141)]), #[]⟩
noncomputable def ob138_21 (P : Params) : Obj := ⟨(.type "tuple"), none, .seq (List.toArray []) 0, #[]⟩
noncomputable def ob139_21 (P : Params) : Obj := ⟨.none, none, .fields (List.toArray []), #[]⟩
noncomputable def ob140_21 (P : Params) : Obj := ⟨.none, none, .func ⟨(Str.ofString "law"), (Str.ofString "law"), fA 18, .stmts (fB 18), fS 18, 0, [], .none, .none, .none, .none, none, .none, .none, 0⟩, #[]⟩
noncomputable def ob141_21 (P : Params) : Obj := ⟨(.type "code"), none, .fields (List.toArray [(.str (Str.ofString "law") 2340), (.str (Str.ofString "law") 2341), (.str (Str.ofString "/claim/cut.py") 2342), (.int 119 0), (.int 1 0), (.int 0 0), (.int 0 0), (.int 3 0), (.ref 138), (.bool true), (.int 181 0), (.ref 139), .none, .none, .none, (.ref 140), (.int 2343 0), (.int 119 0), (.str (Str.ofString "/claim/cut.py") 2344)]), #[]⟩
noncomputable def ob142_21 (P : Params) : Obj := ⟨(.type "function"), none, .func ⟨(Str.ofString "law"), (Str.ofString "law"), fA 18, .stmts (fB 18), fS 18, 3, [], .none, .none, .none, (.str (Str.ofString "law_wf0083_01") 2312), none, (.ref 141), .none, 0⟩, #[]⟩
noncomputable def T0 (P : Params) : BT := (.node (boot_o_0 P) (.node (boot_o_1 P) (.node (boot_o_3 P) (.node (boot_o_7 P) .nil .nil) .nil) (.node (boot_o_5 P) (.node (boot_o_9 P) .nil .nil) .nil)) (.node (boot_o_2 P) (.node (boot_o_4 P) (.node (boot_o_8 P) .nil .nil) .nil) (.node (boot_o_6 P) (.node (boot_o_10 P) .nil .nil) .nil)))
noncomputable def S0 (w : World) (os : OsState) : SharedT := ⟨T0 w.params, 11, (boot_heap w.params).life, Array.mk [], boot_drawn, 181, os⟩
noncomputable def P0 : Pos := ⟨0, 0, 0, 0⟩
noncomputable def T1 (P : Params) : BT := (.node (boot_o_0 P) (.node (boot_o_1 P) (.node (boot_o_3 P) (.node (boot_o_7 P) .nil .nil) (.node (ob11_1 P) .nil .nil)) (.node (boot_o_5 P) (.node (boot_o_9 P) .nil .nil) (.node (ob13_1 P) .nil .nil))) (.node (boot_o_2 P) (.node (boot_o_4 P) (.node (boot_o_8 P) .nil .nil) (.node (ob12_1 P) .nil .nil)) (.node (boot_o_6 P) (.node (boot_o_10 P) .nil .nil) (.node (ob14_1 P) .nil .nil))))
noncomputable def S1 (w : World) (os : OsState) : SharedT := ⟨T1 w.params, 15, (boot_heap w.params).life, Array.mk [], boot_drawn, 187, os⟩
noncomputable def P1 : Pos := ⟨0, 0, 0, 0⟩
noncomputable def T2 (P : Params) : BT := (.node (boot_o_0 P) (.node (boot_o_1 P) (.node (boot_o_3 P) (.node (boot_o_7 P) .nil .nil) (.node (ob11_1 P) .nil .nil)) (.node (boot_o_5 P) (.node (boot_o_9 P) .nil .nil) (.node (ob13_1 P) .nil .nil))) (.node (boot_o_2 P) (.node (boot_o_4 P) (.node (boot_o_8 P) .nil .nil) (.node (ob12_1 P) .nil .nil)) (.node (boot_o_6 P) (.node (boot_o_10 P) .nil .nil) (.node (ob14_1 P) .nil .nil))))
noncomputable def S2 (w : World) (os : OsState) : SharedT := ⟨T2 w.params, 15, (boot_heap w.params).life, Array.mk [], boot_drawn, 187, os⟩
noncomputable def P2 : Pos := ⟨0, 0, 0, 0⟩
noncomputable def T3 (P : Params) : BT := (.node (boot_o_0 P) (.node (boot_o_1 P) (.node (ob3_3 P) (.node (boot_o_7 P) .nil .nil) (.node (ob11_1 P) .nil .nil)) (.node (boot_o_5 P) (.node (boot_o_9 P) .nil .nil) (.node (ob13_1 P) .nil .nil))) (.node (boot_o_2 P) (.node (boot_o_4 P) (.node (boot_o_8 P) .nil .nil) (.node (ob12_1 P) .nil .nil)) (.node (boot_o_6 P) (.node (boot_o_10 P) .nil .nil) (.node (ob14_1 P) .nil .nil))))
noncomputable def S3 (w : World) (os : OsState) : SharedT := ⟨T3 w.params, 15, (boot_heap w.params).life, Array.mk [], boot_drawn, 189, os⟩
noncomputable def P3 : Pos := ⟨1, 0, 1, 8⟩
noncomputable def T4 (P : Params) : BT := (.node (boot_o_0 P) (.node (boot_o_1 P) (.node (ob3_4 P) (.node (boot_o_7 P) (.node (ob15_4 P) .nil .nil) (.node (ob23_4 P) .nil .nil)) (.node (ob11_1 P) (.node (ob19_4 P) .nil .nil) .nil)) (.node (boot_o_5 P) (.node (boot_o_9 P) (.node (ob17_4 P) .nil .nil) .nil) (.node (ob13_1 P) (.node (ob21_4 P) .nil .nil) .nil))) (.node (boot_o_2 P) (.node (boot_o_4 P) (.node (boot_o_8 P) (.node (ob16_4 P) .nil .nil) .nil) (.node (ob12_4 P) (.node (ob20_4 P) .nil .nil) .nil)) (.node (boot_o_6 P) (.node (boot_o_10 P) (.node (ob18_4 P) .nil .nil) .nil) (.node (ob14_1 P) (.node (ob22_4 P) .nil .nil) .nil))))
noncomputable def S4 (w : World) (os : OsState) : SharedT := ⟨T4 w.params, 24, (boot_heap w.params).life, Array.mk [], boot_drawn, 203, os⟩
noncomputable def P4 : Pos := ⟨2, 0, 21, 13⟩
noncomputable def T5 (P : Params) : BT := (.node (boot_o_0 P) (.node (boot_o_1 P) (.node (ob3_5 P) (.node (boot_o_7 P) (.node (ob15_4 P) (.node (ob31_5 P) .nil .nil) .nil) (.node (ob23_4 P) .nil .nil)) (.node (ob11_1 P) (.node (ob19_4 P) .nil .nil) (.node (ob27_5 P) .nil .nil))) (.node (boot_o_5 P) (.node (boot_o_9 P) (.node (ob17_4 P) .nil .nil) (.node (ob25_5 P) .nil .nil)) (.node (ob13_1 P) (.node (ob21_4 P) .nil .nil) (.node (ob29_5 P) .nil .nil)))) (.node (boot_o_2 P) (.node (boot_o_4 P) (.node (boot_o_8 P) (.node (ob16_4 P) (.node (ob32_5 P) .nil .nil) .nil) (.node (ob24_5 P) .nil .nil)) (.node (ob12_5 P) (.node (ob20_4 P) .nil .nil) (.node (ob28_5 P) .nil .nil))) (.node (boot_o_6 P) (.node (boot_o_10 P) (.node (ob18_4 P) .nil .nil) (.node (ob26_5 P) .nil .nil)) (.node (ob14_1 P) (.node (ob22_4 P) .nil .nil) (.node (ob30_5 P) .nil .nil)))))
noncomputable def S5 (w : World) (os : OsState) : SharedT := ⟨T5 w.params, 33, (boot_heap w.params).life, Array.mk [], boot_drawn, 217, os⟩
noncomputable def P5 : Pos := ⟨22, 0, 41, 13⟩
noncomputable def T6 (P : Params) : BT := (.node (boot_o_0 P) (.node (boot_o_1 P) (.node (ob3_6 P) (.node (boot_o_7 P) (.node (ob15_4 P) (.node (ob31_5 P) .nil .nil) .nil) (.node (ob23_4 P) .nil .nil)) (.node (ob11_1 P) (.node (ob19_4 P) .nil .nil) (.node (ob27_5 P) .nil .nil))) (.node (boot_o_5 P) (.node (boot_o_9 P) (.node (ob17_4 P) .nil .nil) (.node (ob25_5 P) .nil .nil)) (.node (ob13_1 P) (.node (ob21_4 P) .nil .nil) (.node (ob29_5 P) .nil .nil)))) (.node (boot_o_2 P) (.node (boot_o_4 P) (.node (boot_o_8 P) (.node (ob16_4 P) (.node (ob32_5 P) .nil .nil) .nil) (.node (ob24_5 P) .nil .nil)) (.node (ob12_5 P) (.node (ob20_4 P) .nil .nil) (.node (ob28_5 P) .nil .nil))) (.node (boot_o_6 P) (.node (boot_o_10 P) (.node (ob18_4 P) .nil .nil) (.node (ob26_5 P) .nil .nil)) (.node (ob14_1 P) (.node (ob22_4 P) .nil .nil) (.node (ob30_5 P) .nil .nil)))))
noncomputable def S6 (w : World) (os : OsState) : SharedT := ⟨T6 w.params, 33, (boot_heap w.params).life, Array.mk [], boot_drawn, 219, os⟩
noncomputable def P6 : Pos := ⟨42, 0, 42, 8⟩
noncomputable def T7 (P : Params) : BT := (.node (boot_o_0 P) (.node (boot_o_1 P) (.node (ob3_7 P) (.node (boot_o_7 P) (.node (ob15_4 P) (.node (ob31_5 P) .nil .nil) .nil) (.node (ob23_4 P) .nil .nil)) (.node (ob11_1 P) (.node (ob19_4 P) .nil .nil) (.node (ob27_5 P) .nil .nil))) (.node (boot_o_5 P) (.node (boot_o_9 P) (.node (ob17_4 P) (.node (ob33_7 P) .nil .nil) .nil) (.node (ob25_5 P) .nil .nil)) (.node (ob13_1 P) (.node (ob21_4 P) .nil .nil) (.node (ob29_5 P) .nil .nil)))) (.node (boot_o_2 P) (.node (boot_o_4 P) (.node (boot_o_8 P) (.node (ob16_4 P) (.node (ob32_5 P) .nil .nil) .nil) (.node (ob24_5 P) .nil .nil)) (.node (ob12_5 P) (.node (ob20_4 P) .nil .nil) (.node (ob28_5 P) .nil .nil))) (.node (boot_o_6 P) (.node (boot_o_10 P) (.node (ob18_4 P) .nil .nil) (.node (ob26_5 P) .nil .nil)) (.node (ob14_1 P) (.node (ob22_4 P) .nil .nil) (.node (ob30_5 P) .nil .nil)))))
noncomputable def S7 (w : World) (os : OsState) : SharedT := ⟨T7 w.params, 34, (boot_heap w.params).life, Array.mk [], boot_drawn, 250, os⟩
noncomputable def P7 : Pos := ⟨43, 0, 43, 19⟩
noncomputable def T8 (P : Params) : BT := (.node (boot_o_0 P) (.node (boot_o_1 P) (.node (ob3_8 P) (.node (boot_o_7 P) (.node (ob15_4 P) (.node (ob31_5 P) .nil .nil) .nil) (.node (ob23_4 P) (.node (ob39_8 P) .nil .nil) .nil)) (.node (ob11_1 P) (.node (ob19_4 P) (.node (ob35_8 P) .nil .nil) .nil) (.node (ob27_5 P) .nil .nil))) (.node (boot_o_5 P) (.node (boot_o_9 P) (.node (ob17_4 P) (.node (ob33_7 P) .nil .nil) .nil) (.node (ob25_5 P) .nil .nil)) (.node (ob13_1 P) (.node (ob21_4 P) (.node (ob37_8 P) .nil .nil) .nil) (.node (ob29_5 P) .nil .nil)))) (.node (boot_o_2 P) (.node (boot_o_4 P) (.node (boot_o_8 P) (.node (ob16_4 P) (.node (ob32_5 P) .nil .nil) .nil) (.node (ob24_5 P) (.node (ob40_8 P) .nil .nil) .nil)) (.node (ob12_8 P) (.node (ob20_4 P) (.node (ob36_8 P) .nil .nil) .nil) (.node (ob28_5 P) .nil .nil))) (.node (boot_o_6 P) (.node (boot_o_10 P) (.node (ob18_4 P) (.node (ob34_8 P) .nil .nil) .nil) (.node (ob26_5 P) .nil .nil)) (.node (ob14_1 P) (.node (ob22_4 P) (.node (ob38_8 P) .nil .nil) .nil) (.node (ob30_5 P) .nil .nil)))))
noncomputable def S8 (w : World) (os : OsState) : SharedT := ⟨T8 w.params, 41, (boot_heap w.params).life, Array.mk [], boot_drawn, 260, os⟩
noncomputable def P8 : Pos := ⟨44, 0, 55, 27⟩
noncomputable def T9 (P : Params) : BT := (.node (boot_o_0 P) (.node (boot_o_1 P) (.node (ob3_9 P) (.node (boot_o_7 P) (.node (ob15_4 P) (.node (ob31_5 P) .nil .nil) .nil) (.node (ob23_4 P) (.node (ob39_8 P) .nil .nil) .nil)) (.node (ob11_1 P) (.node (ob19_4 P) (.node (ob35_8 P) .nil .nil) .nil) (.node (ob27_5 P) .nil .nil))) (.node (boot_o_5 P) (.node (boot_o_9 P) (.node (ob17_4 P) (.node (ob33_7 P) .nil .nil) .nil) (.node (ob25_5 P) .nil .nil)) (.node (ob13_1 P) (.node (ob21_4 P) (.node (ob37_8 P) .nil .nil) .nil) (.node (ob29_5 P) .nil .nil)))) (.node (boot_o_2 P) (.node (boot_o_4 P) (.node (boot_o_8 P) (.node (ob16_4 P) (.node (ob32_5 P) .nil .nil) .nil) (.node (ob24_5 P) (.node (ob40_8 P) .nil .nil) .nil)) (.node (ob12_8 P) (.node (ob20_4 P) (.node (ob36_8 P) .nil .nil) .nil) (.node (ob28_5 P) .nil .nil))) (.node (boot_o_6 P) (.node (boot_o_10 P) (.node (ob18_4 P) (.node (ob34_8 P) .nil .nil) .nil) (.node (ob26_5 P) .nil .nil)) (.node (ob14_1 P) (.node (ob22_4 P) (.node (ob38_8 P) .nil .nil) .nil) (.node (ob30_5 P) .nil .nil)))))
noncomputable def S9 (w : World) (os : OsState) : SharedT := ⟨T9 w.params, 41, (boot_heap w.params).life, Array.mk [], boot_drawn, 262, os⟩
noncomputable def P9 : Pos := ⟨56, 0, 56, 8⟩
noncomputable def T10 (P : Params) : BT := (.node (boot_o_0 P) (.node (boot_o_1 P) (.node (ob3_10 P) (.node (boot_o_7 P) (.node (ob15_4 P) (.node (ob31_5 P) .nil .nil) (.node (ob47_10 P) .nil .nil)) (.node (ob23_4 P) (.node (ob39_8 P) .nil .nil) .nil)) (.node (ob11_1 P) (.node (ob19_4 P) (.node (ob35_8 P) .nil .nil) .nil) (.node (ob27_5 P) (.node (ob43_10 P) .nil .nil) .nil))) (.node (boot_o_5 P) (.node (boot_o_9 P) (.node (ob17_4 P) (.node (ob33_7 P) .nil .nil) .nil) (.node (ob25_5 P) (.node (ob41_10 P) .nil .nil) .nil)) (.node (ob13_1 P) (.node (ob21_4 P) (.node (ob37_8 P) .nil .nil) .nil) (.node (ob29_5 P) (.node (ob45_10 P) .nil .nil) .nil)))) (.node (boot_o_2 P) (.node (boot_o_4 P) (.node (boot_o_8 P) (.node (ob16_4 P) (.node (ob32_5 P) .nil .nil) .nil) (.node (ob24_5 P) (.node (ob40_8 P) .nil .nil) .nil)) (.node (ob12_10 P) (.node (ob20_4 P) (.node (ob36_8 P) .nil .nil) .nil) (.node (ob28_5 P) (.node (ob44_10 P) .nil .nil) .nil))) (.node (boot_o_6 P) (.node (boot_o_10 P) (.node (ob18_4 P) (.node (ob34_8 P) .nil .nil) .nil) (.node (ob26_5 P) (.node (ob42_10 P) .nil .nil) .nil)) (.node (ob14_1 P) (.node (ob22_4 P) (.node (ob38_8 P) .nil .nil) .nil) (.node (ob30_5 P) (.node (ob46_10 P) .nil .nil) .nil)))))
noncomputable def S10 (w : World) (os : OsState) : SharedT := ⟨T10 w.params, 48, (boot_heap w.params).life, Array.mk [], boot_drawn, 272, os⟩
noncomputable def P10 : Pos := ⟨57, 0, 69, 25⟩
noncomputable def T11 (P : Params) : BT := (.node (boot_o_0 P) (.node (boot_o_1 P) (.node (ob3_11 P) (.node (boot_o_7 P) (.node (ob15_4 P) (.node (ob31_5 P) .nil .nil) (.node (ob47_10 P) .nil .nil)) (.node (ob23_4 P) (.node (ob39_8 P) .nil .nil) .nil)) (.node (ob11_1 P) (.node (ob19_4 P) (.node (ob35_8 P) .nil .nil) (.node (ob51_11 P) .nil .nil)) (.node (ob27_5 P) (.node (ob43_10 P) .nil .nil) .nil))) (.node (boot_o_5 P) (.node (boot_o_9 P) (.node (ob17_4 P) (.node (ob33_7 P) .nil .nil) (.node (ob49_11 P) .nil .nil)) (.node (ob25_5 P) (.node (ob41_10 P) .nil .nil) .nil)) (.node (ob13_1 P) (.node (ob21_4 P) (.node (ob37_8 P) .nil .nil) (.node (ob53_11 P) .nil .nil)) (.node (ob29_5 P) (.node (ob45_10 P) .nil .nil) .nil)))) (.node (boot_o_2 P) (.node (boot_o_4 P) (.node (boot_o_8 P) (.node (ob16_4 P) (.node (ob32_5 P) .nil .nil) (.node (ob48_11 P) .nil .nil)) (.node (ob24_5 P) (.node (ob40_8 P) .nil .nil) .nil)) (.node (ob12_11 P) (.node (ob20_4 P) (.node (ob36_8 P) .nil .nil) (.node (ob52_11 P) .nil .nil)) (.node (ob28_5 P) (.node (ob44_10 P) .nil .nil) .nil))) (.node (boot_o_6 P) (.node (boot_o_10 P) (.node (ob18_4 P) (.node (ob34_8 P) .nil .nil) (.node (ob50_11 P) .nil .nil)) (.node (ob26_5 P) (.node (ob42_10 P) .nil .nil) .nil)) (.node (ob14_1 P) (.node (ob22_4 P) (.node (ob38_8 P) .nil .nil) (.node (ob54_11 P) .nil .nil)) (.node (ob30_5 P) (.node (ob46_10 P) .nil .nil) .nil)))))
noncomputable def S11 (w : World) (os : OsState) : SharedT := ⟨T11 w.params, 55, (boot_heap w.params).life, Array.mk [], boot_drawn, 284, os⟩
noncomputable def P11 : Pos := ⟨70, 0, 87, 26⟩
noncomputable def T12 (P : Params) : BT := (.node (boot_o_0 P) (.node (boot_o_1 P) (.node (ob3_12 P) (.node (boot_o_7 P) (.node (ob15_4 P) (.node (ob31_5 P) .nil .nil) (.node (ob47_10 P) .nil .nil)) (.node (ob23_4 P) (.node (ob39_8 P) .nil .nil) .nil)) (.node (ob11_1 P) (.node (ob19_4 P) (.node (ob35_8 P) .nil .nil) (.node (ob51_11 P) .nil .nil)) (.node (ob27_5 P) (.node (ob43_10 P) .nil .nil) .nil))) (.node (boot_o_5 P) (.node (boot_o_9 P) (.node (ob17_4 P) (.node (ob33_7 P) .nil .nil) (.node (ob49_11 P) .nil .nil)) (.node (ob25_5 P) (.node (ob41_10 P) .nil .nil) .nil)) (.node (ob13_1 P) (.node (ob21_4 P) (.node (ob37_8 P) .nil .nil) (.node (ob53_11 P) .nil .nil)) (.node (ob29_5 P) (.node (ob45_10 P) .nil .nil) .nil)))) (.node (boot_o_2 P) (.node (boot_o_4 P) (.node (boot_o_8 P) (.node (ob16_4 P) (.node (ob32_5 P) .nil .nil) (.node (ob48_11 P) .nil .nil)) (.node (ob24_5 P) (.node (ob40_8 P) .nil .nil) .nil)) (.node (ob12_11 P) (.node (ob20_4 P) (.node (ob36_8 P) .nil .nil) (.node (ob52_11 P) .nil .nil)) (.node (ob28_5 P) (.node (ob44_10 P) .nil .nil) .nil))) (.node (boot_o_6 P) (.node (boot_o_10 P) (.node (ob18_4 P) (.node (ob34_8 P) .nil .nil) (.node (ob50_11 P) .nil .nil)) (.node (ob26_5 P) (.node (ob42_10 P) .nil .nil) .nil)) (.node (ob14_1 P) (.node (ob22_4 P) (.node (ob38_8 P) .nil .nil) (.node (ob54_11 P) .nil .nil)) (.node (ob30_5 P) (.node (ob46_10 P) .nil .nil) .nil)))))
noncomputable def S12 (w : World) (os : OsState) : SharedT := ⟨T12 w.params, 55, (boot_heap w.params).life, Array.mk [], boot_drawn, 286, os⟩
noncomputable def P12 : Pos := ⟨88, 0, 88, 8⟩
noncomputable def T13 (P : Params) : BT := (.node (boot_o_0 P) (.node (boot_o_1 P) (.node (ob3_13 P) (.node (boot_o_7 P) (.node (ob15_4 P) (.node (ob31_5 P) (.node (ob63_13 P) .nil .nil) .nil) (.node (ob47_10 P) .nil .nil)) (.node (ob23_4 P) (.node (ob39_8 P) .nil .nil) (.node (ob55_13 P) .nil .nil))) (.node (ob11_1 P) (.node (ob19_4 P) (.node (ob35_8 P) .nil .nil) (.node (ob51_11 P) .nil .nil)) (.node (ob27_5 P) (.node (ob43_10 P) .nil .nil) (.node (ob59_13 P) .nil .nil)))) (.node (boot_o_5 P) (.node (boot_o_9 P) (.node (ob17_4 P) (.node (ob33_7 P) (.node (ob65_13 P) .nil .nil) .nil) (.node (ob49_11 P) .nil .nil)) (.node (ob25_5 P) (.node (ob41_10 P) .nil .nil) (.node (ob57_13 P) .nil .nil))) (.node (ob13_1 P) (.node (ob21_4 P) (.node (ob37_8 P) .nil .nil) (.node (ob53_11 P) .nil .nil)) (.node (ob29_5 P) (.node (ob45_10 P) .nil .nil) (.node (ob61_13 P) .nil .nil))))) (.node (boot_o_2 P) (.node (boot_o_4 P) (.node (boot_o_8 P) (.node (ob16_4 P) (.node (ob32_5 P) (.node (ob64_13 P) .nil .nil) .nil) (.node (ob48_11 P) .nil .nil)) (.node (ob24_5 P) (.node (ob40_8 P) .nil .nil) (.node (ob56_13 P) .nil .nil))) (.node (ob12_11 P) (.node (ob20_4 P) (.node (ob36_8 P) .nil .nil) (.node (ob52_11 P) .nil .nil)) (.node (ob28_5 P) (.node (ob44_10 P) .nil .nil) (.node (ob60_13 P) .nil .nil)))) (.node (boot_o_6 P) (.node (boot_o_10 P) (.node (ob18_4 P) (.node (ob34_8 P) .nil .nil) (.node (ob50_11 P) .nil .nil)) (.node (ob26_5 P) (.node (ob42_10 P) .nil .nil) (.node (ob58_13 P) .nil .nil))) (.node (ob14_1 P) (.node (ob22_4 P) (.node (ob38_8 P) .nil .nil) (.node (ob54_11 P) .nil .nil)) (.node (ob30_5 P) (.node (ob46_10 P) .nil .nil) (.node (ob62_13 P) .nil .nil))))))
noncomputable def S13 (w : World) (os : OsState) : SharedT := ⟨T13 w.params, 66, (boot_heap w.params).life, Array.mk [], boot_drawn, 346, os⟩
noncomputable def P13 : Pos := ⟨89, 0, 89, 6⟩
noncomputable def T14 (P : Params) : BT := (.node (boot_o_0 P) (.node (boot_o_1 P) (.node (ob3_14 P) (.node (boot_o_7 P) (.node (ob15_4 P) (.node (ob31_5 P) (.node (ob63_13 P) .nil .nil) .nil) (.node (ob47_10 P) .nil .nil)) (.node (ob23_4 P) (.node (ob39_8 P) (.node (ob71_14 P) .nil .nil) .nil) (.node (ob55_13 P) .nil .nil))) (.node (ob11_1 P) (.node (ob19_4 P) (.node (ob35_8 P) (.node (ob67_14 P) .nil .nil) .nil) (.node (ob51_11 P) .nil .nil)) (.node (ob27_5 P) (.node (ob43_10 P) .nil .nil) (.node (ob59_13 P) .nil .nil)))) (.node (boot_o_5 P) (.node (boot_o_9 P) (.node (ob17_4 P) (.node (ob33_7 P) (.node (ob65_13 P) .nil .nil) .nil) (.node (ob49_11 P) .nil .nil)) (.node (ob25_5 P) (.node (ob41_10 P) .nil .nil) (.node (ob57_13 P) .nil .nil))) (.node (ob13_1 P) (.node (ob21_4 P) (.node (ob37_8 P) (.node (ob69_14 P) .nil .nil) .nil) (.node (ob53_11 P) .nil .nil)) (.node (ob29_5 P) (.node (ob45_10 P) .nil .nil) (.node (ob61_13 P) .nil .nil))))) (.node (boot_o_2 P) (.node (boot_o_4 P) (.node (boot_o_8 P) (.node (ob16_4 P) (.node (ob32_5 P) (.node (ob64_13 P) .nil .nil) .nil) (.node (ob48_11 P) .nil .nil)) (.node (ob24_5 P) (.node (ob40_8 P) (.node (ob72_14 P) .nil .nil) .nil) (.node (ob56_13 P) .nil .nil))) (.node (ob12_14 P) (.node (ob20_4 P) (.node (ob36_8 P) (.node (ob68_14 P) .nil .nil) .nil) (.node (ob52_11 P) .nil .nil)) (.node (ob28_5 P) (.node (ob44_10 P) .nil .nil) (.node (ob60_13 P) .nil .nil)))) (.node (boot_o_6 P) (.node (boot_o_10 P) (.node (ob18_4 P) (.node (ob34_8 P) (.node (ob66_14 P) .nil .nil) .nil) (.node (ob50_11 P) .nil .nil)) (.node (ob26_5 P) (.node (ob42_10 P) .nil .nil) (.node (ob58_13 P) .nil .nil))) (.node (ob14_1 P) (.node (ob22_4 P) (.node (ob38_8 P) (.node (ob70_14 P) .nil .nil) .nil) (.node (ob54_11 P) .nil .nil)) (.node (ob30_5 P) (.node (ob46_10 P) .nil .nil) (.node (ob62_13 P) .nil .nil))))))
noncomputable def S14 (w : World) (os : OsState) : SharedT := ⟨T14 w.params, 73, (boot_heap w.params).life, Array.mk [], boot_drawn, 353, os⟩
noncomputable def P14 : Pos := ⟨90, 0, 91, 30⟩
noncomputable def T15 (P : Params) : BT := (.node (boot_o_0 P) (.node (boot_o_1 P) (.node (ob3_15 P) (.node (boot_o_7 P) (.node (ob15_4 P) (.node (ob31_5 P) (.node (ob63_13 P) .nil .nil) (.node (ob95_15 P) .nil .nil)) (.node (ob47_10 P) (.node (ob79_15 P) .nil .nil) (.node (ob111_15 P) .nil .nil))) (.node (ob23_4 P) (.node (ob39_8 P) (.node (ob71_14 P) .nil .nil) (.node (ob103_15 P) .nil .nil)) (.node (ob55_13 P) (.node (ob87_15 P) .nil .nil) .nil))) (.node (ob11_1 P) (.node (ob19_4 P) (.node (ob35_8 P) (.node (ob67_14 P) .nil .nil) (.node (ob99_15 P) .nil .nil)) (.node (ob51_11 P) (.node (ob83_15 P) .nil .nil) .nil)) (.node (ob27_5 P) (.node (ob43_10 P) (.node (ob75_15 P) .nil .nil) (.node (ob107_15 P) .nil .nil)) (.node (ob59_13 P) (.node (ob91_15 P) .nil .nil) .nil)))) (.node (boot_o_5 P) (.node (boot_o_9 P) (.node (ob17_4 P) (.node (ob33_7 P) (.node (ob65_13 P) .nil .nil) (.node (ob97_15 P) .nil .nil)) (.node (ob49_11 P) (.node (ob81_15 P) .nil .nil) .nil)) (.node (ob25_5 P) (.node (ob41_10 P) (.node (ob73_15 P) .nil .nil) (.node (ob105_15 P) .nil .nil)) (.node (ob57_13 P) (.node (ob89_15 P) .nil .nil) .nil))) (.node (ob13_1 P) (.node (ob21_4 P) (.node (ob37_8 P) (.node (ob69_14 P) .nil .nil) (.node (ob101_15 P) .nil .nil)) (.node (ob53_11 P) (.node (ob85_15 P) .nil .nil) .nil)) (.node (ob29_5 P) (.node (ob45_10 P) (.node (ob77_15 P) .nil .nil) (.node (ob109_15 P) .nil .nil)) (.node (ob61_13 P) (.node (ob93_15 P) .nil .nil) .nil))))) (.node (boot_o_2 P) (.node (boot_o_4 P) (.node (boot_o_8 P) (.node (ob16_4 P) (.node (ob32_5 P) (.node (ob64_13 P) .nil .nil) (.node (ob96_15 P) .nil .nil)) (.node (ob48_11 P) (.node (ob80_15 P) .nil .nil) .nil)) (.node (ob24_5 P) (.node (ob40_8 P) (.node (ob72_14 P) .nil .nil) (.node (ob104_15 P) .nil .nil)) (.node (ob56_13 P) (.node (ob88_15 P) .nil .nil) .nil))) (.node (ob12_14 P) (.node (ob20_4 P) (.node (ob36_8 P) (.node (ob68_14 P) .nil .nil) (.node (ob100_15 P) .nil .nil)) (.node (ob52_11 P) (.node (ob84_15 P) .nil .nil) .nil)) (.node (ob28_5 P) (.node (ob44_10 P) (.node (ob76_15 P) .nil .nil) (.node (ob108_15 P) .nil .nil)) (.node (ob60_13 P) (.node (ob92_15 P) .nil .nil) .nil)))) (.node (boot_o_6 P) (.node (boot_o_10 P) (.node (ob18_4 P) (.node (ob34_8 P) (.node (ob66_14 P) .nil .nil) (.node (ob98_15 P) .nil .nil)) (.node (ob50_11 P) (.node (ob82_15 P) .nil .nil) .nil)) (.node (ob26_5 P) (.node (ob42_10 P) (.node (ob74_15 P) .nil .nil) (.node (ob106_15 P) .nil .nil)) (.node (ob58_13 P) (.node (ob90_15 P) .nil .nil) .nil))) (.node (ob14_1 P) (.node (ob22_4 P) (.node (ob38_8 P) (.node (ob70_14 P) .nil .nil) (.node (ob102_15 P) .nil .nil)) (.node (ob54_11 P) (.node (ob86_15 P) .nil .nil) .nil)) (.node (ob30_5 P) (.node (ob46_10 P) (.node (ob78_15 P) .nil .nil) (.node (ob110_15 P) .nil .nil)) (.node (ob62_13 P) (.node (ob94_15 P) .nil .nil) .nil))))))
noncomputable def S15 (w : World) (os : OsState) : SharedT := ⟨T15 w.params, 112, (boot_heap w.params).life, Array.mk [], boot_drawn, 2304, os⟩
noncomputable def P15 : Pos := ⟨92, 0, 92, 13⟩
noncomputable def T16 (P : Params) : BT := (.node (boot_o_0 P) (.node (boot_o_1 P) (.node (ob3_16 P) (.node (boot_o_7 P) (.node (ob15_4 P) (.node (ob31_5 P) (.node (ob63_13 P) .nil .nil) (.node (ob95_15 P) .nil .nil)) (.node (ob47_10 P) (.node (ob79_15 P) .nil .nil) (.node (ob111_15 P) .nil .nil))) (.node (ob23_4 P) (.node (ob39_8 P) (.node (ob71_14 P) .nil .nil) (.node (ob103_15 P) .nil .nil)) (.node (ob55_13 P) (.node (ob87_15 P) .nil .nil) .nil))) (.node (ob11_1 P) (.node (ob19_4 P) (.node (ob35_8 P) (.node (ob67_14 P) .nil .nil) (.node (ob99_15 P) .nil .nil)) (.node (ob51_11 P) (.node (ob83_15 P) .nil .nil) (.node (ob115_16 P) .nil .nil))) (.node (ob27_5 P) (.node (ob43_10 P) (.node (ob75_15 P) .nil .nil) (.node (ob107_15 P) .nil .nil)) (.node (ob59_13 P) (.node (ob91_15 P) .nil .nil) .nil)))) (.node (boot_o_5 P) (.node (boot_o_9 P) (.node (ob17_4 P) (.node (ob33_7 P) (.node (ob65_13 P) .nil .nil) (.node (ob97_15 P) .nil .nil)) (.node (ob49_11 P) (.node (ob81_15 P) .nil .nil) (.node (ob113_16 P) .nil .nil))) (.node (ob25_5 P) (.node (ob41_10 P) (.node (ob73_15 P) .nil .nil) (.node (ob105_15 P) .nil .nil)) (.node (ob57_13 P) (.node (ob89_15 P) .nil .nil) .nil))) (.node (ob13_1 P) (.node (ob21_4 P) (.node (ob37_8 P) (.node (ob69_14 P) .nil .nil) (.node (ob101_15 P) .nil .nil)) (.node (ob53_11 P) (.node (ob85_15 P) .nil .nil) (.node (ob117_16 P) .nil .nil))) (.node (ob29_5 P) (.node (ob45_10 P) (.node (ob77_15 P) .nil .nil) (.node (ob109_15 P) .nil .nil)) (.node (ob61_13 P) (.node (ob93_15 P) .nil .nil) .nil))))) (.node (boot_o_2 P) (.node (boot_o_4 P) (.node (boot_o_8 P) (.node (ob16_4 P) (.node (ob32_5 P) (.node (ob64_13 P) .nil .nil) (.node (ob96_15 P) .nil .nil)) (.node (ob48_11 P) (.node (ob80_15 P) .nil .nil) (.node (ob112_16 P) .nil .nil))) (.node (ob24_5 P) (.node (ob40_8 P) (.node (ob72_14 P) .nil .nil) (.node (ob104_15 P) .nil .nil)) (.node (ob56_13 P) (.node (ob88_15 P) .nil .nil) .nil))) (.node (ob12_16 P) (.node (ob20_4 P) (.node (ob36_8 P) (.node (ob68_14 P) .nil .nil) (.node (ob100_15 P) .nil .nil)) (.node (ob52_11 P) (.node (ob84_15 P) .nil .nil) (.node (ob116_16 P) .nil .nil))) (.node (ob28_5 P) (.node (ob44_10 P) (.node (ob76_15 P) .nil .nil) (.node (ob108_15 P) .nil .nil)) (.node (ob60_13 P) (.node (ob92_15 P) .nil .nil) .nil)))) (.node (boot_o_6 P) (.node (boot_o_10 P) (.node (ob18_4 P) (.node (ob34_8 P) (.node (ob66_14 P) .nil .nil) (.node (ob98_15 P) .nil .nil)) (.node (ob50_11 P) (.node (ob82_15 P) .nil .nil) (.node (ob114_16 P) .nil .nil))) (.node (ob26_5 P) (.node (ob42_10 P) (.node (ob74_15 P) .nil .nil) (.node (ob106_15 P) .nil .nil)) (.node (ob58_13 P) (.node (ob90_15 P) .nil .nil) .nil))) (.node (ob14_1 P) (.node (ob22_4 P) (.node (ob38_8 P) (.node (ob70_14 P) .nil .nil) (.node (ob102_15 P) .nil .nil)) (.node (ob54_11 P) (.node (ob86_15 P) .nil .nil) (.node (ob118_16 P) .nil .nil))) (.node (ob30_5 P) (.node (ob46_10 P) (.node (ob78_15 P) .nil .nil) (.node (ob110_15 P) .nil .nil)) (.node (ob62_13 P) (.node (ob94_15 P) .nil .nil) .nil))))))
noncomputable def S16 (w : World) (os : OsState) : SharedT := ⟨T16 w.params, 119, (boot_heap w.params).life, Array.mk [], boot_drawn, 2312, os⟩
noncomputable def P16 : Pos := ⟨93, 0, 97, 23⟩
noncomputable def T17 (P : Params) : BT := (.node (boot_o_0 P) (.node (boot_o_1 P) (.node (ob3_17 P) (.node (boot_o_7 P) (.node (ob15_4 P) (.node (ob31_5 P) (.node (ob63_13 P) .nil .nil) (.node (ob95_15 P) .nil .nil)) (.node (ob47_10 P) (.node (ob79_15 P) .nil .nil) (.node (ob111_15 P) .nil .nil))) (.node (ob23_4 P) (.node (ob39_8 P) (.node (ob71_14 P) .nil .nil) (.node (ob103_15 P) .nil .nil)) (.node (ob55_13 P) (.node (ob87_15 P) .nil .nil) .nil))) (.node (ob11_1 P) (.node (ob19_4 P) (.node (ob35_8 P) (.node (ob67_14 P) .nil .nil) (.node (ob99_15 P) .nil .nil)) (.node (ob51_11 P) (.node (ob83_15 P) .nil .nil) (.node (ob115_16 P) .nil .nil))) (.node (ob27_5 P) (.node (ob43_10 P) (.node (ob75_15 P) .nil .nil) (.node (ob107_15 P) .nil .nil)) (.node (ob59_13 P) (.node (ob91_15 P) .nil .nil) .nil)))) (.node (boot_o_5 P) (.node (boot_o_9 P) (.node (ob17_4 P) (.node (ob33_7 P) (.node (ob65_13 P) .nil .nil) (.node (ob97_15 P) .nil .nil)) (.node (ob49_11 P) (.node (ob81_15 P) .nil .nil) (.node (ob113_16 P) .nil .nil))) (.node (ob25_5 P) (.node (ob41_10 P) (.node (ob73_15 P) .nil .nil) (.node (ob105_15 P) .nil .nil)) (.node (ob57_13 P) (.node (ob89_15 P) .nil .nil) .nil))) (.node (ob13_1 P) (.node (ob21_4 P) (.node (ob37_8 P) (.node (ob69_14 P) .nil .nil) (.node (ob101_15 P) .nil .nil)) (.node (ob53_11 P) (.node (ob85_15 P) .nil .nil) (.node (ob117_16 P) .nil .nil))) (.node (ob29_5 P) (.node (ob45_10 P) (.node (ob77_15 P) .nil .nil) (.node (ob109_15 P) .nil .nil)) (.node (ob61_13 P) (.node (ob93_15 P) .nil .nil) .nil))))) (.node (boot_o_2 P) (.node (boot_o_4 P) (.node (boot_o_8 P) (.node (ob16_4 P) (.node (ob32_5 P) (.node (ob64_13 P) .nil .nil) (.node (ob96_15 P) .nil .nil)) (.node (ob48_11 P) (.node (ob80_15 P) .nil .nil) (.node (ob112_16 P) .nil .nil))) (.node (ob24_5 P) (.node (ob40_8 P) (.node (ob72_14 P) .nil .nil) (.node (ob104_15 P) .nil .nil)) (.node (ob56_13 P) (.node (ob88_15 P) .nil .nil) .nil))) (.node (ob12_16 P) (.node (ob20_4 P) (.node (ob36_8 P) (.node (ob68_14 P) .nil .nil) (.node (ob100_15 P) .nil .nil)) (.node (ob52_11 P) (.node (ob84_15 P) .nil .nil) (.node (ob116_16 P) .nil .nil))) (.node (ob28_5 P) (.node (ob44_10 P) (.node (ob76_15 P) .nil .nil) (.node (ob108_15 P) .nil .nil)) (.node (ob60_13 P) (.node (ob92_15 P) .nil .nil) .nil)))) (.node (boot_o_6 P) (.node (boot_o_10 P) (.node (ob18_4 P) (.node (ob34_8 P) (.node (ob66_14 P) .nil .nil) (.node (ob98_15 P) .nil .nil)) (.node (ob50_11 P) (.node (ob82_15 P) .nil .nil) (.node (ob114_16 P) .nil .nil))) (.node (ob26_5 P) (.node (ob42_10 P) (.node (ob74_15 P) .nil .nil) (.node (ob106_15 P) .nil .nil)) (.node (ob58_13 P) (.node (ob90_15 P) .nil .nil) .nil))) (.node (ob14_1 P) (.node (ob22_4 P) (.node (ob38_8 P) (.node (ob70_14 P) .nil .nil) (.node (ob102_15 P) .nil .nil)) (.node (ob54_11 P) (.node (ob86_15 P) .nil .nil) (.node (ob118_16 P) .nil .nil))) (.node (ob30_5 P) (.node (ob46_10 P) (.node (ob78_15 P) .nil .nil) (.node (ob110_15 P) .nil .nil)) (.node (ob62_13 P) (.node (ob94_15 P) .nil .nil) .nil))))))
noncomputable def S17 (w : World) (os : OsState) : SharedT := ⟨T17 w.params, 119, (boot_heap w.params).life, Array.mk [], boot_drawn, 2314, os⟩
noncomputable def P17 : Pos := ⟨98, 0, 98, 8⟩
noncomputable def T18 (P : Params) : BT := (.node (boot_o_0 P) (.node (boot_o_1 P) (.node (ob3_18 P) (.node (boot_o_7 P) (.node (ob15_4 P) (.node (ob31_5 P) (.node (ob63_13 P) .nil .nil) (.node (ob95_15 P) .nil .nil)) (.node (ob47_10 P) (.node (ob79_15 P) .nil .nil) (.node (ob111_15 P) .nil .nil))) (.node (ob23_4 P) (.node (ob39_8 P) (.node (ob71_14 P) .nil .nil) (.node (ob103_15 P) .nil .nil)) (.node (ob55_13 P) (.node (ob87_15 P) .nil .nil) (.node (ob119_18 P) .nil .nil)))) (.node (ob11_1 P) (.node (ob19_4 P) (.node (ob35_8 P) (.node (ob67_14 P) .nil .nil) (.node (ob99_15 P) .nil .nil)) (.node (ob51_11 P) (.node (ob83_15 P) .nil .nil) (.node (ob115_16 P) .nil .nil))) (.node (ob27_5 P) (.node (ob43_10 P) (.node (ob75_15 P) .nil .nil) (.node (ob107_15 P) .nil .nil)) (.node (ob59_13 P) (.node (ob91_15 P) .nil .nil) (.node (ob123_18 P) .nil .nil))))) (.node (boot_o_5 P) (.node (boot_o_9 P) (.node (ob17_4 P) (.node (ob33_7 P) (.node (ob65_13 P) .nil .nil) (.node (ob97_15 P) .nil .nil)) (.node (ob49_11 P) (.node (ob81_15 P) .nil .nil) (.node (ob113_16 P) .nil .nil))) (.node (ob25_5 P) (.node (ob41_10 P) (.node (ob73_15 P) .nil .nil) (.node (ob105_15 P) .nil .nil)) (.node (ob57_13 P) (.node (ob89_15 P) .nil .nil) (.node (ob121_18 P) .nil .nil)))) (.node (ob13_1 P) (.node (ob21_4 P) (.node (ob37_8 P) (.node (ob69_14 P) .nil .nil) (.node (ob101_15 P) .nil .nil)) (.node (ob53_11 P) (.node (ob85_15 P) .nil .nil) (.node (ob117_16 P) .nil .nil))) (.node (ob29_5 P) (.node (ob45_10 P) (.node (ob77_15 P) .nil .nil) (.node (ob109_15 P) .nil .nil)) (.node (ob61_13 P) (.node (ob93_15 P) .nil .nil) (.node (ob125_18 P) .nil .nil)))))) (.node (boot_o_2 P) (.node (boot_o_4 P) (.node (boot_o_8 P) (.node (ob16_4 P) (.node (ob32_5 P) (.node (ob64_13 P) .nil .nil) (.node (ob96_15 P) .nil .nil)) (.node (ob48_11 P) (.node (ob80_15 P) .nil .nil) (.node (ob112_16 P) .nil .nil))) (.node (ob24_5 P) (.node (ob40_8 P) (.node (ob72_14 P) .nil .nil) (.node (ob104_15 P) .nil .nil)) (.node (ob56_13 P) (.node (ob88_15 P) .nil .nil) (.node (ob120_18 P) .nil .nil)))) (.node (ob12_18 P) (.node (ob20_4 P) (.node (ob36_8 P) (.node (ob68_14 P) .nil .nil) (.node (ob100_15 P) .nil .nil)) (.node (ob52_11 P) (.node (ob84_15 P) .nil .nil) (.node (ob116_16 P) .nil .nil))) (.node (ob28_5 P) (.node (ob44_10 P) (.node (ob76_15 P) .nil .nil) (.node (ob108_15 P) .nil .nil)) (.node (ob60_13 P) (.node (ob92_15 P) .nil .nil) (.node (ob124_18 P) .nil .nil))))) (.node (boot_o_6 P) (.node (boot_o_10 P) (.node (ob18_4 P) (.node (ob34_8 P) (.node (ob66_14 P) .nil .nil) (.node (ob98_15 P) .nil .nil)) (.node (ob50_11 P) (.node (ob82_15 P) .nil .nil) (.node (ob114_16 P) .nil .nil))) (.node (ob26_5 P) (.node (ob42_10 P) (.node (ob74_15 P) .nil .nil) (.node (ob106_15 P) .nil .nil)) (.node (ob58_13 P) (.node (ob90_15 P) .nil .nil) (.node (ob122_18 P) .nil .nil)))) (.node (ob14_1 P) (.node (ob22_4 P) (.node (ob38_8 P) (.node (ob70_14 P) .nil .nil) (.node (ob102_15 P) .nil .nil)) (.node (ob54_11 P) (.node (ob86_15 P) .nil .nil) (.node (ob118_16 P) .nil .nil))) (.node (ob30_5 P) (.node (ob46_10 P) (.node (ob78_15 P) .nil .nil) (.node (ob110_15 P) .nil .nil)) (.node (ob62_13 P) (.node (ob94_15 P) .nil .nil) .nil))))))
noncomputable def S18 (w : World) (os : OsState) : SharedT := ⟨T18 w.params, 126, (boot_heap w.params).life, Array.mk [], boot_drawn, 2325, os⟩
noncomputable def P18 : Pos := ⟨99, 0, 106, 17⟩
noncomputable def T19 (P : Params) : BT := (.node (boot_o_0 P) (.node (boot_o_1 P) (.node (ob3_19 P) (.node (boot_o_7 P) (.node (ob15_4 P) (.node (ob31_5 P) (.node (ob63_13 P) (.node (ob127_19 P) .nil .nil) .nil) (.node (ob95_15 P) .nil .nil)) (.node (ob47_10 P) (.node (ob79_15 P) .nil .nil) (.node (ob111_15 P) .nil .nil))) (.node (ob23_4 P) (.node (ob39_8 P) (.node (ob71_14 P) .nil .nil) (.node (ob103_15 P) .nil .nil)) (.node (ob55_13 P) (.node (ob87_15 P) .nil .nil) (.node (ob119_18 P) .nil .nil)))) (.node (ob11_1 P) (.node (ob19_4 P) (.node (ob35_8 P) (.node (ob67_14 P) .nil .nil) (.node (ob99_15 P) .nil .nil)) (.node (ob51_11 P) (.node (ob83_15 P) .nil .nil) (.node (ob115_16 P) .nil .nil))) (.node (ob27_5 P) (.node (ob43_10 P) (.node (ob75_15 P) .nil .nil) (.node (ob107_15 P) .nil .nil)) (.node (ob59_13 P) (.node (ob91_15 P) .nil .nil) (.node (ob123_18 P) .nil .nil))))) (.node (boot_o_5 P) (.node (boot_o_9 P) (.node (ob17_4 P) (.node (ob33_7 P) (.node (ob65_13 P) (.node (ob129_19 P) .nil .nil) .nil) (.node (ob97_15 P) .nil .nil)) (.node (ob49_11 P) (.node (ob81_15 P) .nil .nil) (.node (ob113_16 P) .nil .nil))) (.node (ob25_5 P) (.node (ob41_10 P) (.node (ob73_15 P) .nil .nil) (.node (ob105_15 P) .nil .nil)) (.node (ob57_13 P) (.node (ob89_15 P) .nil .nil) (.node (ob121_18 P) .nil .nil)))) (.node (ob13_1 P) (.node (ob21_4 P) (.node (ob37_8 P) (.node (ob69_14 P) .nil .nil) (.node (ob101_15 P) .nil .nil)) (.node (ob53_11 P) (.node (ob85_15 P) .nil .nil) (.node (ob117_16 P) .nil .nil))) (.node (ob29_5 P) (.node (ob45_10 P) (.node (ob77_15 P) .nil .nil) (.node (ob109_15 P) .nil .nil)) (.node (ob61_13 P) (.node (ob93_15 P) .nil .nil) (.node (ob125_18 P) .nil .nil)))))) (.node (boot_o_2 P) (.node (boot_o_4 P) (.node (boot_o_8 P) (.node (ob16_4 P) (.node (ob32_5 P) (.node (ob64_13 P) (.node (ob128_19 P) .nil .nil) .nil) (.node (ob96_15 P) .nil .nil)) (.node (ob48_11 P) (.node (ob80_15 P) .nil .nil) (.node (ob112_16 P) .nil .nil))) (.node (ob24_5 P) (.node (ob40_8 P) (.node (ob72_14 P) .nil .nil) (.node (ob104_15 P) .nil .nil)) (.node (ob56_13 P) (.node (ob88_15 P) .nil .nil) (.node (ob120_18 P) .nil .nil)))) (.node (ob12_19 P) (.node (ob20_4 P) (.node (ob36_8 P) (.node (ob68_14 P) .nil .nil) (.node (ob100_15 P) .nil .nil)) (.node (ob52_11 P) (.node (ob84_15 P) .nil .nil) (.node (ob116_16 P) .nil .nil))) (.node (ob28_5 P) (.node (ob44_10 P) (.node (ob76_15 P) .nil .nil) (.node (ob108_15 P) .nil .nil)) (.node (ob60_13 P) (.node (ob92_15 P) .nil .nil) (.node (ob124_18 P) .nil .nil))))) (.node (boot_o_6 P) (.node (boot_o_10 P) (.node (ob18_4 P) (.node (ob34_8 P) (.node (ob66_14 P) (.node (ob130_19 P) .nil .nil) .nil) (.node (ob98_15 P) .nil .nil)) (.node (ob50_11 P) (.node (ob82_15 P) .nil .nil) (.node (ob114_16 P) .nil .nil))) (.node (ob26_5 P) (.node (ob42_10 P) (.node (ob74_15 P) .nil .nil) (.node (ob106_15 P) .nil .nil)) (.node (ob58_13 P) (.node (ob90_15 P) .nil .nil) (.node (ob122_18 P) .nil .nil)))) (.node (ob14_1 P) (.node (ob22_4 P) (.node (ob38_8 P) (.node (ob70_14 P) .nil .nil) (.node (ob102_15 P) .nil .nil)) (.node (ob54_11 P) (.node (ob86_15 P) .nil .nil) (.node (ob118_16 P) .nil .nil))) (.node (ob30_5 P) (.node (ob46_10 P) (.node (ob78_15 P) .nil .nil) (.node (ob110_15 P) .nil .nil)) (.node (ob62_13 P) (.node (ob94_15 P) .nil .nil) (.node (ob126_19 P) .nil .nil)))))))
noncomputable def S19 (w : World) (os : OsState) : SharedT := ⟨T19 w.params, 131, (boot_heap w.params).life, Array.mk [], boot_drawn, 2331, os⟩
noncomputable def P19 : Pos := ⟨107, 0, 113, 79⟩
noncomputable def T20 (P : Params) : BT := (.node (boot_o_0 P) (.node (boot_o_1 P) (.node (ob3_20 P) (.node (boot_o_7 P) (.node (ob15_4 P) (.node (ob31_5 P) (.node (ob63_13 P) (.node (ob127_19 P) .nil .nil) .nil) (.node (ob95_15 P) .nil .nil)) (.node (ob47_10 P) (.node (ob79_15 P) .nil .nil) (.node (ob111_15 P) .nil .nil))) (.node (ob23_4 P) (.node (ob39_8 P) (.node (ob71_14 P) (.node (ob135_20 P) .nil .nil) .nil) (.node (ob103_15 P) .nil .nil)) (.node (ob55_13 P) (.node (ob87_15 P) .nil .nil) (.node (ob119_18 P) .nil .nil)))) (.node (ob11_1 P) (.node (ob19_4 P) (.node (ob35_8 P) (.node (ob67_14 P) (.node (ob131_20 P) .nil .nil) .nil) (.node (ob99_15 P) .nil .nil)) (.node (ob51_11 P) (.node (ob83_15 P) .nil .nil) (.node (ob115_16 P) .nil .nil))) (.node (ob27_5 P) (.node (ob43_10 P) (.node (ob75_15 P) .nil .nil) (.node (ob107_15 P) .nil .nil)) (.node (ob59_13 P) (.node (ob91_15 P) .nil .nil) (.node (ob123_18 P) .nil .nil))))) (.node (boot_o_5 P) (.node (boot_o_9 P) (.node (ob17_4 P) (.node (ob33_7 P) (.node (ob65_13 P) (.node (ob129_19 P) .nil .nil) .nil) (.node (ob97_15 P) .nil .nil)) (.node (ob49_11 P) (.node (ob81_15 P) .nil .nil) (.node (ob113_16 P) .nil .nil))) (.node (ob25_5 P) (.node (ob41_10 P) (.node (ob73_15 P) (.node (ob137_20 P) .nil .nil) .nil) (.node (ob105_15 P) .nil .nil)) (.node (ob57_13 P) (.node (ob89_15 P) .nil .nil) (.node (ob121_18 P) .nil .nil)))) (.node (ob13_1 P) (.node (ob21_4 P) (.node (ob37_8 P) (.node (ob69_14 P) (.node (ob133_20 P) .nil .nil) .nil) (.node (ob101_15 P) .nil .nil)) (.node (ob53_11 P) (.node (ob85_15 P) .nil .nil) (.node (ob117_16 P) .nil .nil))) (.node (ob29_5 P) (.node (ob45_10 P) (.node (ob77_15 P) .nil .nil) (.node (ob109_15 P) .nil .nil)) (.node (ob61_13 P) (.node (ob93_15 P) .nil .nil) (.node (ob125_18 P) .nil .nil)))))) (.node (boot_o_2 P) (.node (boot_o_4 P) (.node (boot_o_8 P) (.node (ob16_4 P) (.node (ob32_5 P) (.node (ob64_13 P) (.node (ob128_19 P) .nil .nil) .nil) (.node (ob96_15 P) .nil .nil)) (.node (ob48_11 P) (.node (ob80_15 P) .nil .nil) (.node (ob112_16 P) .nil .nil))) (.node (ob24_5 P) (.node (ob40_8 P) (.node (ob72_14 P) (.node (ob136_20 P) .nil .nil) .nil) (.node (ob104_15 P) .nil .nil)) (.node (ob56_13 P) (.node (ob88_15 P) .nil .nil) (.node (ob120_18 P) .nil .nil)))) (.node (ob12_20 P) (.node (ob20_4 P) (.node (ob36_8 P) (.node (ob68_14 P) (.node (ob132_20 P) .nil .nil) .nil) (.node (ob100_15 P) .nil .nil)) (.node (ob52_11 P) (.node (ob84_15 P) .nil .nil) (.node (ob116_16 P) .nil .nil))) (.node (ob28_5 P) (.node (ob44_10 P) (.node (ob76_15 P) .nil .nil) (.node (ob108_15 P) .nil .nil)) (.node (ob60_13 P) (.node (ob92_15 P) .nil .nil) (.node (ob124_18 P) .nil .nil))))) (.node (boot_o_6 P) (.node (boot_o_10 P) (.node (ob18_4 P) (.node (ob34_8 P) (.node (ob66_14 P) (.node (ob130_19 P) .nil .nil) .nil) (.node (ob98_15 P) .nil .nil)) (.node (ob50_11 P) (.node (ob82_15 P) .nil .nil) (.node (ob114_16 P) .nil .nil))) (.node (ob26_5 P) (.node (ob42_10 P) (.node (ob74_15 P) .nil .nil) (.node (ob106_15 P) .nil .nil)) (.node (ob58_13 P) (.node (ob90_15 P) .nil .nil) (.node (ob122_18 P) .nil .nil)))) (.node (ob14_1 P) (.node (ob22_4 P) (.node (ob38_8 P) (.node (ob70_14 P) (.node (ob134_20 P) .nil .nil) .nil) (.node (ob102_15 P) .nil .nil)) (.node (ob54_11 P) (.node (ob86_15 P) .nil .nil) (.node (ob118_16 P) .nil .nil))) (.node (ob30_5 P) (.node (ob46_10 P) (.node (ob78_15 P) .nil .nil) (.node (ob110_15 P) .nil .nil)) (.node (ob62_13 P) (.node (ob94_15 P) .nil .nil) (.node (ob126_19 P) .nil .nil)))))))
noncomputable def S20 (w : World) (os : OsState) : SharedT := ⟨T20 w.params, 138, (boot_heap w.params).life, Array.mk [], boot_drawn, 2340, os⟩
noncomputable def P20 : Pos := ⟨114, 0, 118, 37⟩
noncomputable def T21 (P : Params) : BT := (.node (boot_o_0 P) (.node (boot_o_1 P) (.node (ob3_21 P) (.node (boot_o_7 P) (.node (ob15_4 P) (.node (ob31_5 P) (.node (ob63_13 P) (.node (ob127_19 P) .nil .nil) .nil) (.node (ob95_15 P) .nil .nil)) (.node (ob47_10 P) (.node (ob79_15 P) .nil .nil) (.node (ob111_15 P) .nil .nil))) (.node (ob23_4 P) (.node (ob39_8 P) (.node (ob71_14 P) (.node (ob135_20 P) .nil .nil) .nil) (.node (ob103_15 P) .nil .nil)) (.node (ob55_13 P) (.node (ob87_15 P) .nil .nil) (.node (ob119_18 P) .nil .nil)))) (.node (ob11_1 P) (.node (ob19_4 P) (.node (ob35_8 P) (.node (ob67_14 P) (.node (ob131_20 P) .nil .nil) .nil) (.node (ob99_15 P) .nil .nil)) (.node (ob51_11 P) (.node (ob83_15 P) .nil .nil) (.node (ob115_16 P) .nil .nil))) (.node (ob27_5 P) (.node (ob43_10 P) (.node (ob75_15 P) (.node (ob139_21 P) .nil .nil) .nil) (.node (ob107_15 P) .nil .nil)) (.node (ob59_13 P) (.node (ob91_15 P) .nil .nil) (.node (ob123_18 P) .nil .nil))))) (.node (boot_o_5 P) (.node (boot_o_9 P) (.node (ob17_4 P) (.node (ob33_7 P) (.node (ob65_13 P) (.node (ob129_19 P) .nil .nil) .nil) (.node (ob97_15 P) .nil .nil)) (.node (ob49_11 P) (.node (ob81_15 P) .nil .nil) (.node (ob113_16 P) .nil .nil))) (.node (ob25_5 P) (.node (ob41_10 P) (.node (ob73_15 P) (.node (ob137_20 P) .nil .nil) .nil) (.node (ob105_15 P) .nil .nil)) (.node (ob57_13 P) (.node (ob89_15 P) .nil .nil) (.node (ob121_18 P) .nil .nil)))) (.node (ob13_1 P) (.node (ob21_4 P) (.node (ob37_8 P) (.node (ob69_14 P) (.node (ob133_20 P) .nil .nil) .nil) (.node (ob101_15 P) .nil .nil)) (.node (ob53_11 P) (.node (ob85_15 P) .nil .nil) (.node (ob117_16 P) .nil .nil))) (.node (ob29_5 P) (.node (ob45_10 P) (.node (ob77_15 P) (.node (ob141_21 P) .nil .nil) .nil) (.node (ob109_15 P) .nil .nil)) (.node (ob61_13 P) (.node (ob93_15 P) .nil .nil) (.node (ob125_18 P) .nil .nil)))))) (.node (boot_o_2 P) (.node (boot_o_4 P) (.node (boot_o_8 P) (.node (ob16_4 P) (.node (ob32_5 P) (.node (ob64_13 P) (.node (ob128_19 P) .nil .nil) .nil) (.node (ob96_15 P) .nil .nil)) (.node (ob48_11 P) (.node (ob80_15 P) .nil .nil) (.node (ob112_16 P) .nil .nil))) (.node (ob24_5 P) (.node (ob40_8 P) (.node (ob72_14 P) (.node (ob136_20 P) .nil .nil) .nil) (.node (ob104_15 P) .nil .nil)) (.node (ob56_13 P) (.node (ob88_15 P) .nil .nil) (.node (ob120_18 P) .nil .nil)))) (.node (ob12_21 P) (.node (ob20_4 P) (.node (ob36_8 P) (.node (ob68_14 P) (.node (ob132_20 P) .nil .nil) .nil) (.node (ob100_15 P) .nil .nil)) (.node (ob52_11 P) (.node (ob84_15 P) .nil .nil) (.node (ob116_16 P) .nil .nil))) (.node (ob28_5 P) (.node (ob44_10 P) (.node (ob76_15 P) (.node (ob140_21 P) .nil .nil) .nil) (.node (ob108_15 P) .nil .nil)) (.node (ob60_13 P) (.node (ob92_15 P) .nil .nil) (.node (ob124_18 P) .nil .nil))))) (.node (boot_o_6 P) (.node (boot_o_10 P) (.node (ob18_4 P) (.node (ob34_8 P) (.node (ob66_14 P) (.node (ob130_19 P) .nil .nil) .nil) (.node (ob98_15 P) .nil .nil)) (.node (ob50_11 P) (.node (ob82_15 P) .nil .nil) (.node (ob114_16 P) .nil .nil))) (.node (ob26_5 P) (.node (ob42_10 P) (.node (ob74_15 P) (.node (ob138_21 P) .nil .nil) .nil) (.node (ob106_15 P) .nil .nil)) (.node (ob58_13 P) (.node (ob90_15 P) .nil .nil) (.node (ob122_18 P) .nil .nil)))) (.node (ob14_1 P) (.node (ob22_4 P) (.node (ob38_8 P) (.node (ob70_14 P) (.node (ob134_20 P) .nil .nil) .nil) (.node (ob102_15 P) .nil .nil)) (.node (ob54_11 P) (.node (ob86_15 P) .nil .nil) (.node (ob118_16 P) .nil .nil))) (.node (ob30_5 P) (.node (ob46_10 P) (.node (ob78_15 P) (.node (ob142_21 P) .nil .nil) .nil) (.node (ob110_15 P) .nil .nil)) (.node (ob62_13 P) (.node (ob94_15 P) .nil .nil) (.node (ob126_19 P) .nil .nil)))))))
noncomputable def S21 (w : World) (os : OsState) : SharedT := ⟨T21 w.params, 143, (boot_heap w.params).life, Array.mk [], boot_drawn, 2346, os⟩
noncomputable def P21 : Pos := ⟨119, 0, 150, 74⟩
noncomputable def T22 (P : Params) : BT := (.node (boot_o_0 P) (.node (boot_o_1 P) (.node (ob3_21 P) (.node (boot_o_7 P) (.node (ob15_4 P) (.node (ob31_5 P) (.node (ob63_13 P) (.node (ob127_19 P) .nil .nil) .nil) (.node (ob95_15 P) .nil .nil)) (.node (ob47_10 P) (.node (ob79_15 P) .nil .nil) (.node (ob111_15 P) .nil .nil))) (.node (ob23_4 P) (.node (ob39_8 P) (.node (ob71_14 P) (.node (ob135_20 P) .nil .nil) .nil) (.node (ob103_15 P) .nil .nil)) (.node (ob55_13 P) (.node (ob87_15 P) .nil .nil) (.node (ob119_18 P) .nil .nil)))) (.node (ob11_1 P) (.node (ob19_4 P) (.node (ob35_8 P) (.node (ob67_14 P) (.node (ob131_20 P) .nil .nil) .nil) (.node (ob99_15 P) .nil .nil)) (.node (ob51_11 P) (.node (ob83_15 P) .nil .nil) (.node (ob115_16 P) .nil .nil))) (.node (ob27_5 P) (.node (ob43_10 P) (.node (ob75_15 P) (.node (ob139_21 P) .nil .nil) .nil) (.node (ob107_15 P) .nil .nil)) (.node (ob59_13 P) (.node (ob91_15 P) .nil .nil) (.node (ob123_18 P) .nil .nil))))) (.node (boot_o_5 P) (.node (boot_o_9 P) (.node (ob17_4 P) (.node (ob33_7 P) (.node (ob65_13 P) (.node (ob129_19 P) .nil .nil) .nil) (.node (ob97_15 P) .nil .nil)) (.node (ob49_11 P) (.node (ob81_15 P) .nil .nil) (.node (ob113_16 P) .nil .nil))) (.node (ob25_5 P) (.node (ob41_10 P) (.node (ob73_15 P) (.node (ob137_20 P) .nil .nil) .nil) (.node (ob105_15 P) .nil .nil)) (.node (ob57_13 P) (.node (ob89_15 P) .nil .nil) (.node (ob121_18 P) .nil .nil)))) (.node (ob13_1 P) (.node (ob21_4 P) (.node (ob37_8 P) (.node (ob69_14 P) (.node (ob133_20 P) .nil .nil) .nil) (.node (ob101_15 P) .nil .nil)) (.node (ob53_11 P) (.node (ob85_15 P) .nil .nil) (.node (ob117_16 P) .nil .nil))) (.node (ob29_5 P) (.node (ob45_10 P) (.node (ob77_15 P) (.node (ob141_21 P) .nil .nil) .nil) (.node (ob109_15 P) .nil .nil)) (.node (ob61_13 P) (.node (ob93_15 P) .nil .nil) (.node (ob125_18 P) .nil .nil)))))) (.node (boot_o_2 P) (.node (boot_o_4 P) (.node (boot_o_8 P) (.node (ob16_4 P) (.node (ob32_5 P) (.node (ob64_13 P) (.node (ob128_19 P) .nil .nil) .nil) (.node (ob96_15 P) .nil .nil)) (.node (ob48_11 P) (.node (ob80_15 P) .nil .nil) (.node (ob112_16 P) .nil .nil))) (.node (ob24_5 P) (.node (ob40_8 P) (.node (ob72_14 P) (.node (ob136_20 P) .nil .nil) .nil) (.node (ob104_15 P) .nil .nil)) (.node (ob56_13 P) (.node (ob88_15 P) .nil .nil) (.node (ob120_18 P) .nil .nil)))) (.node (ob12_21 P) (.node (ob20_4 P) (.node (ob36_8 P) (.node (ob68_14 P) (.node (ob132_20 P) .nil .nil) .nil) (.node (ob100_15 P) .nil .nil)) (.node (ob52_11 P) (.node (ob84_15 P) .nil .nil) (.node (ob116_16 P) .nil .nil))) (.node (ob28_5 P) (.node (ob44_10 P) (.node (ob76_15 P) (.node (ob140_21 P) .nil .nil) .nil) (.node (ob108_15 P) .nil .nil)) (.node (ob60_13 P) (.node (ob92_15 P) .nil .nil) (.node (ob124_18 P) .nil .nil))))) (.node (boot_o_6 P) (.node (boot_o_10 P) (.node (ob18_4 P) (.node (ob34_8 P) (.node (ob66_14 P) (.node (ob130_19 P) .nil .nil) .nil) (.node (ob98_15 P) .nil .nil)) (.node (ob50_11 P) (.node (ob82_15 P) .nil .nil) (.node (ob114_16 P) .nil .nil))) (.node (ob26_5 P) (.node (ob42_10 P) (.node (ob74_15 P) (.node (ob138_21 P) .nil .nil) .nil) (.node (ob106_15 P) .nil .nil)) (.node (ob58_13 P) (.node (ob90_15 P) .nil .nil) (.node (ob122_18 P) .nil .nil)))) (.node (ob14_1 P) (.node (ob22_4 P) (.node (ob38_8 P) (.node (ob70_14 P) (.node (ob134_20 P) .nil .nil) .nil) (.node (ob102_15 P) .nil .nil)) (.node (ob54_11 P) (.node (ob86_15 P) .nil .nil) (.node (ob118_16 P) .nil .nil))) (.node (ob30_5 P) (.node (ob46_10 P) (.node (ob78_15 P) (.node (ob142_21 P) .nil .nil) .nil) (.node (ob110_15 P) .nil .nil)) (.node (ob62_13 P) (.node (ob94_15 P) .nil .nil) (.node (ob126_19 P) .nil .nil)))))))
noncomputable def S22 (w : World) (os : OsState) : SharedT := ⟨T22 w.params, 143, (boot_heap w.params).life, Array.mk [], boot_drawn, 2346, os⟩
noncomputable def P22 : Pos := ⟨119, 0, 150, 74⟩
end Mine
end
noncomputable section
namespace Mine
noncomputable abbrev PW : Program := PySem.Challenge.pw_wf0083_01
noncomputable def tenv : Env := { scope := PW.main.scope, locals := mainNs, globals := mainNs, cells := [], code := .ref 13, frame := some 14 }
noncomputable def stm (i : Nat) : Stmt := PW.main.body.getD i (.Pass ⟨0, 0, 0, 0⟩)
noncomputable abbrev q0 : Pos := ⟨0, 0, 0, 0⟩
noncomputable abbrev B0 : List PySem.Frame := [topFrame q0]
noncomputable abbrev bE : List Stmt := behindTheImports PW
noncomputable def stepsOk (n : Nat) (i : Nat) (S S' : World → OsState → SharedT) (P P' : Pos) (w : World) : Prop := ∀ (os : OsState),
  segRunT treeTable PW w 11 (some (.ref 6)) 1 n (S w os) (pieceOf (stm i) tenv (.body bE tenv) P B0) = some (.next, S' w os, .body bE tenv, P')
theorem pc0 (w : World) : stepsOk 10 0 S2 S3 P2 P3 w := fun os => by kernel_rfl
theorem pc1 (w : World) : stepsOk 42 1 S3 S4 P3 P4 w := fun os => by kernel_rfl
theorem pc2 (w : World) : stepsOk 42 2 S4 S5 P4 P5 w := fun os => by kernel_rfl
theorem pc3 (w : World) : stepsOk 10 3 S5 S6 P5 P6 w := fun os => by kernel_rfl
theorem pc4 (w : World) : stepsOk 141 4 S6 S7 P6 P7 w := byRow2 "special-get-raises" (P := stepsOk 141 4 S6 S7 P6 P7) (fun w os => by kernel_rfl) (fun w os => by kernel_rfl) w
theorem pc5 (w : World) : stepsOk 33 5 S7 S8 P7 P8 w := fun os => by kernel_rfl
theorem pc6 (w : World) : stepsOk 10 6 S8 S9 P8 P9 w := fun os => by kernel_rfl
theorem pc7 (w : World) : stepsOk 33 7 S9 S10 P9 P10 w := fun os => by kernel_rfl
theorem pc8 (w : World) : stepsOk 35 8 S10 S11 P10 P11 w := fun os => by kernel_rfl
theorem pc9 (w : World) : stepsOk 10 9 S11 S12 P11 P12 w := fun os => by kernel_rfl
theorem pc11 (w : World) : stepsOk 30 11 S13 S14 P13 P14 w := fun os => by kernel_rfl
theorem pc13 (w : World) : stepsOk 31 13 S15 S16 P15 P16 w := fun os => by kernel_rfl
theorem pc14 (w : World) : stepsOk 10 14 S16 S17 P16 P17 w := fun os => by kernel_rfl
theorem pc15 (w : World) : stepsOk 34 15 S17 S18 P17 P18 w := fun os => by kernel_rfl
theorem pc16 (w : World) : stepsOk 27 16 S18 S19 P18 P19 w := fun os => by kernel_rfl
theorem pc17 (w : World) : stepsOk 32 17 S19 S20 P19 P20 w := fun os => by kernel_rfl
theorem pc18 (w : World) : stepsOk 27 18 S20 S21 P20 P21 w := fun os => by kernel_rfl
end Mine
end
noncomputable section
namespace Mine
theorem seg_quick : @segRunT = @PySem.W.Fast.tw10110043849684766642 := PySem.W.Fast.te10110043849684766642
theorem tree_quick : treeTable = PySem.W.Fast.tw14364793385576792824 := PySem.W.Fast.te14364793385576792824
noncomputable def stepsQ (n : Nat) (i : Nat) (S S' : World → OsState → SharedT) (P P' : Pos) (w : World) : Prop := ∀ (os : OsState),
  PySem.W.Fast.tw10110043849684766642 PySem.W.Fast.tw14364793385576792824 PW w 11 (some (.ref 6)) 1 n (S w os) (pieceOf (stm i) tenv (.body bE tenv) P B0) = some (.next, S' w os, .body bE tenv, P')
theorem stepsQ_ok {n i S S' P P' w} (h : stepsQ n i S S' P P' w) : stepsOk n i S S' P P' w := fun os => by
  rw [seg_quick, tree_quick]; exact h os
theorem pc10 (w : World) : stepsOk 999 10 S12 S13 P12 P13 w := stepsQ_ok <|
  byRow2 "special-get-raises" (P := stepsQ 999 10 S12 S13 P12 P13)
    (fun w => byRow2 "set-order" (P := fun w => stepsQ 999 10 S12 S13 P12 P13 (w.withFollow "special-get-raises" false)) (fun w os => by kernel_rfl) (fun w os => by kernel_rfl) w)
    (fun w => byRow2 "set-order" (P := fun w => stepsQ 999 10 S12 S13 P12 P13 (w.withFollow "special-get-raises" true)) (fun w os => by kernel_rfl) (fun w os => by kernel_rfl) w) w
end Mine
end
noncomputable section
namespace Mine
section
variable {tb : String → Option Builtin} {p : Program} {w : World} {n₀ : Nat} {ann : Option Value} {b : Nat}
theorem go_go : ∀ {n m : Nat} {s s' s'' : Shared} {t t' t'' : Thread}, segGo tb p w n₀ ann b n s t = some (s', t') → segGo tb p w n₀ ann b m s' t' = some (s'', t'') → segGo tb p w n₀ ann b (n + m) s t = some (s'', t'')
  | 0, m, s, s', s'', t, t', t'', h, k => by
    obtain ⟨rfl, rfl⟩ : s = s' ∧ t = t' := by simpa [segGo] using h
    rw [Nat.zero_add]; exact k
  | n + 1, m, s, s', s'', t, t', t'', h, k => by
    rw [show n + 1 + m = n + m + 1 by omega]
    unfold segGo at h ⊢
    cases he : endAt b t with
    | some f => rw [he] at h; cases h
    | none =>
      rw [he] at h
      cases hk : stepOk n₀ ann t with
      | false => rw [hk] at h; cases h
      | true =>
        rw [hk] at h
        cases hs : step (denote tb) p w s t with
        | halt o s₂ => rw [hs] at h; cases h
        | go s₂ t₂ => rw [hs] at h; exact go_go h k
end
noncomputable abbrev C0 : Code := .body bE tenv
noncomputable abbrev Go (w : World) (n : Nat) (s : Shared) (t : Thread) := segGo treeTable PW w 11 (some (.ref 6)) 1 n s t
/-- the tree is walked to its value in at most k steps, whatever stands behind it -/
noncomputable def Goes (w : World) {α : Type} (k : Nat) (x : Sem α) (s : Shared) (p : Pos) (a : α) (s' : Shared) (p' : Pos) : Prop :=
  ∃ n, n ≤ k ∧ ∀ (K : α → Sem Fin) (H : Value → Sem Fin) (gd : Bool → Bool) (lv : List Value → List Value), Go w n s ⟨x.wrap K H gd lv, C0, p, B0⟩ = some (s', ⟨K a, C0, p', B0⟩)
namespace Goes
variable {w : World} {α β : Type} {s s' s'' : Shared} {p p' p'' : Pos}
theorem le {n m : Nat} {x : Sem α} {a : α} (h : Goes w n x s p a s' p') (l : n ≤ m) : Goes w m x s p a s' p' :=
  let ⟨k, hk, g⟩ := h; ⟨k, Nat.le_trans hk l, g⟩
theorem pure {a : α} : Goes w 0 (Sem.pure a) s p a s p := ⟨0, Nat.le_refl _, fun _ _ _ _ => rfl⟩
theorem ret {a : α} : Goes w 0 (Pure.pure a) s p a s p := pure
theorem bind' {n m : Nat} {x : Sem α} {f : α → Sem β} {a : α} {b : β} (g : Goes w n x s p a s' p') (h : Goes w m (f a) s' p' b s'' p'') : Goes w (n + m) (x.bind f) s p b s'' p'' := by
  obtain ⟨i, hi, g⟩ := g
  obtain ⟨j, hj, h⟩ := h
  refine ⟨i + j, Nat.add_le_add hi hj, fun K H gd lv => ?_⟩
  rw [Sem.bind_eq_wrap, Sem.wrap_wrap]
  exact go_go (g _ _ _ _) (h K H gd lv)
theorem bind {n m : Nat} {x : Sem α} {f : α → Sem β} {a : α} {b : β} (g : Goes w n x s p a s' p') (h : Goes w m (f a) s' p' b s'' p'') : Goes w (n + m) (x >>= f) s p b s'' p'' := bind' g h
theorem keep {n : Nat} {x : Sem α} {a : α} (vs : List Value) (g : Goes w n x s p a s' p') : Goes w n (x.keep vs) s p a s' p' := by
  obtain ⟨i, hi, g⟩ := g
  refine ⟨i, hi, fun K H gd lv => ?_⟩
  rw [Sem.keep_eq_wrap, Sem.wrap_wrap]
  exact g _ _ _ _
theorem held {n : Nat} {x : Sem α} {a : α} {vs : List Value} (g : Goes w n x s p a s' p') : Goes w n (holding vs x) s p a s' p' := by
  unfold holding
  split
  · exact g
  · exact g.keep _
theorem raised {n : Nat} {x : Sem α} {a : α} {h : Value → Sem Unit} (g : Goes w n x s p a s' p') : Goes w n (x.onRaise h) s p a s' p' := by
  obtain ⟨i, hi, g⟩ := g
  refine ⟨i, hi, fun K H gd lv => ?_⟩
  rw [Sem.onRaise_eq_wrap, Sem.wrap_wrap]
  exact g _ _ _ _
/-- one step of the machine -/
theorem one {c : Sem α} {x : Sem α} (h : ∀ (K : α → Sem Fin) (H : Value → Sem Fin) (gd : Bool → Bool) (lv : List Value → List Value), Go w 1 s ⟨c.wrap K H gd lv, C0, p, B0⟩ = some (s', ⟨x.wrap K H gd lv, C0, p', B0⟩))
    {n : Nat} {a : α} (g : Goes w n x s' p' a s'' p'') : Goes w (n + 1) c s p a s'' p'' := by
  obtain ⟨i, hi, g⟩ := g
  refine ⟨1 + i, by omega, fun K H gd lv => go_go (h K H gd lv) (g K H gd lv)⟩
theorem rule {t : String} : Goes w 1 (PySem.rule t) s p () s p := one (x := Sem.pure ()) (fun _ _ _ _ => rfl) pure
theorem at_ {q : Pos} : Goes w 1 (standAt q) s p () s q := one (x := Sem.pure ()) (fun _ _ _ _ => rfl) pure
theorem point : Goes w 1 PySem.point s p () s p := one (x := Sem.pure ()) (fun _ _ _ _ => rfl) pure
theorem fresh : Goes w 1 PySem.fresh s p s.toks { s with toks := s.toks + 1 } p := by
  obtain ⟨h, g, d, t, o⟩ := s
  exact one (x := Sem.pure t) (fun _ _ _ _ => rfl) pure
theorem load {a : Addr} {q : Option Value} {o : Obj} (h : s.heap.get? a = some o) : Goes w 1 (loadPart a q) s p o s p := by
  refine one (x := Sem.pure o) (fun K H gd lv => ?_) pure
  obtain ⟨hp, g, d, t, os⟩ := s
  show (match step (denote treeTable) PW w ⟨hp, g, d, t, os⟩ ⟨.load a q fun x => (Sem.pure x).wrap K H gd lv, C0, p, B0⟩ with
    | .go s' t' => some (s', t')
    | .halt _ _ => none) = _
  have h : hp.get? a = some o := h
  simp only [step, h]
theorem update {a : Addr} {q : Option Value} {f : Obj → Obj} {o : Obj} (h : s.heap.get? a = some o) (ha : Nat.ble 11 a = true) : Goes w 1 (updatePart a q f) s p () { s with heap := s.heap.update a f } p := by
  refine one (x := Sem.pure ()) (fun K H gd lv => ?_) pure
  obtain ⟨hp, g, d, t, os⟩ := s
  have hk : stepOk 11 (some (.ref 6)) ⟨.update a q f fun x => (Sem.pure x).wrap K H gd lv, C0, p, B0⟩ = true := by
    show (true && (Nat.ble 11 a || a == mainNs || a == cStatics || some (Value.ref 6) == some (.ref a))) = true
    rw [ha]; rfl
  have h : hp.get? a = some o := h
  show segGo treeTable PW w 11 (some (.ref 6)) 1 1 _ ⟨.update a q f fun x => (Sem.pure x).wrap K H gd lv, C0, p, B0⟩ = _
  unfold segGo
  rw [hk]
  show (match step (denote treeTable) PW w ⟨hp, g, d, t, os⟩ ⟨.update a q f fun x => (Sem.pure x).wrap K H gd lv, C0, p, B0⟩ with
    | .go s' t' => segGo treeTable PW w 11 (some (.ref 6)) 1 0 s' t'
    | .halt _ _ => none) = _
  simp only [step, h, Option.isSome_some, if_true]
  rfl
theorem alloc {o : Obj} : Goes w 1 (PySem.alloc o) s p s.heap.objs.size { s with heap := s.heap.push o } p := by
  obtain ⟨h, g, d, t, os⟩ := s
  exact one (x := Sem.pure h.objs.size) (fun _ _ _ _ => rfl) pure
end Goes
end Mine
end
noncomputable section
namespace Mine
variable {w : World} {os : OsState}
noncomputable def St (w : World) (os : OsState) (L : List Obj) (k : Nat) : Shared := ⟨⟨L.toArray, (boot_heap w.params).life⟩, Array.mk [], boot_drawn, k, os⟩
noncomputable def dOb (es : List DictEntry) (n : Nat) : Obj := ⟨.type "dict", none, .dict es.toArray n, #[]⟩
theorem St_get {L : List Obj} {k : Nat} {a : Addr} {es : List DictEntry} {n : Nat} (h : L[a]? = some (dOb es n)) : (St w os L k).heap.get? a = some (dOb es n) := by
  show (match L.toArray[a]? with
    | some ⟨_, _, .freed, _⟩ => none
    | o => o) = _
  rw [List.getElem?_toArray, h]
  rfl
theorem modify_set {f : Obj → Obj} {o : Obj} : ∀ {L : List Obj} {a : Nat}, L[a]? = some o → L.modify a f = L.set a (f o)
  | [], a, h => by simp at h
  | x :: L, 0, h => by
    simp only [List.getElem?_cons_zero, Option.some.injEq] at h
    subst h; rfl
  | x :: L, a + 1, h => by
    simp only [List.getElem?_cons_succ] at h
    show x :: L.modify a f = x :: L.set a (f o)
    rw [modify_set h]
theorem St_upd {L : List Obj} {k : Nat} {a : Addr} {f : Obj → Obj} {o : Obj} (h : L[a]? = some o) : ({ St w os L k with heap := (St w os L k).heap.update a f } : Shared) = St w os (L.set a (f o)) k := by
  show Shared.mk (Heap.mk (L.toArray.modify a f) _) _ _ _ _ = _
  rw [List.modify_toArray, modify_set h]
  rfl
theorem St_push {L : List Obj} {k : Nat} {o : Obj} : ({ St w os L k with heap := (St w os L k).heap.push o } : Shared) = St w os (L ++ [o]) k := by
  show Shared.mk (Heap.mk (L.toArray.push o) _) _ _ _ _ = _
  rw [List.push_toArray]
  rfl
theorem St_tok {L : List Obj} {k : Nat} : ({ St w os L k with toks := (St w os L k).toks + 1 } : Shared) = St w os L (k + 1) := rfl
/-- all keys are ints whose hash is themselves, none is i -/
noncomputable def Free (i : Int) (es : List DictEntry) : Prop := ∀ e ∈ es, e.hash ≠ i
theorem places_none {es : List DictEntry} {i : Int} (h : Free i es) : placesWithHash es.toArray.size (fun j => es.toArray[j]?.map (·.hash)) i = [] := by
  unfold placesWithHash
  rw [List.filter_eq_nil_iff]
  intro j hj
  show ¬((es.toArray[j]?.map (·.hash)) == some i) = true
  rw [List.getElem?_toArray]
  cases e : es[j]? with
  | none => simp
  | some x =>
    have := h x (List.mem_of_getElem? e)
    simp [this]
section
variable {L : List Obj} {d : Addr} {es : List DictEntry} {n k : Nat} {p : Pos}
theorem g_entries {q : Option Value} (h : L[d]? = some (dOb es n)) : Goes w 1 (dictEntries d q) (St w os L k) p es.toArray (St w os L k) p := by
  unfold dictEntries
  refine ((Goes.load (St_get h)).bind (m := 0) ?_).le (by omega)
  exact .pure
theorem g_epoch {q : Option Value} (h : L[d]? = some (dOb es n)) : Goes w 1 (dictEpoch d q) (St w os L k) p n (St w os L k) p := by
  unfold dictEpoch
  refine ((Goes.load (St_get h)).bind (m := 0) ?_).le (by omega)
  exact .pure
theorem g_find {i : Int} {t : Tok} (h : L[d]? = some (dOb es n)) (f : Free i es) : Goes w 1 (dictFind d (.int i t) i) (St w os L k) p none (St w os L k) p := by
  unfold dictFind
  refine Goes.held ?_
  refine ((g_entries h).bind (m := 0) ?_).le (by omega)
  show Goes w 0 (if _ then _ else _) _ _ _ _ _
  rw [places_none f]
  exact .pure
theorem g_keys {f : Array DictEntry → Array DictEntry} {es' : List DictEntry} {q : Option Value} (h : L[d]? = some (dOb es n)) (hd : Nat.ble 11 d = true) (e : f es.toArray = es'.toArray) (hs : es'.length < 1000) :
    Goes w 3 (updateDictKeys d f q) (St w os L k) p () (St w os (L.set d (dOb es' (n + 1))) k) p := by
  unfold updateDictKeys
  refine ((Goes.load (St_get h)).bind (m := 2) ?_).le (by omega)
  show Goes w 2 (updatePart d q (Obj.mapDictKeys f) >>= fun _ => lookBehind d q) _ _ _ _ _
  refine ((Goes.update (St_get h) hd).bind (m := 1) ?_).le (by omega)
  rw [St_upd h]
  have ho : Obj.mapDictKeys f (dOb es n) = dOb es' (n + 1) := by
    show Obj.mk _ _ (.dict (f es.toArray) _) _ = _
    rw [e]; rfl
  rw [ho]
  have hl : (L.set d (dOb es' (n + 1)))[d]? = some (dOb es' (n + 1)) := by
    rw [List.getElem?_set_self (List.getElem?_eq_some_iff.mp h).1]
  unfold lookBehind
  refine ((Goes.load (St_get hl)).bind (m := 0) ?_).le (by omega)
  have : (dOb es' (n + 1)).data.pastItsLine = none := by
    show (if _ then _ else _) = _
    rw [if_neg]
    show ¬ es'.length > 2 ^ 24 + 1
    omega
  rw [this]
  exact .pure
end
end Mine
end
noncomputable section
namespace Mine
noncomputable def HashGo (w : World) : Prop := ∀ (hp : Heap) (gs : Array GenState) (d : Drawn) (k : Nat) (os : OsState) (i : Int) (t : Tok) (p : Pos) (K : Int → Sem Fin) (H : Value → Sem Fin) (gd : Bool → Bool) (lv : List Value → List Value),
  Go w 5 ⟨hp, gs, d, k, os⟩ ⟨(pyHash (.int i t)).wrap K H gd lv, C0, p, B0⟩ = some (⟨hp, gs, d, k + 1, os⟩, ⟨(pyHashByItsType.reduced (rawHash i)).wrap K H gd lv, C0, p, B0⟩)
theorem hashGo (w : World) : HashGo w := byRow2 "special-get-raises" (P := HashGo) (fun w hp gs d k os i t p K H gd lv => by kernel_rfl) (fun w hp gs d k os i t p K H gd lv => by kernel_rfl) w
noncomputable def smallKey (i : Int) : Bool := decide (0 ≤ i) && decide (i < 1000000)
theorem rawHash_small {i : Int} (h : smallKey i = true) : rawHash i = i := by
  unfold smallKey at h
  simp only [Bool.and_eq_true, decide_eq_true_eq] at h
  obtain ⟨h0, h1⟩ := h
  unfold rawHash
  have e : (((i.natAbs % (2 ^ 61 - 1) : Nat)) : Int) = i := by
    rw [Nat.mod_eq_of_lt (by omega)]; omega
  have e' : ((i.natAbs : Int) % ((2 ^ 61 - 1 : Nat) : Int)) = i := by omega
  simp only [e']
  rw [if_neg (show ¬ i < 0 by omega), if_neg (by simp; omega)]
theorem reduced_small {i : Int} (h : smallKey i = true) : pyHashByItsType.reduced (rawHash i) = pure i := by
  rw [rawHash_small h]
  unfold smallKey at h
  simp only [Bool.and_eq_true, decide_eq_true_eq] at h
  unfold pyHashByItsType.reduced
  rw [if_pos (by simp; omega), if_neg (by simp; omega)]
theorem g_hash {w : World} {i : Int} {t : Tok} (h : smallKey i = true) {s : Shared} {p : Pos} : Goes w 5 (pyHash (.int i t)) s p i { s with toks := s.toks + 1 } p := by
  obtain ⟨hp, gs, d, k, os⟩ := s
  refine ⟨5, Nat.le_refl _, fun K H gd lv => ?_⟩
  rw [hashGo w hp gs d k os i t p K H gd lv, reduced_small h]
  rfl
variable {w : World} {os : OsState} {L : List Obj} {d : Addr} {es : List DictEntry} {n k : Nat} {p : Pos}
theorem g_set {i : Int} {t : Tok} {v : Value} (hi : smallKey i = true) (h : L[d]? = some (dOb es n)) (hd : Nat.ble 11 d = true) (f : Free i es) (hs : es.length < 999) :
    Goes w 10 (dictSet d (.int i t) v) (St w os L k) p () (St w os (L.set d (dOb (es ++ [⟨i, .int i t, v⟩]) (n + 1))) (k + 1)) p := by
  unfold dictSet
  refine Goes.held ?_
  refine ((g_hash hi).bind (m := 5) ?_).le (by omega)
  rw [St_tok]
  unfold dictSetHashed
  refine Goes.held ?_
  refine ((g_find h f).bind (m := 4) ?_).le (by omega)
  refine (Goes.rule.bind (m := 3) ?_).le (by omega)
  exact g_keys (f := fun a => a.push ⟨i, .int i t, v⟩) (es' := es ++ [⟨i, .int i t, v⟩]) h hd (by rw [List.push_toArray]) (by simp; omega)
theorem g_put {i : Int} {t : Tok} {v : Value} (h : L[d]? = some (dOb es n)) (hd : Nat.ble 11 d = true) (f : Free i es) (hs : es.length < 999) :
    Goes w 4 (dictPut d i (.int i t) v) (St w os L k) p () (St w os (L.set d (dOb (es ++ [⟨i, .int i t, v⟩]) (n + 1))) k) p := by
  unfold dictPut
  refine ((g_find h f).bind (m := 3) ?_).le (by omega)
  exact g_keys (f := fun a => a.push ⟨i, .int i t, v⟩) (es' := es ++ [⟨i, .int i t, v⟩]) h hd (by rw [List.push_toArray]) (by simp; omega)
end Mine
end
noncomputable section
namespace Mine
variable {w : World} {os : OsState} {L : List Obj} {d : Addr} {es : List DictEntry} {n k : Nat} {p q : Pos}
noncomputable def valOf (q : Pos) (x : Str) : Sem Value := do let v ← mkText x; standAt q; pure v
noncomputable def pr (q : Pos) (e : Int × Str) : Sem Value × Sem Value := (mkInt e.1, valOf q e.2)
theorem g_key {i : Int} : Goes w 1 (mkInt i) (St w os L k) p (.int i k) (St w os L (k + 1)) p := by
  unfold mkInt
  refine (Goes.fresh.bind (m := 0) ?_).le (by omega)
  exact .pure
theorem g_val {x : Str} : Goes w 2 (valOf q x) (St w os L k) p (.str x k) (St w os L (k + 1)) q := by
  unfold valOf mkText
  refine (Goes.bind (n := 1) (m := 1) (a := .str x k) (s' := St w os L (k + 1)) (p' := p) ?_ ?_).le (by omega)
  · refine (Goes.fresh.bind (m := 0) ?_).le (by omega)
    exact .pure
  · refine (Goes.at_.bind (m := 0) ?_).le (by omega)
    exact .pure
noncomputable def entsL : Nat → List (Int × Str) → List DictEntry
  | _, [] => []
  | k, (i, x) :: r => ⟨i, .int i k, .str x (k + 1)⟩ :: entsL (k + 3) r
noncomputable def Asc : Int → List (Int × Str) → Bool
  | _, [] => true
  | b, (i, _) :: r => decide (b ≤ i) && smallKey i && Asc (i + 1) r
noncomputable def topOf : Int → List (Int × Str) → Int
  | b, [] => b
  | _, (i, _) :: r => topOf (i + 1) r
noncomputable def Below (b : Int) (es : List DictEntry) : Prop := ∀ e ∈ es, e.hash < b
theorem Below.free {b i : Int} (h : Below b es) (l : b ≤ i) : Free i es := fun e he q => by have := h e he; omega
theorem Below.snoc {b i : Int} {v v' : Value} (h : Below b es) (l : b ≤ i) : Below (i + 1) (es ++ [⟨i, v, v'⟩]) := fun e he => by
  rcases List.mem_append.mp he with he | he
  · have := h e he; omega
  · rw [List.mem_singleton.mp he]; show i < i + 1; omega
theorem set_get {L : List Obj} {d : Addr} {o o' : Obj} (h : L[d]? = some o) : (L.set d o')[d]? = some o' := List.getElem?_set_self (List.getElem?_eq_some_iff.mp h).1
theorem set_set {L : List Obj} {d : Addr} {o o' : Obj} : (L.set d o).set d o' = L.set d o' := List.set_set ..
theorem set_same {L : List Obj} {d : Addr} {o : Obj} (h : L[d]? = some o) : L.set d o = L := by
  obtain ⟨hl, rfl⟩ := List.getElem?_eq_some_iff.mp h
  exact List.set_getElem_self hl
theorem g_loop (body : (Sem Value × Sem Value) → PUnit → Sem (ForInStep PUnit))
    (hb : ∀ i x u, body (pr q (i, x)) u = (mkInt i >>= fun kv => holding [kv] (valOf q x) >>= fun vv => holding [kv, vv] (dictSet d kv vv) >>= fun _ => pure (.yield PUnit.unit))) :
    ∀ (ps : List (Int × Str)) (b : Int) (L : List Obj) (es : List DictEntry) (n k : Nat), L[d]? = some (dOb es n) → Nat.ble 11 d = true → Below b es → Asc b ps = true → es.length + ps.length < 999 →
    Goes w (13 * ps.length) (forIn (ps.map (pr q)) PUnit.unit body) (St w os L k) q PUnit.unit (St w os (L.set d (dOb (es ++ entsL k ps) (n + ps.length))) (k + 3 * ps.length)) q
  | [], b, L, es, n, k, h, hd, hB, hA, hs => by
    show Goes w _ (pure _) _ _ _ (St w os (L.set d (dOb (es ++ []) (n + 0))) (k + 3 * 0)) _
    rw [List.append_nil, Nat.add_zero, Nat.mul_zero, Nat.add_zero, set_same h]
    exact Goes.ret
  | (i, x) :: ps, b, L, es, n, k, h, hd, hB, hA, hs => by
    simp only [Asc, Bool.and_eq_true, decide_eq_true_eq] at hA
    obtain ⟨⟨hb', hi⟩, hA⟩ := hA
    rw [List.length_cons] at hs
    rw [List.map_cons, List.forIn_cons, hb]
    have hl : (L.set d (dOb (es ++ [⟨i, .int i k, .str x (k + 1)⟩]) (n + 1)))[d]? = some (dOb (es ++ [⟨i, .int i k, .str x (k + 1)⟩]) (n + 1)) := set_get h
    have IH := g_loop body hb ps (i + 1) _ _ (n + 1) (k + 3) hl hd (hB.snoc hb') hA (by simp; omega)
    refine (Goes.bind (n := 13) (m := 13 * ps.length) (a := .yield PUnit.unit) (s' := St w os (L.set d (dOb (es ++ [⟨i, .int i k, .str x (k + 1)⟩]) (n + 1))) (k + 3)) (p' := q) ?_ ?_).le (by rw [List.length_cons]; omega)
    · refine (g_key.bind (m := 12) ?_).le (by omega)
      refine (Goes.held g_val |>.bind (m := 10) ?_).le (by omega)
      refine (Goes.held (g_set hi h hd (hB.free hb') (by omega)) |>.bind (m := 0) ?_).le (by omega)
      exact .pure
    · have e1 : n + ((i, x) :: ps).length = n + 1 + ps.length := by rw [List.length_cons]; omega
      have e2 : k + 3 * ((i, x) :: ps).length = k + 3 + 3 * ps.length := by rw [List.length_cons]; omega
      have e3 : es ++ entsL k ((i, x) :: ps) = es ++ [⟨i, .int i k, .str x (k + 1)⟩] ++ entsL (k + 3) ps := by rw [List.append_assoc]; rfl
      rw [e1, e2, e3]
      rw [set_set] at IH
      exact IH
theorem snoc_get {L : List Obj} {o : Obj} : (L ++ [o])[L.length]? = some o := by simp
theorem snoc_set {L : List Obj} {o o' : Obj} : (L ++ [o]).set L.length o' = L ++ [o'] := by
  rw [List.set_append_right _ _ (Nat.le_refl _)]; simp
theorem g_alloc {o : Obj} : Goes w 1 (PySem.alloc o) (St w os L k) p L.length (St w os (L ++ [o]) k) p := by
  have := Goes.alloc (w := w) (s := St w os L k) (p := p) (o := o)
  rw [St_push] at this
  exact this
/-- more than 15 pairs: each laid at once -/
theorem g_sub {ps : List (Int × Str)} {b : Int} (hl : Nat.ble 11 L.length = true) (hp : 15 < ps.length) (hp' : ps.length < 999) (hA : Asc b ps = true) :
    Goes w (13 * ps.length + 2) (subDict (ps.map (pr q))) (St w os L k) q L.length (St w os (L ++ [dOb (entsL k ps) ps.length]) (k + 3 * ps.length)) q := by
  unfold subDict
  refine (g_alloc.bind (m := 13 * ps.length + 1) ?_).le (by omega)
  refine Goes.le (n := 13 * ps.length + 1 + 0) (Goes.bind (m := 0) (a := ()) (p' := q) (s' := St w os (L ++ [dOb (entsL k ps) ps.length]) (k + 3 * ps.length)) ?_ Goes.ret) (by omega)
  refine Goes.held ?_
  rw [if_neg (by rw [List.length_map]; omega)]
  refine (Goes.rule.bind (m := 13 * ps.length) ?_).le (by omega)
  have G := g_loop (w := w) (os := os) (d := L.length) (q := q) (fun x _ => match x with
    | (k, v) => do
      let kv ← k
      let vv ← holding [kv] v
      holding [kv, vv] (dictSet L.length kv vv)
      pure (.yield PUnit.unit)) (fun i x u => rfl) ps b (L ++ [dOb [] 0]) [] 0 k snoc_get hl (fun e he => nomatch he) hA (by simpa using hp')
  rw [snoc_set, List.nil_append, Nat.zero_add] at G
  exact Goes.le (n := 13 * ps.length + 0) (Goes.bind (m := 0) G Goes.ret) (by omega)
end Mine
end
noncomputable section
namespace Mine
variable {w : World} {os : OsState} {L : List Obj} {d a : Addr} {es : List DictEntry} {n n₂ k : Nat} {p q : Pos}
noncomputable def EntsOk : Int → List DictEntry → Prop
  | _, [] => True
  | b, e :: r => b ≤ e.hash ∧ (∃ t, e.key = .int e.hash t) ∧ EntsOk (e.hash + 1) r
theorem entsL_ok : ∀ {ps : List (Int × Str)} {b : Int} {k : Nat}, Asc b ps = true → EntsOk b (entsL k ps)
  | [], b, k, _ => trivial
  | (i, x) :: ps, b, k, h => by
    simp only [Asc, Bool.and_eq_true, decide_eq_true_eq] at h
    exact ⟨h.1.1, ⟨k, rfl⟩, entsL_ok h.2⟩
theorem m_loop (body : Nat → PUnit → Sem (ForInStep PUnit))
    (hb : ∀ i u, body i u = (dictEntries a >>= fun es' => match es'[i]? with
      | some e => holding [e.key, e.val] (dictPut d e.hash e.key e.val) >>= fun _ => dictEpoch a >>= fun m => (if (m != n₂) = true then (do unsupported "dict.changed-during-merge"; pure (ForInStep.yield PUnit.unit)) else pure (.yield PUnit.unit))
      | _ => (do unsupported "dict.changed-during-merge"; pure (ForInStep.yield PUnit.unit)))) (hd : Nat.ble 11 d = true) (ne : a ≠ d) :
    ∀ (rest done : List DictEntry) (b : Int) (L : List Obj) (es : List DictEntry) (n k : Nat), L[d]? = some (dOb es n) → L[a]? = some (dOb (done ++ rest) n₂) → Below b es → EntsOk b rest → es.length + rest.length < 999 →
    Goes w (6 * rest.length) (forIn (List.range' done.length rest.length) PUnit.unit body) (St w os L k) q PUnit.unit (St w os (L.set d (dOb (es ++ rest) (n + rest.length))) k) q
  | [], done, b, L, es, n, k, h, ha, hB, hE, hs => by
    show Goes w _ (pure _) _ _ _ (St w os (L.set d (dOb (es ++ []) (n + 0))) k) _
    rw [List.append_nil, Nat.add_zero, set_same h]
    exact Goes.ret
  | e :: rest, done, b, L, es, n, k, h, ha, hB, hE, hs => by
    obtain ⟨hb', ⟨t, ht⟩, hE⟩ := hE
    rw [List.length_cons] at hs
    have hl : (L.set d (dOb (es ++ [e]) (n + 1)))[d]? = some (dOb (es ++ [e]) (n + 1)) := set_get h
    have hl2 : (L.set d (dOb (es ++ [e]) (n + 1)))[a]? = some (dOb (done ++ e :: rest) n₂) := by rw [List.getElem?_set_ne (Ne.symm ne)]; exact ha
    have hl3 : (L.set d (dOb (es ++ [e]) (n + 1)))[a]? = some (dOb ((done ++ [e]) ++ rest) n₂) := by rw [hl2, List.append_assoc]; rfl
    have ee : (⟨e.hash, .int e.hash t, e.val⟩ : DictEntry) = e := by
      obtain ⟨x, y, z⟩ := e
      dsimp only at ht
      rw [ht]
    have hB' : Below (e.hash + 1) (es ++ [e]) := by
      have := hB.snoc (v := .int e.hash t) (v' := e.val) hb'
      rw [ee] at this
      exact this
    have IH := m_loop body hb hd ne rest (done ++ [e]) (e.hash + 1) _ _ (n + 1) k hl hl3 hB' hE (by simp; omega)
    rw [List.length_cons, List.range'_succ, List.forIn_cons, hb]
    refine (Goes.bind (n := 6) (m := 6 * rest.length) (a := .yield PUnit.unit) (s' := St w os (L.set d (dOb (es ++ [e]) (n + 1))) k) (p' := q) ?_ ?_).le (by omega)
    · refine ((g_entries ha).bind (m := 5) ?_).le (by omega)
      have hi : (done ++ e :: rest).toArray[done.length]? = some e := by
        rw [List.getElem?_toArray]; simp
      rw [hi]
      refine (Goes.held ?_ |>.bind (n := 4) (m := 1) (s' := St w os (L.set d (dOb (es ++ [e]) (n + 1))) k) (p' := q) (a := ()) ?_).le (by omega)
      · have := g_put (w := w) (os := os) (k := k) (p := q) (i := e.hash) (t := t) (v := e.val) h hd (hB.free hb') (by omega)
        rw [ht]
        rw [ee] at this
        exact this
      · refine ((g_epoch hl2).bind (m := 0) ?_).le (by omega)
        rw [if_neg (by simp)]
        exact .ret
    · have e1 : n + (rest.length + 1) = n + 1 + rest.length := by omega
      have e3 : es ++ e :: rest = es ++ [e] ++ rest := by rw [List.append_assoc]; rfl
      rw [e1, e3]
      rw [set_set, List.length_append, List.length_singleton] at IH
      exact IH
theorem sub_dict : isSubtype (.type "dict") (.type "dict") = pure true := by rw [isSubtype_type]; kernel_rfl
theorem iter_dict : typeLookup (.type "dict") (Str.ofString "__iter__") = pure (some (.builtin "dict.__iter__")) := by rw [typeLookup_type, builtinLookup_eq_fast]; kernel_rfl
theorem g_typeOf (h : L[a]? = some (dOb es n)) : Goes w 1 (typeOf (.ref a)) (St w os L k) p (.type "dict") (St w os L k) p := by
  unfold typeOf
  refine ((Goes.load (St_get h)).bind (m := 0) ?_).le (by omega)
  exact .pure
theorem g_plain {m : Bool → Sem Unit} {j : Nat} {s' : Shared} {p' : Pos} (h : L[a]? = some (dOb es n)) (g : Goes w j (m true) (St w os L k) p () s' p') :
    Goes w (j + 2) (isInstance (.ref a) (.type "dict") >>= fun b => if b = true then (specialOf (.ref a) (Str.ofString "__iter__") >>= fun v => pure (v == some (.builtin "dict.__iter__")) >>= m) else pure false >>= m) (St w os L k) p () s' p' := by
  refine (Goes.bind (n := 1) (m := j + 1) (a := true) (s' := St w os L k) (p' := p) ?_ ?_).le (by omega)
  · unfold isInstance
    refine ((g_typeOf h).bind (m := 0) ?_).le (by omega)
    rw [sub_dict]
    exact .ret
  · rw [if_pos rfl]
    refine (Goes.bind (n := 1) (m := j) (a := some (.builtin "dict.__iter__")) (s' := St w os L k) (p' := p) ?_ ?_).le (by omega)
    · unfold specialOf
      refine ((g_typeOf h).bind (m := 0) ?_).le (by omega)
      rw [iter_dict]
      exact .ret
    · refine (Goes.bind (n := 0) (m := j) (a := true) (s' := St w os L k) (p' := p) ?_ g).le (by omega)
      have : ((some (Value.builtin "dict.__iter__") : Option Value) == some (.builtin "dict.__iter__")) = true := by decide +kernel
      rw [this]
      exact .ret
theorem g_merge {es₂ : List DictEntry} {b : Int} (h : L[d]? = some (dOb es n)) (ha : L[a]? = some (dOb es₂ n₂)) (hd : Nat.ble 11 d = true) (ne : a ≠ d) (nm : a ≠ sysModules) (hne : es ≠ []) (hB : Below b es) (hE : EntsOk b es₂) (hs : es.length + es₂.length < 999) :
    Goes w (6 * es₂.length + 5) (mergeMapping d (.ref a) false) (St w os L k) q () (St w os (L.set d (dOb (es ++ es₂) (n + es₂.length))) k) q := by
  unfold mergeMapping
  refine Goes.le (n := 6 * es₂.length + 3 + 2) ?_ (by omega)
  refine g_plain ha ?_
  show Goes w _ (if (a == sysModules) = true then _ else _) _ _ _ _ _
  rw [if_neg (by simpa using nm)]
  refine ((g_entries h).bind (m := 6 * es₂.length + 2) ?_).le (by omega)
  have hem : es.toArray.isEmpty = false := by
    cases es with
    | nil => exact absurd rfl hne
    | cons x r => rfl
  rw [hem, if_neg (by decide)]
  refine ((g_entries ha).bind (m := 6 * es₂.length + 1) ?_).le (by omega)
  refine ((g_epoch ha).bind (m := 6 * es₂.length) ?_).le (by omega)
  have := m_loop (w := w) (os := os) (d := d) (a := a) (n₂ := n₂) (q := q) _ (fun i u => rfl) hd ne es₂ [] b L es n k h ha hB hE hs
  refine Goes.le (n := 6 * es₂.length + 0) (Goes.bind (m := 0) (a := PUnit.unit) ?_ Goes.ret) (by omega)
  rw [show es₂.toArray.size = es₂.length from rfl, List.range_eq_range']
  exact this
end Mine
end
noncomputable section
namespace Mine
variable {w : World} {os : OsState} {L : List Obj} {d a : Addr} {es : List DictEntry} {n n₂ k : Nat} {p q : Pos}
noncomputable def entsS : Nat → List (Int × Str) → List DictEntry
  | _, [] => []
  | k, (i, x) :: r => ⟨i, .int i k, .str x (k + 1)⟩ :: entsS (k + 2) r
noncomputable def vsOf : Nat → List (Int × Str) → List (Value × Value)
  | _, [] => []
  | k, (i, x) :: r => (.int i k, .str x (k + 1)) :: vsOf (k + 2) r
theorem entsS_ok : ∀ {ps : List (Int × Str)} {b : Int} {k : Nat}, Asc b ps = true → EntsOk b (entsS k ps)
  | [], b, k, _ => trivial
  | (i, x) :: ps, b, k, h => by
    simp only [Asc, Bool.and_eq_true, decide_eq_true_eq] at h
    exact ⟨h.1.1, ⟨k, rfl⟩, entsS_ok h.2⟩
theorem g_pairs : ∀ (ps : List (Int × Str)) (k : Nat), Goes w (3 * ps.length) (evalPairs (ps.map (pr q))) (St w os L k) q (vsOf k ps) (St w os L (k + 2 * ps.length)) q
  | [], k => Goes.ret
  | (i, x) :: ps, k => by
    rw [List.map_cons]
    show Goes w _ (mkInt i >>= fun kv => holding [kv] (valOf q x) >>= fun vv => holding [kv, vv] (evalPairs (ps.map (pr q))) >>= fun r => pure ((kv, vv) :: r)) _ _ _ _ _
    refine (g_key.bind (m := 2 + 3 * ps.length) ?_).le (by rw [List.length_cons]; omega)
    refine (Goes.held g_val |>.bind (m := 3 * ps.length) ?_).le (by omega)
    have e2 : k + 2 * ((i, x) :: ps).length = k + 1 + 1 + 2 * ps.length := by rw [List.length_cons]; omega
    rw [e2]
    refine Goes.le (n := 3 * ps.length + 0) ?_ (by omega)
    exact Goes.bind (Goes.held (g_pairs ps (k + 1 + 1))) Goes.ret
theorem s_loop (body : (Value × Value) → PUnit → Sem (ForInStep PUnit)) (hb : ∀ a b u, body (a, b) u = (dictSet d a b >>= fun _ => pure (.yield PUnit.unit))) :
    ∀ (ps : List (Int × Str)) (b : Int) (L : List Obj) (es : List DictEntry) (n k j : Nat), L[d]? = some (dOb es n) → Nat.ble 11 d = true → Below b es → Asc b ps = true → es.length + ps.length < 999 →
    Goes w (10 * ps.length) (forIn (vsOf j ps) PUnit.unit body) (St w os L k) q PUnit.unit (St w os (L.set d (dOb (es ++ entsS j ps) (n + ps.length))) (k + ps.length)) q
  | [], b, L, es, n, k, j, h, hd, hB, hA, hs => by
    show Goes w _ (pure _) _ _ _ (St w os (L.set d (dOb (es ++ []) (n + 0))) (k + 0)) _
    rw [List.append_nil, Nat.add_zero, Nat.add_zero, set_same h]
    exact Goes.ret
  | (i, x) :: ps, b, L, es, n, k, j, h, hd, hB, hA, hs => by
    simp only [Asc, Bool.and_eq_true, decide_eq_true_eq] at hA
    obtain ⟨⟨hb', hi⟩, hA⟩ := hA
    rw [List.length_cons] at hs
    show Goes w _ (forIn ((_, _) :: vsOf (j + 2) ps) PUnit.unit body) _ _ _ _ _
    rw [List.forIn_cons, hb]
    have hl : (L.set d (dOb (es ++ [⟨i, .int i j, .str x (j + 1)⟩]) (n + 1)))[d]? = some (dOb (es ++ [⟨i, .int i j, .str x (j + 1)⟩]) (n + 1)) := set_get h
    have IH := s_loop body hb ps (i + 1) _ _ (n + 1) (k + 1) (j + 2) hl hd (hB.snoc hb') hA (by simp; omega)
    refine (Goes.bind (n := 10) (m := 10 * ps.length) (a := .yield PUnit.unit) (s' := St w os (L.set d (dOb (es ++ [⟨i, .int i j, .str x (j + 1)⟩]) (n + 1))) (k + 1)) (p' := q) ?_ ?_).le (by rw [List.length_cons]; omega)
    · refine ((g_set hi h hd (hB.free hb') (by omega)).bind (m := 0) ?_).le (by omega)
      exact .pure
    · have e1 : n + ((i, x) :: ps).length = n + 1 + ps.length := by rw [List.length_cons]; omega
      have e2 : k + ((i, x) :: ps).length = k + 1 + ps.length := by rw [List.length_cons]; omega
      have e3 : es ++ entsS j ((i, x) :: ps) = es ++ [⟨i, .int i j, .str x (j + 1)⟩] ++ entsS (j + 2) ps := by rw [List.append_assoc]; rfl
      rw [e1, e2, e3]
      rw [set_set] at IH
      exact IH
theorem g_subS {ps : List (Int × Str)} {b : Int} (hl : Nat.ble 11 L.length = true) (hp : ps.length ≤ 15) (hA : Asc b ps = true) :
    Goes w (13 * ps.length + 1) (subDict (ps.map (pr q))) (St w os L k) q L.length (St w os (L ++ [dOb (entsS k ps) ps.length]) (k + 3 * ps.length)) q := by
  unfold subDict
  refine (g_alloc.bind (m := 13 * ps.length) ?_).le (by omega)
  refine Goes.le (n := 13 * ps.length + 0) (Goes.bind (m := 0) (a := ()) (p' := q) (s' := St w os (L ++ [dOb (entsS k ps) ps.length]) (k + 3 * ps.length)) ?_ Goes.ret) (by omega)
  refine Goes.held ?_
  rw [if_pos (by rw [List.length_map]; omega)]
  refine (Goes.bind (n := 3 * ps.length) (m := 10 * ps.length) (g_pairs ps k) ?_).le (by omega)
  refine Goes.held ?_
  have G := s_loop (w := w) (os := os) (d := L.length) (q := q) (fun x _ => match x with
    | (k, v) => do
      dictSet L.length k v
      pure (.yield PUnit.unit)) (fun i x u => rfl) ps b (L ++ [dOb [] 0]) [] 0 (k + 2 * ps.length) k snoc_get hl (fun e he => nomatch he) hA (by simp; omega)
  rw [snoc_set, List.nil_append, Nat.zero_add] at G
  rw [show k + 3 * ps.length = k + 2 * ps.length + ps.length by omega]
  exact Goes.le (n := 10 * ps.length + 0) (Goes.bind (m := 0) G Goes.ret) (by omega)
end Mine
end
noncomputable section
namespace Mine
variable {w : World} {os : OsState} {q : Pos}
noncomputable abbrev Prs := List (Int × Str)
noncomputable abbrev SS := Option Addr × List (Sem Value × Sem Value)
noncomputable def item (q : Pos) (e : Int × Str) : Option (Sem Value) × Sem Value := (some (mkInt e.1), valOf q e.2)
theorem asc_app : ∀ {ps qs : Prs} {b : Int}, Asc b (ps ++ qs) = (Asc b ps && Asc (topOf b ps) qs)
  | [], qs, b => by simp [Asc, topOf]
  | (i, x) :: ps, qs, b => by
    show (decide (b ≤ i) && smallKey i && Asc (i + 1) (ps ++ qs)) = (decide (b ≤ i) && smallKey i && Asc (i + 1) ps && Asc (topOf (i + 1) ps) qs)
    rw [asc_app, Bool.and_assoc (decide (b ≤ i) && smallKey i)]
theorem below_app : ∀ {ps : Prs} {b : Int} {es : List DictEntry} {k : Nat}, Below b es → Asc b ps = true → Below (topOf b ps) (es ++ entsL k ps)
  | [], b, es, k, h, _ => by show Below b (es ++ []); rw [List.append_nil]; exact h
  | (i, x) :: ps, b, es, k, h, ha => by
    simp only [Asc, Bool.and_eq_true, decide_eq_true_eq] at ha
    have := below_app (k := k + 3) (h.snoc (v := .int i k) (v' := .str x (k + 1)) ha.1.1) ha.2
    rw [List.append_assoc] at this
    exact this
theorem entsL_len : ∀ {ps : Prs} {k : Nat}, (entsL k ps).length = ps.length
  | [], _ => rfl
  | (i, x) :: ps, k => by show (entsL (k + 3) ps).length + 1 = _; rw [entsL_len]; rfl
theorem entsS_len : ∀ {ps : Prs} {k : Nat}, (entsS k ps).length = ps.length
  | [], _ => rfl
  | (i, x) :: ps, k => by show (entsS (k + 2) ps).length + 1 = _; rw [entsS_len]; rfl
noncomputable def mainOf (k : Nat) : List Prs → List DictEntry
  | [] => []
  | c :: cs => entsL k c ++ mainOf (k + 51) cs
noncomputable def subsOf (k : Nat) : List Prs → List Obj
  | [] => []
  | c :: cs => dOb (entsL k c) 17 :: subsOf (k + 51) cs
section
variable {flush : List (Sem Value × Sem Value) → Option Addr → Sem (Option Addr)} {body : (Option (Sem Value) × Sem Value) → SS → Sem (ForInStep SS)}
theorem chunk (hb : ∀ e m run, body (item q e) (m, run) = (if ((run ++ [pr q e]).length == 17) = true then (flush (run ++ [pr q e]) m >>= fun m' => pure (.yield (m', []))) else pure (.yield (m, run ++ [pr q e])))) :
    ∀ (c rest : Prs) (m : Option Addr) (run : List (Sem Value × Sem Value)), run.length + c.length = 17 → c ≠ [] →
    forIn ((c ++ rest).map (item q)) ((m, run) : SS) body = (flush (run ++ c.map (pr q)) m >>= fun m' => forIn (rest.map (item q)) ((m', []) : SS) body)
  | [], rest, m, run, _, h => absurd rfl h
  | [e], rest, m, run, hl, _ => by
    show forIn (item q e :: rest.map (item q)) _ _ = _
    rw [List.forIn_cons, hb, if_pos (by simp at hl; simp [hl])]
    rw [LawfulMonad.bind_assoc]
    rfl
  | e :: e' :: c, rest, m, run, hl, _ => by
    show forIn (item q e :: (e' :: c ++ rest).map (item q)) _ _ = _
    rw [List.forIn_cons, hb, if_neg (by simp at hl; simp; omega), LawfulMonad.pure_bind]
    show forIn ((e' :: c ++ rest).map (item q)) ((m, run ++ [pr q e]) : SS) body = _
    rw [chunk hb (e' :: c) rest m (run ++ [pr q e]) (by simp at hl ⊢; omega) (by simp)]
    rw [List.append_assoc]
    rfl
theorem few (hb : ∀ e m run, body (item q e) (m, run) = (if ((run ++ [pr q e]).length == 17) = true then (flush (run ++ [pr q e]) m >>= fun m' => pure (.yield (m', []))) else pure (.yield (m, run ++ [pr q e])))) :
    ∀ (c : Prs) (m : Option Addr) (run : List (Sem Value × Sem Value)), run.length + c.length < 17 → forIn (c.map (item q)) ((m, run) : SS) body = pure (m, run ++ c.map (pr q))
  | [], m, run, _ => by rw [List.map_nil, List.forIn_nil, List.map_nil, List.append_nil]
  | e :: c, m, run, hl => by
    rw [List.map_cons, List.forIn_cons, hb, if_neg (by simp at hl; simp; omega), LawfulMonad.pure_bind]
    show forIn (c.map (item q)) ((m, run ++ [pr q e]) : SS) body = _
    rw [few hb c m (run ++ [pr q e]) (by simp at hl ⊢; omega), List.append_assoc]
    rfl
end
theorem big {b : Nat} (h : 11 ≤ b) : Nat.ble 11 b = true := Nat.ble_eq_true_of_le h
section
variable {flush : List (Sem Value × Sem Value) → Option Addr → Sem (Option Addr)} {body : (Option (Sem Value) × Sem Value) → SS → Sem (ForInStep SS)} {h : Addr → Addr → Value → Sem Unit}
noncomputable abbrev FlushOk (flush : List (Sem Value × Sem Value) → Option Addr → Sem (Option Addr)) (h : Addr → Addr → Value → Sem Unit) : Prop := ∀ run d, run ≠ [] → flush run (some d) = (holding [.ref d] (subDict run) >>= fun sub => (holding [.ref d, .ref sub] (mergeMapping d (.ref sub) false)).onRaise (h d sub) >>= fun _ => pure (some d))
noncomputable abbrev BodyOk (q : Pos) (flush : List (Sem Value × Sem Value) → Option Addr → Sem (Option Addr)) (body : (Option (Sem Value) × Sem Value) → SS → Sem (ForInStep SS)) : Prop :=
  ∀ e m run, body (item q e) (m, run) = (if ((run ++ [pr q e]).length == 17) = true then (flush (run ++ [pr q e]) m >>= fun m' => pure (.yield (m', []))) else pure (.yield (m, run ++ [pr q e])))
/-- the list of objects with the main dict at its place and sub dicts behind -/
noncomputable def lay (base : List Obj) (E : List DictEntry) (n : Nat) (subs : List Obj) : List Obj := base ++ (dOb E n :: subs)
theorem lay_get {base : List Obj} {E n subs} : (lay base E n subs)[base.length]? = some (dOb E n) := by unfold lay; simp
theorem lay_set {base : List Obj} {E n subs E' n'} : (lay base E n subs).set base.length (dOb E' n') = lay base E' n' subs := by
  unfold lay
  rw [List.set_append_right _ _ (Nat.le_refl _)]; simp
theorem lay_snoc {base : List Obj} {E n subs o} : lay base E n subs ++ [o] = lay base E n (subs ++ [o]) := by unfold lay; simp
theorem lay_len {base : List Obj} {E n subs} : (lay base E n subs).length = base.length + 1 + subs.length := by unfold lay; simp; omega
theorem g_flush (hf : FlushOk flush h) {base : List Obj} {E : List DictEntry} {n k : Nat} {subs : List Obj} {c : Prs} {b : Int} (hbase : 73 ≤ base.length) (hne : E ≠ []) (hc : 15 < c.length) (hs : E.length + c.length < 999) (hB : Below b E) (hA : Asc b c = true) :
    Goes w (20 * c.length + 20) (flush (c.map (pr q)) (some base.length)) (St w os (lay base E n subs) k) q (some base.length) (St w os (lay base (E ++ entsL k c) (n + c.length) (subs ++ [dOb (entsL k c) c.length])) (k + 3 * c.length)) q := by
  rw [hf _ _ (by intro e; have := congrArg List.length e; simp at this; rw [this] at hc; simp at hc)]
  refine (Goes.bind (n := 13 * c.length + 2) (m := 6 * c.length + 5) (Goes.held (g_sub (b := b) (big (by rw [lay_len]; omega)) hc (by omega) hA)) ?_).le (by omega)
  rw [lay_snoc]
  refine Goes.le (n := 6 * c.length + 5 + 0) (Goes.bind (a := ()) (Goes.raised (Goes.held ?_)) Goes.ret) (by omega)
  have ha : (lay base E n (subs ++ [dOb (entsL k c) c.length]))[(lay base E n subs).length]? = some (dOb (entsL k c) c.length) := by rw [← lay_snoc]; exact snoc_get
  have hl := @lay_len base E n subs
  have hn1 : (lay base E n subs).length ≠ base.length := by omega
  have hn2 : (lay base E n subs).length ≠ sysModules := by
    have h73 : 73 ≤ (lay base E n subs).length := by omega
    exact Nat.ne_of_gt (Nat.lt_of_lt_of_le (show sysModules < 73 by decide) h73)
  have G := g_merge (w := w) (os := os) (q := q) (k := k + 3 * c.length) (lay_get (base := base) (E := E) (n := n) (subs := subs ++ [dOb (entsL k c) c.length])) ha (big (by omega)) hn1 hn2 hne hB (entsL_ok hA) (by rw [entsL_len]; omega)
  rw [lay_set, entsL_len] at G
  exact G
theorem g_flushS (hf : FlushOk flush h) {base : List Obj} {E : List DictEntry} {n k : Nat} {subs : List Obj} {c : Prs} {b : Int} (hbase : 73 ≤ base.length) (hne : E ≠ []) (hc : c.length ≤ 15) (hc' : c ≠ []) (hs : E.length + c.length < 999) (hB : Below b E) (hA : Asc b c = true) :
    Goes w (20 * c.length + 20) (flush (c.map (pr q)) (some base.length)) (St w os (lay base E n subs) k) q (some base.length) (St w os (lay base (E ++ entsS k c) (n + c.length) (subs ++ [dOb (entsS k c) c.length])) (k + 3 * c.length)) q := by
  rw [hf _ _ (by intro e; exact hc' (List.map_eq_nil_iff.mp e))]
  refine (Goes.bind (n := 13 * c.length + 1) (m := 6 * c.length + 5) (Goes.held (g_subS (b := b) (big (by rw [lay_len]; omega)) hc hA)) ?_).le (by omega)
  rw [lay_snoc]
  refine Goes.le (n := 6 * c.length + 5 + 0) (Goes.bind (a := ()) (Goes.raised (Goes.held ?_)) Goes.ret) (by omega)
  have ha : (lay base E n (subs ++ [dOb (entsS k c) c.length]))[(lay base E n subs).length]? = some (dOb (entsS k c) c.length) := by rw [← lay_snoc]; exact snoc_get
  have hl := @lay_len base E n subs
  have hn1 : (lay base E n subs).length ≠ base.length := by omega
  have hn2 : (lay base E n subs).length ≠ sysModules := by
    have h73 : 73 ≤ (lay base E n subs).length := by omega
    exact Nat.ne_of_gt (Nat.lt_of_lt_of_le (show sysModules < 73 by decide) h73)
  have G := g_merge (w := w) (os := os) (q := q) (k := k + 3 * c.length) (lay_get (base := base) (E := E) (n := n) (subs := subs ++ [dOb (entsS k c) c.length])) ha (big (by omega)) hn1 hn2 hne hB (entsS_ok hA) (by rw [entsS_len]; omega)
  rw [lay_set, entsS_len] at G
  exact G
/-- the chunks behind the first one -/
theorem g_chunks (hf : FlushOk flush h) (hb : BodyOk q flush body) {last : Prs} (hlast : last.length < 17) : ∀ (cs : List Prs) (b : Int) (base : List Obj) (E : List DictEntry) (n k : Nat) (subs : List Obj), 73 ≤ base.length → E ≠ [] →
    (∀ c ∈ cs, c.length = 17) → E.length + 17 * cs.length < 999 → Below b E → Asc b cs.flatten = true →
    Goes w (360 * cs.length) (forIn ((cs.flatten ++ last).map (item q)) ((some base.length, []) : SS) body) (St w os (lay base E n subs) k) q (some base.length, last.map (pr q))
      (St w os (lay base (E ++ mainOf k cs) (n + 17 * cs.length) (subs ++ subsOf k cs)) (k + 51 * cs.length)) q ∧ Below (topOf b cs.flatten) (E ++ mainOf k cs)
  | [], b, base, E, n, k, subs, hbase, hne, hc, hs, hB, hA => by
    show Goes w _ (forIn (([] ++ last).map (item q)) _ body) _ _ _ (St w os (lay base (E ++ []) (n + 0) (subs ++ [])) (k + 0)) _ ∧ Below b (E ++ [])
    rw [List.nil_append, List.append_nil, List.append_nil, few hb last _ [] (by simpa using hlast)]
    exact ⟨Goes.ret, hB⟩
  | c :: cs, b, base, E, n, k, subs, hbase, hne, hc, hs, hB, hA => by
    have hc0 := hc c (.head _)
    rw [List.length_cons] at hs
    rw [List.flatten_cons, asc_app, Bool.and_eq_true] at hA
    have hB' := below_app (k := k) hB hA.1
    have hne' : E ++ entsL k c ≠ [] := by simp [hne]
    obtain ⟨IH, IB⟩ := g_chunks hf hb hlast cs (topOf b c) base (E ++ entsL k c) (n + c.length) (k + 3 * c.length) (subs ++ [dOb (entsL k c) c.length]) hbase hne' (fun x hx => hc x (.tail _ hx)) (by rw [List.length_append, entsL_len, hc0]; omega) hB' hA.2
    rw [List.flatten_cons, List.append_assoc, chunk hb c _ _ [] (by simp [hc0]) (by intro e; rw [e] at hc0; cases hc0)]
    have e1 : n + 17 * (cs.length + 1) = n + c.length + 17 * cs.length := by omega
    have e2 : k + 51 * (cs.length + 1) = k + 3 * c.length + 51 * cs.length := by omega
    have e3 : E ++ mainOf k (c :: cs) = E ++ entsL k c ++ mainOf (k + 3 * c.length) cs := by rw [List.append_assoc, hc0]; rfl
    have e4 : subs ++ subsOf k (c :: cs) = subs ++ [dOb (entsL k c) c.length] ++ subsOf (k + 3 * c.length) cs := by rw [List.append_assoc, hc0]; rfl
    have e5 : ∀ (c cs : Prs) (b : Int), topOf b (c ++ cs) = topOf (topOf b c) cs := fun c => by
      induction c with
      | nil => intro cs b; rfl
      | cons x c ih => intro cs b; exact ih cs _
    rw [List.length_cons, e1, e2, e3, e4, e5]
    refine ⟨?_, IB⟩
    refine (Goes.bind (n := 20 * c.length + 20) (m := 360 * cs.length) (g_flush (b := b) hf hbase hne (by omega) (by omega) hB hA.1) IH).le (by omega)
end
end Mine
end
noncomputable section
namespace Mine
variable {w : World} {os : OsState} {q : Pos}
noncomputable def pairsAll (c : Prs) (cs : List Prs) (last : Prs) : Prs := c ++ (cs.flatten ++ last)
noncomputable def allEnts (k : Nat) (c : Prs) (cs : List Prs) (last : Prs) : List DictEntry := entsL k c ++ mainOf (k + 51) cs ++ entsS (k + 51 + 51 * cs.length) last
noncomputable def allSubs (k : Nat) (cs : List Prs) (last : Prs) : List Obj := subsOf (k + 51) cs ++ [dOb (entsS (k + 51 + 51 * cs.length) last) last.length]
theorem mainOf_len : ∀ {cs : List Prs} {k : Nat}, (∀ c ∈ cs, c.length = 17) → (mainOf k cs).length = 17 * cs.length
  | [], _, _ => rfl
  | c :: cs, k, h => by
    show (entsL k c ++ mainOf (k + 51) cs).length = _
    rw [List.length_append, entsL_len, h c (.head _), mainOf_len fun x hx => h x (.tail _ hx), List.length_cons]; omega
noncomputable abbrev goH (d sub : Addr) : Value → Sem Unit := fun x => runValue (.builtin "proto.let_go" {}) |> holding [.ref d, x] |> fun y => y >>= fun _ => pure ()
noncomputable abbrev flushD (r : List (Sem Value × Sem Value)) (m : Option Addr) : Sem (Option Addr) := if r.isEmpty = true then pure m else match m with
  | none => subDict r >>= fun a => pure (some a)
  | some d => holding [.ref d] (subDict r) >>= fun sub => (holding [.ref d, .ref sub] (mergeMapping d (.ref sub) false)).onRaise (goH d sub) >>= fun _ => pure (some d)
theorem flushD_ok : FlushOk flushD goH := fun run d hr => if_neg (by intro e; exact hr (List.isEmpty_iff.mp e))
theorem main_below : ∀ {cs : List Prs} {b : Int} {E : List DictEntry} {k : Nat}, Below b E → Asc b cs.flatten = true → Below (topOf b cs.flatten) (E ++ mainOf k cs)
  | [], b, E, k, hB, _ => by show Below b (E ++ []); rw [List.append_nil]; exact hB
  | c :: cs, b, E, k, hB, hA => by
    rw [List.flatten_cons, asc_app, Bool.and_eq_true] at hA
    have e5 : ∀ (c cs : Prs) (b : Int), topOf b (c ++ cs) = topOf (topOf b c) cs := fun c => by
      induction c with
      | nil => intro cs b; rfl
      | cons x c ih => intro cs b; exact ih cs _
    have := main_below (k := k + 51) (below_app (k := k) hB hA.1) hA.2
    rw [List.flatten_cons, e5]
    rw [List.append_assoc] at this
    exact this
theorem g_display {c : Prs} {cs : List Prs} {last : Prs} {base : List Obj} {k : Nat} (hbase : 73 ≤ base.length) (hc : c.length = 17) (hcs : ∀ c ∈ cs, c.length = 17) (hl : last.length ≤ 15) (hl' : last ≠ [])
    (hs : 17 + 17 * cs.length + 15 < 999) (hA : Asc 0 (pairsAll c cs last) = true) :
    Goes w 30000 (dictDisplay ((pairsAll c cs last).map (item q))) (St w os base k) q (.ref base.length)
      (St w os (lay base (allEnts k c cs last) (17 + 17 * cs.length + last.length) (allSubs k cs last)) (k + 51 + 51 * cs.length + 3 * last.length)) q := by
  unfold pairsAll at hA
  rw [asc_app, asc_app, Bool.and_eq_true, Bool.and_eq_true] at hA
  obtain ⟨hA1, hA2, hA3⟩ := hA
  have hB1 : Below (topOf 0 c) (entsL k c) := below_app (es := []) (fun e he => nomatch he) hA1
  have hne : entsL k c ≠ [] := by
    intro e
    have := congrArg List.length e
    rw [entsL_len, hc] at this
    cases this
  unfold dictDisplay pairsAll
  dsimp only
  rw [chunk (flush := flushD) (fun e m run => rfl) c _ none [] (by rw [hc]; rfl) (by intro e; rw [e] at hc; cases hc)]
  have hsub := g_sub (w := w) (os := os) (q := q) (k := k) (L := base) (ps := c) (b := 0) (big (by omega)) (by omega) (by omega) hA1
  rw [hc] at hsub
  have he : base ++ [dOb (entsL k c) 17] = lay base (entsL k c) 17 [] := rfl
  rw [he] at hsub
  rw [List.nil_append, show flushD (c.map (pr q)) none = (subDict (c.map (pr q)) >>= fun a => pure (some a)) from if_neg (by intro e; rw [List.isEmpty_iff, List.map_eq_nil_iff] at e; rw [e] at hc; cases hc)]
  rw [LawfulMonad.bind_assoc, LawfulMonad.bind_assoc]
  refine (Goes.bind (n := 13 * 17 + 2) (m := 360 * cs.length + 20 * last.length + 20) hsub ?_).le (by omega)
  rw [LawfulMonad.pure_bind]
  have hB2 := main_below (k := k + 3 * 17) hB1 hA2
  have G := fun body hb => (g_chunks (w := w) (os := os) (q := q) (h := goH) (flush := flushD) (body := body) flushD_ok hb (last := last) (by omega) cs (topOf 0 c) base (entsL k c) 17 (k + 3 * 17) [] hbase hne hcs (by rw [entsL_len, hc]; omega) hB1 hA2).1
  refine (Goes.bind (n := 360 * cs.length) (m := 20 * last.length + 20) (G _ ?hb) ?_).le (by omega)
  case hb => exact fun e m run => rfl
  dsimp only
  have hs2 : (entsL k c ++ mainOf (k + 3 * 17) cs).length = 17 + 17 * cs.length := by rw [List.length_append, entsL_len, hc, mainOf_len hcs]
  have F := g_flushS (w := w) (os := os) (q := q) (h := goH) (flush := flushD) flushD_ok (base := base) (E := entsL k c ++ mainOf (k + 3 * 17) cs) (n := 17 + 17 * cs.length) (k := k + 3 * 17 + 51 * cs.length) (subs := [] ++ subsOf (k + 3 * 17) cs)
    hbase (by simp [hne]) hl hl' (by rw [hs2]; omega) hB2 hA3
  refine Goes.le (n := 20 * last.length + 20 + 0) (Goes.bind F ?_) (by omega)
  exact Goes.ret
end Mine
end
noncomputable section
namespace Mine
noncomputable def pairs12 : Prs := tabOfStmt 12
noncomputable def c12 : Prs := pairs12.take 17
noncomputable def cs12 : List Prs := (List.range 37).map fun i => (pairs12.drop (17 * i + 17)).take 17
noncomputable def l12 : Prs := pairs12.drop 646
theorem pairs12_eq : pairsAll c12 cs12 l12 = pairs12 := by kernel_rfl
theorem asc12 : Asc 0 (pairsAll c12 cs12 l12) = true := by kernel_rfl
theorem c12_len : c12.length = 17 := by kernel_rfl
theorem l12_len : l12.length = 4 := by kernel_rfl
theorem cs12_len : cs12.length = 37 := by kernel_rfl
theorem cs12_all : (cs12.all fun c => c.length == 17) = true := by kernel_rfl
noncomputable def q12 : Pos := match stm 12 with | .Assign _ e _ => e.pos | _ => ⟨0, 0, 0, 0⟩
noncomputable def e12 : Expr := match stm 12 with | .Assign _ e _ => e | _ => .Name (Str.ofString "") ⟨0, 0, 0, 0⟩
noncomputable def ts12 : List Expr := match stm 12 with | .Assign ts _ _ => ts | _ => []
theorem exec12 : exec (stm 12) tenv = (standAt (stm 12).pos >>= fun _ => eval e12 tenv >>= fun v => swappedStores ts12 e12 tenv >>= fun st => assignStores tenv v st ((assignEach ts12 tenv).map (·.2))) := by kernel_rfl
theorem eval12 : eval e12 tenv = (standAt q12 >>= fun _ => dictDisplay (pairs12.map (item q12))) := by kernel_rfl
end Mine
end
noncomputable section
namespace Mine
noncomputable def base12 (P : Params) : List Obj := (T14 P).list 73
noncomputable def T14b (P : Params) : BT := (T15 P).set 3 fun _ => ob3_14 P
noncomputable def S14b (w : World) (os : OsState) : SharedT := ⟨T14b w.params, 112, (boot_heap w.params).life, Array.mk [], boot_drawn, 2303, os⟩
theorem base12_len (P : Params) : (base12 P).length = 73 := by kernel_rfl
theorem lay12 (P : Params) : lay (base12 P) (allEnts 353 c12 cs12 l12) 650 (allSubs 353 cs12 l12) = (T14b P).list 112 := by kernel_rfl
noncomputable def rest12 : Sem Flow := swappedStores ts12 e12 tenv >>= fun st => assignStores tenv (.ref 73) st ((assignEach ts12 tenv).map (·.2))
noncomputable def Rest12 (w : World) : Prop := ∀ os, segRunT treeTable PW w 11 (some (.ref 6)) 1 8 (S14b w os) ⟨rest12.wrap doneF deadEnd id id, C0, q12, B0⟩ = some (.next, S15 w os, C0, P15)
theorem rest12_ok (w : World) : Rest12 w := fun os => by kernel_rfl
theorem pc12 (w : World) (os : OsState) : ∃ n, n ≤ 40000 ∧ segRun treeTable PW w 11 (some (.ref 6)) 1 n (S14 w os).abs (pieceOf (stm 12) tenv C0 P14 B0) = some (.next, (S15 w os).abs, C0, P15) := by
  have D := g_display (w := w) (os := os) (q := q12) (c := c12) (cs := cs12) (last := l12) (base := base12 w.params) (k := 353) (by rw [base12_len]; exact Nat.le_refl _) c12_len
    (fun c hc => by have := List.all_eq_true.mp cs12_all c hc; simpa using this) (by rw [l12_len]; decide) (by intro e; have := l12_len; rw [e] at this; cases this) (by rw [cs12_len]; decide) asc12
  rw [pairs12_eq, cs12_len, l12_len, base12_len] at D
  rw [show 17 + 17 * 37 + 4 = 650 from rfl, lay12] at D
  have X : Goes w 30002 (standAt (stm 12).pos >>= fun _ => eval e12 tenv) (S14 w os).abs P14 (.ref 73) (S14b w os).abs q12 := by
    rw [eval12]
    exact (Goes.at_.bind (m := 30001) ((Goes.at_.bind (m := 30000) D).le (by omega))).le (by omega)
  obtain ⟨n, hn, g⟩ := X
  refine ⟨n + 8, by omega, ?_⟩
  have G := g (fun v => (swappedStores ts12 e12 tenv >>= fun st => assignStores tenv v st ((assignEach ts12 tenv).map (·.2))).wrap doneF deadEnd id id) deadEnd id id
  refine seg_go (t' := ⟨rest12.wrap doneF deadEnd id id, C0, q12, B0⟩) (s' := (S14b w os).abs) ?_ (segRun_of (rest12_ok w os))
  show segGo treeTable PW w 11 (some (.ref 6)) 1 n (S14 w os).abs ⟨(exec (stm 12) tenv).wrap doneF deadEnd id id, C0, P14, B0⟩ = _
  rw [exec12]
  rw [← LawfulMonad.bind_assoc, Sem.bind_eq_wrap', Sem.wrap_wrap]
  exact G
end Mine
end
noncomputable section
namespace Mine
noncomputable def Sz (w : World) (os : OsState) : Shared := ⟨boot_heap w.params, Array.mk [], boot_drawn, boot_toks, os⟩
theorem pre0 (w : World) (os : OsState) : topGo treeTable PW w 11 (some (.ref 6)) 12 (Sz w os) (topStub PW) = some ((S1 w os).abs, ⟨denote treeTable (.body bE tenv), C0, P1, B0⟩) := by kernel_rfl
theorem blk0 (w : World) (os : OsState) : segRunT treeTable PW w 11 (some (.ref 6)) 1 1 (S1 w os) (blockOf bE tenv C0 P1 B0) = some (.next, S2 w os, C0, P2) := by kernel_rfl
theorem fin0 (w : World) (os : OsState) : topRun treeTable PW w 11 (some (.ref 6)) 2 (S21 w os).abs ⟨doneF .next, C0, P21, B0⟩ = some (S22 w os).abs := by kernel_rfl
theorem body0 : bE = [stm 0, stm 1, stm 2, stm 3, stm 4, stm 5, stm 6, stm 7, stm 8, stm 9, stm 10, stm 11, stm 12, stm 13, stm 14, stm 15, stm 16, stm 17, stm 18] := by kernel_rfl
theorem run0 (w : World) (os : OsState) : ∃ n, n ≤ 60000 ∧ topRun treeTable PW w 11 (some (.ref 6)) n (Sz w os) (topStub PW) = some (S22 w os).abs := by
  obtain ⟨n12, hn12, h12⟩ := pc12 w os
  have r19 : topRun treeTable PW w 11 (some (.ref 6)) 2 (S21 w os).abs (restOf [] tenv C0 P21 B0) = some (S22 w os).abs := piece_nil (fin0 w os)
  have r18 : topRun treeTable PW w 11 (some (.ref 6)) (27 + 2) (S20 w os).abs (restOf [stm 18] tenv C0 P20 B0) = some (S22 w os).abs := piece_cons (segRun_of (pc18 w os)) r19
  have r17 : topRun treeTable PW w 11 (some (.ref 6)) (32 + (27 + 2)) (S19 w os).abs (restOf [stm 17, stm 18] tenv C0 P19 B0) = some (S22 w os).abs := piece_cons (segRun_of (pc17 w os)) r18
  have r16 : topRun treeTable PW w 11 (some (.ref 6)) (27 + (32 + (27 + 2))) (S18 w os).abs (restOf [stm 16, stm 17, stm 18] tenv C0 P18 B0) = some (S22 w os).abs := piece_cons (segRun_of (pc16 w os)) r17
  have r15 : topRun treeTable PW w 11 (some (.ref 6)) (34 + (27 + (32 + (27 + 2)))) (S17 w os).abs (restOf [stm 15, stm 16, stm 17, stm 18] tenv C0 P17 B0) = some (S22 w os).abs := piece_cons (segRun_of (pc15 w os)) r16
  have r14 : topRun treeTable PW w 11 (some (.ref 6)) (10 + (34 + (27 + (32 + (27 + 2))))) (S16 w os).abs (restOf [stm 14, stm 15, stm 16, stm 17, stm 18] tenv C0 P16 B0) = some (S22 w os).abs := piece_cons (segRun_of (pc14 w os)) r15
  have r13 : topRun treeTable PW w 11 (some (.ref 6)) (31 + (10 + (34 + (27 + (32 + (27 + 2)))))) (S15 w os).abs (restOf [stm 13, stm 14, stm 15, stm 16, stm 17, stm 18] tenv C0 P15 B0) = some (S22 w os).abs := piece_cons (segRun_of (pc13 w os)) r14
  have r12 : topRun treeTable PW w 11 (some (.ref 6)) (n12 + (31 + (10 + (34 + (27 + (32 + (27 + 2))))))) (S14 w os).abs (restOf [stm 12, stm 13, stm 14, stm 15, stm 16, stm 17, stm 18] tenv C0 P14 B0) = some (S22 w os).abs := piece_cons h12 r13
  have r11 : topRun treeTable PW w 11 (some (.ref 6)) (30 + (n12 + (31 + (10 + (34 + (27 + (32 + (27 + 2)))))))) (S13 w os).abs (restOf [stm 11, stm 12, stm 13, stm 14, stm 15, stm 16, stm 17, stm 18] tenv C0 P13 B0) = some (S22 w os).abs := piece_cons (segRun_of (pc11 w os)) r12
  have r10 : topRun treeTable PW w 11 (some (.ref 6)) (999 + (30 + (n12 + (31 + (10 + (34 + (27 + (32 + (27 + 2))))))))) (S12 w os).abs (restOf [stm 10, stm 11, stm 12, stm 13, stm 14, stm 15, stm 16, stm 17, stm 18] tenv C0 P12 B0) = some (S22 w os).abs := piece_cons (segRun_of (pc10 w os)) r11
  have r9 : topRun treeTable PW w 11 (some (.ref 6)) (10 + (999 + (30 + (n12 + (31 + (10 + (34 + (27 + (32 + (27 + 2)))))))))) (S11 w os).abs (restOf [stm 9, stm 10, stm 11, stm 12, stm 13, stm 14, stm 15, stm 16, stm 17, stm 18] tenv C0 P11 B0) = some (S22 w os).abs := piece_cons (segRun_of (pc9 w os)) r10
  have r8 : topRun treeTable PW w 11 (some (.ref 6)) (35 + (10 + (999 + (30 + (n12 + (31 + (10 + (34 + (27 + (32 + (27 + 2))))))))))) (S10 w os).abs (restOf [stm 8, stm 9, stm 10, stm 11, stm 12, stm 13, stm 14, stm 15, stm 16, stm 17, stm 18] tenv C0 P10 B0) = some (S22 w os).abs := piece_cons (segRun_of (pc8 w os)) r9
  have r7 : topRun treeTable PW w 11 (some (.ref 6)) (33 + (35 + (10 + (999 + (30 + (n12 + (31 + (10 + (34 + (27 + (32 + (27 + 2)))))))))))) (S9 w os).abs (restOf [stm 7, stm 8, stm 9, stm 10, stm 11, stm 12, stm 13, stm 14, stm 15, stm 16, stm 17, stm 18] tenv C0 P9 B0) = some (S22 w os).abs := piece_cons (segRun_of (pc7 w os)) r8
  have r6 : topRun treeTable PW w 11 (some (.ref 6)) (10 + (33 + (35 + (10 + (999 + (30 + (n12 + (31 + (10 + (34 + (27 + (32 + (27 + 2))))))))))))) (S8 w os).abs (restOf [stm 6, stm 7, stm 8, stm 9, stm 10, stm 11, stm 12, stm 13, stm 14, stm 15, stm 16, stm 17, stm 18] tenv C0 P8 B0) = some (S22 w os).abs := piece_cons (segRun_of (pc6 w os)) r7
  have r5 : topRun treeTable PW w 11 (some (.ref 6)) (33 + (10 + (33 + (35 + (10 + (999 + (30 + (n12 + (31 + (10 + (34 + (27 + (32 + (27 + 2)))))))))))))) (S7 w os).abs (restOf [stm 5, stm 6, stm 7, stm 8, stm 9, stm 10, stm 11, stm 12, stm 13, stm 14, stm 15, stm 16, stm 17, stm 18] tenv C0 P7 B0) = some (S22 w os).abs := piece_cons (segRun_of (pc5 w os)) r6
  have r4 : topRun treeTable PW w 11 (some (.ref 6)) (141 + (33 + (10 + (33 + (35 + (10 + (999 + (30 + (n12 + (31 + (10 + (34 + (27 + (32 + (27 + 2))))))))))))))) (S6 w os).abs (restOf [stm 4, stm 5, stm 6, stm 7, stm 8, stm 9, stm 10, stm 11, stm 12, stm 13, stm 14, stm 15, stm 16, stm 17, stm 18] tenv C0 P6 B0) = some (S22 w os).abs := piece_cons (segRun_of (pc4 w os)) r5
  have r3 : topRun treeTable PW w 11 (some (.ref 6)) (10 + (141 + (33 + (10 + (33 + (35 + (10 + (999 + (30 + (n12 + (31 + (10 + (34 + (27 + (32 + (27 + 2)))))))))))))))) (S5 w os).abs (restOf [stm 3, stm 4, stm 5, stm 6, stm 7, stm 8, stm 9, stm 10, stm 11, stm 12, stm 13, stm 14, stm 15, stm 16, stm 17, stm 18] tenv C0 P5 B0) = some (S22 w os).abs := piece_cons (segRun_of (pc3 w os)) r4
  have r2 : topRun treeTable PW w 11 (some (.ref 6)) (42 + (10 + (141 + (33 + (10 + (33 + (35 + (10 + (999 + (30 + (n12 + (31 + (10 + (34 + (27 + (32 + (27 + 2))))))))))))))))) (S4 w os).abs (restOf [stm 2, stm 3, stm 4, stm 5, stm 6, stm 7, stm 8, stm 9, stm 10, stm 11, stm 12, stm 13, stm 14, stm 15, stm 16, stm 17, stm 18] tenv C0 P4 B0) = some (S22 w os).abs := piece_cons (segRun_of (pc2 w os)) r3
  have r1 : topRun treeTable PW w 11 (some (.ref 6)) (42 + (42 + (10 + (141 + (33 + (10 + (33 + (35 + (10 + (999 + (30 + (n12 + (31 + (10 + (34 + (27 + (32 + (27 + 2)))))))))))))))))) (S3 w os).abs (restOf [stm 1, stm 2, stm 3, stm 4, stm 5, stm 6, stm 7, stm 8, stm 9, stm 10, stm 11, stm 12, stm 13, stm 14, stm 15, stm 16, stm 17, stm 18] tenv C0 P3 B0) = some (S22 w os).abs := piece_cons (segRun_of (pc1 w os)) r2
  have r0 : topRun treeTable PW w 11 (some (.ref 6)) (10 + (42 + (42 + (10 + (141 + (33 + (10 + (33 + (35 + (10 + (999 + (30 + (n12 + (31 + (10 + (34 + (27 + (32 + (27 + 2))))))))))))))))))) (S2 w os).abs (restOf [stm 0, stm 1, stm 2, stm 3, stm 4, stm 5, stm 6, stm 7, stm 8, stm 9, stm 10, stm 11, stm 12, stm 13, stm 14, stm 15, stm 16, stm 17, stm 18] tenv C0 P2 B0) = some (S22 w os).abs := piece_cons (segRun_of (pc0 w os)) r1
  rw [← body0] at r0
  have rb := go_top (pre0 w os) (piece_block (segRun_of (blk0 w os)) r0)
  exact ⟨_, by omega, rb⟩
end Mine
end
noncomputable section
namespace Mine
noncomputable def H1 (P : Params) : Heap := absHeap (T22 P) 143 (boot_heap P).life
theorem open0 : ∀ w : World, (fencedOpening treeTable PW w 60000).map (fun s => (s.heap, s.gens, s.drawn, s.toks)) = some (boot_heap w.params, Array.mk [], boot_drawn, boot_toks) :=
  boot_open (by kernel_rfl) (by decide +kernel) (fun s => by kernel_rfl)
theorem size0 (w : World) : ((boot_heap w.params).isNs mainGlobals && (Array.mk [] : Array GenState).size == 0, (boot_heap w.params).objs.size, (boot_heap w.params).nsMap mainGlobals (Str.ofString "__annotations__")) = (true, 11, some (.ref 6)) := by kernel_rfl
theorem run1 (w : World) (os : OsState) : topRun treeTable PW w 11 (some (.ref 6)) 60000 (Sz w os) (topStub PW) = some ⟨H1 w.params, Array.mk [], boot_drawn, 2346, os⟩ := by
  obtain ⟨n, hn, h⟩ := run0 w os
  have := topRun_mono (60000 - n) _ _ _ _ h
  rw [show n + (60000 - n) = 60000 by omega] at this
  exact this
noncomputable abbrev Sf (w : World) (os : OsState) : Shared := ⟨H1 w.params, Array.mk [], boot_drawn, 2346, os⟩
theorem look1 (w : World) (os : OsState) : (staticsOk (importedModules PW.main.body) (boot_heap w.params) (H1 w.params) && namesBound PW (H1 w.params) && gensDone (Sf w os) && laidKept (boot_heap w.params) (H1 w.params)) = true := by kernel_rfl
theorem look3 (w : World) (os : OsState) : HK.obs (Sf w os) = HK.val w := by kernel_rfl
end Mine
end
noncomputable section
namespace Mine
theorem blt_quick : bltViewBooted = (some (Str.ofString "__name__"), (Manifest.builtinsNames.map fun y => (Str.ofString y.1, PySem.W.Fast.tw12139383696192264648 y.1 y.2)).tail) := by
  unfold bltViewBooted bootValue
  rw [show @builtinAtStartup = @PySem.W.Fast.tw12139383696192264648 from PySem.W.Fast.te12139383696192264648]
noncomputable def dataOf (ps : Prs) : List (PyData × PyData) := ps.map fun e => (.int e.1, .str e.2)
theorem no_key : ∀ {ps : Prs} {b k : Int}, Asc b ps = true → k < b → hasIntKey k (dataOf ps) = false
  | [], _, _, _, _ => rfl
  | (i, x) :: ps, b, k, h, hk => by
    simp only [Asc, Bool.and_eq_true, decide_eq_true_eq] at h
    show ((i == k) || hasIntKey k (dataOf ps)) = false
    have : (i == k) = false := by rw [beq_eq_false_iff_ne]; omega
    rw [this, no_key h.2 (by omega)]; rfl
theorem apart_asc : ∀ {ps : Prs} {b : Int}, Asc b ps = true → keysApartInt (dataOf ps) = true
  | [], _, _ => rfl
  | (i, x) :: ps, b, h => by
    simp only [Asc, Bool.and_eq_true, decide_eq_true_eq] at h
    show (!hasIntKey i (dataOf ps) && keysApartInt (dataOf ps)) = true
    rw [no_key h.2 (by omega), apart_asc h.2]; rfl
theorem tab_ok {h : Heap} {x : Str} {D : List (PyData × PyData)} {a : Addr} {es : Array DictEntry} {e : Nat} {n : String} {sl : Array (Option Value)} (h1 : h.nsMap mainGlobals x = some (.ref a)) (h2 : h.get? a = some ⟨.type n, none, .dict es e, sl⟩)
    (h3 : ((n == "dict") && (sl.size == 0) && entriesAreInt es.toList D) = true) (h4 : keysApartInt D = true) (h5 : (a != sysModules) = true) : h.tabIntOk x D = true := by
  unfold Heap.tabIntOk
  rw [h1]; dsimp only
  rw [h2]; dsimp only
  rw [h3, h4, h5]; rfl
theorem names0 : valNames qv = [Str.ofString "COMPILER_FLAG_NAMES", Str.ofString "b1_set", Str.ofString "b3_exceptions"] := by kernel_rfl
theorem tabOf3 : tabIntOf qv (Str.ofString "b3_exceptions") = some (dataOf (pairsAll c12 cs12 l12)) := by kernel_rfl
theorem tab3 (P : Params) : (H1 P).tabIntOk (Str.ofString "b3_exceptions") (dataOf (pairsAll c12 cs12 l12)) = true :=
  tab_ok (a := 73) (n := "dict") (es := (allEnts 353 c12 cs12 l12).toArray) (e := 650) (sl := #[]) (by kernel_rfl) (by kernel_rfl) (by kernel_rfl) (apart_asc asc12) (by decide +kernel)
theorem tables0 (P : Params) : tablesOk qv (H1 P) = true := by
  unfold tablesOk
  rw [names0]
  have a1 : ((match tupIntsOf qv (Str.ofString "COMPILER_FLAG_NAMES") with | some ns => (H1 P).tupIntsOk (Str.ofString "COMPILER_FLAG_NAMES") ns | none => true) &&
    (match tupStrsOf qv (Str.ofString "COMPILER_FLAG_NAMES") with | some ss => (H1 P).tupStrsOk (Str.ofString "COMPILER_FLAG_NAMES") ss | none => true) &&
    (match tabIntOf qv (Str.ofString "COMPILER_FLAG_NAMES") with | some D => (H1 P).tabIntOk (Str.ofString "COMPILER_FLAG_NAMES") D | none => true)) = true := by kernel_rfl
  have a2 : ((match tupIntsOf qv (Str.ofString "b1_set") with | some ns => (H1 P).tupIntsOk (Str.ofString "b1_set") ns | none => true) &&
    (match tupStrsOf qv (Str.ofString "b1_set") with | some ss => (H1 P).tupStrsOk (Str.ofString "b1_set") ss | none => true) &&
    (match tabIntOf qv (Str.ofString "b1_set") with | some D => (H1 P).tabIntOk (Str.ofString "b1_set") D | none => true)) = true := by kernel_rfl
  have a3 : ((match tupIntsOf qv (Str.ofString "b3_exceptions") with | some ns => (H1 P).tupIntsOk (Str.ofString "b3_exceptions") ns | none => true) &&
    (match tupStrsOf qv (Str.ofString "b3_exceptions") with | some ss => (H1 P).tupStrsOk (Str.ofString "b3_exceptions") ss | none => true) &&
    (match tabIntOf qv (Str.ofString "b3_exceptions") with | some D => (H1 P).tabIntOk (Str.ofString "b3_exceptions") D | none => true)) = true := by
    rw [show tupIntsOf qv (Str.ofString "b3_exceptions") = none from by kernel_rfl, show tupStrsOf qv (Str.ofString "b3_exceptions") = none from by kernel_rfl, tabOf3]
    dsimp only
    rw [tab3]; rfl
  rw [List.all_cons, List.all_cons, List.all_cons, List.all_nil]
  exact Bool.and_eq_true_iff.mpr ⟨a1, Bool.and_eq_true_iff.mpr ⟨a2, Bool.and_eq_true_iff.mpr ⟨a3, rfl⟩⟩⟩
noncomputable abbrev Xt0 : Shared → Bool := fun s => xlAt qv [] s && recOk (RowW.records theRow.toRowW) s
theorem look2 (w : World) (os : OsState) : openSeen qv lse (importedModules PW.main.body) Xt0 true (Sf w os) = openGood qv lse := by
  unfold openGood openSeen
  rw [blt_quick]
  have k1 : (Sf w os).heap.keysOk (looseW qv lse) ((recsOf qv).map (·.name)) ((litsOf qv).map (·.1)) ((clssOf qv (looseW qv lse)).map (·.name)) = true := by kernel_rfl
  have k2 : (Sf w os).heap.accountedOkI (importedModules PW.main.body) = true := by kernel_rfl
  have k3 : (Sf w os).heap.isNs mainGlobals = true := by kernel_rfl
  have k4 : (Sf w os).heap.isNs builtinsNs = true := by kernel_rfl
  have k5 : tablesOk qv (Sf w os).heap = true := tables0 w.params
  have k6 : Xt0 (Sf w os) = true := by kernel_rfl
  have k7 : (if true then (Sf w os).gens.size == 0 else !leftWithCleanup (Sf w os).gens) = true := rfl
  refine Prod.ext (by kernel_rfl) (Prod.ext (by kernel_rfl) (Prod.ext ?_ (Prod.ext (by kernel_rfl) (Prod.ext (by kernel_rfl) (Prod.ext (by kernel_rfl) (Prod.ext (by kernel_rfl) (Prod.ext (by kernel_rfl) (by kernel_rfl))))))))
  show (_ && _ && _ && _ && _ && _ && _) = true
  rw [k1, k2, k3, k4, k5, k6, k7]; rfl
theorem leftAt : LeftAt 60000 := LeftO.of_pieces (H₀ := boot_heap) (H₁ := H1) (gs₀ := Array.mk []) (gs₁ := Array.mk []) (d₀ := boot_drawn) (d₁ := boot_drawn) (k₀ := boot_toks) (k₁ := 2346) (m₀ := 11) (ann := some (.ref 6)) (M := 60000)
  open0 size0 run1 (Nat.ble_eq_true_of_le (Nat.le_refl _)) (fun w => funext fun os => Prod.ext (look1 w os) (Prod.ext (look2 w os) (look3 w os)))
end Mine
end
namespace MineP
open Mine
section
variable {n : Nat} {sc : Scope} {fm fm' : Fm}
theorem run_cons {r : Ev} {st : Stmt} {rest : List Stmt} {x : Option (Fm × Fl)} (h : r.S sc fm st = some (fm', .next)) (k : runS r sc fm' rest = x) : runS r sc fm (st :: rest) = x := by
  show (match r.S sc fm st with
    | some (fm', .next) => runS r sc fm' rest
    | x => x) = x
  rw [h]; exact k
theorem run_ret {r : Ev} {st : Stmt} {rest : List Stmt} {d : D} (h : r.S sc fm st = some (fm', .ret d)) : runS r sc fm (st :: rest) = some (fm', .ret d) := by
  show (match r.S sc fm st with
    | some (fm', .next) => runS r sc fm' rest
    | x => x) = _
  rw [h]
theorem run_cont {r : Ev} {st : Stmt} {rest : List Stmt} (h : r.S sc fm st = some (fm', .cont)) : runS r sc fm (st :: rest) = some (fm', .cont) := by
  show (match r.S sc fm st with
    | some (fm', .next) => runS r sc fm' rest
    | x => x) = _
  rw [h]
noncomputable def asgPlain : Expr → Bool
  | .List [] _ => false
  | .ListComp .. => false
  | .SetComp .. => false
  | .DictComp .. => false
  | _ => true
noncomputable def asgTo (sc : Scope) (fm : Fm) (x : Str) : Bool := (sc.names.lookup x == some .local || sc.names.lookup x == some .cell) && notOwn fm x
theorem S_asg {x : Str} {px p : Pos} {v : Expr} {d : D} (hv : asgPlain v = true) (h1 : asgTo sc fm x = true) (h : (ev n).E sc fm v = some d) :
    (ev (n + 1)).S sc fm (.Assign [.Name x px] v p) = some (setB x (.v d) fm, .next) := by
  show evAsg (ev n) sc fm x px v = _
  unfold evAsg
  unfold asgTo at h1
  rw [if_pos h1]
  split
  · cases hv
  · cases hv
  · cases hv
  · cases hv
  · rw [h]
theorem E_bin {l r : Expr} {op : Operator} {p : Pos} {a b d : D} (hl : (ev n).E sc fm l = some a) (hr : (ev n).E sc fm r = some b) (h : bop op a b = some d) : (ev (n + 1)).E sc fm (.BinOp l op r p) = some d := by
  show (match (ev n).E sc fm l with
    | some a => match (ev n).E sc fm r with
      | some b => bop op a b
      | none => none
    | none => none) = _
  rw [hl]; dsimp only; rw [hr]; exact h
noncomputable def noSlice : Expr → Bool
  | .Slice .. => false
  | _ => true
theorem E_idx {o i : Expr} {p : Pos} {xs : List D} {k : Int} {d : D} (ho : (ev n).E sc fm o = some (.list xs)) (hs : noSlice i = true) (hi : (ev n).E sc fm i = some (.int k)) (h0 : 0 ≤ k) (h1 : k < 1000) (h : xs[k.toNat]? = some d) :
    (ev (n + 1)).E sc fm (.Subscript o i p) = some d := by
  show subE (ev n) sc fm o i = _
  unfold subE
  rw [ho]; dsimp only
  split
  · cases hs
  · rw [hi]; dsimp only
    rw [decide_eq_true h0, decide_eq_true h1]; exact h
theorem E_slice {o : Expr} {lo hi st : Option Expr} {p q : Pos} {xs : List D} {l h k : Option Int} (ho : (ev n).E sc fm o = some (.list xs)) (hl : optE (ev n) sc fm lo = some l) (hh : optE (ev n) sc fm hi = some h) (hk : optE (ev n) sc fm st = some k)
    (h0 : k ≠ some 0) (hs : small xs.length = true) : (ev (n + 1)).E sc fm (.Subscript o (.Slice lo hi st q) p) = some (.list (pickD xs l h k)) := by
  show subE (ev n) sc fm o (.Slice lo hi st q) = _
  unfold subE
  rw [ho]; dsimp only
  rw [hl]; dsimp only
  rw [hh]; dsimp only
  rw [hk]; dsimp only
  rw [hs, if_pos (by simpa using h0)]
theorem opt_none {r : Ev} : optE r sc fm none = some none := rfl
theorem opt_some {r : Ev} {e : Expr} {i : Int} (h : r.E sc fm e = some (.int i)) : optE r sc fm (some e) = some (some i) := by
  show (match r.E sc fm e with
    | some (.int i) => some (some i)
    | _ => none) = _
  rw [h]
theorem each_nil {r : Ev} : eachE r sc fm [] = some [] := rfl
theorem each_cons {r : Ev} {e : Expr} {es : List Expr} {d : D} {ds : List D} (hp : plain e = true) (h : r.E sc fm e = some d) (k : eachE r sc fm es = some ds) : eachE r sc fm (e :: es) = some (d :: ds) := by
  show (if plain e then match r.E sc fm e with
    | some d => match eachE r sc fm es with
      | some ds => some (d :: ds)
      | none => none
    | none => none
    else none) = _
  rw [if_pos hp, h]; dsimp only; rw [k]
noncomputable def callsDef (sc : Scope) (f : Str) : Bool := isGlob sc f && !(f == Str.ofString "len") && !(f == Str.ofString "chr" || f == Str.ofString "ord" || f == Str.ofString "hex" || f == Str.ofString "sum") && isDef f
theorem E_call {f : Str} {fp p : Pos} {e : Expr} {es : List Expr} {ds : List D} {d : D} (hf : callsDef sc f = true) (ha : eachE (ev n) sc fm (e :: es) = some ds) (h : (ev n).C f ds = some d) :
    (ev (n + 1)).E sc fm (.Call (.Name f fp) (e :: es) [] p) = some d := by
  unfold callsDef at hf
  simp only [Bool.and_eq_true, Bool.not_eq_true'] at hf
  obtain ⟨⟨⟨h1, h2⟩, h3⟩, h4⟩ := hf
  show callE (ev n) sc fm f (e :: es) = _
  unfold callE
  rw [if_pos h1, h2, if_neg (by decide)]; dsimp only
  rw [ha]; dsimp only
  rw [h3, if_neg (by decide), if_pos h4]; exact h
noncomputable def callsB (sc : Scope) (f : Str) : Bool := isGlob sc f && !(f == Str.ofString "len") && (f == Str.ofString "chr" || f == Str.ofString "ord" || f == Str.ofString "hex" || f == Str.ofString "sum")
theorem E_callB {f : Str} {fp p : Pos} {e : Expr} {es : List Expr} {ds : List D} {d : D} (hf : callsB sc f = true) (ha : eachE (ev n) sc fm (e :: es) = some ds) (h : callB f ds = some d) :
    (ev (n + 1)).E sc fm (.Call (.Name f fp) (e :: es) [] p) = some d := by
  unfold callsB at hf
  simp only [Bool.and_eq_true, Bool.not_eq_true'] at hf
  obtain ⟨⟨h1, h2⟩, h3⟩ := hf
  show callE (ev n) sc fm f (e :: es) = _
  unfold callE
  rw [if_pos h1, h2, if_neg (by decide)]; dsimp only
  rw [ha]; dsimp only
  rw [h3, if_pos rfl]; exact h
noncomputable def cmpPlain : CmpOp → Expr → Bool
  | .Is, .Constant .none _ _ => false
  | .IsNot, .Constant .none _ _ => false
  | .In, .Name .. => false
  | _, .Set .. => false
  | _, _ => true
theorem cmp_plain {r : Ev} {l rr : Expr} {op : CmpOp} {a b : D} {x : Option Bool} (hp : cmpPlain op rr = true) (hl : r.E sc fm l = some a) (hr : r.E sc fm rr = some b) (h : cmpD op a b = x) : cmpE r sc fm l op rr = x := by
  unfold cmpE
  split
  · cases hp
  · cases hp
  · cases hp
  · have : noSet rr = true := by
      cases rr <;> first | rfl | (cases op <;> cases hp)
    rw [if_pos this, hl]; dsimp only; rw [hr]; exact h
theorem T_cmp {l rr : Expr} {op : CmpOp} {p : Pos} {x : Option Bool} (h : cmpE (ev n) sc fm l op rr = x) : (ev (n + 1)).T sc fm (.Compare l [op] [rr] p) = x := h
theorem S_if {t : Expr} {a b : List Stmt} {p : Pos} {c : Bool} {x : Option (Fm × Fl)} (ht : (ev n).T sc fm t = some c) (h : runS (ev n) sc fm (if c then a else b) = x) : (ev (n + 1)).S sc fm (.If t a b p) = x := by
  show (match (ev n).T sc fm t with
    | some true => runS (ev n) sc fm a
    | some false => runS (ev n) sc fm b
    | none => none) = _
  rw [ht]
  cases c <;> exact h
theorem C_def {f : Str} {ds dflt : List D} {i : Nat} {d : D} (hf : defAtName f = some (i, dflt)) (hz : zipB (paramsOf i) (ds ++ dflt) = some fm) (h : runS (ev n) (fS i) fm (fB i) = some (fm', .ret d)) : (ev (n + 1)).C f ds = some d := by
  show evC (ev n) f ds = _
  unfold evC
  rw [hf]; dsimp only; rw [hz]; dsimp only; rw [h]
end
/-- a text's statement -/
noncomputable def st (i j : Nat) : Stmt := (fB i).getD j (.Pass ⟨0, 0, 0, 0⟩)
end MineP
namespace MineP
open Mine
section
variable {n : Nat} {sc : Scope} {fm fm' : Fm}
theorem for_cons {α : Type} {r : Ev} {put : α → Fm → Fm} {body orelse : List Stmt} {d : α} {rest : List α} {x : Option (Fm × Fl)} (h : runS r sc (put d fm) body = some (fm', .next)) (k : forS r sc put body orelse fm' rest = x) :
    forS r sc put body orelse fm (d :: rest) = x := by
  show (match runS r sc (put d fm) body with
    | some (fm', .next) => forS r sc put body orelse fm' rest
    | some (fm', .cont) => forS r sc put body orelse fm' rest
    | some (fm', .brk) => some (fm', .next)
    | x => x) = x
  rw [h]; exact k
theorem for_cont {α : Type} {r : Ev} {put : α → Fm → Fm} {body orelse : List Stmt} {d : α} {rest : List α} {x : Option (Fm × Fl)} (h : runS r sc (put d fm) body = some (fm', .cont)) (k : forS r sc put body orelse fm' rest = x) :
    forS r sc put body orelse fm (d :: rest) = x := by
  show (match runS r sc (put d fm) body with
    | some (fm', .next) => forS r sc put body orelse fm' rest
    | some (fm', .cont) => forS r sc put body orelse fm' rest
    | some (fm', .brk) => some (fm', .next)
    | x => x) = x
  rw [h]; exact k
noncomputable def putEsc (x y : Str) (p : Nat × Str) (fm : Fm) : Fm := setB y (.v (.str p.2)) (setB x (.v (.int p.1)) fm)
noncomputable def escOk (sc : Scope) (fm : Fm) (x y g : Str) (e : Expr) : Bool := g == Str.ofString "_iter_escaped_chars" && isGlob sc g && sc.names.lookup x == some .local && sc.names.lookup y == some .local && x != y && plain e && notOwn fm x && notOwn fm y
theorem S_esc {x y g : Str} {a b d p q t : Pos} {c : Nat} {e : Expr} {body : List Stmt} {s : Str} {res : Option (Fm × Fl)} (hc : escOk sc fm x y g e = true) (he : (ev n).E sc fm e = some (.str s)) (hs : small s.length = true)
    (h : forS (ev n) sc (putEsc x y) body [] fm (escGo 0 false s.cps.toList) = res) :
    (ev (n + 1)).S sc fm (.For (.Tuple [.Name x a, .Name y b] c d) (.Call (.Name g p) [e] [] q) body [] t) = res := by
  show (if g == Str.ofString "_iter_escaped_chars" && isGlob sc g && sc.names.lookup x == some .local && sc.names.lookup y == some .local && x != y && plain e && notOwn fm x && notOwn fm y then match (ev n).E sc fm e with
      | some (.str s) => if small s.length then forS (ev n) sc (fun (p : Nat × Str) fm => setB y (.v (.str p.2)) (setB x (.v (.int p.1)) fm)) body [] fm (escGo 0 false s.cps.toList) else none
      | _ => none
    else none) = res
  unfold escOk at hc
  rw [if_pos hc, he]; dsimp only
  rw [if_pos hs]; exact h
theorem esc_plain {pos c : Nat} {r : List Nat} (h : c ≠ 92) : escGo pos false (c :: r) = (pos, ⟨#[c]⟩) :: escGo (pos + 1) false r := by
  show (if c == 92 then escGo (pos + 1) true r else (pos, ⟨#[c]⟩) :: escGo (pos + 1) false r) = _
  rw [if_neg (by simpa using h)]
theorem eq_quote {c : Nat} (h : c ≠ 34) (h' : c < 1114112) : cmpD .Eq (.str ⟨#[c]⟩) (.str ⟨#[34]⟩) = some false := by
  have h1 : shallow (.str ⟨#[c]⟩) = true := by
    show ((#[c].all (· < 0x110000)) && Nat.ble 0 50) = true
    simp [h']
  have h2 : shallow (.str ⟨#[34]⟩) = true := by decide +kernel
  show (if shallow (.str ⟨#[c]⟩) && shallow (.str ⟨#[34]⟩) then some (PyData.eqv (.str ⟨#[c]⟩) (.str ⟨#[34]⟩)) else none) = _
  rw [h1, h2]
  show some ((⟨#[c]⟩ : Str) == ⟨#[34]⟩) = some false
  congr 1
  rw [beq_eq_false_iff_ne]
  intro e
  cases e
  exact h rfl
end
/-- the frame of the loop in _strip_quoted_realnames -/
noncomputable def frS (T : Str) (s : Nat) (op : D) (rs : List D) (i : Nat) (c : Str) : Fm := [(Str.ofString "addr", .v (.str T)), (Str.ofString "start", .v (.int s)), (Str.ofString "open_pos", .v op), (Str.ofString "result", .own rs), (Str.ofString "pos", .v (.int i)), (Str.ofString "ch", .v (.str c))]
noncomputable def frS0 (T : Str) : Fm := [(Str.ofString "addr", .v (.str T)), (Str.ofString "start", .v (.int 0)), (Str.ofString "open_pos", .v .none), (Str.ofString "result", .own [])]
noncomputable def bodyS : List Stmt := match st 8 4 with | .For _ _ b _ _ => b | _ => []
theorem bodyS_eq : ∃ t a p, bodyS = [.If t a [] p] := ⟨_, _, _, rfl⟩
noncomputable abbrev nS (x : String) : Str := Str.ofString x
theorem plainS {n : Nat} {T : Str} {s : Nat} {op : D} {rs : List D} {i c : Nat} (h : c ≠ 34) (h' : c < 1114112) : runS (ev (n + 3)) (fS 8) (frS T s op rs i ⟨#[c]⟩) bodyS = some (frS T s op rs i ⟨#[c]⟩, .next) := by
  refine run_cons (fm' := frS T s op rs i ⟨#[c]⟩) ?_ rfl
  refine S_if (c := false) ?_ rfl
  refine T_cmp ?_
  exact cmp_plain (a := .str ⟨#[c]⟩) (b := .str ⟨#[34]⟩) rfl (by kernel_rfl) (by kernel_rfl) (eq_quote h h')
theorem openS {n : Nat} {T : Str} {s : Nat} {rs : List D} {i : Nat} : runS (ev (n + 8)) (fS 8) (frS T s .none rs i ⟨#[34]⟩) bodyS = some (frS T s (.int i) rs i ⟨#[34]⟩, .next) := by kernel_rfl
end MineP
namespace MineP
open Mine
noncomputable abbrev okC (c : Nat) : Prop := c ≠ 92 ∧ c < 1114112
theorem body8 : fB 8 = [st 8 0, st 8 1, st 8 2, st 8 3, st 8 4, st 8 5, st 8 6] := by kernel_rfl
theorem n34 {c : Nat} : c + 35 ≠ 34 := by omega
noncomputable def pt0 (N A B C : Nat) : Str := ⟨#[N + 35, 34, A + 35, 92, 34, 34, B + 35, C + 35]⟩
theorem esc0 {N A B C : Nat} (hN : okC (N + 35)) (hA : okC (A + 35)) (hB : okC (B + 35)) (hC : okC (C + 35)) : escGo 0 false (pt0 N A B C).cps.toList = [(0, ⟨#[N + 35]⟩), (1, ⟨#[34]⟩), (2, ⟨#[A + 35]⟩), (4, ⟨#[92, 34]⟩), (5, ⟨#[34]⟩), (6, ⟨#[B + 35]⟩), (7, ⟨#[C + 35]⟩)] := by
  show escGo 0 false [N + 35, 34, A + 35, 92, 34, 34, B + 35, C + 35] = _
  have n1 : N ≠ 57 := by have := hN.1; omega
  have n2 : A ≠ 57 := by have := hA.1; omega
  have n3 : B ≠ 57 := by have := hB.1; omega
  have n4 : C ≠ 57 := by have := hC.1; omega
  simp [escGo, n1, n2, n3, n4]
theorem strip0 {n N A B C : Nat} (hN : okC (N + 35)) (hA : okC (A + 35)) (hB : okC (B + 35)) (hC : okC (C + 35)) : (ev (n + 12)).C (Str.ofString "_strip_quoted_realnames") [.str (pt0 N A B C)] = some (.str ⟨#[N + 35, B + 35, C + 35]⟩) := by
  refine C_def (n := n + 11) (fm := [(Str.ofString "addr", .v (.str (pt0 N A B C)))]) (i := 8) (dflt := []) (fm' := setB (Str.ofString "result") (.own ([.str ⟨#[N + 35]⟩, .str ⟨#[B + 35, C + 35]⟩])) (frS (pt0 N A B C) 6 .none [.str ⟨#[N + 35]⟩] 7 ⟨#[C + 35]⟩)) (by kernel_rfl) (by kernel_rfl) ?_
  rw [body8]
  refine run_cons (fm' := [(Str.ofString "addr", .v (.str (pt0 N A B C)))]) (by kernel_rfl) ?_
  refine run_cons (fm' := [(Str.ofString "addr", .v (.str (pt0 N A B C))), (Str.ofString "start", .v (.int 0))]) (by kernel_rfl) ?_
  refine run_cons (fm' := [(Str.ofString "addr", .v (.str (pt0 N A B C))), (Str.ofString "start", .v (.int 0)), (Str.ofString "open_pos", .v .none)]) (by kernel_rfl) ?_
  refine run_cons (fm' := frS0 (pt0 N A B C)) (by kernel_rfl) ?_
  refine run_cons (fm' := (frS (pt0 N A B C) 6 .none [.str ⟨#[N + 35]⟩] 7 ⟨#[C + 35]⟩)) ?loop ?_
  case loop =>
    refine S_esc (n := n + 10) (s := pt0 N A B C) (by kernel_rfl) (by kernel_rfl) (by kernel_rfl) ?_
    rw [esc0 hN hA hB hC]
    refine for_cons (fm' := (frS (pt0 N A B C) 0 .none [] 0 ⟨#[N + 35]⟩)) (plainS (n := n + 7) n34 hN.2) ?_
    refine for_cons (fm' := (frS (pt0 N A B C) 0 (.int 1) [] 1 ⟨#[34]⟩)) (by kernel_rfl) ?_
    refine for_cons (fm' := (frS (pt0 N A B C) 0 (.int 1) [] 2 ⟨#[A + 35]⟩)) (plainS (n := n + 7) n34 hA.2) ?_
    refine for_cons (fm' := (frS (pt0 N A B C) 0 (.int 1) [] 4 ⟨#[92, 34]⟩)) (by kernel_rfl) ?_
    refine for_cons (fm' := (frS (pt0 N A B C) 6 .none [.str ⟨#[N + 35]⟩] 5 ⟨#[34]⟩)) (by kernel_rfl) ?_
    refine for_cons (fm' := (frS (pt0 N A B C) 6 .none [.str ⟨#[N + 35]⟩] 6 ⟨#[B + 35]⟩)) (plainS (n := n + 7) n34 hB.2) ?_
    refine for_cons (fm' := (frS (pt0 N A B C) 6 .none [.str ⟨#[N + 35]⟩] 7 ⟨#[C + 35]⟩)) (plainS (n := n + 7) n34 hC.2) ?_
    rfl
  refine run_cons (fm' := setB (Str.ofString "result") (.own ([.str ⟨#[N + 35]⟩, .str ⟨#[B + 35, C + 35]⟩])) (frS (pt0 N A B C) 6 .none [.str ⟨#[N + 35]⟩] 7 ⟨#[C + 35]⟩)) (by kernel_rfl) ?_
  exact run_ret (by kernel_rfl)
noncomputable def pt1 (N A B C : Nat) : Str := ⟨#[N + 35, A + 35, 34, B + 35, 92, 34, 34, C + 35]⟩
theorem esc1 {N A B C : Nat} (hN : okC (N + 35)) (hA : okC (A + 35)) (hB : okC (B + 35)) (hC : okC (C + 35)) : escGo 0 false (pt1 N A B C).cps.toList = [(0, ⟨#[N + 35]⟩), (1, ⟨#[A + 35]⟩), (2, ⟨#[34]⟩), (3, ⟨#[B + 35]⟩), (5, ⟨#[92, 34]⟩), (6, ⟨#[34]⟩), (7, ⟨#[C + 35]⟩)] := by
  show escGo 0 false [N + 35, A + 35, 34, B + 35, 92, 34, 34, C + 35] = _
  have n1 : N ≠ 57 := by have := hN.1; omega
  have n2 : A ≠ 57 := by have := hA.1; omega
  have n3 : B ≠ 57 := by have := hB.1; omega
  have n4 : C ≠ 57 := by have := hC.1; omega
  simp [escGo, n1, n2, n3, n4]
theorem strip1 {n N A B C : Nat} (hN : okC (N + 35)) (hA : okC (A + 35)) (hB : okC (B + 35)) (hC : okC (C + 35)) : (ev (n + 12)).C (Str.ofString "_strip_quoted_realnames") [.str (pt1 N A B C)] = some (.str ⟨#[N + 35, A + 35, C + 35]⟩) := by
  refine C_def (n := n + 11) (fm := [(Str.ofString "addr", .v (.str (pt1 N A B C)))]) (i := 8) (dflt := []) (fm' := setB (Str.ofString "result") (.own ([.str ⟨#[N + 35, A + 35]⟩, .str ⟨#[C + 35]⟩])) (frS (pt1 N A B C) 7 .none [.str ⟨#[N + 35, A + 35]⟩] 7 ⟨#[C + 35]⟩)) (by kernel_rfl) (by kernel_rfl) ?_
  rw [body8]
  refine run_cons (fm' := [(Str.ofString "addr", .v (.str (pt1 N A B C)))]) (by kernel_rfl) ?_
  refine run_cons (fm' := [(Str.ofString "addr", .v (.str (pt1 N A B C))), (Str.ofString "start", .v (.int 0))]) (by kernel_rfl) ?_
  refine run_cons (fm' := [(Str.ofString "addr", .v (.str (pt1 N A B C))), (Str.ofString "start", .v (.int 0)), (Str.ofString "open_pos", .v .none)]) (by kernel_rfl) ?_
  refine run_cons (fm' := frS0 (pt1 N A B C)) (by kernel_rfl) ?_
  refine run_cons (fm' := (frS (pt1 N A B C) 7 .none [.str ⟨#[N + 35, A + 35]⟩] 7 ⟨#[C + 35]⟩)) ?loop ?_
  case loop =>
    refine S_esc (n := n + 10) (s := pt1 N A B C) (by kernel_rfl) (by kernel_rfl) (by kernel_rfl) ?_
    rw [esc1 hN hA hB hC]
    refine for_cons (fm' := (frS (pt1 N A B C) 0 .none [] 0 ⟨#[N + 35]⟩)) (plainS (n := n + 7) n34 hN.2) ?_
    refine for_cons (fm' := (frS (pt1 N A B C) 0 .none [] 1 ⟨#[A + 35]⟩)) (plainS (n := n + 7) n34 hA.2) ?_
    refine for_cons (fm' := (frS (pt1 N A B C) 0 (.int 2) [] 2 ⟨#[34]⟩)) (by kernel_rfl) ?_
    refine for_cons (fm' := (frS (pt1 N A B C) 0 (.int 2) [] 3 ⟨#[B + 35]⟩)) (plainS (n := n + 7) n34 hB.2) ?_
    refine for_cons (fm' := (frS (pt1 N A B C) 0 (.int 2) [] 5 ⟨#[92, 34]⟩)) (by kernel_rfl) ?_
    refine for_cons (fm' := (frS (pt1 N A B C) 7 .none [.str ⟨#[N + 35, A + 35]⟩] 6 ⟨#[34]⟩)) (by kernel_rfl) ?_
    refine for_cons (fm' := (frS (pt1 N A B C) 7 .none [.str ⟨#[N + 35, A + 35]⟩] 7 ⟨#[C + 35]⟩)) (plainS (n := n + 7) n34 hC.2) ?_
    rfl
  refine run_cons (fm' := setB (Str.ofString "result") (.own ([.str ⟨#[N + 35, A + 35]⟩, .str ⟨#[C + 35]⟩])) (frS (pt1 N A B C) 7 .none [.str ⟨#[N + 35, A + 35]⟩] 7 ⟨#[C + 35]⟩)) (by kernel_rfl) ?_
  exact run_ret (by kernel_rfl)
noncomputable def pt2 (N A B C : Nat) : Str := ⟨#[N + 35, A + 35, B + 35, 34, C + 35, 92, 34, 34]⟩
theorem esc2 {N A B C : Nat} (hN : okC (N + 35)) (hA : okC (A + 35)) (hB : okC (B + 35)) (hC : okC (C + 35)) : escGo 0 false (pt2 N A B C).cps.toList = [(0, ⟨#[N + 35]⟩), (1, ⟨#[A + 35]⟩), (2, ⟨#[B + 35]⟩), (3, ⟨#[34]⟩), (4, ⟨#[C + 35]⟩), (6, ⟨#[92, 34]⟩), (7, ⟨#[34]⟩)] := by
  show escGo 0 false [N + 35, A + 35, B + 35, 34, C + 35, 92, 34, 34] = _
  have n1 : N ≠ 57 := by have := hN.1; omega
  have n2 : A ≠ 57 := by have := hA.1; omega
  have n3 : B ≠ 57 := by have := hB.1; omega
  have n4 : C ≠ 57 := by have := hC.1; omega
  simp [escGo, n1, n2, n3, n4]
theorem strip2 {n N A B C : Nat} (hN : okC (N + 35)) (hA : okC (A + 35)) (hB : okC (B + 35)) (hC : okC (C + 35)) : (ev (n + 12)).C (Str.ofString "_strip_quoted_realnames") [.str (pt2 N A B C)] = some (.str ⟨#[N + 35, A + 35, B + 35]⟩) := by
  refine C_def (n := n + 11) (fm := [(Str.ofString "addr", .v (.str (pt2 N A B C)))]) (i := 8) (dflt := []) (fm' := setB (Str.ofString "result") (.own ([.str ⟨#[N + 35, A + 35, B + 35]⟩])) (frS (pt2 N A B C) 8 .none [.str ⟨#[N + 35, A + 35, B + 35]⟩] 7 ⟨#[34]⟩)) (by kernel_rfl) (by kernel_rfl) ?_
  rw [body8]
  refine run_cons (fm' := [(Str.ofString "addr", .v (.str (pt2 N A B C)))]) (by kernel_rfl) ?_
  refine run_cons (fm' := [(Str.ofString "addr", .v (.str (pt2 N A B C))), (Str.ofString "start", .v (.int 0))]) (by kernel_rfl) ?_
  refine run_cons (fm' := [(Str.ofString "addr", .v (.str (pt2 N A B C))), (Str.ofString "start", .v (.int 0)), (Str.ofString "open_pos", .v .none)]) (by kernel_rfl) ?_
  refine run_cons (fm' := frS0 (pt2 N A B C)) (by kernel_rfl) ?_
  refine run_cons (fm' := (frS (pt2 N A B C) 8 .none [.str ⟨#[N + 35, A + 35, B + 35]⟩] 7 ⟨#[34]⟩)) ?loop ?_
  case loop =>
    refine S_esc (n := n + 10) (s := pt2 N A B C) (by kernel_rfl) (by kernel_rfl) (by kernel_rfl) ?_
    rw [esc2 hN hA hB hC]
    refine for_cons (fm' := (frS (pt2 N A B C) 0 .none [] 0 ⟨#[N + 35]⟩)) (plainS (n := n + 7) n34 hN.2) ?_
    refine for_cons (fm' := (frS (pt2 N A B C) 0 .none [] 1 ⟨#[A + 35]⟩)) (plainS (n := n + 7) n34 hA.2) ?_
    refine for_cons (fm' := (frS (pt2 N A B C) 0 .none [] 2 ⟨#[B + 35]⟩)) (plainS (n := n + 7) n34 hB.2) ?_
    refine for_cons (fm' := (frS (pt2 N A B C) 0 (.int 3) [] 3 ⟨#[34]⟩)) (by kernel_rfl) ?_
    refine for_cons (fm' := (frS (pt2 N A B C) 0 (.int 3) [] 4 ⟨#[C + 35]⟩)) (plainS (n := n + 7) n34 hC.2) ?_
    refine for_cons (fm' := (frS (pt2 N A B C) 0 (.int 3) [] 6 ⟨#[92, 34]⟩)) (by kernel_rfl) ?_
    refine for_cons (fm' := (frS (pt2 N A B C) 8 .none [.str ⟨#[N + 35, A + 35, B + 35]⟩] 7 ⟨#[34]⟩)) (by kernel_rfl) ?_
    rfl
  refine run_cons (fm' := setB (Str.ofString "result") (.own ([.str ⟨#[N + 35, A + 35, B + 35]⟩])) (frS (pt2 N A B C) 8 .none [.str ⟨#[N + 35, A + 35, B + 35]⟩] 7 ⟨#[34]⟩)) (by kernel_rfl) ?_
  exact run_ret (by kernel_rfl)
end MineP
namespace MineP
open Mine
noncomputable def trips : List (Nat × Nat × Nat) := (List.range 7).flatMap fun c => (List.range c).flatMap fun b => (List.range b).map fun a => (a, b, c)
noncomputable def tr (r : Nat) : Nat × Nat × Nat := trips.getD r (0, 0, 0)
noncomputable def intD (k : Nat) : D := .int (k : Nat)
noncomputable def triL (r : Nat) : List D := [intD (tr r).1, intD (tr r).2.1, intD (tr r).2.2]
noncomputable def gon (r g : Nat) : Nat := match g with | 0 => (tr r).1 | 1 => (tr r).2.1 | _ => (tr r).2.2
noncomputable def firsts : List Nat := [65, 119808, 120224, 120432]
noncomputable def sg (f k : Nat) : Nat := f + k - 35
noncomputable def ptg (g N A B C : Nat) : Str := match g with | 0 => pt0 N A B C | 1 => pt1 N A B C | _ => pt2 N A B C
noncomputable def combos : List (Nat × Nat × Nat) := firsts.flatMap fun f => (List.range 35).flatMap fun r => (List.range 3).map fun g => (f, r, g)
noncomputable def fL (f r g N : Nat) : Fm := [(nS "triple", .v (.list (triL r))), (nS "gone", .v (intD (gon r g))), (nS "first", .v (intD f)), (nS "noise", .v (.str ⟨#[N + 35]⟩))]
noncomputable def fL1 (f r g N : Nat) : Fm := [(nS "triple", .v (.list (triL r))), (nS "gone", .v (intD (gon r g))), (nS "first", .v (intD f)), (nS "noise", .v (.str ⟨#[N + 35]⟩)), (nS "text", .v (.str ⟨#[N + 35]⟩))]
noncomputable def fL2 (f r g N : Nat) : Fm := [(nS "triple", .v (.list (triL r))), (nS "gone", .v (intD (gon r g))), (nS "first", .v (intD f)), (nS "noise", .v (.str ⟨#[N + 35]⟩)),
  (nS "text", .v (.str (ptg g N (sg f (tr r).1) (sg f (tr r).2.1) (sg f (tr r).2.2)))), (nS "t", .v (intD (tr r).2.2)), (nS "sign", .v (.str ⟨#[f + (tr r).2.2]⟩))]
noncomputable def rgs : List (Nat × Nat) := (List.range 35).flatMap fun r => (List.range 3).map fun g => (r, g)
noncomputable abbrev TextsAt (f : Nat) : Prop := ∀ n N : Nat, rgs.map (fun c => (ev (n + 10)).S (fS 16) (fL1 f c.1 c.2 N) (st 16 1)) = rgs.map (fun c => some (fL2 f c.1 c.2 N, .next))
theorem texts0 : TextsAt 65 := fun n N => by kernel_rfl
theorem texts1 : TextsAt 119808 := fun n N => by kernel_rfl
theorem texts2 : TextsAt 120224 := fun n N => by kernel_rfl
theorem texts3 : TextsAt 120432 := fun n N => by kernel_rfl
theorem mem_rgs {r g : Nat} (hr : r < 35) (hg : g < 3) : (r, g) ∈ rgs := by
  unfold rgs
  rw [List.mem_flatMap]
  exact ⟨r, List.mem_range.mpr hr, List.mem_map.mpr ⟨g, List.mem_range.mpr hg, rfl⟩⟩
theorem map_pt {α β : Type} {l : List α} {f g : α → β} (h : l.map f = l.map g) {x : α} (hx : x ∈ l) : f x = g x := List.map_inj_left.mp h x hx
theorem texts {f : Nat} (hf : f ∈ firsts) {r g : Nat} (hr : r < 35) (hg : g < 3) (n N : Nat) : (ev (n + 10)).S (fS 16) (fL1 f r g N) (st 16 1) = some (fL2 f r g N, .next) := by
  have h : TextsAt f := by
    simp only [firsts, List.mem_cons, List.not_mem_nil, or_false] at hf
    rcases hf with rfl | rfl | rfl | rfl
    · exact texts0
    · exact texts1
    · exact texts2
    · exact texts3
  have := List.map_inj_left.mp (h n N) (r, g) (mem_rgs hr hg)
  dsimp only at this
  exact this
end MineP
namespace MineP
open Mine
section
variable {n : Nat} {sc : Scope} {fm : Fm}
noncomputable def joinOk (m : Str) (ap p : Pos) (e : Expr) : Bool := m == Str.ofString "join" && ap.endLine == p.line && plain e && (match e with | .Name .. => false | _ => true)
theorem E_join {o : Expr} {m : Str} {ap p : Pos} {e : Expr} {od d : D} {xs : List D} (hj : joinOk m ap p e = true) (ho : baseOk o = true) (h1 : (ev n).E sc fm o = some od) (h2 : (ev n).E sc fm e = some (.list xs)) (h : methB m od [.list xs] = some d) :
    (ev (n + 1)).E sc fm (.Call (.Attribute o m ap) [e] [] p) = some d := by
  unfold joinOk at hj
  simp only [Bool.and_eq_true] at hj
  obtain ⟨⟨⟨hm, ha⟩, hp⟩, hn⟩ := hj
  have hm' := eq_of_beq hm
  subst hm'
  show (if ap.endLine == p.line then methE (ev n) sc fm o (Str.ofString "join") [e] else none) = _
  rw [if_pos ha]
  unfold methE
  rw [if_neg (by decide +kernel), if_pos ho, h1]; dsimp only
  rw [if_pos hp]
  have : rdE (ev n) sc fm e = some (.list xs) := by
    cases e <;> first | exact h2 | cases hn
  rw [this]; exact h
noncomputable def compOk (sc : Scope) (fm : Fm) (scope : Scope) (gens : List Comprehension) : Bool := compSc sc fm scope && genNames scope gens
noncomputable def cf (sc : Scope) (fm : Fm) (scope : Scope) : Fm := capt sc scope.names fm
noncomputable def one1 (r : Ev) (sc : Scope) (x : Str) (ifs : List Expr) (elt : Expr) (fm : Fm) (d : D) : Option (List D) := match andT r sc (setB x (.v d) fm) ifs with
  | some true => (r.E sc (setB x (.v d) fm) elt).map fun y => [y]
  | some false => some []
  | none => none
theorem E_comp1 {elt it : Expr} {x : Str} {px p : Pos} {ifs : List Expr} {scope : Scope} {items ys : List D} (hc : compOk sc fm scope [⟨.Name x px, it, ifs, 0⟩] = true) (hi : iterC (ev n) sc fm it = some items)
    (hx : (((capt sc scope.names fm).lookup x).isNone && tgtOk (kinds sc scope) x) = true) (h : turnsD (one1 (ev n) (kinds sc scope) x ifs elt (cf sc fm scope)) items = some ys) (hs : small ys.length = true) :
    (ev (n + 1)).E sc fm (.ListComp elt [⟨.Name x px, it, ifs, 0⟩] scope p) = some (.list ys) := by
  show (if compSc sc fm scope && genNames scope [⟨.Name x px, it, ifs, 0⟩] then match iterC (ev n) sc fm it with
    | some items => match compGo (ev n) (kinds sc scope) elt [] x ifs (capt sc scope.names fm) items with
      | some ys => if small ys.length then some (PyData.list ys) else none
      | none => none
    | none => none
    else none) = _
  unfold compOk at hc
  rw [if_pos hc, hi]; dsimp only
  have : compGo (ev n) (kinds sc scope) elt [] x ifs (capt sc scope.names fm) items = some ys := by
    show (if _ then _ else _) = _
    rw [if_pos hx]; exact h
  rw [this]; dsimp only; rw [if_pos hs]
theorem turns_nil {f : D → Option (List D)} : turnsD f [] = some [] := rfl
theorem turns_cons {f : D → Option (List D)} {d : D} {rest ys zs : List D} (h : f d = some ys) (k : turnsD f rest = some zs) (hs : small (ys.length + zs.length) = true) : turnsD f (d :: rest) = some (ys ++ zs) := by
  show (match f d with
    | some ys => match turnsD f rest with
      | some zs => if small (ys.length + zs.length) then some (ys ++ zs) else none
      | none => none
    | none => none) = _
  rw [h]; dsimp only; rw [k]; dsimp only; rw [if_pos hs]
end
/-- the comprehension of _law_left -/
noncomputable def compL : Expr := match st 16 3 with | .Return (some (.Call _ [e] _ _)) _ => e | _ => .Name (nS "") ⟨0, 0, 0, 0⟩
noncomputable def eltL : Expr := match compL with | .ListComp e _ _ _ => e | _ => compL
noncomputable def scL : Scope := match compL with | .ListComp _ _ s _ => s | _ => fS 16
noncomputable def ifsL : List Expr := match compL with | .ListComp _ [⟨_, _, i, _⟩] _ _ => i | _ => []
noncomputable def oneL (n : Nat) : D → Option (List D) := one1 (ev n) (kinds (fS 16) scL) (nS "one") ifsL eltL []
noncomputable def chr1 (c : Nat) : D := .str ⟨#[c]⟩
theorem noiseL (n : Nat) : (List.range 16).map (fun m => oneL (n + 10) (chr1 (65024 + m))) = (List.range 16).map (fun _ => some []) := by kernel_rfl
noncomputable def signs : List (Nat × Nat) := firsts.flatMap fun f => (List.range 7).map fun k => (f, k)
theorem signL (n : Nat) : signs.map (fun s => oneL (n + 10) (chr1 (s.1 + s.2))) = signs.map (fun s => some [chr1 (97 + s.2)]) := by kernel_rfl
end MineP
namespace MineP
open Mine
noncomputable def notName : Expr → Bool
  | .Name .. => false
  | _ => true
theorem S_ret {n : Nat} {sc : Scope} {fm : Fm} {e : Expr} {p : Pos} {d : D} (hn : notName e = true) (h : (ev n).E sc fm e = some d) : (ev (n + 1)).S sc fm (.Return (some e) p) = some (fm, .ret d) := by
  show (match retE (ev n) sc fm e with
    | some d => some (fm, Fl.ret d)
    | none => none) = _
  have : retE (ev n) sc fm e = some d := by
    cases e <;> first | exact h | cases hn
  rw [this]
theorem tr_lt {r : Nat} (h : r < 35) : (tr r).1 < 7 ∧ (tr r).2.1 < 7 ∧ (tr r).2.2 < 7 := by
  have := List.all_eq_true.mp (show ((List.range 35).all fun r => decide ((tr r).1 < 7) && decide ((tr r).2.1 < 7) && decide ((tr r).2.2 < 7)) = true by decide +kernel) r (List.mem_range.mpr h)
  simpa [and_assoc] using this
theorem body16 : fB 16 = [st 16 0, st 16 1, st 16 2, st 16 3] := by kernel_rfl
noncomputable def l1 (r g : Nat) : Nat := match g with | 0 => (tr r).2.1 | _ => (tr r).1
noncomputable def l2 (r g : Nat) : Nat := match g with | 2 => (tr r).2.1 | _ => (tr r).2.2
/-- the letters that are left -/
noncomputable def leftS (a b : Nat) : Str := ⟨#[97 + a, 97 + b]⟩
noncomputable def fL3 (f r g N : Nat) (l : Str) : Fm := setB (nS "left") (.v (.str l)) (fL2 f r g N)
theorem join2 {n f r g N a b a' b' : Nat} (hN : oneL (n + 10) (chr1 (N + 35)) = some []) (ha : oneL (n + 10) (chr1 (a + 35)) = some [chr1 a']) (hb : oneL (n + 10) (chr1 (b + 35)) = some [chr1 b']) :
    (ev (n + 13)).S (fS 16) (fL3 f r g N ⟨#[N + 35, a + 35, b + 35]⟩) (st 16 3) = some (fL3 f r g N ⟨#[N + 35, a + 35, b + 35]⟩, .ret (.str ⟨#[a', b']⟩)) := by
  refine S_ret (n := n + 12) rfl ?_
  refine E_join (n := n + 11) (od := .str (nS "")) (xs := [chr1 a', chr1 b']) (by kernel_rfl) rfl (by kernel_rfl) ?_ (by kernel_rfl)
  refine E_comp1 (n := n + 10) (items := [chr1 (N + 35), chr1 (a + 35), chr1 (b + 35)]) (by kernel_rfl) (by kernel_rfl) (by kernel_rfl) ?_ rfl
  exact turns_cons (ys := []) (zs := [chr1 a', chr1 b']) hN (turns_cons (ys := [chr1 a']) (zs := [chr1 b']) ha (turns_cons (ys := [chr1 b']) (zs := []) hb turns_nil rfl) rfl) rfl
end MineP
namespace MineP
open Mine
theorem first_le {f : Nat} (h : f ∈ firsts) : 65 ≤ f ∧ f ≤ 120432 ∧ (f = 65 ∨ 100 < f) := by
  simp only [firsts, List.mem_cons, List.not_mem_nil, or_false] at h
  omega
theorem sg_eq {f k : Nat} (h : f ∈ firsts) : sg f k + 35 = f + k := by
  have := first_le h
  unfold sg; omega
theorem sg_ok {f k : Nat} (h : f ∈ firsts) (hk : k < 7) : okC (sg f k + 35) := by
  rw [sg_eq h]
  have := first_le h
  constructor <;> omega
theorem sign_one {n f k : Nat} (h : f ∈ firsts) (hk : k < 7) : oneL (n + 10) (chr1 (sg f k + 35)) = some [chr1 (97 + k)] := by
  rw [sg_eq h]
  have hm : (f, k) ∈ signs := List.mem_flatMap.mpr ⟨f, h, List.mem_map.mpr ⟨k, List.mem_range.mpr hk, rfl⟩⟩
  have := List.map_inj_left.mp (signL n) (f, k) hm
  dsimp only at this
  exact this
theorem noise_one {n m : Nat} (hm : m < 16) : oneL (n + 10) (chr1 (64989 + m + 35)) = some [] := by
  have := List.map_inj_left.mp (noiseL n) m (List.mem_range.mpr hm)
  rw [show 64989 + m + 35 = 65024 + m by omega]
  exact this
theorem strip_g {n f r g N : Nat} (hf : f ∈ firsts) (hr : r < 35) (hg : g < 3) (hN : okC (N + 35)) :
    (ev (n + 12)).C (Str.ofString "_strip_quoted_realnames") [.str (ptg g N (sg f (tr r).1) (sg f (tr r).2.1) (sg f (tr r).2.2))] = some (.str ⟨#[N + 35, sg f (l1 r g) + 35, sg f (l2 r g) + 35]⟩) := by
  obtain ⟨h1, h2, h3⟩ := tr_lt hr
  match g, hg with
  | 0, _ => exact strip0 hN (sg_ok hf h1) (sg_ok hf h2) (sg_ok hf h3)
  | 1, _ => exact strip1 hN (sg_ok hf h1) (sg_ok hf h2) (sg_ok hf h3)
  | 2, _ => exact strip2 hN (sg_ok hf h1) (sg_ok hf h2) (sg_ok hf h3)
theorem l_lt {r g : Nat} (hr : r < 35) : l1 r g < 7 ∧ l2 r g < 7 := by
  obtain ⟨h1, h2, h3⟩ := tr_lt hr
  unfold l1 l2
  constructor <;> split <;> assumption
theorem leftOk {n f r g m : Nat} (hf : f ∈ firsts) (hr : r < 35) (hg : g < 3) (hm : m < 16) :
    (ev (n + 15)).C (Str.ofString "_law_left") [.list (triL r), intD (gon r g), intD f, chr1 (64989 + m + 35)] = some (.str (leftS (l1 r g) (l2 r g))) := by
  have hN : okC (64989 + m + 35) := by constructor <;> omega
  refine C_def (n := n + 14) (fm := fL f r g (64989 + m)) (i := 16) (dflt := []) (fm' := fL3 f r g (64989 + m) ⟨#[64989 + m + 35, sg f (l1 r g) + 35, sg f (l2 r g) + 35]⟩) (by kernel_rfl) (by kernel_rfl) ?_
  rw [body16]
  refine run_cons (fm' := fL1 f r g (64989 + m)) (by kernel_rfl) ?_
  refine run_cons (texts hf hr hg (n + 4) (64989 + m)) ?_
  refine run_cons (fm' := fL3 f r g (64989 + m) ⟨#[64989 + m + 35, sg f (l1 r g) + 35, sg f (l2 r g) + 35]⟩) ?_ (run_ret (join2 (n := n + 1) (noise_one hm) (sign_one hf (l_lt hr).1) (sign_one hf (l_lt hr).2)))
  refine S_asg (n := n + 13) rfl (by kernel_rfl) ?_
  refine E_call (n := n + 12) (ds := [.str (ptg g (64989 + m) (sg f (tr r).1) (sg f (tr r).2.1) (sg f (tr r).2.2))]) (by kernel_rfl) (by kernel_rfl) ?_
  exact strip_g hf hr hg hN
end MineP
namespace MineP
open Mine
theorem small_le {n : Nat} (h : n ≤ 1000) : small n = true := Nat.ble_eq_true_of_le h
theorem range_pick {α : Type} : ∀ (n : Nat) (ys : List α), (List.range n).filterMap (fun i => ys[i]?) = ys.take n
  | 0, ys => by simp
  | n + 1, [] => by
    rw [List.range_succ_eq_map, List.filterMap_cons]
    simp
  | n + 1, y :: ys => by
    rw [List.range_succ_eq_map, List.filterMap_cons]
    show y :: _ = _
    rw [List.filterMap_map, List.take_succ_cons]
    congr 1
    exact range_pick n ys
theorem pick_gen {xs : List D} {l h : Option Int} {a b : Nat} (e : sliceBounds l h none xs.length = ((a : Int), (b : Int), 1)) : pickD xs l h none = (xs.drop a).take (b - a) := by
  unfold pickD
  rw [e]
  show (sliceRange (a : Int) (b : Int) 1).filterMap (xs[·]?) = _
  rw [sliceRange_one, List.filterMap_map, ← range_pick]
  congr 1
  funext i
  simp
theorem pick_both {xs : List D} {a b : Nat} (ha : a ≤ xs.length) (hab : a ≤ b) : pickD xs (some (a : Int)) (some (b : Int)) none = (xs.drop a).take (b - a) := by
  have e : sliceBounds (some (a : Int)) (some (b : Int)) none xs.length = ((a : Int), ((min b xs.length : Nat) : Int), 1) := by
    unfold sliceBounds
    simp only [Option.getD_none, gt_iff_lt, Int.zero_lt_one, if_true]
    congr 1
    · rw [if_neg (by omega)]; omega
    · congr 1
      rw [if_neg (by omega)]; omega
  rw [pick_gen e]
  apply List.ext_getElem?
  intro i
  simp only [List.getElem?_take, List.getElem?_drop]
  by_cases h1 : i < b - a
  · by_cases h2 : i < min b xs.length - a
    · simp [h1, h2]
    · have : xs.length ≤ a + i := by omega
      simp [h1, h2, List.getElem?_eq_none this]
  · have h2 : ¬ i < min b xs.length - a := by omega
    simp [h1, h2]
theorem pick_to {xs : List D} {b : Nat} (hb : b ≤ xs.length) : pickD xs none (some (b : Int)) none = xs.take b := by
  have e : sliceBounds none (some (b : Int)) none xs.length = (((0 : Nat) : Int), (b : Int), 1) := by
    unfold sliceBounds
    simp only [Option.getD_none, gt_iff_lt, Int.zero_lt_one, if_true]
    congr 2
    rw [if_neg (by omega)]; omega
  rw [pick_gen e]; simp
theorem pick_from {xs : List D} {a : Nat} (ha : a ≤ xs.length) : pickD xs (some (a : Int)) none none = xs.drop a := by
  have e : sliceBounds (some (a : Int)) none none xs.length = ((a : Int), (xs.length : Int), 1) := by
    unfold sliceBounds
    simp only [Option.getD_none, gt_iff_lt, Int.zero_lt_one, if_true]
    congr 1
    rw [if_neg (by omega)]; omega
  rw [pick_gen e, List.take_of_length_le (by simp)]
/-- the 21 pairs in order -/
noncomputable def prs : List (Nat × Nat) := (List.range 7).flatMap fun p => (List.range (6 - p)).map fun k => (p, p + 1 + k)
noncomputable def pA (j : Nat) : Nat := (prs.getD j (0, 0)).1
noncomputable def pB (j : Nat) : Nat := (prs.getD j (0, 0)).2
noncomputable def PS (j : Nat) : Str := leftS (pA j) (pB j)
noncomputable def PD (j : Nat) : D := .str (PS j)
noncomputable def js21 : List (Nat × Nat) := (List.range 21).flatMap fun i => (List.range 21).map fun j => (i, j)
theorem mem_js {i j : Nat} (hi : i < 21) (hj : j < 21) : (i, j) ∈ js21 := List.mem_flatMap.mpr ⟨i, List.mem_range.mpr hi, List.mem_map.mpr ⟨j, List.mem_range.mpr hj, rfl⟩⟩
theorem ltAll : (js21.all fun c => cmpD .Lt (PD c.1) (PD c.2) == some (decide (c.1 < c.2))) = true := by decide +kernel
theorem lt_pd {i j : Nat} (hi : i < 21) (hj : j < 21) : cmpD .Lt (PD i) (PD j) = some (decide (i < j)) := by
  have := List.all_eq_true.mp ltAll _ (mem_js hi hj)
  simpa using this
theorem eqAll : (js21.all fun c => PyData.eqv (PD c.1) (PD c.2) == decide (c.1 = c.2)) = true := by decide +kernel
theorem eq_pd {i j : Nat} (hi : i < 21) (hj : j < 21) : PyData.eqv (PD i) (PD j) = decide (i = j) := by
  have := List.all_eq_true.mp eqAll _ (mem_js hi hj)
  simpa using this
theorem layAll : ((List.range 21).all fun j => PyData.canLay0 (PD j)) = true := by decide +kernel
theorem lay_pd {j : Nat} (hj : j < 21) : PyData.canLay0 (PD j) = true := List.all_eq_true.mp layAll j (List.mem_range.mpr hj)
end MineP
namespace MineP
open Mine
section
variable {n : Nat} {sc : Scope} {fm fm' : Fm}
theorem S_while {t : Expr} {body : List Stmt} {p : Pos} {x : Option (Fm × Fl)} (h : whileS (ev n) sc t body 40 fm = x) : (ev (n + 1)).S sc fm (.While t body [] p) = x := h
theorem while_stop {r : Ev} {t : Expr} {body : List Stmt} {m : Nat} (h : r.T sc fm t = some false) : whileS r sc t body (m + 1) fm = some (fm, .next) := by
  show (match r.T sc fm t with
    | some false => some (fm, Fl.next)
    | some true => match runS r sc fm body with
      | some (fm', .next) => whileS r sc t body m fm'
      | some (fm', .cont) => whileS r sc t body m fm'
      | some (fm', .brk) => some (fm', .next)
      | x => x
    | none => none) = _
  rw [h]
theorem while_turn {r : Ev} {t : Expr} {body : List Stmt} {m : Nat} {x : Option (Fm × Fl)} (h : r.T sc fm t = some true) (hb : runS r sc fm body = some (fm', .next)) (k : whileS r sc t body m fm' = x) : whileS r sc t body (m + 1) fm = x := by
  show (match r.T sc fm t with
    | some false => some (fm, Fl.next)
    | some true => match runS r sc fm body with
      | some (fm', .next) => whileS r sc t body m fm'
      | some (fm', .cont) => whileS r sc t body m fm'
      | some (fm', .brk) => some (fm', .next)
      | x => x
    | none => none) = _
  rw [h]; dsimp only; rw [hb]; exact k
theorem E_len {f : Str} {fp p : Pos} {e : Expr} {xs : List D} (hf : (isGlob sc f && f == Str.ofString "len" && plain e) = true) (he : rdE (ev n) sc fm e = some (.list xs)) (hs : small xs.length = true) : (ev (n + 1)).E sc fm (.Call (.Name f fp) [e] [] p) = some (.int xs.length) := by
  simp only [Bool.and_eq_true] at hf
  obtain ⟨⟨h1, h2⟩, h3⟩ := hf
  show callE (ev n) sc fm f [e] = _
  unfold callE
  rw [if_pos h1, if_pos h2]; dsimp only
  rw [if_pos h3, he]; dsimp only
  rw [eq_of_beq h2]
  show (if small xs.length then some (PyData.int xs.length) else none) = some (PyData.int xs.length)
  rw [if_pos hs]
end
/-- the frame of bisect_left -/
noncomputable def fB2 (row : List D) (x : D) (lo : Int) (hi : D) (tl : Fm) : Fm := [(nS "a", .v (.list row)), (nS "x", .v x), (nS "lo", .v (.int lo)), (nS "hi", .v hi), (nS "key", .v .none)] ++ tl
noncomputable def mid1 (m : Int) : Fm := [(nS "mid", .v (.int m))]
noncomputable def thenB : List Stmt := match st 2 2 with | .If _ a _ _ => a | _ => []
noncomputable def testB : Expr := match thenB with | .While t _ _ _ :: _ => t | _ => .Name (nS "") ⟨0, 0, 0, 0⟩
noncomputable def bodyB : List Stmt := match thenB with | .While _ b _ _ :: _ => b | _ => []
noncomputable def bodyB0 : Stmt := bodyB.getD 0 (.Pass ⟨0, 0, 0, 0⟩)
noncomputable def bodyB1 : Stmt := bodyB.getD 1 (.Pass ⟨0, 0, 0, 0⟩)
theorem bodyB_eq : bodyB = [bodyB0, bodyB1] := by kernel_rfl
noncomputable def rowD (js : List Nat) : List D := js.map PD
theorem body2 : fB 2 = [st 2 0, st 2 1, st 2 2, st 2 3] := by kernel_rfl
theorem half {lo hi : Nat} (h : lo < hi) : ((lo : Int) + (hi : Int)).fdiv 2 = (((lo + hi) / 2 : Nat) : Int) := by
  rw [Int.fdiv_eq_ediv_of_nonneg _ (by decide)]; omega
section
variable {n : Nat} {js : List Nat} {j lo hi : Nat} (hjs : ∀ i ∈ js, i < 21) (hj : j < 21) (hlen : js.length ≤ 30)
include hjs hj hlen
theorem test_eq {tl : Fm} (ht : tl = [] ∨ ∃ m, tl = mid1 m) : (ev (n + 2)).T (fS 2) (fB2 (rowD js) (PD j) lo (.int hi) tl) testB = some (decide (lo < hi)) := by
  have : cmpD .Lt (.int (lo : Int)) (.int (hi : Int)) = some (decide (lo < hi)) := by
    show some (decide ((lo : Int) < (hi : Int))) = _
    congr 1
    rw [decide_eq_decide]; omega
  rcases ht with rfl | ⟨m, rfl⟩
  · exact T_cmp (n := n + 1) (cmp_plain (a := .int (lo : Int)) (b := .int (hi : Int)) rfl (by kernel_rfl) (by kernel_rfl) this)
  · exact T_cmp (n := n + 1) (cmp_plain (a := .int (lo : Int)) (b := .int (hi : Int)) rfl (by kernel_rfl) (by kernel_rfl) this)
theorem turn_eq {tl : Fm} (ht : tl = [] ∨ ∃ m, tl = mid1 m) (h : lo < hi) (hh : hi ≤ js.length) {i : Nat} (hi' : js[(lo + hi) / 2]? = some i) :
    runS (ev (n + 8)) (fS 2) (fB2 (rowD js) (PD j) lo (.int hi) tl) bodyB = some (if i < j then fB2 (rowD js) (PD j) ((((lo + hi) / 2 + 1 : Nat)) : Int) (.int hi) (mid1 (((lo + hi) / 2 : Nat) : Int)) else fB2 (rowD js) (PD j) lo (.int (((lo + hi) / 2 : Nat) : Int)) (mid1 (((lo + hi) / 2 : Nat) : Int)), .next) := by
  rw [bodyB_eq]
  have hi21 : i < 21 := hjs i (List.mem_of_getElem? hi')
  have m0 : (ev (n + 8)).S (fS 2) (fB2 (rowD js) (PD j) lo (.int hi) tl) bodyB0 = some (fB2 (rowD js) (PD j) lo (.int hi) (mid1 (((lo + hi) / 2 : Nat) : Int)), .next) := by
    rw [← half h]
    rcases ht with rfl | ⟨m, rfl⟩ <;> kernel_rfl
  refine run_cons m0 ?_
  have hx : (rowD js)[((((lo + hi) / 2 : Nat) : Int)).toNat]? = some (PD i) := by
    rw [Int.toNat_natCast]
    unfold rowD
    rw [List.getElem?_map, hi']; rfl
  have hc : (ev (n + 7)).T (fS 2) (fB2 (rowD js) (PD j) lo (.int hi) (mid1 (((lo + hi) / 2 : Nat) : Int))) (match bodyB1 with | .If t _ _ _ => t | _ => testB) = some (decide (i < j)) := by
    refine T_cmp (n := n + 6) ?_
    refine cmp_plain (a := PD i) (b := PD j) rfl ?_ (by kernel_rfl) (lt_pd hi21 hj)
    refine E_idx (n := n + 5) (xs := rowD js) (k := (((lo + hi) / 2 : Nat) : Int)) (by kernel_rfl) rfl (by kernel_rfl) (by omega) (by omega) hx
  refine run_cons (S_if (n := n + 7) hc ?_) rfl
  by_cases hl : i < j
  · rw [decide_eq_true hl, if_pos rfl, if_pos hl]
    kernel_rfl
  · rw [decide_eq_false hl, if_neg (by decide), if_neg hl]
    kernel_rfl
/-- the loop ends between what is below and what is not -/
theorem loop_eq (hs : ∀ a b, a < b → b < js.length → js.getD a 0 < js.getD b 0) : ∀ (m : Nat) (lo hi : Nat) (tl : Fm), (tl = [] ∨ ∃ m, tl = mid1 m) → hi - lo < m → lo ≤ hi → hi ≤ js.length → (∀ a, a < lo → js.getD a 0 < j) → (∀ a, hi ≤ a → a < js.length → j ≤ js.getD a 0) →
    ∃ k tl', (tl' = [] ∨ ∃ m, tl' = mid1 m) ∧ k ≤ js.length ∧ (∀ a, a < k → js.getD a 0 < j) ∧ (∀ a, k ≤ a → a < js.length → j ≤ js.getD a 0) ∧
      whileS (ev (n + 8)) (fS 2) testB bodyB m (fB2 (rowD js) (PD j) lo (.int hi) tl) = some (fB2 (rowD js) (PD j) k (.int k) tl', .next)
  | 0, lo, hi, tl, ht, hm, h1, h2, h3, h4 => absurd hm (Nat.not_lt_zero _)
  | m + 1, lo, hi, tl, ht, hm, h1, h2, h3, h4 => by
    have ht' := test_eq (n := n + 6) (lo := lo) (hi := hi) hjs hj hlen ht
    by_cases h : lo < hi
    · rw [decide_eq_true h] at ht'
      have hlt : (lo + hi) / 2 < js.length := by omega
      have he : js[(lo + hi) / 2]? = some js[(lo + hi) / 2] := List.getElem?_eq_getElem hlt
      have hg : js.getD ((lo + hi) / 2) 0 = js[(lo + hi) / 2] := by rw [List.getD_eq_getElem?_getD, he]; rfl
      have T := turn_eq (n := n) hjs hj hlen ht h h2 he
      by_cases hl : js[(lo + hi) / 2] < j
      · rw [if_pos hl] at T
        obtain ⟨k, tl', a1, a2, a3, a4, a5⟩ := loop_eq hs m ((lo + hi) / 2 + 1) hi (mid1 (((lo + hi) / 2 : Nat) : Int)) (.inr ⟨_, rfl⟩) (by omega) (by omega) h2 (fun a ha => by
          rcases Nat.lt_or_ge a ((lo + hi) / 2) with q | q
          · exact Nat.lt_trans (hs a _ q hlt) (hg ▸ hl)
          · have : a = (lo + hi) / 2 := by omega
            rw [this, hg]; exact hl) h4
        exact ⟨k, tl', a1, a2, a3, a4, while_turn ht' T a5⟩
      · rw [if_neg hl] at T
        obtain ⟨k, tl', a1, a2, a3, a4, a5⟩ := loop_eq hs m lo ((lo + hi) / 2) (mid1 (((lo + hi) / 2 : Nat) : Int)) (.inr ⟨_, rfl⟩) (by omega) (by omega) (by omega) h3 (fun a ha hb => by
          rcases Nat.lt_or_ge ((lo + hi) / 2) a with q | q
          · have := hs _ a q hb
            rw [hg] at this; omega
          · have : a = (lo + hi) / 2 := by omega
            rw [this, hg]; omega)
        exact ⟨k, tl', a1, a2, a3, a4, while_turn ht' T a5⟩
    · rw [decide_eq_false h] at ht'
      have : lo = hi := by omega
      subst this
      exact ⟨lo, tl, ht, h2, h3, h4, while_stop ht'⟩
end
end MineP
namespace MineP
open Mine
theorem thenB_eq : ∃ t b p, thenB = [.While t b [] p] := ⟨_, _, _, rfl⟩
theorem bisectOk {n : Nat} {js : List Nat} {j : Nat} (hjs : ∀ i ∈ js, i < 21) (hj : j < 21) (hlen : js.length ≤ 30) (hs : ∀ a b, a < b → b < js.length → js.getD a 0 < js.getD b 0) :
    ∃ k : Nat, k ≤ js.length ∧ (∀ a, a < k → js.getD a 0 < j) ∧ (∀ a, k ≤ a → a < js.length → j ≤ js.getD a 0) ∧ (ev (n + 12)).C (nS "bisect_left") [.list (rowD js), PD j] = some (.int (k : Int)) := by
  obtain ⟨k, tl', a1, a2, a3, a4, a5⟩ := loop_eq (n := n + 1) hjs hj hlen hs 40 0 js.length [] (.inl rfl) (by omega) (by omega) (by omega) (fun a h => absurd h (Nat.not_lt_zero _)) (fun a h h' => absurd h' (by omega))
  refine ⟨k, a2, a3, a4, ?_⟩
  refine C_def (n := n + 11) (fm := fB2 (rowD js) (PD j) 0 .none []) (i := 2) (dflt := [.int 0, .none, .none]) (fm' := fB2 (rowD js) (PD j) k (.int k) tl') (by kernel_rfl) (by kernel_rfl) ?_
  rw [body2]
  refine run_cons (fm' := fB2 (rowD js) (PD j) 0 .none []) (by kernel_rfl) ?_
  refine run_cons (fm' := fB2 (rowD js) (PD j) 0 (.int js.length) []) ?_ ?_
  · refine S_if (n := n + 10) (c := true) (by kernel_rfl) ?_
    refine run_cons (S_asg (n := n + 9) (d := .int js.length) rfl (by kernel_rfl) ?_) rfl
    have hl : (rowD js).length = js.length := by unfold rowD; rw [List.length_map]
    rw [← hl]
    exact E_len (n := n + 8) (by kernel_rfl) (by kernel_rfl) (small_le (by rw [hl]; omega))
  refine run_cons (fm' := fB2 (rowD js) (PD j) k (.int k) tl') ?_ ?_
  · refine S_if (n := n + 10) (c := true) (by kernel_rfl) ?_
    refine run_cons (fm' := fB2 (rowD js) (PD j) k (.int k) tl') ?_ rfl
    exact S_while (n := n + 9) a5
  · refine run_ret ?_
    rcases a1 with rfl | ⟨m, rfl⟩ <;> kernel_rfl
theorem body17 : fB 17 = [st 17 0, st 17 1, st 17 2] := by kernel_rfl
noncomputable def fD (row : List D) (x : D) : Fm := [(nS "row", .v (.list row)), (nS "pair", .v x)]
noncomputable def fD1 (row : List D) (x : D) (k : Nat) : Fm := [(nS "row", .v (.list row)), (nS "pair", .v x), (nS "k", .v (.int (k : Int)))]
/-- the row with the pair laid into it -/
noncomputable def insJ (js : List Nat) (j : Nat) : List Nat := if js.contains j then js else js.filter (· < j) ++ [j] ++ js.filter (fun i => !decide (i < j))
theorem canLay_row : ∀ {js : List Nat}, (∀ i ∈ js, i < 21) → PyData.canLayAll0 (rowD js) = true
  | [], _ => rfl
  | i :: js, h => by
    show (PyData.canLay0 (PD i) && PyData.canLayAll0 (rowD js)) = true
    rw [lay_pd (h i (.head _)), canLay_row fun x hx => h x (.tail _ hx)]; rfl
theorem depth_row : ∀ {js : List Nat}, PyData.depthAll (rowD js) = 0
  | [] => rfl
  | i :: js => by
    show max (PyData.depth (PD i)) (PyData.depthAll (rowD js)) = 0
    rw [depth_row]; rfl
theorem shallow_row {js : List Nat} (h : ∀ i ∈ js, i < 21) : shallow (.list (rowD js)) = true := by
  show (PyData.canLayAll0 (rowD js) && Nat.ble (PyData.depth (.list (rowD js))) 50) = true
  rw [canLay_row h]
  have : PyData.depth (.list (rowD js)) = 1 := by
    show PyData.depthAll (rowD js) + 1 = 1
    rw [depth_row]
  rw [this]; rfl
end MineP
namespace MineP
open Mine
noncomputable abbrev PSet := Nat → Bool
noncomputable def jsP (P : PSet) : List Nat := (List.range 21).filter P
noncomputable def rowP (P : PSet) : List D := rowD (jsP P)
noncomputable def addP (P : PSet) (j : Nat) : PSet := fun i => P i || i == j
theorem range_split {j : Nat} (hj : j < 21) : List.range 21 = List.range j ++ (j :: List.range' (j + 1) (20 - j)) := by
  have e : List.range 21 = List.range j ++ List.range' j (21 - j) := by
    rw [List.range_eq_range', List.range_eq_range', show (21 : Nat) = j + (21 - j) by omega]
    rw [← List.range'_append_1]
    simp
  rw [e, show 21 - j = (20 - j) + 1 by omega, List.range'_succ]
theorem js_lt {P : PSet} : ∀ i ∈ jsP P, i < 21 := fun i h => List.mem_range.mp (List.mem_filter.mp h).1
theorem js_len {P : PSet} : (jsP P).length ≤ 21 := by
  have := List.length_filter_le P (List.range 21)
  rwa [List.length_range] at this
theorem js_asc {P : PSet} : ∀ a b, a < b → b < (jsP P).length → (jsP P).getD a 0 < (jsP P).getD b 0 := by
  have h : (jsP P).Pairwise (· < ·) := List.Pairwise.filter _ List.pairwise_lt_range
  intro a b hab hb
  rw [List.getD_eq_getElem?_getD, List.getD_eq_getElem?_getD, List.getElem?_eq_getElem hb, List.getElem?_eq_getElem (Nat.lt_trans hab hb)]
  exact List.pairwise_iff_getElem.mp h a b (Nat.lt_trans hab hb) hb hab
noncomputable def lowP (P : PSet) (j : Nat) : List Nat := (List.range j).filter P
noncomputable def upP (P : PSet) (j : Nat) : List Nat := (j :: List.range' (j + 1) (20 - j)).filter P
noncomputable def uppP (P : PSet) (j : Nat) : List Nat := (List.range' (j + 1) (20 - j)).filter P
theorem js_split {P : PSet} {j : Nat} (hj : j < 21) : jsP P = lowP P j ++ upP P j := by
  unfold jsP lowP upP
  rw [range_split hj, List.filter_append]
theorem up_eq {P : PSet} {j : Nat} : upP P j = if P j then j :: uppP P j else uppP P j := by
  unfold upP uppP
  rw [List.filter_cons]
theorem cut_eq {P : PSet} {j k : Nat} (hj : j < 21) (hk : k ≤ (jsP P).length) (h1 : ∀ a, a < k → (jsP P).getD a 0 < j) (h2 : ∀ a, k ≤ a → a < (jsP P).length → j ≤ (jsP P).getD a 0) : k = (lowP P j).length := by
  have hs := js_split (P := P) hj
  have hl : (jsP P).length = (lowP P j).length + (upP P j).length := by rw [hs, List.length_append]
  rcases Nat.lt_trichotomy k (lowP P j).length with q | q | q
  · have h := h2 k (Nat.le_refl _) (by omega)
    rw [hs, List.getD_eq_getElem?_getD, List.getElem?_append_left q, List.getElem?_eq_getElem q] at h
    have hm := List.getElem_mem q
    have := List.mem_range.mp (List.mem_filter.mp hm).1
    simp only [Option.getD_some] at h
    omega
  · exact q
  · have h := h1 (lowP P j).length q
    have q' : 0 < (upP P j).length := by omega
    rw [hs, List.getD_eq_getElem?_getD, List.getElem?_append_right (Nat.le_refl _), Nat.sub_self, List.getElem?_eq_getElem q'] at h
    have hm := (List.mem_filter.mp (List.getElem_mem q')).1
    simp only [Option.getD_some] at h
    rcases List.mem_cons.mp hm with e | e
    · omega
    · have := (List.mem_range'_1.mp e).1
      omega
theorem add_eq {P : PSet} {j : Nat} (hj : j < 21) : jsP (addP P j) = lowP P j ++ [j] ++ uppP P j := by
  rw [js_split hj, up_eq]
  have h1 : lowP (addP P j) j = lowP P j := List.filter_congr fun i hi => by
    have := List.mem_range.mp hi
    unfold addP
    have : (i == j) = false := by rw [beq_eq_false_iff_ne]; omega
    rw [this, Bool.or_false]
  have h2 : uppP (addP P j) j = uppP P j := List.filter_congr fun i hi => by
    have := (List.mem_range'_1.mp hi).1
    unfold addP
    have : (i == j) = false := by rw [beq_eq_false_iff_ne]; omega
    rw [this, Bool.or_false]
  have h3 : addP P j j = true := by unfold addP; simp
  rw [h1, h2, h3, if_pos rfl, List.append_assoc]; rfl
theorem add_same {P : PSet} {j : Nat} (h : P j = true) : jsP (addP P j) = jsP P := List.filter_congr fun i _ => by
  unfold addP
  by_cases e : i = j
  · subst e; rw [h]; simp
  · have : (i == j) = false := beq_eq_false_iff_ne.mpr e
    rw [this, Bool.or_false]
theorem laidOk {n : Nat} {P : PSet} {j : Nat} (hj : j < 21) : (ev (n + 17)).C (nS "_law_laid") [.list (rowP P), PD j] = some (.list (rowP (addP P j))) := by
  obtain ⟨k, b1, b2, b3, b4⟩ := bisectOk (n := n + 2) (js := jsP P) js_lt hj (Nat.le_trans js_len (by decide)) js_asc
  have hk := cut_eq hj b1 b2 b3
  have hs := js_split (P := P) hj
  have hlen := js_len (P := P)
  have hrl : (rowP P).length = (jsP P).length := by unfold rowP rowD; rw [List.length_map]
  have hsm : small (rowP P).length = true := small_le (by omega)
  have hd : (rowP P).drop k = rowD (upP P j) := by
    unfold rowP rowD
    rw [hs, List.map_append, List.drop_append_of_le_length (by rw [List.length_map]; omega), hk, List.drop_of_length_le (by rw [List.length_map]; exact Nat.le_refl _)]; rfl
  have ht : (rowP P).take k = rowD (lowP P j) := by
    unfold rowP rowD
    rw [hs, List.map_append, List.take_append_of_le_length (by rw [List.length_map]; omega), hk, List.take_of_length_le (by rw [List.length_map]; exact Nat.le_refl _)]
  have j0 : (ev (n + 16)).S (fS 17) (fD (rowP P) (PD j)) (st 17 0) = some (fD1 (rowP P) (PD j) k, .next) := by
    refine S_asg (n := n + 15) (d := .int (k : Int)) rfl (by kernel_rfl) ?_
    exact E_call (n := n + 14) (ds := [.list (rowP P), PD j]) (by kernel_rfl) (by kernel_rfl) b4
  have hpick : pickD (rowP P) (some (k : Int)) (some ((k : Int) + 1)) none = ((rowP P).drop k).take 1 := by
    have := pick_both (xs := rowP P) (a := k) (b := k + 1) (by omega) (by omega)
    rw [show ((k + 1 : Nat) : Int) = (k : Int) + 1 by omega, show k + 1 - k = 1 by omega] at this
    exact this
  have tst : (ev (n + 15)).T (fS 17) (fD1 (rowP P) (PD j) k) (match st 17 1 with | .If t _ _ _ => t | _ => .Name (nS "") ⟨0, 0, 0, 0⟩) = some (P j) := by
    refine T_cmp (n := n + 14) ?_
    refine cmp_plain (a := .list (pickD (rowP P) (some (k : Int)) (some ((k : Int) + 1)) none)) (b := .list [PD j]) rfl ?_ (by kernel_rfl) ?_
    · exact E_slice (n := n + 13) (xs := rowP P) (l := some (k : Int)) (h := some ((k : Int) + 1)) (k := none) (by kernel_rfl) (by kernel_rfl) (by kernel_rfl) opt_none (by intro e; cases e) hsm
    · rw [hpick, hd]
      show (if shallow _ && shallow _ then some (PyData.eqvAll _ _) else none) = _
      have s1 : shallow (.list ((rowD (upP P j)).take 1)) = true := by
        unfold rowD
        rw [← List.map_take]
        exact shallow_row fun i hi => js_lt (P := P) i (by rw [hs]; exact List.mem_append_right _ (List.mem_of_mem_take hi))
      have s2 : shallow (.list [PD j]) = true := shallow_row (js := [j]) fun i hi => by rw [List.mem_singleton.mp hi]; exact hj
      rw [s1, s2]
      show some _ = some _
      congr 1
      rw [up_eq]
      cases hp : P j with
      | true =>
        rw [if_pos rfl]
        show (PyData.eqv (PD j) (PD j) && true) = true
        rw [eq_pd hj hj]; simp
      | false =>
        rw [if_neg (by decide)]
        cases hu : uppP P j with
        | nil => rfl
        | cons i r =>
          have hm : i ∈ uppP P j := by rw [hu]; exact .head _
          have hm' := List.mem_range'_1.mp (List.mem_filter.mp hm).1
          show (PyData.eqv (PD i) (PD j) && true) = false
          rw [eq_pd (by omega) hj]
          have : ¬ i = j := by omega
          simp [this]
  cases hp : P j with
  | true =>
    rw [hp] at tst
    have e : rowP (addP P j) = rowP P := by unfold rowP; rw [add_same hp]
    rw [e]
    refine C_def (n := n + 16) (fm := fD (rowP P) (PD j)) (i := 17) (dflt := []) (fm' := fD1 (rowP P) (PD j) k) (by kernel_rfl) (by kernel_rfl) ?_
    rw [body17]
    refine run_cons j0 ?_
    refine run_ret ?_
    refine S_if (n := n + 15) tst ?_
    exact run_ret (by kernel_rfl)
  | false =>
    rw [hp] at tst
    have e : rowP (addP P j) = rowD (lowP P j) ++ [PD j] ++ rowD (upP P j) := by
      unfold rowP
      rw [add_eq hj, up_eq, hp, if_neg (by decide)]
      unfold rowD
      rw [List.map_append, List.map_append]; rfl
    rw [e]
    refine C_def (n := n + 16) (fm := fD (rowP P) (PD j)) (i := 17) (dflt := []) (fm' := fD1 (rowP P) (PD j) k) (by kernel_rfl) (by kernel_rfl) ?_
    rw [body17]
    refine run_cons j0 ?_
    refine run_cons (S_if (n := n + 15) tst rfl) ?_
    refine run_ret ?_
    have hb : ∀ a b : List D, a.length + b.length ≤ 1000 → bop .Add (.list a) (.list b) = some (.list (a ++ b)) := fun a b h => by
      show (if small (a.length + b.length) then some (PyData.list (a ++ b)) else none) = _
      rw [if_pos (small_le h)]
    have l1 : (rowD (lowP P j)).length + (rowD (upP P j)).length = (jsP P).length := by
      unfold rowD
      rw [List.length_map, List.length_map, hs, List.length_append]
    refine S_ret (n := n + 15) rfl ?_
    refine E_bin (n := n + 14) (a := .list (rowD (lowP P j) ++ [PD j])) (b := .list (rowD (upP P j))) ?_ ?_ (hb _ _ (by simp; omega))
    · refine E_bin (n := n + 13) (a := .list (rowD (lowP P j))) (b := .list [PD j]) ?_ (by kernel_rfl) (hb _ _ (by simp; omega))
      rw [← ht, ← pick_to (xs := rowP P) (b := k) (by omega)]
      exact E_slice (n := n + 12) (xs := rowP P) (l := none) (h := some (k : Int)) (k := none) (by kernel_rfl) opt_none (by kernel_rfl) opt_none (by intro e; cases e) hsm
    · rw [← hd, ← pick_from (xs := rowP P) (a := k) (by omega)]
      exact E_slice (n := n + 13) (xs := rowP P) (l := some (k : Int)) (h := none) (k := none) (by kernel_rfl) (by kernel_rfl) opt_none opt_none (by intro e; cases e) hsm
end MineP
namespace MineP
open Mine
section
variable {n : Nat} {sc : Scope} {fm fm' : Fm}
theorem T_in {l : Expr} {x : Str} {p q : Pos} {d c : D} {b : Option Bool} (hg : isGlob sc x = false) (hl : (ev n).E sc fm l = some d) (hr : rdE (ev n) sc fm (.Name x p) = some c) (h : cmpD .In d c = b) : (ev (n + 1)).T sc fm (.Compare l [.In] [.Name x p] q) = b := by
  show cmpE (ev n) sc fm l .In (.Name x p) = b
  unfold cmpE
  dsimp only
  rw [hl]; dsimp only
  rw [hg, if_neg (by decide), hr]; exact h
noncomputable def appOk (sc : Scope) (fm : Fm) (x m : Str) (ap pos : Pos) (e : Expr) : Bool := m == Str.ofString "append" && isVar sc x && ap.endLine == pos.line && plain e && onlyOwn x fm
theorem S_app {x m : Str} {xp ap pos q : Pos} {e : Expr} {xs : List D} {d : D} (hc : appOk sc fm x m ap pos e = true) (hx : fm.lookup x = some (.own xs)) (he : (ev n).E sc fm e = some d) (hs : small xs.length = true) :
    (ev (n + 1)).S sc fm (.Expr (.Call (.Attribute (.Name x xp) m ap) [e] [] pos) q) = some (setB x (.own (xs ++ [d])) fm, .next) := by
  show evApp (ev n) sc fm x m ap pos e = _
  unfold evApp
  unfold appOk at hc
  rw [if_pos hc, hx]; dsimp only
  rw [he]; dsimp only
  rw [if_pos hs]
noncomputable def forOk1 (sc : Scope) (fm : Fm) (x : Str) : Bool := (sc.names.lookup x == some .local || sc.names.lookup x == some .cell) && notOwn fm x
theorem S_for {x : Str} {xp p : Pos} {it : Expr} {body orelse : List Stmt} {items : List D} {res : Option (Fm × Fl)} (hc : forOk1 sc fm x = true) (hi : iterE (ev n) sc fm it = some items)
    (h : forS (ev n) sc (fun d fm => setB x (.v d) fm) body orelse fm items = res) : (ev (n + 1)).S sc fm (.For (.Name x xp) it body orelse p) = res := by
  show (if (sc.names.lookup x == some .local || sc.names.lookup x == some .cell) && notOwn fm x then match iterE (ev n) sc fm it with
      | some items => forS (ev n) sc (fun d fm => setB x (.v d) fm) body orelse fm items
      | none => none
    else none) = _
  unfold forOk1 at hc
  rw [if_pos hc, hi]; exact h
end
noncomputable def triD (r : Nat) : D := .list (triL r)
noncomputable def orderL : List D := (List.range 35).map triD
noncomputable def wordsD : D := .list [.str (nS "GENERATOR"), .str (nS "NOFREE"), .str (nS "COROUTINE"), .str (nS "ITERABLE_COROUTINE"), .str (nS "ASYNC_GENERATOR"), .str (nS "0x400"), .str (nS "0x800")]
noncomputable def frL (sv gv : D) (F : List D) (S : D) (tl : Fm) : Fm := [(nS "script", .v sv), (nS "given", .v gv), (nS "letters", .v (.str (nS "abcdefg"))), (nS "words", .v wordsD), (nS "order", .v (.list orderL)), (nS "family", .own F), (nS "shade", .v S)] ++ tl
noncomputable def bodyF : List Stmt := match st 18 6 with | .For _ _ b _ _ => b | _ => []
noncomputable def bf (i : Nat) : Stmt := bodyF.getD i (.Pass ⟨0, 0, 0, 0⟩)
theorem bodyF_eq : bodyF = [bf 0, bf 1, bf 2, bf 3, bf 4, bf 5, bf 6, bf 7] := by kernel_rfl
noncomputable def bodyG : List Stmt := match bf 7 with | .For _ _ b _ _ => b | _ => []
noncomputable def bg (i : Nat) : Stmt := bodyG.getD i (.Pass ⟨0, 0, 0, 0⟩)
theorem bodyG_eq : bodyG = [bg 0, bg 1, bg 2, bg 3] := by kernel_rfl
theorem body18 : fB 18 = [st 18 0, st 18 1, st 18 2, st 18 3, st 18 4, st 18 5, st 18 6, st 18 7, st 18 8, st 18 9, st 18 10, st 18 11, st 18 12] := by kernel_rfl
/-- the defs at their arguments -/
theorem cascades (n : Nat) : (List.range 35).map (fun r => (ev (n + 20)).C (nS "_law_cascade") [intD r]) = (List.range 35).map (fun r => some (.list (triL r).reverse)) := by kernel_rfl
noncomputable def flagOf (a b : Nat) : Nat := 2 ^ (a + 5) + 2 ^ (b + 5)
noncomputable def wordL : List Str := [nS "GENERATOR", nS "NOFREE", nS "COROUTINE", nS "ITERABLE_COROUTINE", nS "ASYNC_GENERATOR", nS "0x400", nS "0x800"]
noncomputable def wtext (j : Nat) : Str := Txt.join (nS ", ") [wordL.getD (pA j) (nS ""), wordL.getD (pB j) (nS "")]
theorem pretties (n : Nat) : (List.range 21).map (fun j => (ev (n + 20)).C (nS "pretty_flags") [intD (flagOf (pA j) (pB j))]) = (List.range 21).map (fun j => some (.str (wtext j))) := by kernel_rfl
end MineP
namespace MineP
open Mine
noncomputable def tl1 (d1 : D) : Fm := [(nS "x", .v d1)]
noncomputable def tl2 (d1 d2 : D) : Fm := [(nS "x", .v d1), (nS "triple", .v d2)]
noncomputable def tl3 (d1 d2 d3 : D) : Fm := [(nS "x", .v d1), (nS "triple", .v d2), (nS "first", .v d3)]
noncomputable def tl4 (d1 d2 d3 d4 : D) : Fm := [(nS "x", .v d1), (nS "triple", .v d2), (nS "first", .v d3), (nS "noise", .v d4)]
noncomputable def tl5 (d1 d2 d3 d4 d5 : D) : Fm := [(nS "x", .v d1), (nS "triple", .v d2), (nS "first", .v d3), (nS "noise", .v d4), (nS "flags", .v d5)]
noncomputable def tl6 (d1 d2 d3 d4 d5 d6 : D) : Fm := [(nS "x", .v d1), (nS "triple", .v d2), (nS "first", .v d3), (nS "noise", .v d4), (nS "flags", .v d5), (nS "gone", .v d6)]
noncomputable def tl7 (d1 d2 d3 d4 d5 d6 d7 : D) : Fm := [(nS "x", .v d1), (nS "triple", .v d2), (nS "first", .v d3), (nS "noise", .v d4), (nS "flags", .v d5), (nS "gone", .v d6), (nS "left", .v d7)]
theorem map_at {β : Type} {l : List Nat} {f g : Nat → β} (h : l.map f = l.map g) {i : Nat} (hi : i ∈ l) : f i = g i := List.map_inj_left.mp h i hi
theorem cascade_at (n : Nat) {r : Nat} (hr : r < 35) : (ev (n + 20)).C (nS "_law_cascade") [intD r] = some (.list (triL r).reverse) := by
  have := List.map_inj_left.mp (cascades n) r (List.mem_range.mpr hr)
  exact this
theorem order_get {r : Nat} (hr : r < 35) : orderL[((r : Nat) : Int).toNat]? = some (triD r) := by
  rw [Int.toNat_natCast]
  unfold orderL
  rw [List.getElem?_map, List.getElem?_range hr]; rfl
theorem triAll : ((List.range 35).all fun r => shallow (triD r) && ((List.range 35).all fun q => PyData.eqv (triD r) (triD q) == decide (r = q))) = true := by decide +kernel
theorem tri_sh {r : Nat} (hr : r < 35) : shallow (triD r) = true := (Bool.and_eq_true_iff.mp (List.all_eq_true.mp triAll r (List.mem_range.mpr hr))).1
theorem tri_eq {r q : Nat} (hr : r < 35) (hq : q < 35) : PyData.eqv (triD r) (triD q) = decide (r = q) :=
  eq_of_beq (List.all_eq_true.mp (Bool.and_eq_true_iff.mp (List.all_eq_true.mp triAll r (List.mem_range.mpr hr))).2 q (List.mem_range.mpr hq))
theorem tri_ne {r : Nat} (hr : r < 35) : cmpD .NotEq (triD r) (triD r) = some false := by
  show (if shallow (triD r) && shallow (triD r) then some (!PyData.eqv (triD r) (triD r)) else none) = _
  rw [tri_sh hr, tri_eq hr hr]; simp
noncomputable def famD (Fr : List Nat) : List D := Fr.map triD
theorem fam_lay : ∀ {Fr : List Nat}, (∀ r ∈ Fr, r < 35) → PyData.canLayAll0 (famD Fr) = true
  | [], _ => rfl
  | r :: Fr, h => by
    show (PyData.canLay0 (triD r) && PyData.canLayAll0 (famD Fr)) = true
    have := tri_sh (h r (.head _))
    unfold shallow at this
    rw [(Bool.and_eq_true_iff.mp this).1, fam_lay fun x hx => h x (.tail _ hx)]; rfl
theorem tri_depth (r : Nat) : PyData.depth (triD r) = 1 := rfl
theorem fam_depth : ∀ {Fr : List Nat}, PyData.depthAll (famD Fr) ≤ 1
  | [] => Nat.zero_le _
  | r :: Fr => by
    show max (PyData.depth (triD r)) (PyData.depthAll (famD Fr)) ≤ 1
    have := @fam_depth Fr
    rw [tri_depth]; omega
theorem fam_sh {Fr : List Nat} (h : ∀ r ∈ Fr, r < 35) : shallow (.list (famD Fr)) = true := by
  show (PyData.canLayAll0 (famD Fr) && Nat.ble (PyData.depthAll (famD Fr) + 1) 50) = true
  rw [fam_lay h]
  have := @fam_depth Fr
  exact Nat.ble_eq_true_of_le (by omega)
theorem in_fam {Fr : List Nat} {r : Nat} (h : ∀ r ∈ Fr, r < 35) (hr : r < 35) : cmpD .In (triD r) (.list (famD Fr)) = some (Fr.contains r) := by
  show (if shallow (triD r) && shallow (.list (famD Fr)) then some ((famD Fr).any fun y => PyData.eqv y (triD r)) else none) = _
  rw [tri_sh hr, fam_sh h]
  show some _ = some _
  congr 1
  unfold famD
  rw [List.any_map]
  induction Fr with
  | nil => rfl
  | cons q Fr ih =>
    rw [List.any_cons, List.contains_cons, ih fun x hx => h x (.tail _ hx)]
    congr 1
    show PyData.eqv (triD q) (triD r) = _
    rw [tri_eq (h q (.head _)) hr]
    by_cases e : q = r
    · subst e; simp
    · have : (r == q) = false := beq_eq_false_iff_ne.mpr (Ne.symm e)
      rw [this]; simp [e]
noncomputable def flagsOf (r : Nat) : Nat := 2 ^ ((tr r).1 + 5) + 2 ^ ((tr r).2.1 + 5) + 2 ^ ((tr r).2.2 + 5)
noncomputable def noiD (m : Nat) : D := chr1 (64989 + m + 35)
theorem chrAll : ((List.range 16).all fun m => (match callB (nS "chr") [.int (65024 + (m : Int))] with | some (.str s) => s == ⟨#[64989 + m + 35]⟩ | _ => false)) = true := by decide +kernel
theorem chr_at {m : Nat} (hm : m < 16) : callB (nS "chr") [.int (65024 + (m : Int))] = some (noiD m) := by
  have := List.all_eq_true.mp chrAll m (List.mem_range.mpr hm)
  split at this
  · next s e => rw [e, eq_of_beq this]; rfl
  · cases this
noncomputable def firstsD : List D := firsts.map intD
theorem firsts_get {i : Nat} (hi : i < 4) : firstsD[((i : Nat) : Int).toNat]? = some (intD (firsts.getD i 0)) := by
  rw [Int.toNat_natCast]
  unfold firstsD
  rw [List.getElem?_map, List.getD_eq_getElem?_getD, List.getElem?_eq_getElem (by simpa [firsts] using hi)]; rfl
section
variable {n : Nat} {sv gv S : D} {F : List D} {x : Int} {r fi m : Nat}
theorem modA (hx : x.fmod 35 = (r : Nat)) : (ev (n + 36)).E (fS 18) (frL sv gv F S (tl1 (.int x))) (match bf 0 with | .Assign _ (.Subscript (.Call _ [e] _ _) _ _) _ => e | _ => .Name (nS "") ⟨0, 0, 0, 0⟩) = some (intD r) := by
  rw [show intD r = PyData.int (x.fmod 35) from by rw [hx]; rfl]
  kernel_rfl
theorem b0A (hr : r < 35) (hx : x.fmod 35 = (r : Nat)) : (ev (n + 39)).S (fS 18) (frL sv gv F S (tl1 (.int x))) (bf 0) = some ((frL sv gv F S (tl2 (.int x) (triD r))), .next) := by
  refine S_asg (n := n + 38) (d := triD r) rfl (by kernel_rfl) ?_
  rw [show triD r = PyData.list (pickD (triL r).reverse none none (some (-1))) from by kernel_rfl]
  refine E_slice (n := n + 37) (xs := (triL r).reverse) (l := none) (h := none) (k := some (-1)) ?_ opt_none opt_none (opt_some (by kernel_rfl)) (by intro e; cases e) rfl
  refine E_call (n := n + 36) (ds := [intD r]) (by kernel_rfl) (each_cons rfl (modA hx) each_nil) (cascade_at (n + 16) hr)
theorem b1A (hr : r < 35) (hx : x.fmod 35 = (r : Nat)) : (ev (n + 39)).S (fS 18) (frL sv gv F S (tl2 (.int x) (triD r))) (bf 1) = some ((frL sv gv F S (tl2 (.int x) (triD r))), .next) := by
  refine S_if (n := n + 38) (c := false) ?_ rfl
  refine T_cmp (n := n + 37) ?_
  refine cmp_plain (a := triD r) (b := triD r) rfl (by kernel_rfl) ?_ (tri_ne hr)
  refine E_idx (n := n + 36) (xs := orderL) (k := (r : Int)) (by kernel_rfl) rfl ?_ (by omega) (by omega) (order_get hr)
  show (ev (n + 36)).E _ _ _ = some (intD r)
  rw [show intD r = PyData.int (x.fmod 35) from by rw [hx]; rfl]
  kernel_rfl
theorem b2tA {Fr : List Nat} (hF : ∀ r ∈ Fr, r < 35) (hr : r < 35) : (ev (n + 38)).T (fS 18) (frL sv gv (famD Fr) S (tl2 (.int x) (triD r))) (match bf 2 with | .If t _ _ _ => t | _ => .Name (nS "") ⟨0, 0, 0, 0⟩) = some (Fr.contains r) := by
  refine T_in (n := n + 37) (by kernel_rfl) (d := triD r) (by kernel_rfl) (c := .list (famD Fr)) (by kernel_rfl) (in_fam hF hr)
theorem b2nA {Fr : List Nat} (hF : ∀ r ∈ Fr, r < 35) (hr : r < 35) (hc : Fr.contains r = false) : (ev (n + 39)).S (fS 18) (frL sv gv (famD Fr) S (tl2 (.int x) (triD r))) (bf 2) = some ((frL sv gv (famD Fr) S (tl2 (.int x) (triD r))), .next) :=
  S_if (n := n + 38) (c := false) ((b2tA hF hr).trans (by rw [hc])) rfl
theorem b2cA {Fr : List Nat} (hF : ∀ r ∈ Fr, r < 35) (hr : r < 35) (hc : Fr.contains r = true) : (ev (n + 39)).S (fS 18) (frL sv gv (famD Fr) S (tl2 (.int x) (triD r))) (bf 2) = some ((frL sv gv (famD Fr) S (tl2 (.int x) (triD r))), .cont) :=
  S_if (n := n + 38) (c := true) ((b2tA hF hr).trans (by rw [hc])) (by kernel_rfl)
theorem b3A (hl : F.length ≤ 1000) : (ev (n + 39)).S (fS 18) (frL sv gv F S (tl2 (.int x) (triD r))) (bf 3) = some ((frL sv gv (F ++ [triD r]) S (tl2 (.int x) (triD r))), .next) := by
  refine S_app (n := n + 38) (xs := F) (d := triD r) (by kernel_rfl) (by kernel_rfl) (by kernel_rfl) (small_le hl)
theorem b4A (hi : fi < 4) (hx : (x.fdiv 35).fmod 4 = (fi : Nat)) : (ev (n + 39)).S (fS 18) (frL sv gv F S (tl2 (.int x) (triD r))) (bf 4) = some ((frL sv gv F S (tl3 (.int x) (triD r) (intD (firsts.getD fi 0)))), .next) := by
  refine S_asg (n := n + 38) (d := intD (firsts.getD fi 0)) rfl (by kernel_rfl) ?_
  refine E_idx (n := n + 37) (xs := firstsD) (k := (fi : Int)) (by kernel_rfl) rfl ?_ (by omega) (by omega) (firsts_get hi)
  rw [show PyData.int (fi : Int) = PyData.int ((x.fdiv 35).fmod 4) from by rw [hx]]
  kernel_rfl
theorem b5A (hm : m < 16) (hx : (x.fdiv 140).fmod 16 = (m : Nat)) : (ev (n + 39)).S (fS 18) (frL sv gv F S (tl3 (.int x) (triD r) (intD (firsts.getD fi 0)))) (bf 5) = some ((frL sv gv F S (tl4 (.int x) (triD r) (intD (firsts.getD fi 0)) (noiD m))), .next) := by
  refine S_asg (n := n + 38) (d := noiD m) rfl (by kernel_rfl) ?_
  refine E_callB (n := n + 37) (ds := [.int (65024 + (m : Int))]) (by kernel_rfl) ?_ (chr_at hm)
  refine each_cons rfl ?_ each_nil
  rw [show PyData.int (65024 + (m : Int)) = PyData.int (65024 + (x.fdiv 140).fmod 16) from by rw [hx]]
  kernel_rfl
theorem b6allA (n : Nat) (sv gv S : D) (F : List D) (x : Int) (fi m : Nat) : (List.range 35).map (fun r => (ev (n + 39)).S (fS 18) (frL sv gv F S (tl4 (.int x) (triD r) (intD (firsts.getD fi 0)) (noiD m))) (bf 6)) = (List.range 35).map (fun r => some ((frL sv gv F S (tl5 (.int x) (triD r) (intD (firsts.getD fi 0)) (noiD m) (intD (flagsOf r)))), .next)) := by kernel_rfl
theorem b6A (hr : r < 35) : (ev (n + 39)).S (fS 18) (frL sv gv F S (tl4 (.int x) (triD r) (intD (firsts.getD fi 0)) (noiD m))) (bf 6) = some ((frL sv gv F S (tl5 (.int x) (triD r) (intD (firsts.getD fi 0)) (noiD m) (intD (flagsOf r)))), .next) := by
  have := List.map_inj_left.mp (b6allA n sv gv S F x fi m) r (List.mem_range.mpr hr)
  exact this
theorem modB {d1 d2 d3 d4 d5 d6 d7 : D} (hx : x.fmod 35 = (r : Nat)) : (ev (n + 36)).E (fS 18) (frL sv gv F S (tl7 (.int x) d2 d3 d4 d5 d6 d7)) (match bf 0 with | .Assign _ (.Subscript (.Call _ [e] _ _) _ _) _ => e | _ => .Name (nS "") ⟨0, 0, 0, 0⟩) = some (intD r) := by
  rw [show intD r = PyData.int (x.fmod 35) from by rw [hx]; rfl]
  kernel_rfl
theorem b0B {d1 d2 d3 d4 d5 d6 d7 : D} (hr : r < 35) (hx : x.fmod 35 = (r : Nat)) : (ev (n + 39)).S (fS 18) (frL sv gv F S (tl7 (.int x) d2 d3 d4 d5 d6 d7)) (bf 0) = some ((frL sv gv F S (tl7 (.int x) (triD r) d3 d4 d5 d6 d7)), .next) := by
  refine S_asg (n := n + 38) (d := triD r) rfl (by kernel_rfl) ?_
  rw [show triD r = PyData.list (pickD (triL r).reverse none none (some (-1))) from by kernel_rfl]
  refine E_slice (n := n + 37) (xs := (triL r).reverse) (l := none) (h := none) (k := some (-1)) ?_ opt_none opt_none (opt_some (by kernel_rfl)) (by intro e; cases e) rfl
  refine E_call (n := n + 36) (ds := [intD r]) (by kernel_rfl) (each_cons rfl (modB (d1 := d1) hx) each_nil) (cascade_at (n + 16) hr)
theorem b1B {d1 d2 d3 d4 d5 d6 d7 : D} (hr : r < 35) (hx : x.fmod 35 = (r : Nat)) : (ev (n + 39)).S (fS 18) (frL sv gv F S (tl7 (.int x) (triD r) d3 d4 d5 d6 d7)) (bf 1) = some ((frL sv gv F S (tl7 (.int x) (triD r) d3 d4 d5 d6 d7)), .next) := by
  refine S_if (n := n + 38) (c := false) ?_ rfl
  refine T_cmp (n := n + 37) ?_
  refine cmp_plain (a := triD r) (b := triD r) rfl (by kernel_rfl) ?_ (tri_ne hr)
  refine E_idx (n := n + 36) (xs := orderL) (k := (r : Int)) (by kernel_rfl) rfl ?_ (by omega) (by omega) (order_get hr)
  show (ev (n + 36)).E _ _ _ = some (intD r)
  rw [show intD r = PyData.int (x.fmod 35) from by rw [hx]; rfl]
  kernel_rfl
theorem b2tB {d1 d2 d3 d4 d5 d6 d7 : D} {Fr : List Nat} (hF : ∀ r ∈ Fr, r < 35) (hr : r < 35) : (ev (n + 38)).T (fS 18) (frL sv gv (famD Fr) S (tl7 (.int x) (triD r) d3 d4 d5 d6 d7)) (match bf 2 with | .If t _ _ _ => t | _ => .Name (nS "") ⟨0, 0, 0, 0⟩) = some (Fr.contains r) := by
  refine T_in (n := n + 37) (by kernel_rfl) (d := triD r) (by kernel_rfl) (c := .list (famD Fr)) (by kernel_rfl) (in_fam hF hr)
theorem b2nB {d1 d2 d3 d4 d5 d6 d7 : D} {Fr : List Nat} (hF : ∀ r ∈ Fr, r < 35) (hr : r < 35) (hc : Fr.contains r = false) : (ev (n + 39)).S (fS 18) (frL sv gv (famD Fr) S (tl7 (.int x) (triD r) d3 d4 d5 d6 d7)) (bf 2) = some ((frL sv gv (famD Fr) S (tl7 (.int x) (triD r) d3 d4 d5 d6 d7)), .next) :=
  S_if (n := n + 38) (c := false) ((b2tB (d1 := d1) (d2 := d2) hF hr).trans (by rw [hc])) rfl
theorem b2cB {d1 d2 d3 d4 d5 d6 d7 : D} {Fr : List Nat} (hF : ∀ r ∈ Fr, r < 35) (hr : r < 35) (hc : Fr.contains r = true) : (ev (n + 39)).S (fS 18) (frL sv gv (famD Fr) S (tl7 (.int x) (triD r) d3 d4 d5 d6 d7)) (bf 2) = some ((frL sv gv (famD Fr) S (tl7 (.int x) (triD r) d3 d4 d5 d6 d7)), .cont) :=
  S_if (n := n + 38) (c := true) ((b2tB (d1 := d1) (d2 := d2) hF hr).trans (by rw [hc])) (by kernel_rfl)
theorem b3B {d1 d2 d3 d4 d5 d6 d7 : D} (hl : F.length ≤ 1000) : (ev (n + 39)).S (fS 18) (frL sv gv F S (tl7 (.int x) (triD r) d3 d4 d5 d6 d7)) (bf 3) = some ((frL sv gv (F ++ [triD r]) S (tl7 (.int x) (triD r) d3 d4 d5 d6 d7)), .next) := by
  refine S_app (n := n + 38) (xs := F) (d := triD r) (by kernel_rfl) (by kernel_rfl) (by kernel_rfl) (small_le hl)
theorem b4B {d1 d2 d3 d4 d5 d6 d7 : D} (hi : fi < 4) (hx : (x.fdiv 35).fmod 4 = (fi : Nat)) : (ev (n + 39)).S (fS 18) (frL sv gv F S (tl7 (.int x) (triD r) d3 d4 d5 d6 d7)) (bf 4) = some ((frL sv gv F S (tl7 (.int x) (triD r) (intD (firsts.getD fi 0)) d4 d5 d6 d7)), .next) := by
  refine S_asg (n := n + 38) (d := intD (firsts.getD fi 0)) rfl (by kernel_rfl) ?_
  refine E_idx (n := n + 37) (xs := firstsD) (k := (fi : Int)) (by kernel_rfl) rfl ?_ (by omega) (by omega) (firsts_get hi)
  rw [show PyData.int (fi : Int) = PyData.int ((x.fdiv 35).fmod 4) from by rw [hx]]
  kernel_rfl
theorem b5B {d1 d2 d3 d4 d5 d6 d7 : D} (hm : m < 16) (hx : (x.fdiv 140).fmod 16 = (m : Nat)) : (ev (n + 39)).S (fS 18) (frL sv gv F S (tl7 (.int x) (triD r) (intD (firsts.getD fi 0)) d4 d5 d6 d7)) (bf 5) = some ((frL sv gv F S (tl7 (.int x) (triD r) (intD (firsts.getD fi 0)) (noiD m) d5 d6 d7)), .next) := by
  refine S_asg (n := n + 38) (d := noiD m) rfl (by kernel_rfl) ?_
  refine E_callB (n := n + 37) (ds := [.int (65024 + (m : Int))]) (by kernel_rfl) ?_ (chr_at hm)
  refine each_cons rfl ?_ each_nil
  rw [show PyData.int (65024 + (m : Int)) = PyData.int (65024 + (x.fdiv 140).fmod 16) from by rw [hx]]
  kernel_rfl
theorem b6allB (n : Nat) (sv gv S : D) (F : List D) (x : Int) (fi m : Nat) (d1 d2 d3 d4 d5 d6 d7 : D) : (List.range 35).map (fun r => (ev (n + 39)).S (fS 18) (frL sv gv F S (tl7 (.int x) (triD r) (intD (firsts.getD fi 0)) (noiD m) d5 d6 d7)) (bf 6)) = (List.range 35).map (fun r => some ((frL sv gv F S (tl7 (.int x) (triD r) (intD (firsts.getD fi 0)) (noiD m) (intD (flagsOf r)) d6 d7)), .next)) := by kernel_rfl
theorem b6B {d1 d2 d3 d4 d5 d6 d7 : D} (hr : r < 35) : (ev (n + 39)).S (fS 18) (frL sv gv F S (tl7 (.int x) (triD r) (intD (firsts.getD fi 0)) (noiD m) d5 d6 d7)) (bf 6) = some ((frL sv gv F S (tl7 (.int x) (triD r) (intD (firsts.getD fi 0)) (noiD m) (intD (flagsOf r)) d6 d7)), .next) := by
  have := List.map_inj_left.mp (b6allB n sv gv S F x fi m d1 d2 d3 d4 d5 d6 d7) r (List.mem_range.mpr hr)
  exact this
end
end MineP
namespace MineP
open Mine
noncomputable def jOf (r g : Nat) : Nat := prs.findIdx (· == (l1 r g, l2 r g))
theorem jAll : (rgs.all fun c => decide (jOf c.1 c.2 < 21) && (leftS (l1 c.1 c.2) (l2 c.1 c.2) == PS (jOf c.1 c.2))) = true := by decide +kernel
theorem j_lt {r g : Nat} (hr : r < 35) (hg : g < 3) : jOf r g < 21 := by
  have := List.all_eq_true.mp jAll _ (mem_rgs hr hg)
  simp only [Bool.and_eq_true, decide_eq_true_eq] at this
  exact this.1
theorem j_left {r g : Nat} (hr : r < 35) (hg : g < 3) : leftS (l1 r g) (l2 r g) = PS (jOf r g) := by
  have := List.all_eq_true.mp jAll _ (mem_rgs hr hg)
  simp only [Bool.and_eq_true, decide_eq_true_eq] at this
  exact eq_of_beq this.2
theorem pretty_at (n : Nat) {j : Nat} (hj : j < 21) : (ev (n + 20)).C (nS "pretty_flags") [intD (flagOf (pA j) (pB j))] = some (.str (wtext j)) := by
  have := List.map_inj_left.mp (pretties n) j (List.mem_range.mpr hj)
  exact this
theorem wAll : ((List.range 21).all fun j => cmpD .NotEq (.str (wtext j)) (.str (wtext j)) == some false) = true := by decide +kernel
theorem w_ne {j : Nat} (hj : j < 21) : cmpD .NotEq (.str (wtext j)) (.str (wtext j)) = some false := eq_of_beq (List.all_eq_true.mp wAll j (List.mem_range.mpr hj))
noncomputable def frG (sv gv S : D) (F : List D) (x f noi : D) (r g : Nat) (left : D) : Fm := frL sv gv F S (tl7 x (triD r) f noi (intD (flagsOf r)) (intD (gon r g)) left)
noncomputable def test1 : Expr := match bg 1 with | .If t _ _ _ => t | _ => .Name (nS "") ⟨0, 0, 0, 0⟩
noncomputable def args2 : List Expr := match bg 2 with | .If (.Compare (.Call _ as _ _) _ _ _) _ _ _ => as | _ => []
noncomputable def rhs2 : Expr := match bg 2 with | .If (.Compare _ _ [e] _) _ _ _ => e | _ => .Name (nS "") ⟨0, 0, 0, 0⟩
theorem c1all (n : Nat) (sv gv S : D) (F : List D) (x f noi : D) : rgs.map (fun c => (ev (n + 37)).T (fS 18) (frG sv gv S F x f noi c.1 c.2 (PD (jOf c.1 c.2))) test1) = rgs.map (fun _ => some false) := by kernel_rfl
theorem c2args (n : Nat) (sv gv S : D) (F : List D) (x f noi : D) : rgs.map (fun c => eachE (ev (n + 35)) (fS 18) (frG sv gv S F x f noi c.1 c.2 (PD (jOf c.1 c.2))) args2) = rgs.map (fun c => some [intD (flagOf (pA (jOf c.1 c.2)) (pB (jOf c.1 c.2)))]) := by kernel_rfl
theorem c2rhs (n : Nat) (sv gv S : D) (F : List D) (x f noi fl tri gone : D) : (List.range 21).map (fun j => (ev (n + 36)).E (fS 18) (frL sv gv F S (tl7 x tri f noi fl gone (PD j))) rhs2) = (List.range 21).map (fun j => some (.str (wtext j))) := by kernel_rfl
end MineP
namespace MineP
open Mine
section
variable {n : Nat} {sv gv S : D} {F : List D} {x : D} {r fi m g : Nat}
noncomputable def fD' (fi : Nat) : D := intD (firsts.getD fi 0)
theorem first_mem {fi : Nat} (h : fi < 4) : firsts.getD fi 0 ∈ firsts := by
  rw [List.getD_eq_getElem?_getD, List.getElem?_eq_getElem (by simpa [firsts] using h)]
  exact List.getElem_mem _
theorem left_at (hr : r < 35) (hg : g < 3) (hi : fi < 4) (hm : m < 16) : (ev (n + 36)).C (nS "_law_left") [triD r, intD (gon r g), fD' fi, noiD m] = some (PD (jOf r g)) := by
  have := leftOk (n := n + 21) (first_mem hi) hr hg hm
  rw [j_left hr hg] at this
  exact this
/-- the frame when `gone` has just been laid: without `left`, or with an old one -/
noncomputable def frG0 (sv gv S : D) (F : List D) (x f noi : D) (r g : Nat) : Fm := frL sv gv F S (tl6 x (triD r) f noi (intD (flagsOf r)) (intD (gon r g)))
theorem c0A (hr : r < 35) (hg : g < 3) (hi : fi < 4) (hm : m < 16) : (ev (n + 38)).S (fS 18) (frG0 sv gv S F x (fD' fi) (noiD m) r g) (bg 0) = some (frG sv gv S F x (fD' fi) (noiD m) r g (PD (jOf r g)), .next) := by
  refine S_asg (n := n + 37) (d := PD (jOf r g)) rfl (by kernel_rfl) ?_
  exact E_call (n := n + 36) (ds := [triD r, intD (gon r g), fD' fi, noiD m]) (by kernel_rfl) (by kernel_rfl) (left_at hr hg hi hm)
theorem c0B {l : D} (hr : r < 35) (hg : g < 3) (hi : fi < 4) (hm : m < 16) : (ev (n + 38)).S (fS 18) (frG sv gv S F x (fD' fi) (noiD m) r g l) (bg 0) = some (frG sv gv S F x (fD' fi) (noiD m) r g (PD (jOf r g)), .next) := by
  refine S_asg (n := n + 37) (d := PD (jOf r g)) rfl (by kernel_rfl) ?_
  exact E_call (n := n + 36) (ds := [triD r, intD (gon r g), fD' fi, noiD m]) (by kernel_rfl) (by kernel_rfl) (left_at hr hg hi hm)
theorem c1 {f noi : D} (hr : r < 35) (hg : g < 3) : (ev (n + 38)).S (fS 18) (frG sv gv S F x f noi r g (PD (jOf r g))) (bg 1) = some (frG sv gv S F x f noi r g (PD (jOf r g)), .next) := by
  have := List.map_inj_left.mp (c1all n sv gv S F x f noi) (r, g) (mem_rgs hr hg)
  exact S_if (n := n + 37) (c := false) this rfl
theorem c2 {f noi : D} (hr : r < 35) (hg : g < 3) : (ev (n + 38)).S (fS 18) (frG sv gv S F x f noi r g (PD (jOf r g))) (bg 2) = some (frG sv gv S F x f noi r g (PD (jOf r g)), .next) := by
  refine S_if (n := n + 37) (c := false) ?_ rfl
  refine T_cmp (n := n + 36) ?_
  have h1 := List.map_inj_left.mp (c2args n sv gv S F x f noi) (r, g) (mem_rgs hr hg)
  have h2 := List.map_inj_left.mp (c2rhs n sv gv S F x f noi (intD (flagsOf r)) (triD r) (intD (gon r g))) (jOf r g) (List.mem_range.mpr (j_lt hr hg))
  refine cmp_plain (a := .str (wtext (jOf r g))) (b := .str (wtext (jOf r g))) rfl ?_ h2 (w_ne (j_lt hr hg))
  exact E_call (n := n + 35) (by kernel_rfl) h1 (pretty_at (n + 15) (j_lt hr hg))
theorem c3 {P : PSet} {f noi : D} (hr : r < 35) (hg : g < 3) : (ev (n + 38)).S (fS 18) (frG sv gv (.list (rowP P)) F x f noi r g (PD (jOf r g))) (bg 3) = some (frG sv gv (.list (rowP (addP P (jOf r g)))) F x f noi r g (PD (jOf r g)), .next) := by
  refine S_asg (n := n + 37) (d := .list (rowP (addP P (jOf r g)))) rfl (by kernel_rfl) ?_
  exact E_call (n := n + 36) (ds := [.list (rowP P), PD (jOf r g)]) (by kernel_rfl) (by kernel_rfl) (laidOk (n := n + 19) (j_lt hr hg))
theorem goneA {P : PSet} (hr : r < 35) (hg : g < 3) (hi : fi < 4) (hm : m < 16) : runS (ev (n + 38)) (fS 18) (frG0 sv gv (.list (rowP P)) F x (fD' fi) (noiD m) r g) bodyG = some (frG sv gv (.list (rowP (addP P (jOf r g)))) F x (fD' fi) (noiD m) r g (PD (jOf r g)), .next) := by
  rw [bodyG_eq]
  exact run_cons (c0A hr hg hi hm) (run_cons (c1 hr hg) (run_cons (c2 hr hg) (run_cons (c3 hr hg) rfl)))
theorem goneB {P : PSet} {l : D} (hr : r < 35) (hg : g < 3) (hi : fi < 4) (hm : m < 16) : runS (ev (n + 38)) (fS 18) (frG sv gv (.list (rowP P)) F x (fD' fi) (noiD m) r g l) bodyG = some (frG sv gv (.list (rowP (addP P (jOf r g)))) F x (fD' fi) (noiD m) r g (PD (jOf r g)), .next) := by
  rw [bodyG_eq]
  exact run_cons (c0B hr hg hi hm) (run_cons (c1 hr hg) (run_cons (c2 hr hg) (run_cons (c3 hr hg) rfl)))
/-- the three pairs of a triple laid -/
noncomputable def add3 (P : PSet) (r : Nat) : PSet := addP (addP (addP P (jOf r 0)) (jOf r 1)) (jOf r 2)
theorem putG0 : setB (nS "gone") (.v (intD (gon r 0))) (frL sv gv F S (tl5 x (triD r) (fD' fi) (noiD m) (intD (flagsOf r)))) = frG0 sv gv S F x (fD' fi) (noiD m) r 0 := by kernel_rfl
theorem putG {g' : Nat} {f noi d6 l : D} : setB (nS "gone") (.v (intD (gon r g'))) (frL sv gv F S (tl7 x (triD r) f noi (intD (flagsOf r)) d6 l)) = frG sv gv S F x f noi r g' l := by kernel_rfl
theorem iterT {f noi : D} : iterE (ev (n + 38)) (fS 18) (frL sv gv F S (tl5 x (triD r) f noi (intD (flagsOf r)))) (.Name (nS "triple") ⟨0, 0, 0, 0⟩) = some [intD (gon r 0), intD (gon r 1), intD (gon r 2)] := by kernel_rfl
theorem b7A {P : PSet} (hr : r < 35) (hi : fi < 4) (hm : m < 16) : (ev (n + 39)).S (fS 18) (frL sv gv F (.list (rowP P)) (tl5 x (triD r) (fD' fi) (noiD m) (intD (flagsOf r)))) (bf 7) =
    some (frG sv gv (.list (rowP (add3 P r))) F x (fD' fi) (noiD m) r 2 (PD (jOf r 2)), .next) := by
  refine S_for (n := n + 38) (items := [intD (gon r 0), intD (gon r 1), intD (gon r 2)]) (by kernel_rfl) (by kernel_rfl) ?_
  refine for_cons (fm' := frG sv gv (.list (rowP (addP P (jOf r 0)))) F x (fD' fi) (noiD m) r 0 (PD (jOf r 0))) ?_ ?_
  · show runS _ _ (setB (nS "gone") (.v (intD (gon r 0))) _) bodyG = _
    rw [putG0]
    exact goneA hr (by decide) hi hm
  refine for_cons (fm' := frG sv gv (.list (rowP (addP (addP P (jOf r 0)) (jOf r 1)))) F x (fD' fi) (noiD m) r 1 (PD (jOf r 1))) ?_ ?_
  · show runS _ _ (setB (nS "gone") (.v (intD (gon r 1))) (frL sv gv F _ (tl7 x (triD r) _ _ (intD (flagsOf r)) _ _))) bodyG = _
    rw [putG]
    exact goneB hr (by decide) hi hm
  refine for_cons (fm' := frG sv gv (.list (rowP (add3 P r))) F x (fD' fi) (noiD m) r 2 (PD (jOf r 2))) ?_ rfl
  · show runS _ _ (setB (nS "gone") (.v (intD (gon r 2))) (frL sv gv F _ (tl7 x (triD r) _ _ (intD (flagsOf r)) _ _))) bodyG = _
    rw [putG]
    exact goneB hr (by decide) hi hm
theorem b7B {P : PSet} {d6 d7 : D} (hr : r < 35) (hi : fi < 4) (hm : m < 16) : (ev (n + 39)).S (fS 18) (frL sv gv F (.list (rowP P)) (tl7 x (triD r) (fD' fi) (noiD m) (intD (flagsOf r)) d6 d7)) (bf 7) =
    some (frG sv gv (.list (rowP (add3 P r))) F x (fD' fi) (noiD m) r 2 (PD (jOf r 2)), .next) := by
  refine S_for (n := n + 38) (items := [intD (gon r 0), intD (gon r 1), intD (gon r 2)]) (by kernel_rfl) (by kernel_rfl) ?_
  refine for_cons (fm' := frG sv gv (.list (rowP (addP P (jOf r 0)))) F x (fD' fi) (noiD m) r 0 (PD (jOf r 0))) ?_ ?_
  · show runS _ _ (setB (nS "gone") (.v (intD (gon r 0))) (frL sv gv F _ (tl7 x (triD r) _ _ (intD (flagsOf r)) _ _))) bodyG = _
    rw [putG]
    exact goneB hr (by decide) hi hm
  refine for_cons (fm' := frG sv gv (.list (rowP (addP (addP P (jOf r 0)) (jOf r 1)))) F x (fD' fi) (noiD m) r 1 (PD (jOf r 1))) ?_ ?_
  · show runS _ _ (setB (nS "gone") (.v (intD (gon r 1))) (frL sv gv F _ (tl7 x (triD r) _ _ (intD (flagsOf r)) _ _))) bodyG = _
    rw [putG]
    exact goneB hr (by decide) hi hm
  refine for_cons (fm' := frG sv gv (.list (rowP (add3 P r))) F x (fD' fi) (noiD m) r 2 (PD (jOf r 2))) ?_ rfl
  · show runS _ _ (setB (nS "gone") (.v (intD (gon r 2))) (frL sv gv F _ (tl7 x (triD r) _ _ (intD (flagsOf r)) _ _))) bodyG = _
    rw [putG]
    exact goneB hr (by decide) hi hm
end
end MineP
namespace MineP
open Mine
noncomputable def rOf (x : Int) : Nat := (x.fmod 35).toNat
noncomputable def fOf4 (x : Int) : Nat := ((x.fdiv 35).fmod 4).toNat
noncomputable def mOf (x : Int) : Nat := ((x.fdiv 140).fmod 16).toNat
theorem fmod_nat (x : Int) (k : Nat) (hk : 0 < k) : x.fmod (k : Int) = ((x.fmod (k : Int)).toNat : Nat) ∧ (x.fmod (k : Int)).toNat < k := by
  have h1 := Int.fmod_nonneg_of_pos x (show (0 : Int) < k by omega)
  have h2 := Int.fmod_lt_of_pos x (show (0 : Int) < k by omega)
  omega
theorem rOf_ok (x : Int) : x.fmod 35 = (rOf x : Nat) ∧ rOf x < 35 := fmod_nat x 35 (by decide)
theorem fOf_ok (x : Int) : (x.fdiv 35).fmod 4 = (fOf4 x : Nat) ∧ fOf4 x < 4 := fmod_nat _ 4 (by decide)
theorem mOf_ok (x : Int) : (x.fdiv 140).fmod 16 = (mOf x : Nat) ∧ mOf x < 16 := fmod_nat _ 16 (by decide)
noncomputable def stepF (s : List Nat × PSet) (x : Int) : List Nat × PSet := if s.1.contains (rOf x) then s else (s.1 ++ [rOf x], add3 s.2 (rOf x))
noncomputable def Full (tl : Fm) : Prop := ∃ d1 d2 d3 d4 d5 d6 d7, tl = tl7 d1 d2 d3 d4 d5 d6 d7
theorem famD_snoc {Fr : List Nat} {r : Nat} : famD Fr ++ [triD r] = famD (Fr ++ [r]) := by unfold famD; rw [List.map_append]; rfl
theorem famD_len {Fr : List Nat} : (famD Fr).length = Fr.length := List.length_map _
section
variable {n : Nat} {sv gv : D}
theorem turnA {x : Int} {P : PSet} : ∃ tl, Full tl ∧ runS (ev (n + 39)) (fS 18) (frL sv gv [] (.list (rowP P)) (tl1 (.int x))) bodyF = some (frL sv gv (famD [rOf x]) (.list (rowP (add3 P (rOf x)))) tl, .next) := by
  obtain ⟨h1, h2⟩ := rOf_ok x
  obtain ⟨h3, h4⟩ := fOf_ok x
  obtain ⟨h5, h6⟩ := mOf_ok x
  refine ⟨tl7 (.int x) (triD (rOf x)) (fD' (fOf4 x)) (noiD (mOf x)) (intD (flagsOf (rOf x))) (intD (gon (rOf x) 2)) (PD (jOf (rOf x) 2)), ⟨_, _, _, _, _, _, _, rfl⟩, ?_⟩
  rw [bodyF_eq]
  refine run_cons (b0A h2 h1) (run_cons (b1A h2 h1) (run_cons (b2nA (Fr := []) (fun r h => nomatch h) h2 rfl) (run_cons (b3A (F := []) (Nat.zero_le _)) ?_)))
  refine run_cons (b4A h4 h3) (run_cons (b5A h6 h5) (run_cons (b6A h2) ?_))
  refine run_cons (b7A h2 h4 h6) ?_
  rfl
theorem turnB {x : Int} {P : PSet} {Fr : List Nat} {d1 d2 d3 d4 d5 d6 d7 : D} (hF : ∀ r ∈ Fr, r < 35) (hl : Fr.length ≤ 1000) (hc : Fr.contains (rOf x) = false) :
    ∃ tl, Full tl ∧ runS (ev (n + 39)) (fS 18) (frL sv gv (famD Fr) (.list (rowP P)) (tl7 (.int x) d2 d3 d4 d5 d6 d7)) bodyF = some (frL sv gv (famD (Fr ++ [rOf x])) (.list (rowP (add3 P (rOf x)))) tl, .next) := by
  obtain ⟨h1, h2⟩ := rOf_ok x
  obtain ⟨h3, h4⟩ := fOf_ok x
  obtain ⟨h5, h6⟩ := mOf_ok x
  refine ⟨tl7 (.int x) (triD (rOf x)) (fD' (fOf4 x)) (noiD (mOf x)) (intD (flagsOf (rOf x))) (intD (gon (rOf x) 2)) (PD (jOf (rOf x) 2)), ⟨_, _, _, _, _, _, _, rfl⟩, ?_⟩
  rw [bodyF_eq]
  refine run_cons (b0B (d1 := d1) (d2 := d2) h2 h1) (run_cons (b1B (d1 := d1) (d2 := d2) h2 h1) (run_cons (b2nB (d1 := d1) (d2 := d2) hF h2 hc) (run_cons (b3B (d1 := d1) (d2 := d2) (by rw [famD_len]; exact hl)) ?_)))
  rw [famD_snoc]
  refine run_cons (b4B (d1 := d1) (d2 := d2) (d3 := d3) h4 h3) (run_cons (b5B (d1 := d1) (d2 := d2) (d3 := d3) (d4 := d4) h6 h5) (run_cons (b6B (d1 := d1) (d2 := d2) (d3 := d3) (d4 := d4) (d5 := d5) h2) ?_))
  refine run_cons (b7B h2 h4 h6) ?_
  rfl
theorem turnC {x : Int} {P : PSet} {Fr : List Nat} {d1 d2 d3 d4 d5 d6 d7 : D} (hF : ∀ r ∈ Fr, r < 35) (hc : Fr.contains (rOf x) = true) :
    ∃ tl, Full tl ∧ runS (ev (n + 39)) (fS 18) (frL sv gv (famD Fr) (.list (rowP P)) (tl7 (.int x) d2 d3 d4 d5 d6 d7)) bodyF = some (frL sv gv (famD Fr) (.list (rowP P)) tl, .cont) := by
  obtain ⟨h1, h2⟩ := rOf_ok x
  refine ⟨tl7 (.int x) (triD (rOf x)) d3 d4 d5 d6 d7, ⟨_, _, _, _, _, _, _, rfl⟩, ?_⟩
  rw [bodyF_eq]
  exact run_cons (b0B (d1 := d1) (d2 := d2) h2 h1) (run_cons (b1B (d1 := d1) (d2 := d2) h2 h1) (run_cont (b2cB (d1 := d1) (d2 := d2) hF h2 hc)))
noncomputable abbrev putX : D → Fm → Fm := fun d fm => setB (nS "x") (.v d) fm
theorem putXA {F : List D} {S : D} {x : D} : setB (nS "x") (.v x) (frL sv gv F S []) = frL sv gv F S (tl1 x) := by kernel_rfl
theorem putXB {F : List D} {S : D} {x d1 d2 d3 d4 d5 d6 d7 : D} : setB (nS "x") (.v x) (frL sv gv F S (tl7 d1 d2 d3 d4 d5 d6 d7)) = frL sv gv F S (tl7 x d2 d3 d4 d5 d6 d7) := by kernel_rfl
theorem step_in {s : List Nat × PSet} {x : Int} (h : s.1.contains (rOf x) = true) : stepF s x = s := by unfold stepF; rw [if_pos h]
theorem step_out {s : List Nat × PSet} {x : Int} (h : s.1.contains (rOf x) = false) : stepF s x = (s.1 ++ [rOf x], add3 s.2 (rOf x)) := by unfold stepF; rw [if_neg (by rw [h]; decide)]
theorem loopF : ∀ (xs : List Int) (Fr : List Nat) (P : PSet) (tl : Fm), Full tl → (∀ r ∈ Fr, r < 35) → Fr.length + xs.length ≤ 1000 →
    ∃ tl', Full tl' ∧ forS (ev (n + 39)) (fS 18) putX bodyF [] (frL sv gv (famD Fr) (.list (rowP P)) tl) (xs.map .int) =
      some (frL sv gv (famD (xs.foldl stepF (Fr, P)).1) (.list (rowP (xs.foldl stepF (Fr, P)).2)) tl', .next)
  | [], Fr, P, tl, ht, hF, hl => ⟨tl, ht, rfl⟩
  | x :: xs, Fr, P, tl, ht, hF, hl => by
    obtain ⟨d1, d2, d3, d4, d5, d6, d7, rfl⟩ := ht
    rw [List.length_cons] at hl
    rw [List.map_cons, List.foldl_cons]
    cases hc : Fr.contains (rOf x) with
    | true =>
      obtain ⟨tl, ht, T⟩ := turnC (n := n) (sv := sv) (gv := gv) (x := x) (P := P) (d1 := d1) (d2 := d2) (d3 := d3) (d4 := d4) (d5 := d5) (d6 := d6) (d7 := d7) hF hc
      rw [step_in (s := (Fr, P)) hc]
      obtain ⟨tl', ht', L⟩ := loopF xs Fr P tl ht hF (by omega)
      refine ⟨tl', ht', for_cont ?_ L⟩
      show runS _ _ (setB (nS "x") (.v (.int x)) _) bodyF = _
      rw [putXB]
      exact T
    | false =>
      obtain ⟨tl, ht, T⟩ := turnB (n := n) (sv := sv) (gv := gv) (x := x) (P := P) (d1 := d1) (d2 := d2) (d3 := d3) (d4 := d4) (d5 := d5) (d6 := d6) (d7 := d7) hF (by omega) hc
      rw [step_out (s := (Fr, P)) hc]
      obtain ⟨tl', ht', L⟩ := loopF xs (Fr ++ [rOf x]) (add3 P (rOf x)) tl ht (fun r hr => by
        rcases List.mem_append.mp hr with q | q
        · exact hF r q
        · rw [List.mem_singleton.mp q]; exact (rOf_ok x).2) (by rw [List.length_append, List.length_singleton]; omega)
      refine ⟨tl', ht', for_cons ?_ L⟩
      show runS _ _ (setB (nS "x") (.v (.int x)) _) bodyF = _
      rw [putXB]
      exact T
noncomputable def noP : PSet := fun _ => false
theorem loop0 {x : Int} {xs : List Int} (hl : xs.length ≤ 900) : ∃ tl', Full tl' ∧ forS (ev (n + 39)) (fS 18) putX bodyF [] (frL sv gv [] (.list []) []) ((x :: xs).map .int) =
      some (frL sv gv (famD ((x :: xs).foldl stepF ([], noP)).1) (.list (rowP ((x :: xs).foldl stepF ([], noP)).2)) tl', .next) := by
  obtain ⟨tl, ht, T⟩ := turnA (n := n) (sv := sv) (gv := gv) (x := x) (P := noP)
  obtain ⟨tl', ht', L⟩ := loopF (n := n) (sv := sv) (gv := gv) xs [rOf x] (add3 noP (rOf x)) tl ht (fun r hr => by rw [List.mem_singleton.mp hr]; exact (rOf_ok x).2) (by simp; omega)
  rw [List.map_cons, List.foldl_cons, step_out (s := ([], noP)) rfl]
  refine ⟨tl', ht', for_cons ?_ L⟩
  show runS _ _ (setB (nS "x") (.v (.int x)) _) bodyF = _
  rw [putXA]
  exact T
end
end MineP
namespace MineP
open Mine
noncomputable def dueE : Expr := match st 18 7 with | .Assign _ e _ => e | _ => .Name (nS "") ⟨0, 0, 0, 0⟩
noncomputable def dueSc : Scope := match dueE with | .ListComp _ _ s _ => s | _ => fS 18
noncomputable def dueElt : Expr := match dueE with | .ListComp e _ _ _ => e | _ => dueE
noncomputable def dueGens : List Comprehension := match dueE with | .ListComp _ g _ _ => g | _ => []
noncomputable def dueG1 : Comprehension := dueGens.getD 0 ⟨dueE, dueE, [], 0⟩
noncomputable def dueG2 : Comprehension := dueGens.getD 1 ⟨dueE, dueE, [], 0⟩
noncomputable def dueIf : Expr := dueG2.ifs.getD 0 dueE
noncomputable def inE : Expr := match dueIf with | .Compare e _ _ _ => e | _ => dueE
noncomputable def inSc : Scope := match inE with | .ListComp _ _ s _ => s | _ => fS 18
noncomputable def inElt : Expr := match inE with | .ListComp e _ _ _ => e | _ => dueE
noncomputable def inIfs : List Expr := match inE with | .ListComp _ [⟨_, _, i, _⟩] _ _ => i | _ => []
noncomputable def scD : Scope := kinds (fS 18) dueSc
noncomputable def has (r p : Nat) : Bool := (tr r).1 == p || (tr r).2.1 == p || (tr r).2.2 == p
noncomputable def oneIn (n p q : Nat) : D → Option (List D) := one1 (ev (n + 37)) (kinds scD inSc) (nS "one") inIfs inElt [(nS "p", .v (intD p)), (nS "q", .v (intD q))]
theorem inAll (n : Nat) : prs.map (fun c => (List.range 35).map fun r => oneIn n c.1 c.2 (triD r)) = prs.map (fun c => (List.range 35).map fun r => some (if has r c.1 && has r c.2 then [triD r] else [])) := by kernel_rfl
theorem in_at (n : Nat) {p q r : Nat} (h : (p, q) ∈ prs) (hr : r < 35) : oneIn n p q (triD r) = some (if has r p && has r q then [triD r] else []) := by
  have h1 := List.map_inj_left.mp (inAll n) (p, q) h
  have h2 := List.map_inj_left.mp h1 r (List.mem_range.mpr hr)
  exact h2
/-- some triple of the family holds both -/
noncomputable def cov (Fr : List Nat) (c : Nat × Nat) : Bool := Fr.any fun r => has r c.1 && has r c.2
theorem turns_fam (n : Nat) {p q : Nat} (h : (p, q) ∈ prs) : ∀ {Fr : List Nat}, (∀ r ∈ Fr, r < 35) → Fr.length ≤ 1000 → turnsD (oneIn n p q) (famD Fr) = some (famD (Fr.filter fun r => has r p && has r q))
  | [], _, _ => rfl
  | r :: Fr, hF, hl => by
    have ih := turns_fam n h (Fr := Fr) (fun x hx => hF x (.tail _ hx)) (by rw [List.length_cons] at hl; omega)
    have hle := List.length_filter_le (fun r => has r p && has r q) Fr
    rw [List.length_cons] at hl
    have := turns_cons (in_at n h (hF r (.head _))) ih (small_le (by rw [famD_len]; split <;> simp <;> omega))
    show turnsD (oneIn n p q) (triD r :: famD Fr) = _
    rw [this, List.filter_cons]
    split <;> rfl
/-- the frame of the outer comprehension -/
noncomputable def cfD (Fr : List Nat) : Fm := [(nS "family", .ro (famD Fr)), (nS "letters", .v (.str (nS "abcdefg")))]
noncomputable def cfPQ (Fr : List Nat) (p q : Nat) : Fm := [(nS "family", .ro (famD Fr)), (nS "letters", .v (.str (nS "abcdefg"))), (nS "p", .v (intD p)), (nS "q", .v (intD q))]
theorem iter_ro {r : Ev} {sc : Scope} {fm : Fm} {x : Str} {p : Pos} {xs : List D} (h : fm.lookup x = some (.ro xs)) (hv : isVar sc x = true) (hs : small xs.length = true) : iterC r sc fm (.Name x p) = some xs := by
  unfold iterC
  dsimp only
  rw [h]; dsimp only
  rw [hv, hs]; rfl
theorem ne_nil {Fr : List Nat} (hF : ∀ r ∈ Fr, r < 35) : cmpD .NotEq (.list (famD Fr)) (.list []) = some (!Fr.isEmpty) := by
  show (if shallow (.list (famD Fr)) && shallow (.list (famD [])) then some (!PyData.eqvAll (famD Fr) []) else none) = _
  rw [fam_sh hF, fam_sh (Fr := []) (fun r h => nomatch h)]
  show some _ = some _
  cases Fr <;> rfl
theorem test_pq (n : Nat) {p q : Nat} (h : (p, q) ∈ prs) {Fr : List Nat} (hF : ∀ r ∈ Fr, r < 35) (hl : Fr.length ≤ 1000) : (ev (n + 39)).T scD (cfPQ Fr p q) dueIf = some (cov Fr (p, q)) := by
  have hle := List.length_filter_le (fun r => has r p && has r q) Fr
  have hE : (ev (n + 38)).E scD (cfPQ Fr p q) inE = some (.list (famD (Fr.filter fun r => has r p && has r q))) :=
    E_comp1 (n := n + 37) (items := famD Fr) (by kernel_rfl) (iter_ro (by kernel_rfl) (by kernel_rfl) (small_le (by rw [famD_len]; exact hl))) (by kernel_rfl) (turns_fam n h hF hl) (small_le (by rw [famD_len]; omega))
  have := T_cmp (n := n + 38) (p := match dueIf with | .Compare _ _ _ p => p | _ => ⟨0, 0, 0, 0⟩) (cmp_plain (op := .NotEq) (rr := match dueIf with | .Compare _ _ [r] _ => r | _ => dueE) (b := .list []) rfl hE (by kernel_rfl) (ne_nil fun r hr => hF r (List.mem_filter.mp hr).1))
  have e : cov Fr (p, q) = !(Fr.filter fun r => has r p && has r q).isEmpty := by
    unfold cov
    rw [Bool.eq_iff_iff]
    simp [List.any_eq_true, List.isEmpty_iff, List.filter_eq_nil_iff]
  rw [e]
  exact this
noncomputable def hPQ (Fr : List Nat) (c : Nat × Nat) : List D := if cov Fr c then [.str (leftS c.1 c.2)] else []
theorem eltAll (n : Nat) (Fr : List Nat) : prs.map (fun c => (ev (n + 39)).E scD (cfPQ Fr c.1 c.2) dueElt) = prs.map (fun c => some (.str (leftS c.1 c.2))) := by kernel_rfl
theorem one_pq (n : Nat) {p q : Nat} (h : (p, q) ∈ prs) {Fr : List Nat} (hF : ∀ r ∈ Fr, r < 35) (hl : Fr.length ≤ 1000) {fm : Fm} (hfm : setB (nS "q") (.v (intD q)) fm = cfPQ Fr p q) :
    one1 (ev (n + 39)) scD (nS "q") [dueIf] dueElt fm (intD q) = some (hPQ Fr (p, q)) := by
  unfold one1
  rw [hfm]
  have ha : andT (ev (n + 39)) scD (cfPQ Fr p q) [dueIf] = some (cov Fr (p, q)) := by
    show (match (ev (n + 39)).T scD (cfPQ Fr p q) dueIf with
      | some true => some true
      | some false => some false
      | none => none) = _
    rw [test_pq n h hF hl]
    cases cov Fr (p, q) <;> rfl
  have he := List.map_inj_left.mp (eltAll n Fr) (p, q) h
  rw [ha]
  unfold hPQ
  cases cov Fr (p, q) with
  | true => dsimp only at he ⊢; rw [he]; rfl
  | false => rfl
end MineP
namespace MineP
open Mine
theorem turns_flat {f : D → Option (List D)} {g : D → List D} : ∀ {items : List D}, (∀ d ∈ items, f d = some (g d)) → (items.flatMap g).length ≤ 1000 → turnsD f items = some (items.flatMap g)
  | [], _, _ => rfl
  | d :: rest, h, hl => by
    rw [List.flatMap_cons, List.length_append] at hl
    rw [List.flatMap_cons]
    exact turns_cons (h d (.head _)) (turns_flat (fun x hx => h x (.tail _ hx)) (by omega)) (small_le hl)
noncomputable def itemsQ (p : Nat) : List D := (List.range (6 - p)).map fun k => intD (p + 1 + k)
noncomputable def cfP (Fr : List Nat) (p : Nat) : Fm := [(nS "family", .ro (famD Fr)), (nS "letters", .v (.str (nS "abcdefg"))), (nS "p", .v (intD p))]
theorem iterAll (n : Nat) (Fr : List Nat) : (List.range 7).map (fun p => iterC (ev (n + 39)) scD (cfP Fr p) dueG2.iter) = (List.range 7).map (fun p => some (itemsQ p)) := by kernel_rfl
noncomputable def fP (n : Nat) (Fr : List Nat) (p : Nat) : Option (List D) := turnsD (one1 (ev (n + 39)) scD (nS "q") [dueIf] dueElt (cfP Fr p)) (itemsQ p)
theorem mem_prs {p k : Nat} (hp : p < 7) (hk : k < 6 - p) : (p, p + 1 + k) ∈ prs := List.mem_flatMap.mpr ⟨p, List.mem_range.mpr hp, List.mem_map.mpr ⟨k, List.mem_range.mpr hk, rfl⟩⟩
noncomputable def rowAt (Fr : List Nat) (p : Nat) : List D := (List.range (6 - p)).flatMap fun k => hPQ Fr (p, p + 1 + k)
theorem h_len {Fr : List Nat} {c : Nat × Nat} : (hPQ Fr c).length ≤ 1 := by unfold hPQ; split <;> simp
theorem flat_len {α : Type} {g : α → List D} (h : ∀ x, (g x).length ≤ m) : ∀ l : List α, (l.flatMap g).length ≤ m * l.length
  | [] => Nat.zero_le _
  | x :: l => by
    rw [List.flatMap_cons, List.length_append, List.length_cons]
    have := flat_len h l
    have := h x
    rw [Nat.mul_succ]; omega
theorem turns_map {α : Type} {f : D → Option (List D)} {g : α → List D} {i : α → D} : ∀ {l : List α}, (∀ x ∈ l, f (i x) = some (g x)) → (l.flatMap g).length ≤ 1000 → turnsD f (l.map i) = some (l.flatMap g)
  | [], _, _ => rfl
  | x :: l, h, hl => by
    rw [List.flatMap_cons, List.length_append] at hl
    rw [List.flatMap_cons, List.map_cons]
    exact turns_cons (h x (.head _)) (turns_map (fun y hy => h y (.tail _ hy)) (by omega)) (small_le hl)
theorem putAll (Fr : List Nat) : prs.map (fun c => setB (nS "q") (.v (intD c.2)) (cfP Fr c.1)) = prs.map (fun c => cfPQ Fr c.1 c.2) := by kernel_rfl
theorem row_ok (n : Nat) {Fr : List Nat} (hF : ∀ r ∈ Fr, r < 35) (hl : Fr.length ≤ 1000) {p : Nat} (hp : p < 7) : fP n Fr p = some (rowAt Fr p) := by
  unfold fP itemsQ rowAt
  refine turns_map (fun k hk => ?_) ?_
  · have hm := mem_prs hp (List.mem_range.mp hk)
    exact one_pq n hm hF hl (List.map_inj_left.mp (putAll Fr) _ hm)
  · have := flat_len (m := 1) (g := fun k => hPQ Fr (p, p + 1 + k)) (fun k => h_len) (List.range (6 - p))
    rw [List.length_range] at this
    omega
noncomputable def dueL (Fr : List Nat) : List D := (List.range 7).flatMap (rowAt Fr)
theorem row_len {Fr : List Nat} {p : Nat} : (rowAt Fr p).length ≤ 6 := by
  have := flat_len (m := 1) (g := fun k => hPQ Fr (p, p + 1 + k)) (fun k => h_len) (List.range (6 - p))
  rw [List.length_range] at this
  unfold rowAt
  omega
theorem due_len {Fr : List Nat} : (dueL Fr).length ≤ 42 := by
  have := flat_len (m := 6) (g := rowAt Fr) (fun p => row_len) (List.range 7)
  exact this
noncomputable def goP (n : Nat) (Fr : List Nat) : D → Option (List D) := fun d => match andT (ev (n + 39)) scD (setB (nS "p") (.v d) (cfD Fr)) [] with
  | some true => match dueG2 with
    | ⟨.Name y _, it, ifs', 0⟩ => match iterC (ev (n + 39)) scD (setB (nS "p") (.v d) (cfD Fr)) it with
      | some its => compGo (ev (n + 39)) scD dueElt [] y ifs' (setB (nS "p") (.v d) (cfD Fr)) its
      | none => none
    | _ => none
  | some false => some []
  | none => none
theorem putP (Fr : List Nat) (p : Nat) : setB (nS "p") (.v (intD p)) (cfD Fr) = cfP Fr p := by kernel_rfl
theorem g2_eq : ∃ y a it, dueG2 = ⟨.Name y a, it, [dueIf], 0⟩ ∧ y = nS "q" ∧ it = dueG2.iter := ⟨_, _, _, rfl, rfl, rfl⟩
theorem go_ok (n : Nat) {Fr : List Nat} (hF : ∀ r ∈ Fr, r < 35) (hl : Fr.length ≤ 1000) {p : Nat} (hp : p < 7) : goP n Fr (intD p) = some (rowAt Fr p) := by
  unfold goP
  rw [putP]
  obtain ⟨y, a, it, e, rfl, ei⟩ := g2_eq
  have hi := List.map_inj_left.mp (iterAll n Fr) p (List.mem_range.mpr hp)
  rw [← ei] at hi
  have hc : compGo (ev (n + 39)) scD dueElt [] (nS "q") [dueIf] (cfP Fr p) (itemsQ p) = fP n Fr p := by
    show (if ((cfP Fr p).lookup (nS "q")).isNone && tgtOk scD (nS "q") then turnsD (one1 (ev (n + 39)) scD (nS "q") [dueIf] dueElt (cfP Fr p)) (itemsQ p) else none) = _
    rw [if_pos (by kernel_rfl)]; rfl
  show (match dueG2 with
    | ⟨.Name y _, it, ifs', 0⟩ => match iterC (ev (n + 39)) scD (cfP Fr p) it with
      | some its => compGo (ev (n + 39)) scD dueElt [] y ifs' (cfP Fr p) its
      | none => none
    | _ => none) = _
  rw [e]
  show (match iterC (ev (n + 39)) scD (cfP Fr p) it with
    | some its => compGo (ev (n + 39)) scD dueElt [] (nS "q") [dueIf] (cfP Fr p) its
    | none => none) = _
  rw [hi]
  show compGo (ev (n + 39)) scD dueElt [] (nS "q") [dueIf] (cfP Fr p) (itemsQ p) = _
  rw [hc]; exact row_ok n hF hl hp
theorem S_comp {n : Nat} {sc : Scope} {fm : Fm} {x : Str} {px p q : Pos} {elt : Expr} {gens : List Comprehension} {scope : Scope} {d : D} (h1 : asgTo sc fm x = true) (hu : useOk sc x px p scope = true) (h : compE (ev n) sc fm elt gens scope = some d) :
    (ev (n + 1)).S sc fm (.Assign [.Name x px] (.ListComp elt gens scope p) q) = some (setB x (.v d) fm, .next) := by
  show evAsg (ev n) sc fm x px (.ListComp elt gens scope p) = _
  unfold evAsg
  unfold asgTo at h1
  rw [if_pos h1]; dsimp only
  rw [if_pos hu, h]
theorem compE_two {r : Ev} {sc : Scope} {fm : Fm} {elt it : Expr} {x : Str} {px : Pos} {ifs : List Expr} {g : Comprehension} {scope : Scope} {items ys : List D} (hc : compOk sc fm scope [⟨.Name x px, it, ifs, 0⟩, g] = true) (hi : iterC r sc fm it = some items)
    (h : compGo r (kinds sc scope) elt [g] x ifs (capt sc scope.names fm) items = some ys) (hs : small ys.length = true) : compE r sc fm elt [⟨.Name x px, it, ifs, 0⟩, g] scope = some (.list ys) := by
  unfold compOk at hc
  show (if compSc sc fm scope && genNames scope [⟨.Name x px, it, ifs, 0⟩, g] then match iterC r sc fm it with
    | some items => match compGo r (kinds sc scope) elt [g] x ifs (capt sc scope.names fm) items with
      | some ys => if small ys.length then some (PyData.list ys) else none
      | none => none
    | none => none
    else none) = _
  rw [if_pos hc, hi]; dsimp only
  rw [h]; dsimp only
  rw [if_pos hs]
theorem dueS (n : Nat) {sv gv S d1 d2 d3 d4 d5 d6 d7 : D} {Fr : List Nat} (hF : ∀ r ∈ Fr, r < 35) (hl : Fr.length ≤ 1000) : (ev (n + 40)).S (fS 18) (frL sv gv (famD Fr) S (tl7 d1 d2 d3 d4 d5 d6 d7)) (st 18 7) =
    some (setB (nS "due") (.v (.list (dueL Fr))) (frL sv gv (famD Fr) S (tl7 d1 d2 d3 d4 d5 d6 d7)), .next) := by
  refine S_comp (n := n + 39) (by kernel_rfl) (by kernel_rfl) ?_
  refine compE_two (items := (List.range 7).map intD) (by kernel_rfl) (by kernel_rfl) ?_ (small_le (Nat.le_trans due_len (by decide)))
  have hcf : capt (fS 18) dueSc.names (frL sv gv (famD Fr) S (tl7 d1 d2 d3 d4 d5 d6 d7)) = cfD Fr := by kernel_rfl
  show compGo (ev (n + 39)) scD dueElt [dueG2] (nS "p") [] (capt (fS 18) dueSc.names (frL sv gv (famD Fr) S (tl7 d1 d2 d3 d4 d5 d6 d7))) ((List.range 7).map intD) = _
  rw [hcf]
  show (if ((cfD Fr).lookup (nS "p")).isNone && tgtOk scD (nS "p") then turnsD (goP n Fr) ((List.range 7).map intD) else none) = _
  rw [if_pos (by kernel_rfl)]
  exact turns_map (fun p hp => go_ok n hF hl (List.mem_range.mp hp)) (Nat.le_trans due_len (by decide))
end MineP
namespace MineP
open Mine
noncomputable def frE (sv gv : D) (F : List D) (S d1 d2 d3 d4 d5 d6 d7 due : D) (more : Fm) : Fm := setB (nS "due") (.v due) (frL sv gv F S (tl7 d1 d2 d3 d4 d5 d6 d7)) ++ more
noncomputable def groundP (k : Nat) : PSet := (List.range k).foldl add3 noP
noncomputable def leastK (k : Nat) : Nat := match k with | 1 => 3 | 2 => 5 | 3 => 6 | 4 => 6 | _ => 8
noncomputable def placesK (k : Nat) : Nat × Nat × Nat := ((tr k).2.2, (tr k).2.1, (tr k).1)
noncomputable def lastT (k : Nat) : D := triD (k - 1)
noncomputable def lastP (k : Nat) : D := .list [intD (tr (k - 1)).2.1, intD (tr (k - 1)).2.2]
noncomputable def more1 : Fm := [(nS "ground", .v (.list []))]
noncomputable def more2 (k : Nat) : Fm := [(nS "ground", .v (.list (rowP (groundP k)))), (nS "chosen", .v (lastT k)), (nS "pair", .v (lastP k))]
noncomputable def more3 (k : Nat) : Fm := more2 k ++ [(nS "high", .v (intD (placesK k).1)), (nS "middle", .v (intD (placesK k).2.1)), (nS "low", .v (intD (placesK k).2.2))]
noncomputable def more4 (k : Nat) : Fm := more3 k ++ [(nS "least", .v (intD (leastK k)))]
section
variable (n : Nat) (sv gv S d1 d2 d3 d4 d5 d6 d7 due e1 e2 e3 e4 e5 : D)
theorem s8_1 : (ev (n + 40)).S (fS 18) (frE sv gv [e1] S d1 d2 d3 d4 d5 d6 d7 due []) (st 18 8) = some ((frE sv gv [e1] S d1 d2 d3 d4 d5 d6 d7 due more1), .next) := by kernel_rfl
theorem s9_1 : (ev (n + 40)).S (fS 18) (frE sv gv [e1] S d1 d2 d3 d4 d5 d6 d7 due more1) (st 18 9) = some ((frE sv gv [e1] S d1 d2 d3 d4 d5 d6 d7 due (more2 1)), .next) := by kernel_rfl
theorem s10_1 : (ev (n + 40)).S (fS 18) (frE sv gv [e1] S d1 d2 d3 d4 d5 d6 d7 due (more2 1)) (st 18 10) = some ((frE sv gv [e1] S d1 d2 d3 d4 d5 d6 d7 due (more3 1)), .next) := by kernel_rfl
theorem s11_1 : (ev (n + 40)).S (fS 18) (frE sv gv [e1] S d1 d2 d3 d4 d5 d6 d7 due (more3 1)) (st 18 11) = some ((frE sv gv [e1] S d1 d2 d3 d4 d5 d6 d7 due (more4 1)), .next) := by kernel_rfl
theorem s8_2 : (ev (n + 40)).S (fS 18) (frE sv gv [e1, e2] S d1 d2 d3 d4 d5 d6 d7 due []) (st 18 8) = some ((frE sv gv [e1, e2] S d1 d2 d3 d4 d5 d6 d7 due more1), .next) := by kernel_rfl
theorem s9_2 : (ev (n + 40)).S (fS 18) (frE sv gv [e1, e2] S d1 d2 d3 d4 d5 d6 d7 due more1) (st 18 9) = some ((frE sv gv [e1, e2] S d1 d2 d3 d4 d5 d6 d7 due (more2 2)), .next) := by kernel_rfl
theorem s10_2 : (ev (n + 40)).S (fS 18) (frE sv gv [e1, e2] S d1 d2 d3 d4 d5 d6 d7 due (more2 2)) (st 18 10) = some ((frE sv gv [e1, e2] S d1 d2 d3 d4 d5 d6 d7 due (more3 2)), .next) := by kernel_rfl
theorem s11_2 : (ev (n + 40)).S (fS 18) (frE sv gv [e1, e2] S d1 d2 d3 d4 d5 d6 d7 due (more3 2)) (st 18 11) = some ((frE sv gv [e1, e2] S d1 d2 d3 d4 d5 d6 d7 due (more4 2)), .next) := by kernel_rfl
theorem s8_3 : (ev (n + 40)).S (fS 18) (frE sv gv [e1, e2, e3] S d1 d2 d3 d4 d5 d6 d7 due []) (st 18 8) = some ((frE sv gv [e1, e2, e3] S d1 d2 d3 d4 d5 d6 d7 due more1), .next) := by kernel_rfl
theorem s9_3 : (ev (n + 40)).S (fS 18) (frE sv gv [e1, e2, e3] S d1 d2 d3 d4 d5 d6 d7 due more1) (st 18 9) = some ((frE sv gv [e1, e2, e3] S d1 d2 d3 d4 d5 d6 d7 due (more2 3)), .next) := by kernel_rfl
theorem s10_3 : (ev (n + 40)).S (fS 18) (frE sv gv [e1, e2, e3] S d1 d2 d3 d4 d5 d6 d7 due (more2 3)) (st 18 10) = some ((frE sv gv [e1, e2, e3] S d1 d2 d3 d4 d5 d6 d7 due (more3 3)), .next) := by kernel_rfl
theorem s11_3 : (ev (n + 40)).S (fS 18) (frE sv gv [e1, e2, e3] S d1 d2 d3 d4 d5 d6 d7 due (more3 3)) (st 18 11) = some ((frE sv gv [e1, e2, e3] S d1 d2 d3 d4 d5 d6 d7 due (more4 3)), .next) := by kernel_rfl
theorem s8_4 : (ev (n + 40)).S (fS 18) (frE sv gv [e1, e2, e3, e4] S d1 d2 d3 d4 d5 d6 d7 due []) (st 18 8) = some ((frE sv gv [e1, e2, e3, e4] S d1 d2 d3 d4 d5 d6 d7 due more1), .next) := by kernel_rfl
theorem s9_4 : (ev (n + 40)).S (fS 18) (frE sv gv [e1, e2, e3, e4] S d1 d2 d3 d4 d5 d6 d7 due more1) (st 18 9) = some ((frE sv gv [e1, e2, e3, e4] S d1 d2 d3 d4 d5 d6 d7 due (more2 4)), .next) := by kernel_rfl
theorem s10_4 : (ev (n + 40)).S (fS 18) (frE sv gv [e1, e2, e3, e4] S d1 d2 d3 d4 d5 d6 d7 due (more2 4)) (st 18 10) = some ((frE sv gv [e1, e2, e3, e4] S d1 d2 d3 d4 d5 d6 d7 due (more3 4)), .next) := by kernel_rfl
theorem s11_4 : (ev (n + 40)).S (fS 18) (frE sv gv [e1, e2, e3, e4] S d1 d2 d3 d4 d5 d6 d7 due (more3 4)) (st 18 11) = some ((frE sv gv [e1, e2, e3, e4] S d1 d2 d3 d4 d5 d6 d7 due (more4 4)), .next) := by kernel_rfl
theorem s8_5 : (ev (n + 40)).S (fS 18) (frE sv gv [e1, e2, e3, e4, e5] S d1 d2 d3 d4 d5 d6 d7 due []) (st 18 8) = some ((frE sv gv [e1, e2, e3, e4, e5] S d1 d2 d3 d4 d5 d6 d7 due more1), .next) := by kernel_rfl
theorem s9_5 : (ev (n + 40)).S (fS 18) (frE sv gv [e1, e2, e3, e4, e5] S d1 d2 d3 d4 d5 d6 d7 due more1) (st 18 9) = some ((frE sv gv [e1, e2, e3, e4, e5] S d1 d2 d3 d4 d5 d6 d7 due (more2 5)), .next) := by kernel_rfl
theorem s10_5 : (ev (n + 40)).S (fS 18) (frE sv gv [e1, e2, e3, e4, e5] S d1 d2 d3 d4 d5 d6 d7 due (more2 5)) (st 18 10) = some ((frE sv gv [e1, e2, e3, e4, e5] S d1 d2 d3 d4 d5 d6 d7 due (more3 5)), .next) := by kernel_rfl
theorem s11_5 : (ev (n + 40)).S (fS 18) (frE sv gv [e1, e2, e3, e4, e5] S d1 d2 d3 d4 d5 d6 d7 due (more3 5)) (st 18 11) = some ((frE sv gv [e1, e2, e3, e4, e5] S d1 d2 d3 d4 d5 d6 d7 due (more4 5)), .next) := by kernel_rfl
end
end MineP
namespace MineP
open Mine
noncomputable def inc (r j : Nat) : Bool := j == jOf r 0 || j == jOf r 1 || j == jOf r 2
theorem incAll : ((List.range 35).all fun r => (List.range 21).all fun j => inc r j == (has r (pA j) && has r (pB j))) = true := by decide +kernel
theorem inc_has {r j : Nat} (hr : r < 35) (hj : j < 21) : inc r j = (has r (pA j) && has r (pB j)) :=
  eq_of_beq (List.all_eq_true.mp (List.all_eq_true.mp incAll r (List.mem_range.mpr hr)) j (List.mem_range.mpr hj))
noncomputable def famP (Fr : List Nat) : PSet := fun j => Fr.any fun r => inc r j
theorem add3_inc {P : PSet} {r j : Nat} : add3 P r j = (P j || inc r j) := by
  unfold add3 addP inc
  rw [Bool.or_assoc, Bool.or_assoc, Bool.or_assoc]
theorem fold_any : ∀ {Fr : List Nat} {P : PSet} {j : Nat}, Fr.foldl add3 P j = (P j || famP Fr j)
  | [], P, j => by show P j = (P j || false); rw [Bool.or_false]
  | r :: Fr, P, j => by
    rw [List.foldl_cons, fold_any, add3_inc, Bool.or_assoc]; rfl
theorem flat_filter {α β : Type} {Q : α → Bool} {f : α → β} : ∀ {l : List α}, (l.filter Q).map f = l.flatMap fun x => if Q x then [f x] else []
  | [] => rfl
  | x :: l => by
    rw [List.filter_cons, List.flatMap_cons, ← flat_filter]
    cases Q x <;> rfl
theorem prs_eq : prs = (List.range 21).map fun j => prs.getD j (0, 0) := by decide +kernel
theorem due_prs {Fr : List Nat} : dueL Fr = prs.flatMap (hPQ Fr) := by
  unfold prs
  rw [List.flatMap_assoc]
  unfold dueL rowAt
  congr 1
  funext p
  rw [List.flatMap_map]
theorem row_due {Fr : List Nat} (hF : ∀ r ∈ Fr, r < 35) : rowP (Fr.foldl add3 noP) = dueL Fr := by
  have h : jsP (Fr.foldl add3 noP) = (List.range 21).filter fun j => cov Fr (pA j, pB j) := List.filter_congr fun j hj => by
    have hj := List.mem_range.mp hj
    rw [fold_any]
    show (false || famP Fr j) = _
    rw [Bool.false_or]
    unfold famP cov
    apply Bool.eq_iff_iff.mpr
    simp only [List.any_eq_true]
    constructor
    · rintro ⟨r, hr, e⟩; exact ⟨r, hr, by rw [← inc_has (hF r hr) hj]; exact e⟩
    · rintro ⟨r, hr, e⟩; exact ⟨r, hr, by rw [inc_has (hF r hr) hj]; exact e⟩
  unfold rowP rowD
  rw [h, flat_filter, due_prs, prs_eq, List.flatMap_map]
  rfl
noncomputable def mk (r : Nat) : Nat := 2 ^ jOf r 0 ||| 2 ^ jOf r 1 ||| 2 ^ jOf r 2
noncomputable def masks : List Nat := [67, 133, 2054, 2240, 265, 4106, 4416, 32780, 33152, 38912, 529, 8210, 8768, 65556, 66176, 75776, 262168, 262912, 274432, 360448, 1057, 16418, 17472, 131108, 132224, 149504, 524328, 525568, 544768, 688128, 1048624, 1050112, 1073152, 1245184, 1835008]
theorem masks_eq : (List.range 35).map mk = masks := by decide +kernel
/-- how many of seven bits are set, three bits for each number below 128 -/
noncomputable def tab7 : Nat := 38688605477795291639177638255174619524745213742638081737860757693208305674782301095493395244431646846014899907793992
noncomputable def p7 (a : Nat) : Nat := (tab7 >>> (3 * a)) % 8
noncomputable def pf (M : Nat) : Nat := p7 (M % 128) + p7 (M / 128 % 128) + p7 (M / 16384 % 128)
noncomputable def chk (need : Nat) : List Nat → Nat → Nat → Bool
  | _, 0, M => Nat.ble need (pf M)
  | [], _ + 1, _ => true
  | m :: rest, k + 1, M => (Nat.ble need (pf (M ||| m)) || chk need rest k (M ||| m)) && chk need rest (k + 1) M
theorem chk1 : chk 3 masks 1 0 = true := by decide +kernel
theorem chk2 : chk 5 masks 2 0 = true := by decide +kernel
theorem chk3 : chk 6 masks 3 0 = true := by decide +kernel
theorem chk4 : chk 6 masks 4 0 = true := by decide +kernel
theorem chk5 : chk 8 masks 5 0 = true := by decide +kernel
end MineP
namespace MineP
open Mine
theorem p7_ok {a : Nat} (h : a < 128) : p7 a = ((List.range 7).filter fun i => a.testBit i).length := by
  have := List.all_eq_true.mp (show ((List.range 128).all fun a => p7 a == ((List.range 7).filter fun i => a.testBit i).length) = true by decide +kernel) a (List.mem_range.mpr h)
  exact eq_of_beq this
noncomputable def pop (M : Nat) : Nat := ((List.range 21).filter fun j => M.testBit j).length
theorem range21 : List.range 21 = List.range 7 ++ ((List.range 7).map (7 + ·) ++ (List.range 7).map (14 + ·)) := by decide +kernel
theorem part_len {M k : Nat} : (((List.range 7).map (k + ·)).filter fun j => M.testBit j).length = ((List.range 7).filter fun i => (M / 2 ^ k % 128).testBit i).length := by
  rw [List.filter_map, List.length_map]
  congr 1
  refine List.filter_congr fun i hi => ?_
  have := List.mem_range.mp hi
  show M.testBit (k + i) = _
  rw [show (128 : Nat) = 2 ^ 7 from rfl, Nat.testBit_mod_two_pow, Nat.testBit_div_two_pow]
  simp [this, Nat.add_comm]
theorem pop_pf (M : Nat) : pop M = pf M := by
  unfold pop pf
  rw [range21, List.filter_append, List.filter_append, List.length_append, List.length_append, part_len, part_len]
  have h0 : ((List.range 7).filter fun j => M.testBit j).length = p7 (M % 128) := by
    rw [p7_ok (Nat.mod_lt _ (by decide))]
    congr 1
    refine List.filter_congr fun i hi => ?_
    have := List.mem_range.mp hi
    rw [show (128 : Nat) = 2 ^ 7 from rfl, Nat.testBit_mod_two_pow]
    simp [this]
  rw [h0, p7_ok (a := M / 128 % 128) (Nat.mod_lt _ (by decide)), p7_ok (a := M / 16384 % 128) (Nat.mod_lt _ (by decide)), Nat.add_assoc]
theorem filter_le {α : Type} {P Q : α → Bool} (h : ∀ x, P x = true → Q x = true) : ∀ l : List α, (l.filter P).length ≤ (l.filter Q).length
  | [] => Nat.le_refl _
  | x :: l => by
    rw [List.filter_cons, List.filter_cons]
    have ih := filter_le h l
    cases hp : P x with
    | true => rw [h x hp, if_pos rfl, if_pos rfl, List.length_cons, List.length_cons]; omega
    | false =>
      rw [if_neg (by decide)]
      split
      · rw [List.length_cons]; omega
      · exact ih
theorem pop_or (M N : Nat) : pop M ≤ pop (M ||| N) := filter_le (fun j h => by rw [Nat.testBit_or, h]; rfl) _
theorem pop_fold : ∀ (ms : List Nat) (M : Nat), pop M ≤ pop (ms.foldl (· ||| ·) M)
  | [], M => Nat.le_refl _
  | m :: ms, M => Nat.le_trans (pop_or M m) (pop_fold ms _)
theorem chk_ok {need : Nat} : ∀ (ms : List Nat) (k M : Nat), chk need ms k M = true → ∀ sub : List Nat, List.Sublist sub ms → sub.length = k → need ≤ pop (sub.foldl (· ||| ·) M)
  | [], 0, M, h, sub, hs, hk => by
    have : sub = [] := List.eq_nil_of_length_eq_zero hk
    subst this
    show need ≤ pop M
    rw [pop_pf]
    exact Nat.le_of_ble_eq_true h
  | m :: ms, 0, M, h, sub, hs, hk => by
    have : sub = [] := List.eq_nil_of_length_eq_zero hk
    subst this
    show need ≤ pop M
    rw [pop_pf]
    exact Nat.le_of_ble_eq_true h
  | [], k + 1, M, h, sub, hs, hk => by
    have := List.Sublist.length_le hs
    rw [hk] at this
    exact absurd this (by simp)
  | m :: rest, k + 1, M, h, sub, hs, hk => by
    unfold chk at h
    simp only [Bool.and_eq_true, Bool.or_eq_true] at h
    obtain ⟨h1, h2⟩ := h
    cases hs with
    | cons _ hs => exact chk_ok rest (k + 1) M h2 sub hs hk
    | cons_cons _ hs =>
      rename_i sub
      rw [List.foldl_cons]
      rw [List.length_cons] at hk
      rcases h1 with h1 | h1
      · have := Nat.le_of_ble_eq_true h1
        rw [← pop_pf] at this
        exact Nat.le_trans this (pop_fold _ _)
      · exact chk_ok rest k _ h1 sub hs (by omega)
theorem bit3 (a b c j : Nat) : (2 ^ a ||| 2 ^ b ||| 2 ^ c).testBit j = (j == a || j == b || j == c) := by
  rw [Nat.testBit_or, Nat.testBit_or, Nat.testBit_two_pow, Nat.testBit_two_pow, Nat.testBit_two_pow]
  have e : ∀ a : Nat, decide (a = j) = (j == a) := fun a => by
    by_cases h : a = j
    · rw [decide_eq_true h, h, beq_self_eq_true]
    · rw [decide_eq_false h]; exact (beq_eq_false_iff_ne.mpr (Ne.symm h)).symm
  rw [e, e, e]
theorem mk_bit (r j : Nat) : (mk r).testBit j = inc r j := bit3 (jOf r 0) (jOf r 1) (jOf r 2) j
theorem fold_bit : ∀ (Fr : List Nat) (M j : Nat), ((Fr.map mk).foldl (· ||| ·) M).testBit j = (M.testBit j || famP Fr j)
  | [], M, j => by show M.testBit j = (M.testBit j || false); rw [Bool.or_false]
  | r :: Fr, M, j => by
    rw [List.map_cons, List.foldl_cons, fold_bit, Nat.testBit_or, Bool.or_assoc]
    rw [mk_bit]; rfl
theorem drop_one : ∀ {l : List Nat} {x : Nat}, l.Nodup → l.length ≤ (l.filter (· != x)).length + 1
  | [], _, _ => Nat.zero_le _
  | y :: l, x, h => by
    have hn := (List.nodup_cons.mp h)
    rw [List.filter_cons, List.length_cons]
    by_cases e : y = x
    · subst e
      have : l.filter (· != y) = l := List.filter_eq_self.mpr fun z hz => by
        have : z ≠ y := fun q => hn.1 (q ▸ hz)
        simpa using this
      rw [this]
      split <;> simp
    · rw [if_pos (by simpa using e), List.length_cons]
      have := drop_one (x := x) hn.2
      omega
theorem count_le : ∀ (N : Nat) (l : List Nat), l.Nodup → (∀ r ∈ l, r < N) → l.length ≤ ((List.range N).filter l.contains).length
  | 0, l, _, h => by
    cases l with
    | nil => exact Nat.le_refl _
    | cons x l => exact absurd (h x (.head _)) (Nat.not_lt_zero _)
  | N + 1, l, hn, h => by
    rw [List.range_succ, List.filter_append, List.length_append]
    have h' : ∀ r ∈ l.filter (· != N), r < N := fun r hr => by
      have := List.mem_filter.mp hr
      have h1 := h r this.1
      have h2 : r ≠ N := by simpa using this.2
      omega
    have ih := count_le N (l.filter (· != N)) (hn.filter _) h'
    have e : (List.range N).filter (l.filter (· != N)).contains = (List.range N).filter l.contains := List.filter_congr fun i hi => by
      have := List.mem_range.mp hi
      rw [Bool.eq_iff_iff]
      simp only [List.contains_iff_mem, List.mem_filter, bne_iff_ne, ne_eq]
      constructor
      · exact fun h => h.1
      · exact fun h => ⟨h, by omega⟩
    rw [e] at ih
    cases hc : l.contains N with
    | true =>
      have := drop_one (x := N) hn
      rw [List.filter_cons, hc]
      simp only [if_true, List.filter_nil, List.length_singleton]
      omega
    | false =>
      have : l.filter (· != N) = l := List.filter_eq_self.mpr fun z hz => by
        have : z ≠ N := fun q => by
          rw [← q] at hc
          have := List.contains_iff_mem.mpr hz
          rw [this] at hc; cases hc
        simpa using this
      rw [this] at ih
      omega
/-- k different triples hold at least `need` pairs -/
theorem least_ok {Fr : List Nat} {need : Nat} (hn : Fr.Nodup) (hF : ∀ r ∈ Fr, r < 35) (hc : chk need masks Fr.length 0 = true) : need ≤ ((List.range 21).filter (famP Fr)).length := by
  have hl := count_le 35 Fr hn hF
  let G := ((List.range 35).filter Fr.contains).take Fr.length
  have hG : List.Sublist G (List.range 35) := (List.take_sublist _ _).trans List.filter_sublist
  have hGl : G.length = Fr.length := by
    show (((List.range 35).filter Fr.contains).take Fr.length).length = _
    rw [List.length_take]; omega
  have := chk_ok masks Fr.length 0 hc (G.map mk) (by rw [← masks_eq]; exact hG.map mk) (by rw [List.length_map]; exact hGl)
  refine Nat.le_trans this ?_
  unfold pop
  refine filter_le (fun j h => ?_) _
  rw [fold_bit] at h
  simp only [Nat.zero_testBit, Bool.false_or] at h
  unfold famP at h ⊢
  rw [List.any_eq_true] at h ⊢
  obtain ⟨r, hr, e⟩ := h
  have := List.mem_of_mem_take hr
  exact ⟨r, List.contains_iff_mem.mp (List.mem_filter.mp this).2, e⟩
end MineP
namespace MineP
open Mine
structure FoldOk (t : List Nat × PSet) : Prop where
  nodup : t.1.Nodup
  lt : ∀ r ∈ t.1, r < 35
  eq : t.2 = t.1.foldl add3 noP
theorem step_ok {s : List Nat × PSet} {x : Int} (h : FoldOk s) : FoldOk (stepF s x) ∧ s.1.length ≤ (stepF s x).1.length ∧ (stepF s x).1.length ≤ s.1.length + 1 := by
  cases hc : s.1.contains (rOf x) with
  | true => rw [step_in hc]; exact ⟨h, Nat.le_refl _, Nat.le_succ _⟩
  | false =>
    rw [step_out hc]
    have hn : rOf x ∉ s.1 := fun hm => by rw [List.contains_iff_mem.mpr hm] at hc; cases hc
    refine ⟨⟨?_, ?_, ?_⟩, ?_, ?_⟩
    · show (s.1 ++ [rOf x]).Nodup
      rw [List.nodup_append]
      refine ⟨h.nodup, List.nodup_cons.mpr ⟨List.not_mem_nil, List.nodup_nil⟩, fun a ha b hb e => ?_⟩
      rw [List.mem_singleton.mp hb] at e
      exact hn (e ▸ ha)
    · intro r hr
      rcases List.mem_append.mp hr with q | q
      · exact h.lt r q
      · rw [List.mem_singleton.mp q]; exact (rOf_ok x).2
    · show add3 s.2 (rOf x) = _
      rw [List.foldl_append, ← h.eq]; rfl
    · show s.1.length ≤ (s.1 ++ [rOf x]).length
      rw [List.length_append]; omega
    · show (s.1 ++ [rOf x]).length ≤ _
      rw [List.length_append, List.length_singleton]; omega
theorem fold_ok : ∀ (xs : List Int) (s : List Nat × PSet), FoldOk s → FoldOk (xs.foldl stepF s) ∧ s.1.length ≤ (xs.foldl stepF s).1.length ∧ (xs.foldl stepF s).1.length ≤ s.1.length + xs.length
  | [], s, h => ⟨h, Nat.le_refl _, Nat.le_refl _⟩
  | x :: xs, s, h => by
    obtain ⟨h1, h2, h3⟩ := step_ok (x := x) h
    obtain ⟨a1, a2, a3⟩ := fold_ok xs (stepF s x) h1
    rw [List.foldl_cons, List.length_cons]
    exact ⟨a1, by omega, by omega⟩
theorem pick_to' {xs : List D} {b : Nat} : pickD xs none (some (b : Int)) none = xs.take b := by
  rcases Nat.le_total b xs.length with h | h
  · exact pick_to h
  · have e : sliceBounds none (some (b : Int)) none xs.length = (((0 : Nat) : Int), (xs.length : Int), 1) := by
      unfold sliceBounds
      simp only [Option.getD_none, gt_iff_lt, Int.zero_lt_one, if_true]
      congr 2
      rw [if_neg (by omega)]; omega
    rw [pick_gen e, List.take_of_length_le h]; simp
theorem pick_from' {xs : List D} {a : Nat} : pickD xs (some (a : Int)) none none = xs.drop a := by
  rcases Nat.le_total a xs.length with h | h
  · exact pick_from h
  · have e : sliceBounds (some (a : Int)) none none xs.length = ((xs.length : Int), (xs.length : Int), 1) := by
      unfold sliceBounds
      simp only [Option.getD_none, gt_iff_lt, Int.zero_lt_one, if_true]
      congr 1
      rw [if_neg (by omega)]; omega
    rw [pick_gen e, List.drop_of_length_le h]; simp
noncomputable def dfl : List Int := [464, 25, 2198, 1114]
noncomputable def givenOf (xs : List Int) : List Int := xs.take 5 ++ dfl.drop xs.length
theorem given_len (xs : List Int) : 4 ≤ (givenOf xs).length ∧ (givenOf xs).length ≤ 5 := by
  unfold givenOf
  rw [List.length_append, List.length_take, List.length_drop]
  have : dfl.length = 4 := rfl
  omega
noncomputable def intsD (xs : List Int) : List D := xs.map .int
theorem intsD_len (xs : List Int) : (intsD xs).length = xs.length := List.length_map _
noncomputable def fr0 (xs : List Int) : Fm := [(nS "script", .v (.list (intsD xs)))]
noncomputable def fr1 (xs : List Int) : Fm := [(nS "script", .v (.list (intsD xs))), (nS "given", .v (.list (intsD (givenOf xs))))]
theorem s0 (n : Nat) {xs : List Int} (hl : xs.length ≤ 63) : (ev (n + 40)).S (fS 18) (fr0 xs) (st 18 0) = some (fr1 xs, .next) := by
  refine S_asg (n := n + 39) (d := .list (intsD (givenOf xs))) rfl (by kernel_rfl) ?_
  refine E_bin (n := n + 38) (a := .list (intsD (xs.take 5))) (b := .list (intsD (dfl.drop xs.length))) ?_ ?_ ?_
  · have e : intsD (xs.take 5) = pickD (intsD xs) none (some 5) none := by
      rw [show (5 : Int) = ((5 : Nat) : Int) from rfl, pick_to']; unfold intsD; rw [List.map_take]
    rw [e]
    exact E_slice (n := n + 37) (xs := intsD xs) (l := none) (h := some 5) (k := none) (by kernel_rfl) opt_none (by kernel_rfl) opt_none (by intro e; cases e) (small_le (by rw [intsD_len]; omega))
  · have e : intsD (dfl.drop xs.length) = pickD (intsD dfl) (some ((intsD xs).length : Int)) none none := by
      rw [pick_from', intsD_len]; unfold intsD; rw [List.map_drop]
    rw [e]
    refine E_slice (n := n + 37) (xs := intsD dfl) (l := some ((intsD xs).length : Int)) (h := none) (k := none) (by kernel_rfl) (opt_some ?_) opt_none opt_none (by intro e; cases e) rfl
    exact E_len (n := n + 36) (by kernel_rfl) (by kernel_rfl) (small_le (by rw [intsD_len]; omega))
  · have := given_len xs
    have h2 : (intsD (xs.take 5)).length + (intsD (dfl.drop xs.length)).length ≤ 1000 := by
      rw [intsD_len, intsD_len, ← List.length_append]
      show (givenOf xs).length ≤ 1000
      omega
    show (if small _ then some (PyData.list (intsD (xs.take 5) ++ intsD (dfl.drop xs.length))) else none) = _
    rw [if_pos (small_le h2)]
    show some (PyData.list _) = some (PyData.list (intsD (xs.take 5 ++ dfl.drop xs.length)))
    unfold intsD
    rw [List.map_append]
section
variable (n : Nat) (sv gv : D)
theorem s1 : (ev (n + 40)).S (fS 18) [(nS "script", .v sv), (nS "given", .v gv)] (st 18 1) = some ([(nS "script", .v sv), (nS "given", .v gv), (nS "letters", .v (.str (nS "abcdefg")))], .next) := by kernel_rfl
theorem s2 : (ev (n + 40)).S (fS 18) [(nS "script", .v sv), (nS "given", .v gv), (nS "letters", .v (.str (nS "abcdefg")))] (st 18 2) = some ([(nS "script", .v sv), (nS "given", .v gv), (nS "letters", .v (.str (nS "abcdefg"))), (nS "words", .v wordsD)], .next) := by kernel_rfl
theorem s3 : (ev (n + 40)).S (fS 18) [(nS "script", .v sv), (nS "given", .v gv), (nS "letters", .v (.str (nS "abcdefg"))), (nS "words", .v wordsD)] (st 18 3) = some ([(nS "script", .v sv), (nS "given", .v gv), (nS "letters", .v (.str (nS "abcdefg"))), (nS "words", .v wordsD), (nS "order", .v (.list orderL))], .next) := by kernel_rfl
theorem s4 : (ev (n + 40)).S (fS 18) [(nS "script", .v sv), (nS "given", .v gv), (nS "letters", .v (.str (nS "abcdefg"))), (nS "words", .v wordsD), (nS "order", .v (.list orderL))] (st 18 4) = some ([(nS "script", .v sv), (nS "given", .v gv), (nS "letters", .v (.str (nS "abcdefg"))), (nS "words", .v wordsD), (nS "order", .v (.list orderL)), (nS "family", .own [])], .next) := by kernel_rfl
theorem s5 : (ev (n + 40)).S (fS 18) [(nS "script", .v sv), (nS "given", .v gv), (nS "letters", .v (.str (nS "abcdefg"))), (nS "words", .v wordsD), (nS "order", .v (.list orderL)), (nS "family", .own [])] (st 18 5) = some (frL sv gv [] (.list []) [], .next) := by kernel_rfl
end
theorem iter_list {r : Ev} {sc : Scope} {fm : Fm} {it : Expr} {xs : List D} (h1 : isRangeCall sc it = false) (h2 : noSet it = true) (h : r.E sc fm it = some (.list xs)) (hs : small xs.length = true) : iterE r sc fm it = some xs := by
  unfold iterE
  rw [h1, if_neg (by decide), if_pos h2, h]
  show (if small xs.length then some xs else none) = some xs
  rw [if_pos hs]
theorem s6 (n : Nat) {sv : D} {gs : List Int} (h4 : 4 ≤ gs.length) (h5 : gs.length ≤ 5) : ∃ tl, Full tl ∧ (ev (n + 40)).S (fS 18) (frL sv (.list (intsD gs)) [] (.list []) []) (st 18 6) =
    some (frL sv (.list (intsD gs)) (famD (gs.foldl stepF ([], noP)).1) (.list (rowP (gs.foldl stepF ([], noP)).2)) tl, .next) := by
  cases gs with
  | nil => simp at h4
  | cons x xs =>
    obtain ⟨tl, ht, L⟩ := loop0 (n := n) (sv := sv) (gv := .list (intsD (x :: xs))) (x := x) (xs := xs) (by simp at h5; omega)
    refine ⟨tl, ht, ?_⟩
    refine S_for (n := n + 39) (items := intsD (x :: xs)) (by kernel_rfl) ?_ L
    exact iter_list (by kernel_rfl) (by kernel_rfl) (by kernel_rfl) (small_le (by rw [intsD_len]; omega))
end MineP
namespace MineP
open Mine
noncomputable def retVs : List Expr := match st 18 12 with | .Return (some (.BoolOp _ vs _)) _ => vs | _ => []
noncomputable def rv (i : Nat) : Expr := retVs.getD i (.Name (nS "") ⟨0, 0, 0, 0⟩)
theorem ret_eq : ∃ p q, st 18 12 = .Return (some (.BoolOp .And [rv 0, rv 1, rv 2] p)) q := ⟨_, _, rfl⟩
theorem E_cmp {n : Nat} {sc : Scope} {fm : Fm} {l rr : Expr} {op : CmpOp} {p : Pos} {b : Bool} (h : cmpE (ev n) sc fm l op rr = some b) : (ev (n + 1)).E sc fm (.Compare l [op] [rr] p) = some (.bool b) := by
  show (cmpE (ev n) sc fm l op rr).map PyData.bool = _
  rw [h]; rfl
theorem eqv_row : ∀ {js : List Nat}, (∀ i ∈ js, i < 21) → PyData.eqvAll (rowD js) (rowD js) = true
  | [], _ => rfl
  | j :: js, h => by
    show (PyData.eqv (PD j) (PD j) && PyData.eqvAll (rowD js) (rowD js)) = true
    rw [eqv_row fun i hi => h i (.tail _ hi), eq_pd (h j (.head _)) (h j (.head _))]; simp
theorem eq_self {js : List Nat} (h : ∀ i ∈ js, i < 21) : cmpD .Eq (.list (rowD js)) (.list (rowD js)) = some true := by
  show (if shallow (.list (rowD js)) && shallow (.list (rowD js)) then some (PyData.eqvAll (rowD js) (rowD js)) else none) = _
  rw [shallow_row h, eqv_row h]; rfl
theorem finish {n k : Nat} {sv gv d1 d2 d3 d4 d5 d6 d7 : D} {F : List D} {js : List Nat} (hj : ∀ i ∈ js, i < 21) (hl : js.length ≤ 21) (hk : leastK k ≤ js.length)
    (h8 : (ev (n + 40)).S (fS 18) (frE sv gv F (.list (rowD js)) d1 d2 d3 d4 d5 d6 d7 (.list (rowD js)) []) (st 18 8) = some (frE sv gv F (.list (rowD js)) d1 d2 d3 d4 d5 d6 d7 (.list (rowD js)) more1, .next))
    (h9 : (ev (n + 40)).S (fS 18) (frE sv gv F (.list (rowD js)) d1 d2 d3 d4 d5 d6 d7 (.list (rowD js)) more1) (st 18 9) = some (frE sv gv F (.list (rowD js)) d1 d2 d3 d4 d5 d6 d7 (.list (rowD js)) (more2 k), .next))
    (h10 : (ev (n + 40)).S (fS 18) (frE sv gv F (.list (rowD js)) d1 d2 d3 d4 d5 d6 d7 (.list (rowD js)) (more2 k)) (st 18 10) = some (frE sv gv F (.list (rowD js)) d1 d2 d3 d4 d5 d6 d7 (.list (rowD js)) (more3 k), .next))
    (h11 : (ev (n + 40)).S (fS 18) (frE sv gv F (.list (rowD js)) d1 d2 d3 d4 d5 d6 d7 (.list (rowD js)) (more3 k)) (st 18 11) = some (frE sv gv F (.list (rowD js)) d1 d2 d3 d4 d5 d6 d7 (.list (rowD js)) (more4 k), .next))
    (hc : (ev (n + 38)).E (fS 18) (frE sv gv F (.list (rowD js)) d1 d2 d3 d4 d5 d6 d7 (.list (rowD js)) (more4 k)) (rv 2) = some (.bool true)) :
    runS (ev (n + 40)) (fS 18) (frE sv gv F (.list (rowD js)) d1 d2 d3 d4 d5 d6 d7 (.list (rowD js)) []) [st 18 8, st 18 9, st 18 10, st 18 11, st 18 12] = some (frE sv gv F (.list (rowD js)) d1 d2 d3 d4 d5 d6 d7 (.list (rowD js)) (more4 k), .ret (.bool true)) := by
  refine run_cons h8 (run_cons h9 (run_cons h10 (run_cons h11 (run_ret ?_))))
  obtain ⟨p, q, e⟩ := ret_eq
  rw [e]
  refine S_ret (n := n + 39) rfl ?_
  have a1 : (ev (n + 38)).E (fS 18) (frE sv gv F (.list (rowD js)) d1 d2 d3 d4 d5 d6 d7 (.list (rowD js)) (more4 k)) (rv 0) = some (.bool true) :=
    E_cmp (n := n + 37) (cmp_plain (a := .list (rowD js)) (b := .list (rowD js)) rfl (by kernel_rfl) (by kernel_rfl) (eq_self hj))
  have a2 : (ev (n + 38)).E (fS 18) (frE sv gv F (.list (rowD js)) d1 d2 d3 d4 d5 d6 d7 (.list (rowD js)) (more4 k)) (rv 1) = some (.bool true) := by
    have hr : (rowD js).length = js.length := by unfold rowD; rw [List.length_map]
    refine E_cmp (n := n + 37) (cmp_plain (a := .int ((rowD js).length : Int)) (b := intD (leastK k)) rfl ?_ (by kernel_rfl) ?_)
    · exact E_len (n := n + 36) (by kernel_rfl) (by kernel_rfl) (small_le (by rw [hr]; omega))
    · show some (decide (((rowD js).length : Int) ≥ ((leastK k : Nat) : Int))) = some true
      rw [decide_eq_true (by rw [hr]; omega)]
  show andE (ev (n + 38)) (fS 18) _ [rv 0, rv 1, rv 2] = _
  show (match (ev (n + 38)).E (fS 18) _ (rv 0) with
    | some (.bool true) => andE (ev (n + 38)) (fS 18) _ [rv 1, rv 2]
    | some (.bool false) => some (.bool false)
    | _ => none) = _
  rw [a1]
  show (match (ev (n + 38)).E (fS 18) _ (rv 1) with
    | some (.bool true) => andE (ev (n + 38)) (fS 18) _ [rv 2]
    | some (.bool false) => some (.bool false)
    | _ => none) = _
  rw [a2]
  exact hc
theorem rv2_1 (n : Nat) (sv gv S d1 d2 d3 d4 d5 d6 d7 due e1 : D) : (ev (n + 38)).E (fS 18) (frE sv gv [e1] S d1 d2 d3 d4 d5 d6 d7 due (more4 1)) (rv 2) = some (.bool true) := by kernel_rfl
theorem fin_1 {n : Nat} {sv gv d1 d2 d3 d4 d5 d6 d7 e1 : D} {js : List Nat} (hj : ∀ i ∈ js, i < 21) (hl : js.length ≤ 21) (hk : leastK 1 ≤ js.length) :
    runS (ev (n + 40)) (fS 18) (frE sv gv [e1] (.list (rowD js)) d1 d2 d3 d4 d5 d6 d7 (.list (rowD js)) []) [st 18 8, st 18 9, st 18 10, st 18 11, st 18 12] = some (frE sv gv [e1] (.list (rowD js)) d1 d2 d3 d4 d5 d6 d7 (.list (rowD js)) (more4 1), .ret (.bool true)) :=
  finish hj hl hk (s8_1 ..) (s9_1 ..) (s10_1 ..) (s11_1 ..) (rv2_1 ..)
theorem rv2_2 (n : Nat) (sv gv S d1 d2 d3 d4 d5 d6 d7 due e1 e2 : D) : (ev (n + 38)).E (fS 18) (frE sv gv [e1, e2] S d1 d2 d3 d4 d5 d6 d7 due (more4 2)) (rv 2) = some (.bool true) := by kernel_rfl
theorem fin_2 {n : Nat} {sv gv d1 d2 d3 d4 d5 d6 d7 e1 e2 : D} {js : List Nat} (hj : ∀ i ∈ js, i < 21) (hl : js.length ≤ 21) (hk : leastK 2 ≤ js.length) :
    runS (ev (n + 40)) (fS 18) (frE sv gv [e1, e2] (.list (rowD js)) d1 d2 d3 d4 d5 d6 d7 (.list (rowD js)) []) [st 18 8, st 18 9, st 18 10, st 18 11, st 18 12] = some (frE sv gv [e1, e2] (.list (rowD js)) d1 d2 d3 d4 d5 d6 d7 (.list (rowD js)) (more4 2), .ret (.bool true)) :=
  finish hj hl hk (s8_2 ..) (s9_2 ..) (s10_2 ..) (s11_2 ..) (rv2_2 ..)
theorem rv2_3 (n : Nat) (sv gv S d1 d2 d3 d4 d5 d6 d7 due e1 e2 e3 : D) : (ev (n + 38)).E (fS 18) (frE sv gv [e1, e2, e3] S d1 d2 d3 d4 d5 d6 d7 due (more4 3)) (rv 2) = some (.bool true) := by kernel_rfl
theorem fin_3 {n : Nat} {sv gv d1 d2 d3 d4 d5 d6 d7 e1 e2 e3 : D} {js : List Nat} (hj : ∀ i ∈ js, i < 21) (hl : js.length ≤ 21) (hk : leastK 3 ≤ js.length) :
    runS (ev (n + 40)) (fS 18) (frE sv gv [e1, e2, e3] (.list (rowD js)) d1 d2 d3 d4 d5 d6 d7 (.list (rowD js)) []) [st 18 8, st 18 9, st 18 10, st 18 11, st 18 12] = some (frE sv gv [e1, e2, e3] (.list (rowD js)) d1 d2 d3 d4 d5 d6 d7 (.list (rowD js)) (more4 3), .ret (.bool true)) :=
  finish hj hl hk (s8_3 ..) (s9_3 ..) (s10_3 ..) (s11_3 ..) (rv2_3 ..)
theorem rv2_4 (n : Nat) (sv gv S d1 d2 d3 d4 d5 d6 d7 due e1 e2 e3 e4 : D) : (ev (n + 38)).E (fS 18) (frE sv gv [e1, e2, e3, e4] S d1 d2 d3 d4 d5 d6 d7 due (more4 4)) (rv 2) = some (.bool true) := by kernel_rfl
theorem fin_4 {n : Nat} {sv gv d1 d2 d3 d4 d5 d6 d7 e1 e2 e3 e4 : D} {js : List Nat} (hj : ∀ i ∈ js, i < 21) (hl : js.length ≤ 21) (hk : leastK 4 ≤ js.length) :
    runS (ev (n + 40)) (fS 18) (frE sv gv [e1, e2, e3, e4] (.list (rowD js)) d1 d2 d3 d4 d5 d6 d7 (.list (rowD js)) []) [st 18 8, st 18 9, st 18 10, st 18 11, st 18 12] = some (frE sv gv [e1, e2, e3, e4] (.list (rowD js)) d1 d2 d3 d4 d5 d6 d7 (.list (rowD js)) (more4 4), .ret (.bool true)) :=
  finish hj hl hk (s8_4 ..) (s9_4 ..) (s10_4 ..) (s11_4 ..) (rv2_4 ..)
theorem rv2_5 (n : Nat) (sv gv S d1 d2 d3 d4 d5 d6 d7 due e1 e2 e3 e4 e5 : D) : (ev (n + 38)).E (fS 18) (frE sv gv [e1, e2, e3, e4, e5] S d1 d2 d3 d4 d5 d6 d7 due (more4 5)) (rv 2) = some (.bool true) := by kernel_rfl
theorem fin_5 {n : Nat} {sv gv d1 d2 d3 d4 d5 d6 d7 e1 e2 e3 e4 e5 : D} {js : List Nat} (hj : ∀ i ∈ js, i < 21) (hl : js.length ≤ 21) (hk : leastK 5 ≤ js.length) :
    runS (ev (n + 40)) (fS 18) (frE sv gv [e1, e2, e3, e4, e5] (.list (rowD js)) d1 d2 d3 d4 d5 d6 d7 (.list (rowD js)) []) [st 18 8, st 18 9, st 18 10, st 18 11, st 18 12] = some (frE sv gv [e1, e2, e3, e4, e5] (.list (rowD js)) d1 d2 d3 d4 d5 d6 d7 (.list (rowD js)) (more4 5), .ret (.bool true)) :=
  finish hj hl hk (s8_5 ..) (s9_5 ..) (s10_5 ..) (s11_5 ..) (rv2_5 ..)
theorem chkK {k : Nat} (h1 : 1 ≤ k) (h5 : k ≤ 5) : chk (leastK k) masks k 0 = true := by
  match k, h1, h5 with
  | 1, _, _ => exact chk1
  | 2, _, _ => exact chk2
  | 3, _, _ => exact chk3
  | 4, _, _ => exact chk4
  | 5, _, _ => exact chk5
theorem plainLaw (n : Nat) (xs : List Int) (hl : xs.length ≤ 63) : evLaw (ev (n + 40)) (xs.map PyData.int) = some (.bool true) := by
  obtain ⟨g4, g5⟩ := given_len xs
  obtain ⟨tl, ⟨d1, d2, d3, d4, d5, d6, d7, rfl⟩, L⟩ := s6 n (sv := .list (intsD xs)) g4 g5
  obtain ⟨G, ⟨b1, b2⟩⟩ : FoldOk ((givenOf xs).foldl stepF ([], noP)) ∧ 1 ≤ ((givenOf xs).foldl stepF ([], noP)).1.length ∧ ((givenOf xs).foldl stepF ([], noP)).1.length ≤ 5 := by
    have h0 : FoldOk ([], noP) := ⟨List.nodup_nil, (fun r h => nomatch h), rfl⟩
    cases hg : givenOf xs with
    | nil => rw [hg] at g4; simp at g4
    | cons x ys =>
      rw [hg] at g5
      rw [List.foldl_cons]
      have hs : stepF ([], noP) x = ([rOf x], add3 noP (rOf x)) := step_out (s := ([], noP)) rfl
      obtain ⟨a1, a2, a3⟩ := fold_ok ys (stepF ([], noP) x) (step_ok h0).1
      rw [hs] at a2 a3 ⊢
      rw [hs] at a1
      refine ⟨a1, a2, Nat.le_trans a3 ?_⟩
      rw [List.length_cons] at g5
      show [rOf x].length + ys.length ≤ 5
      rw [List.length_singleton]; omega
  generalize (givenOf xs).foldl stepF ([], noP) = t at L G b1 b2
  obtain ⟨Fr, P⟩ := t
  dsimp only at L G b1 b2
  have hP : P = Fr.foldl add3 noP := G.eq
  have hrow : rowP P = dueL Fr := by rw [hP]; exact row_due G.lt
  have hD := dueS n (sv := .list (intsD xs)) (gv := .list (intsD (givenOf xs))) (S := .list (rowP P)) (d1 := d1) (d2 := d2) (d3 := d3) (d4 := d4) (d5 := d5) (d6 := d6) (d7 := d7) G.lt (Nat.le_trans b2 (by decide))
  rw [← hrow] at hD
  have hk : leastK Fr.length ≤ (jsP P).length := by
    have := least_ok G.nodup G.lt (chkK b1 b2)
    have e : jsP P = (List.range 21).filter (famP Fr) := List.filter_congr fun j _ => by
      rw [hP, fold_any]
      show (false || famP Fr j) = _
      rw [Bool.false_or]
    rw [e]; exact this
  have last : ∃ fm, runS (ev (n + 40)) (fS 18) (frE (.list (intsD xs)) (.list (intsD (givenOf xs))) (famD Fr) (.list (rowP P)) d1 d2 d3 d4 d5 d6 d7 (.list (rowP P)) []) [st 18 8, st 18 9, st 18 10, st 18 11, st 18 12] = some (fm, .ret (.bool true)) := by
    clear L hD hrow hP
    clear G
    match Fr, b1, b2, hk with
    | [r1], _, _, hk => exact ⟨_, fin_1 (n := n) (sv := .list (intsD xs)) (gv := .list (intsD (givenOf xs))) (d1 := d1) (d2 := d2) (d3 := d3) (d4 := d4) (d5 := d5) (d6 := d6) (d7 := d7) (e1 := triD r1) (js := jsP P) js_lt js_len hk⟩
    | [r1, r2], _, _, hk => exact ⟨_, fin_2 (n := n) (sv := .list (intsD xs)) (gv := .list (intsD (givenOf xs))) (d1 := d1) (d2 := d2) (d3 := d3) (d4 := d4) (d5 := d5) (d6 := d6) (d7 := d7) (e1 := triD r1) (e2 := triD r2) (js := jsP P) js_lt js_len hk⟩
    | [r1, r2, r3], _, _, hk => exact ⟨_, fin_3 (n := n) (sv := .list (intsD xs)) (gv := .list (intsD (givenOf xs))) (d1 := d1) (d2 := d2) (d3 := d3) (d4 := d4) (d5 := d5) (d6 := d6) (d7 := d7) (e1 := triD r1) (e2 := triD r2) (e3 := triD r3) (js := jsP P) js_lt js_len hk⟩
    | [r1, r2, r3, r4], _, _, hk => exact ⟨_, fin_4 (n := n) (sv := .list (intsD xs)) (gv := .list (intsD (givenOf xs))) (d1 := d1) (d2 := d2) (d3 := d3) (d4 := d4) (d5 := d5) (d6 := d6) (d7 := d7) (e1 := triD r1) (e2 := triD r2) (e3 := triD r3) (e4 := triD r4) (js := jsP P) js_lt js_len hk⟩
    | [r1, r2, r3, r4, r5], _, _, hk => exact ⟨_, fin_5 (n := n) (sv := .list (intsD xs)) (gv := .list (intsD (givenOf xs))) (d1 := d1) (d2 := d2) (d3 := d3) (d4 := d4) (d5 := d5) (d6 := d6) (d7 := d7) (e1 := triD r1) (e2 := triD r2) (e3 := triD r3) (e4 := triD r4) (e5 := triD r5) (js := jsP P) js_lt js_len hk⟩
    | _ :: _ :: _ :: _ :: _ :: _ :: _, _, b2, _ => simp at b2
  obtain ⟨fm, last⟩ := last
  have whole : runS (ev (n + 40)) (fS 18) (fr0 xs) (fB 18) = some (fm, .ret (.bool true)) := by
    rw [body18]
    refine run_cons (s0 n hl) ?_
    refine run_cons (s1 n (.list (intsD xs)) (.list (intsD (givenOf xs)))) ?_
    refine run_cons (s2 n (.list (intsD xs)) (.list (intsD (givenOf xs)))) ?_
    refine run_cons (s3 n (.list (intsD xs)) (.list (intsD (givenOf xs)))) ?_
    refine run_cons (s4 n (.list (intsD xs)) (.list (intsD (givenOf xs)))) ?_
    refine run_cons (s5 n (.list (intsD xs)) (.list (intsD (givenOf xs)))) ?_
    refine run_cons L ?_
    refine run_cons hD ?_
    have e : frE (.list (intsD xs)) (.list (intsD (givenOf xs))) (famD Fr) (.list (rowP P)) d1 d2 d3 d4 d5 d6 d7 (.list (rowP P)) [] = setB (nS "due") (.v (.list (rowP P))) (frL (.list (intsD xs)) (.list (intsD (givenOf xs))) (famD Fr) (.list (rowP P)) (tl7 d1 d2 d3 d4 d5 d6 d7)) := List.append_nil _
    rw [← e]
    exact last
  show (match runS (ev (n + 40)) (fS 18) (fr0 xs) (fB 18) with
    | some (_, .ret d) => some d
    | _ => none) = _
  rw [whole]
end MineP
set_option maxHeartbeats 8000000 in
theorem PySem.Challenge.cw_wf0083_01_holds : PySem.Challenge.rw_wf0083_01.Holds :=
  Mine.holds ⟨60000, Mine.leftAt⟩ fun xs h => MineP.plainLaw 0 xs h
