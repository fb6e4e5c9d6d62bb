import PyProof.Rows.All
import Wide.All
import OpenK.AllK
import Wide.FinOn
import PySem.Challenge.RW_yf0016_01
open PySem PySem.W PyProof.Rows PySem.Calls
set_option Elab.async false
set_option maxRecDepth 100000
set_option compiler.extract_closed false
section
namespace Mine
noncomputable def topBody : List Stmt := PySem.Challenge.pw_yf0016_01.main.body
noncomputable def defOf (s : Stmt) : Option (Str × Arguments × List Stmt × Scope) := match s with
  | .FunctionDef n a b _ _ _ sc _ _ _ => some (n, a, b, sc)
  | _ => none
noncomputable def theDefs : List (Str × Arguments × List Stmt × Scope) := topBody.filterMap defOf
noncomputable def bodyOf (i : Nat) : List Stmt := match theDefs[i]? with | some (_, _, b, _) => b | none => []
noncomputable def scopeOf (i : Nat) : Scope := match theDefs[i]? with | some (_, _, _, s) => s | none => default
noncomputable def paramsOf (i : Nat) : Arguments := match theDefs[i]? with | some (_, a, _, _) => a | none => ⟨[], [], none, [], [], none, []⟩
noncomputable abbrev zs (l : List Nat) : Str := ⟨l.toArray⟩
noncomputable def fragK (P : Params) : Frag := [
  (nat_lit 3, ⟨(.type "dict"), none, (.dict (List.toArray [⟨PyData.keyHash P (zs [95, 95, 110, 97, 109, 101, 95, 95]), (.str (zs [95, 95, 110, 97, 109, 101, 95, 95]) 165), (.str (zs [108, 97, 119, 95, 121, 102, 48, 48, 49, 54, 95, 48, 49]) 584)⟩,
    ⟨PyData.keyHash P (zs [95, 95, 100, 111, 99, 95, 95]), (.str (zs [95, 95, 100, 111, 99, 95, 95]) 166), .none⟩,
    ⟨PyData.keyHash P (zs [95, 95, 112, 97, 99, 107, 97, 103, 101, 95, 95]), (.str (zs [95, 95, 112, 97, 99, 107, 97, 103, 101, 95, 95]) 167), .none⟩,
    ⟨PyData.keyHash P (zs [95, 95, 108, 111, 97, 100, 101, 114, 95, 95]), (.str (zs [95, 95, 108, 111, 97, 100, 101, 114, 95, 95]) 168), (.builtin "__main__.__loader__#opaque")⟩,
    ⟨PyData.keyHash P (zs [95, 95, 115, 112, 101, 99, 95, 95]), (.str (zs [95, 95, 115, 112, 101, 99, 95, 95]) 169), .none⟩,
    ⟨PyData.keyHash P (zs [95, 95, 97, 110, 110, 111, 116, 97, 116, 105, 111, 110, 115, 95, 95]), (.str (zs [95, 95, 97, 110, 110, 111, 116, 97, 116, 105, 111, 110, 115, 95, 95]) 170), (.ref 6)⟩,
    ⟨PyData.keyHash P (zs [95, 95, 98, 117, 105, 108, 116, 105, 110, 115, 95, 95]), (.str (zs [95, 95, 98, 117, 105, 108, 116, 105, 110, 115, 95, 95]) 171), (.ref 4)⟩,
    ⟨PyData.keyHash P (zs [95, 95, 102, 105, 108, 101, 95, 95]), (.str (zs [95, 95, 102, 105, 108, 101, 95, 95]) 173), (.str (zs [47, 99, 108, 97, 105, 109, 47, 99, 117, 116, 46, 112, 121]) 172)⟩,
    ⟨PyData.keyHash P (zs [95, 95, 99, 97, 99, 104, 101, 100, 95, 95]), (.str (zs [95, 95, 99, 97, 99, 104, 101, 100, 95, 95]) 174), .none⟩,
    ⟨PyData.keyHash P (zs [95, 115, 114, 101]), (.str (zs [95, 115, 114, 101]) 275), (.ref 12)⟩,
    ⟨PyData.keyHash P (zs [95, 113, 117, 111, 116, 101, 100]), (.str (zs [95, 113, 117, 111, 116, 101, 100]) 327), (.ref 36)⟩,
    ⟨PyData.keyHash P (zs [95, 112, 97, 114, 101, 110, 95, 100, 101, 112, 116, 104]), (.str (zs [95, 112, 97, 114, 101, 110, 95, 100, 101, 112, 116, 104]) 336), (.ref 44)⟩,
    ⟨PyData.keyHash P (zs [95, 115, 116, 114, 99, 111, 108, 108]), (.str (zs [95, 115, 116, 114, 99, 111, 108, 108]) 346), (.ref 51)⟩,
    ⟨PyData.keyHash P (zs [95, 115, 116, 114, 120, 102, 114, 109]), (.str (zs [95, 115, 116, 114, 120, 102, 114, 109]) 353), (.ref 58)⟩,
    ⟨PyData.keyHash P (zs [95, 115, 116, 114, 105, 112, 95, 112, 97, 100, 100, 105, 110, 103]), (.str (zs [95, 115, 116, 114, 105, 112, 95, 112, 97, 100, 100, 105, 110, 103]) 363), (.ref 65)⟩,
    ⟨PyData.keyHash P (zs [69, 78, 68, 77, 65, 82, 75, 69, 82]), (.str (zs [69, 78, 68, 77, 65, 82, 75, 69, 82]) 367), (.int (0) 366)⟩,
    ⟨PyData.keyHash P (zs [76, 80, 65, 82]), (.str (zs [76, 80, 65, 82]) 369), (.int (7) 368)⟩,
    ⟨PyData.keyHash P (zs [82, 80, 65, 82]), (.str (zs [82, 80, 65, 82]) 371), (.int (8) 370)⟩,
    ⟨PyData.keyHash P (zs [76, 83, 81, 66]), (.str (zs [76, 83, 81, 66]) 373), (.int (9) 372)⟩,
    ⟨PyData.keyHash P (zs [82, 83, 81, 66]), (.str (zs [82, 83, 81, 66]) 375), (.int (10) 374)⟩,
    ⟨PyData.keyHash P (zs [67, 79, 76, 79, 78]), (.str (zs [67, 79, 76, 79, 78]) 377), (.int (11) 376)⟩,
    ⟨PyData.keyHash P (zs [67, 79, 77, 77, 65]), (.str (zs [67, 79, 77, 77, 65]) 379), (.int (12) 378)⟩,
    ⟨PyData.keyHash P (zs [83, 69, 77, 73]), (.str (zs [83, 69, 77, 73]) 381), (.int (13) 380)⟩,
    ⟨PyData.keyHash P (zs [80, 76, 85, 83]), (.str (zs [80, 76, 85, 83]) 383), (.int (14) 382)⟩,
    ⟨PyData.keyHash P (zs [77, 73, 78, 85, 83]), (.str (zs [77, 73, 78, 85, 83]) 385), (.int (15) 384)⟩,
    ⟨PyData.keyHash P (zs [83, 84, 65, 82]), (.str (zs [83, 84, 65, 82]) 387), (.int (16) 386)⟩,
    ⟨PyData.keyHash P (zs [83, 76, 65, 83, 72]), (.str (zs [83, 76, 65, 83, 72]) 389), (.int (17) 388)⟩,
    ⟨PyData.keyHash P (zs [86, 66, 65, 82]), (.str (zs [86, 66, 65, 82]) 391), (.int (18) 390)⟩,
    ⟨PyData.keyHash P (zs [65, 77, 80, 69, 82]), (.str (zs [65, 77, 80, 69, 82]) 393), (.int (19) 392)⟩,
    ⟨PyData.keyHash P (zs [76, 69, 83, 83]), (.str (zs [76, 69, 83, 83]) 395), (.int (20) 394)⟩,
    ⟨PyData.keyHash P (zs [71, 82, 69, 65, 84, 69, 82]), (.str (zs [71, 82, 69, 65, 84, 69, 82]) 397), (.int (21) 396)⟩,
    ⟨PyData.keyHash P (zs [69, 81, 85, 65, 76]), (.str (zs [69, 81, 85, 65, 76]) 399), (.int (22) 398)⟩,
    ⟨PyData.keyHash P (zs [68, 79, 84]), (.str (zs [68, 79, 84]) 401), (.int (23) 400)⟩,
    ⟨PyData.keyHash P (zs [80, 69, 82, 67, 69, 78, 84]), (.str (zs [80, 69, 82, 67, 69, 78, 84]) 403), (.int (24) 402)⟩,
    ⟨PyData.keyHash P (zs [76, 66, 82, 65, 67, 69]), (.str (zs [76, 66, 82, 65, 67, 69]) 405), (.int (25) 404)⟩,
    ⟨PyData.keyHash P (zs [82, 66, 82, 65, 67, 69]), (.str (zs [82, 66, 82, 65, 67, 69]) 407), (.int (26) 406)⟩,
    ⟨PyData.keyHash P (zs [69, 81, 69, 81, 85, 65, 76]), (.str (zs [69, 81, 69, 81, 85, 65, 76]) 409), (.int (27) 408)⟩,
    ⟨PyData.keyHash P (zs [78, 79, 84, 69, 81, 85, 65, 76]), (.str (zs [78, 79, 84, 69, 81, 85, 65, 76]) 411), (.int (28) 410)⟩,
    ⟨PyData.keyHash P (zs [76, 69, 83, 83, 69, 81, 85, 65, 76]), (.str (zs [76, 69, 83, 83, 69, 81, 85, 65, 76]) 413), (.int (29) 412)⟩,
    ⟨PyData.keyHash P (zs [71, 82, 69, 65, 84, 69, 82, 69, 81, 85, 65, 76]), (.str (zs [71, 82, 69, 65, 84, 69, 82, 69, 81, 85, 65, 76]) 415), (.int (30) 414)⟩,
    ⟨PyData.keyHash P (zs [84, 73, 76, 68, 69]), (.str (zs [84, 73, 76, 68, 69]) 417), (.int (31) 416)⟩,
    ⟨PyData.keyHash P (zs [67, 73, 82, 67, 85, 77, 70, 76, 69, 88]), (.str (zs [67, 73, 82, 67, 85, 77, 70, 76, 69, 88]) 419), (.int (32) 418)⟩,
    ⟨PyData.keyHash P (zs [76, 69, 70, 84, 83, 72, 73, 70, 84]), (.str (zs [76, 69, 70, 84, 83, 72, 73, 70, 84]) 421), (.int (33) 420)⟩,
    ⟨PyData.keyHash P (zs [82, 73, 71, 72, 84, 83, 72, 73, 70, 84]), (.str (zs [82, 73, 71, 72, 84, 83, 72, 73, 70, 84]) 423), (.int (34) 422)⟩,
    ⟨PyData.keyHash P (zs [68, 79, 85, 66, 76, 69, 83, 84, 65, 82]), (.str (zs [68, 79, 85, 66, 76, 69, 83, 84, 65, 82]) 425), (.int (35) 424)⟩,
    ⟨PyData.keyHash P (zs [80, 76, 85, 83, 69, 81, 85, 65, 76]), (.str (zs [80, 76, 85, 83, 69, 81, 85, 65, 76]) 427), (.int (36) 426)⟩,
    ⟨PyData.keyHash P (zs [77, 73, 78, 69, 81, 85, 65, 76]), (.str (zs [77, 73, 78, 69, 81, 85, 65, 76]) 429), (.int (37) 428)⟩,
    ⟨PyData.keyHash P (zs [83, 84, 65, 82, 69, 81, 85, 65, 76]), (.str (zs [83, 84, 65, 82, 69, 81, 85, 65, 76]) 431), (.int (38) 430)⟩,
    ⟨PyData.keyHash P (zs [83, 76, 65, 83, 72, 69, 81, 85, 65, 76]), (.str (zs [83, 76, 65, 83, 72, 69, 81, 85, 65, 76]) 433), (.int (39) 432)⟩,
    ⟨PyData.keyHash P (zs [80, 69, 82, 67, 69, 78, 84, 69, 81, 85, 65, 76]), (.str (zs [80, 69, 82, 67, 69, 78, 84, 69, 81, 85, 65, 76]) 435), (.int (40) 434)⟩,
    ⟨PyData.keyHash P (zs [65, 77, 80, 69, 82, 69, 81, 85, 65, 76]), (.str (zs [65, 77, 80, 69, 82, 69, 81, 85, 65, 76]) 437), (.int (41) 436)⟩,
    ⟨PyData.keyHash P (zs [86, 66, 65, 82, 69, 81, 85, 65, 76]), (.str (zs [86, 66, 65, 82, 69, 81, 85, 65, 76]) 439), (.int (42) 438)⟩,
    ⟨PyData.keyHash P (zs [67, 73, 82, 67, 85, 77, 70, 76, 69, 88, 69, 81, 85, 65, 76]), (.str (zs [67, 73, 82, 67, 85, 77, 70, 76, 69, 88, 69, 81, 85, 65, 76]) 441), (.int (43) 440)⟩,
    ⟨PyData.keyHash P (zs [76, 69, 70, 84, 83, 72, 73, 70, 84, 69, 81, 85, 65, 76]), (.str (zs [76, 69, 70, 84, 83, 72, 73, 70, 84, 69, 81, 85, 65, 76]) 443), (.int (44) 442)⟩,
    ⟨PyData.keyHash P (zs [82, 73, 71, 72, 84, 83, 72, 73, 70, 84, 69, 81, 85, 65, 76]), (.str (zs [82, 73, 71, 72, 84, 83, 72, 73, 70, 84, 69, 81, 85, 65, 76]) 445), (.int (45) 444)⟩,
    ⟨PyData.keyHash P (zs [68, 79, 85, 66, 76, 69, 83, 84, 65, 82, 69, 81, 85, 65, 76]), (.str (zs [68, 79, 85, 66, 76, 69, 83, 84, 65, 82, 69, 81, 85, 65, 76]) 447), (.int (46) 446)⟩,
    ⟨PyData.keyHash P (zs [68, 79, 85, 66, 76, 69, 83, 76, 65, 83, 72]), (.str (zs [68, 79, 85, 66, 76, 69, 83, 76, 65, 83, 72]) 449), (.int (47) 448)⟩,
    ⟨PyData.keyHash P (zs [68, 79, 85, 66, 76, 69, 83, 76, 65, 83, 72, 69, 81, 85, 65, 76]), (.str (zs [68, 79, 85, 66, 76, 69, 83, 76, 65, 83, 72, 69, 81, 85, 65, 76]) 451), (.int (48) 450)⟩,
    ⟨PyData.keyHash P (zs [65, 84]), (.str (zs [65, 84]) 453), (.int (49) 452)⟩,
    ⟨PyData.keyHash P (zs [65, 84, 69, 81, 85, 65, 76]), (.str (zs [65, 84, 69, 81, 85, 65, 76]) 455), (.int (50) 454)⟩,
    ⟨PyData.keyHash P (zs [82, 65, 82, 82, 79, 87]), (.str (zs [82, 65, 82, 82, 79, 87]) 457), (.int (51) 456)⟩,
    ⟨PyData.keyHash P (zs [69, 76, 76, 73, 80, 83, 73, 83]), (.str (zs [69, 76, 76, 73, 80, 83, 73, 83]) 459), (.int (52) 458)⟩,
    ⟨PyData.keyHash P (zs [67, 79, 76, 79, 78, 69, 81, 85, 65, 76]), (.str (zs [67, 79, 76, 79, 78, 69, 81, 85, 65, 76]) 461), (.int (53) 460)⟩,
    ⟨PyData.keyHash P (zs [69, 88, 67, 76, 65, 77, 65, 84, 73, 79, 78]), (.str (zs [69, 88, 67, 76, 65, 77, 65, 84, 73, 79, 78]) 463), (.int (54) 462)⟩,
    ⟨PyData.keyHash P (zs [78, 84, 95, 79, 70, 70, 83, 69, 84]), (.str (zs [78, 84, 95, 79, 70, 70, 83, 69, 84]) 465), (.int (256) 464)⟩,
    ⟨PyData.keyHash P (zs [69, 88, 65, 67, 84, 95, 84, 79, 75, 69, 78, 95, 84, 89, 80, 69, 83]), (.str (zs [69, 88, 65, 67, 84, 95, 84, 79, 75, 69, 78, 95, 84, 89, 80, 69, 83]) 562), (.ref 66)⟩,
    ⟨PyData.keyHash P (zs [73, 83, 84, 69, 82, 77, 73, 78, 65, 76]), (.str (zs [73, 83, 84, 69, 82, 77, 73, 78, 65, 76]) 569), (.ref 75)⟩,
    ⟨PyData.keyHash P (zs [73, 83, 78, 79, 78, 84, 69, 82, 77, 73, 78, 65, 76]), (.str (zs [73, 83, 78, 79, 78, 84, 69, 82, 77, 73, 78, 65, 76]) 576), (.ref 82)⟩,
    ⟨PyData.keyHash P (zs [73, 83, 69, 79, 70]), (.str (zs [73, 83, 69, 79, 70]) 583), (.ref 89)⟩,
    ⟨PyData.keyHash P (zs [95, 108, 97, 119, 95, 116, 101, 120, 116]), (.str (zs [95, 108, 97, 119, 95, 116, 101, 120, 116]) 594), (.ref 96)⟩,
    ⟨PyData.keyHash P (zs [95, 108, 97, 119, 95, 115, 108, 97, 99, 107, 115]), (.str (zs [95, 108, 97, 119, 95, 115, 108, 97, 99, 107, 115]) 605), (.ref 103)⟩,
    ⟨PyData.keyHash P (zs [95, 108, 97, 119, 95, 99, 104, 97, 105, 110, 115]), (.str (zs [95, 108, 97, 119, 95, 99, 104, 97, 105, 110, 115]) 611), (.ref 108)⟩,
    ⟨PyData.keyHash P (zs [95, 108, 97, 119, 95, 100, 101, 97, 108, 116]), (.str (zs [95, 108, 97, 119, 95, 100, 101, 97, 108, 116]) 617), (.ref 113)⟩,
    ⟨PyData.keyHash P (zs [108, 97, 119]), (.str (zs [108, 97, 119]) 623), (.ref 118)⟩]) 74), #[]⟩),
  (nat_lit 35, ⟨(.type "tuple"), none, (.seq #[(.int (14) 0), (.int (8) 0), (.int (1) 0), (.int (2) 0), (.int (4294967295) 0), (.int (1) 0), (.int (1) 0), (.int (34) 0), (.int (0) 0), (.int (16) 0), (.int (34) 0), (.int (28) 0), (.int (22) 0), (.int (0) 0), (.int (4294967295) 0), (.int (7) 0), (.int (11) 0), (.int (13) 0), (.int (7) 0), (.int (21) 0), (.int (16) 0), (.int (34) 0), (.int (16) 0), (.int (92) 0), (.int (0) 0), (.int (15) 0), (.int (8) 0), (.int (6) 0), (.int (16) 0), (.int (92) 0), (.int (2) 0), (.int (15) 0), (.int (2) 0), (.int (0) 0), (.int (1) 0), (.int (16) 0), (.int (34) 0), (.int (1) 0)] 0), #[]⟩),
  (nat_lit 36, ⟨(.type "re.Pattern"), none, (.fields #[(.bytes #[34, 40, 63, 58, 91, 94, 34, 92, 92, 93, 124, 92, 92, 46, 41, 42, 43, 34] 285), (.int (0) 326), (.int (0) 0), .none, .none, (.ref 35), (.int (1) 0)]), #[]⟩),
  (nat_lit 37, ⟨(.type "tuple"), none, (.seq #[(.int (0) 328)] 0), #[]⟩),
  (nat_lit 43, ⟨(.type "code"), none, (.fields #[(.str (zs [95, 112, 97, 114, 101, 110, 95, 100, 101, 112, 116, 104]) 329), (.str (zs [95, 112, 97, 114, 101, 110, 95, 100, 101, 112, 116, 104]) 330), (.str (zs [47, 99, 108, 97, 105, 109, 47, 99, 117, 116, 46, 112, 121]) 331), (.int (4) 0), (.int (2) 0), (.int (0) 0), (.int (0) 0), (.int (3) 0), (.ref 38), (.bool true), (.int (276) 0), (.ref 39), .none, (.ref 40), (.ref 41), (.ref 42), (.int (334) 0), (.int (4) 0), (.str (zs [47, 99, 108, 97, 105, 109, 47, 99, 117, 116, 46, 112, 121]) 335)]), #[]⟩),
  (nat_lit 44, ⟨(.type "function"), none, (.func { docDef (zs [95, 112, 97, 114, 101, 110, 95, 100, 101, 112, 116, 104]) (paramsOf 0) (bodyOf 0) (scopeOf 0) (.str (zs [99, 112, 121, 51, 49, 51, 46, 105, 109, 97, 112, 108, 105, 98]) 282) (.ref 43) .none with defaults := (.ref 37) }), #[]⟩),
  (nat_lit 50, ⟨(.type "code"), none, (.fields #[(.str (zs [95, 115, 116, 114, 99, 111, 108, 108]) 339), (.str (zs [95, 115, 116, 114, 99, 111, 108, 108]) 340), (.str (zs [47, 99, 108, 97, 105, 109, 47, 99, 117, 116, 46, 112, 121]) 341), (.int (8) 0), (.int (2) 0), (.int (0) 0), (.int (0) 0), (.int (3) 0), (.ref 45), (.bool true), (.int (276) 0), (.ref 46), .none, (.ref 47), (.ref 48), (.ref 49), (.int (344) 0), (.int (8) 0), (.str (zs [47, 99, 108, 97, 105, 109, 47, 99, 117, 116, 46, 112, 121]) 345)]), #[]⟩),
  (nat_lit 51, ⟨(.type "function"), none, (.func { docDef (zs [95, 115, 116, 114, 99, 111, 108, 108]) (paramsOf 1) (bodyOf 1) (scopeOf 1) (.str (zs [99, 112, 121, 51, 49, 51, 46, 108, 111, 99, 97, 108, 101]) 337) (.ref 50) .none with defaults := .none }), #[]⟩),
  (nat_lit 57, ⟨(.type "code"), none, (.fields #[(.str (zs [95, 115, 116, 114, 120, 102, 114, 109]) 347), (.str (zs [95, 115, 116, 114, 120, 102, 114, 109]) 348), (.str (zs [47, 99, 108, 97, 105, 109, 47, 99, 117, 116, 46, 112, 121]) 349), (.int (10) 0), (.int (1) 0), (.int (0) 0), (.int (0) 0), (.int (3) 0), (.ref 52), (.bool true), (.int (276) 0), (.ref 53), .none, (.ref 54), (.ref 55), (.ref 56), (.int (351) 0), (.int (10) 0), (.str (zs [47, 99, 108, 97, 105, 109, 47, 99, 117, 116, 46, 112, 121]) 352)]), #[]⟩),
  (nat_lit 58, ⟨(.type "function"), none, (.func { docDef (zs [95, 115, 116, 114, 120, 102, 114, 109]) (paramsOf 2) (bodyOf 2) (scopeOf 2) (.str (zs [99, 112, 121, 51, 49, 51, 46, 108, 111, 99, 97, 108, 101]) 337) (.ref 57) .none with defaults := .none }), #[]⟩),
  (nat_lit 64, ⟨(.type "code"), none, (.fields #[(.str (zs [95, 115, 116, 114, 105, 112, 95, 112, 97, 100, 100, 105, 110, 103]) 354), (.str (zs [95, 115, 116, 114, 105, 112, 95, 112, 97, 100, 100, 105, 110, 103]) 355), (.str (zs [47, 99, 108, 97, 105, 109, 47, 99, 117, 116, 46, 112, 121]) 356), (.int (12) 0), (.int (2) 0), (.int (0) 0), (.int (0) 0), (.int (3) 0), (.ref 59), (.bool true), (.int (276) 0), (.ref 60), .none, (.ref 61), (.ref 62), (.ref 63), (.int (361) 0), (.int (12) 0), (.str (zs [47, 99, 108, 97, 105, 109, 47, 99, 117, 116, 46, 112, 121]) 362)]), #[]⟩),
  (nat_lit 65, ⟨(.type "function"), none, (.func { docDef (zs [95, 115, 116, 114, 105, 112, 95, 112, 97, 100, 100, 105, 110, 103]) (paramsOf 3) (bodyOf 3) (scopeOf 3) (.str (zs [99, 112, 121, 51, 49, 51, 46, 108, 111, 99, 97, 108, 101]) 337) (.ref 64) .none with defaults := .none }), #[]⟩),
  (nat_lit 66, ⟨(.type "dict"), none, (.dict (List.toArray [⟨PyData.keyHash P (zs [33]), (.str (zs [33]) 466), (.int (54) 462)⟩,
    ⟨PyData.keyHash P (zs [33, 61]), (.str (zs [33, 61]) 468), (.int (28) 410)⟩,
    ⟨PyData.keyHash P (zs [37]), (.str (zs [37]) 470), (.int (24) 402)⟩,
    ⟨PyData.keyHash P (zs [37, 61]), (.str (zs [37, 61]) 472), (.int (40) 434)⟩,
    ⟨PyData.keyHash P (zs [38]), (.str (zs [38]) 474), (.int (19) 392)⟩,
    ⟨PyData.keyHash P (zs [38, 61]), (.str (zs [38, 61]) 476), (.int (41) 436)⟩,
    ⟨PyData.keyHash P (zs [40]), (.str (zs [40]) 478), (.int (7) 368)⟩,
    ⟨PyData.keyHash P (zs [41]), (.str (zs [41]) 480), (.int (8) 370)⟩,
    ⟨PyData.keyHash P (zs [42]), (.str (zs [42]) 482), (.int (16) 386)⟩,
    ⟨PyData.keyHash P (zs [42, 42]), (.str (zs [42, 42]) 484), (.int (35) 424)⟩,
    ⟨PyData.keyHash P (zs [42, 42, 61]), (.str (zs [42, 42, 61]) 486), (.int (46) 446)⟩,
    ⟨PyData.keyHash P (zs [42, 61]), (.str (zs [42, 61]) 488), (.int (38) 430)⟩,
    ⟨PyData.keyHash P (zs [43]), (.str (zs [43]) 490), (.int (14) 382)⟩,
    ⟨PyData.keyHash P (zs [43, 61]), (.str (zs [43, 61]) 492), (.int (36) 426)⟩,
    ⟨PyData.keyHash P (zs [44]), (.str (zs [44]) 494), (.int (12) 378)⟩,
    ⟨PyData.keyHash P (zs [45]), (.str (zs [45]) 496), (.int (15) 384)⟩,
    ⟨PyData.keyHash P (zs [45, 61]), (.str (zs [45, 61]) 498), (.int (37) 428)⟩,
    ⟨PyData.keyHash P (zs [45, 62]), (.str (zs [45, 62]) 500), (.int (51) 456)⟩,
    ⟨PyData.keyHash P (zs [46]), (.str (zs [46]) 502), (.int (23) 400)⟩,
    ⟨PyData.keyHash P (zs [46, 46, 46]), (.str (zs [46, 46, 46]) 504), (.int (52) 458)⟩,
    ⟨PyData.keyHash P (zs [47]), (.str (zs [47]) 506), (.int (17) 388)⟩,
    ⟨PyData.keyHash P (zs [47, 47]), (.str (zs [47, 47]) 508), (.int (47) 448)⟩,
    ⟨PyData.keyHash P (zs [47, 47, 61]), (.str (zs [47, 47, 61]) 510), (.int (48) 450)⟩,
    ⟨PyData.keyHash P (zs [47, 61]), (.str (zs [47, 61]) 512), (.int (39) 432)⟩,
    ⟨PyData.keyHash P (zs [58]), (.str (zs [58]) 514), (.int (11) 376)⟩,
    ⟨PyData.keyHash P (zs [58, 61]), (.str (zs [58, 61]) 516), (.int (53) 460)⟩,
    ⟨PyData.keyHash P (zs [59]), (.str (zs [59]) 518), (.int (13) 380)⟩,
    ⟨PyData.keyHash P (zs [60]), (.str (zs [60]) 520), (.int (20) 394)⟩,
    ⟨PyData.keyHash P (zs [60, 60]), (.str (zs [60, 60]) 522), (.int (33) 420)⟩,
    ⟨PyData.keyHash P (zs [60, 60, 61]), (.str (zs [60, 60, 61]) 524), (.int (44) 442)⟩,
    ⟨PyData.keyHash P (zs [60, 61]), (.str (zs [60, 61]) 526), (.int (29) 412)⟩,
    ⟨PyData.keyHash P (zs [61]), (.str (zs [61]) 528), (.int (22) 398)⟩,
    ⟨PyData.keyHash P (zs [61, 61]), (.str (zs [61, 61]) 530), (.int (27) 408)⟩,
    ⟨PyData.keyHash P (zs [62]), (.str (zs [62]) 532), (.int (21) 396)⟩,
    ⟨PyData.keyHash P (zs [62, 61]), (.str (zs [62, 61]) 534), (.int (30) 414)⟩,
    ⟨PyData.keyHash P (zs [62, 62]), (.str (zs [62, 62]) 535), (.int (34) 422)⟩,
    ⟨PyData.keyHash P (zs [62, 62, 61]), (.str (zs [62, 62, 61]) 536), (.int (45) 444)⟩,
    ⟨PyData.keyHash P (zs [64]), (.str (zs [64]) 537), (.int (49) 452)⟩,
    ⟨PyData.keyHash P (zs [64, 61]), (.str (zs [64, 61]) 538), (.int (50) 454)⟩,
    ⟨PyData.keyHash P (zs [91]), (.str (zs [91]) 539), (.int (9) 372)⟩,
    ⟨PyData.keyHash P (zs [93]), (.str (zs [93]) 540), (.int (10) 374)⟩,
    ⟨PyData.keyHash P (zs [94]), (.str (zs [94]) 541), (.int (32) 418)⟩,
    ⟨PyData.keyHash P (zs [94, 61]), (.str (zs [94, 61]) 542), (.int (43) 440)⟩,
    ⟨PyData.keyHash P (zs [123]), (.str (zs [123]) 543), (.int (25) 404)⟩,
    ⟨PyData.keyHash P (zs [124]), (.str (zs [124]) 544), (.int (18) 390)⟩,
    ⟨PyData.keyHash P (zs [124, 61]), (.str (zs [124, 61]) 545), (.int (42) 438)⟩,
    ⟨PyData.keyHash P (zs [125]), (.str (zs [125]) 546), (.int (26) 406)⟩,
    ⟨PyData.keyHash P (zs [126]), (.str (zs [126]) 547), (.int (31) 416)⟩]) 48), #[]⟩),
  (nat_lit 74, ⟨(.type "code"), none, (.fields #[(.str (zs [73, 83, 84, 69, 82, 77, 73, 78, 65, 76]) 563), (.str (zs [73, 83, 84, 69, 82, 77, 73, 78, 65, 76]) 564), (.str (zs [47, 99, 108, 97, 105, 109, 47, 99, 117, 116, 46, 112, 121]) 565), (.int (74) 0), (.int (1) 0), (.int (0) 0), (.int (0) 0), (.int (3) 0), (.ref 69), (.bool true), (.int (276) 0), (.ref 70), .none, (.ref 71), (.ref 72), (.ref 73), (.int (567) 0), (.int (74) 0), (.str (zs [47, 99, 108, 97, 105, 109, 47, 99, 117, 116, 46, 112, 121]) 568)]), #[]⟩),
  (nat_lit 75, ⟨(.type "function"), none, (.func { docDef (zs [73, 83, 84, 69, 82, 77, 73, 78, 65, 76]) (paramsOf 4) (bodyOf 4) (scopeOf 4) (.str (zs [99, 112, 121, 51, 49, 51, 46, 116, 111, 107, 101, 110]) 364) (.ref 74) .none with defaults := .none }), #[]⟩),
  (nat_lit 81, ⟨(.type "code"), none, (.fields #[(.str (zs [73, 83, 78, 79, 78, 84, 69, 82, 77, 73, 78, 65, 76]) 570), (.str (zs [73, 83, 78, 79, 78, 84, 69, 82, 77, 73, 78, 65, 76]) 571), (.str (zs [47, 99, 108, 97, 105, 109, 47, 99, 117, 116, 46, 112, 121]) 572), (.int (76) 0), (.int (1) 0), (.int (0) 0), (.int (0) 0), (.int (3) 0), (.ref 76), (.bool true), (.int (276) 0), (.ref 77), .none, (.ref 78), (.ref 79), (.ref 80), (.int (574) 0), (.int (76) 0), (.str (zs [47, 99, 108, 97, 105, 109, 47, 99, 117, 116, 46, 112, 121]) 575)]), #[]⟩),
  (nat_lit 82, ⟨(.type "function"), none, (.func { docDef (zs [73, 83, 78, 79, 78, 84, 69, 82, 77, 73, 78, 65, 76]) (paramsOf 5) (bodyOf 5) (scopeOf 5) (.str (zs [99, 112, 121, 51, 49, 51, 46, 116, 111, 107, 101, 110]) 364) (.ref 81) .none with defaults := .none }), #[]⟩),
  (nat_lit 88, ⟨(.type "code"), none, (.fields #[(.str (zs [73, 83, 69, 79, 70]) 577), (.str (zs [73, 83, 69, 79, 70]) 578), (.str (zs [47, 99, 108, 97, 105, 109, 47, 99, 117, 116, 46, 112, 121]) 579), (.int (78) 0), (.int (1) 0), (.int (0) 0), (.int (0) 0), (.int (3) 0), (.ref 83), (.bool true), (.int (276) 0), (.ref 84), .none, (.ref 85), (.ref 86), (.ref 87), (.int (581) 0), (.int (78) 0), (.str (zs [47, 99, 108, 97, 105, 109, 47, 99, 117, 116, 46, 112, 121]) 582)]), #[]⟩),
  (nat_lit 89, ⟨(.type "function"), none, (.func { docDef (zs [73, 83, 69, 79, 70]) (paramsOf 6) (bodyOf 6) (scopeOf 6) (.str (zs [99, 112, 121, 51, 49, 51, 46, 116, 111, 107, 101, 110]) 364) (.ref 88) .none with defaults := .none }), #[]⟩),
  (nat_lit 95, ⟨(.type "code"), none, (.fields #[(.str (zs [95, 108, 97, 119, 95, 116, 101, 120, 116]) 586), (.str (zs [95, 108, 97, 119, 95, 116, 101, 120, 116]) 587), (.str (zs [47, 99, 108, 97, 105, 109, 47, 99, 117, 116, 46, 112, 121]) 588), (.int (81) 0), (.int (2) 0), (.int (0) 0), (.int (0) 0), (.int (3) 0), (.ref 90), (.bool true), (.int (276) 0), (.ref 91), .none, (.ref 92), (.ref 93), (.ref 94), (.int (592) 0), (.int (81) 0), (.str (zs [47, 99, 108, 97, 105, 109, 47, 99, 117, 116, 46, 112, 121]) 593)]), #[]⟩),
  (nat_lit 96, ⟨(.type "function"), none, (.func { docDef (zs [95, 108, 97, 119, 95, 116, 101, 120, 116]) (paramsOf 7) (bodyOf 7) (scopeOf 7) (.str (zs [108, 97, 119, 95, 121, 102, 48, 48, 49, 54, 95, 48, 49]) 584) (.ref 95) .none with defaults := .none }), #[]⟩),
  (nat_lit 102, ⟨(.type "code"), none, (.fields #[(.str (zs [95, 108, 97, 119, 95, 115, 108, 97, 99, 107, 115]) 595), (.str (zs [95, 108, 97, 119, 95, 115, 108, 97, 99, 107, 115]) 596), (.str (zs [47, 99, 108, 97, 105, 109, 47, 99, 117, 116, 46, 112, 121]) 597), (.int (84) 0), (.int (2) 0), (.int (0) 0), (.int (0) 0), (.int (3) 0), (.ref 97), (.bool true), (.int (276) 0), (.ref 98), .none, (.ref 99), (.ref 100), (.ref 101), (.int (603) 0), (.int (84) 0), (.str (zs [47, 99, 108, 97, 105, 109, 47, 99, 117, 116, 46, 112, 121]) 604)]), #[]⟩),
  (nat_lit 103, ⟨(.type "function"), none, (.func { docDef (zs [95, 108, 97, 119, 95, 115, 108, 97, 99, 107, 115]) (paramsOf 8) (bodyOf 8) (scopeOf 8) (.str (zs [108, 97, 119, 95, 121, 102, 48, 48, 49, 54, 95, 48, 49]) 584) (.ref 102) .none with defaults := .none }), #[]⟩),
  (nat_lit 107, ⟨(.type "code"), none, (.fields #[(.str (zs [95, 108, 97, 119, 95, 99, 104, 97, 105, 110, 115]) 606), (.str (zs [95, 108, 97, 119, 95, 99, 104, 97, 105, 110, 115]) 607), (.str (zs [47, 99, 108, 97, 105, 109, 47, 99, 117, 116, 46, 112, 121]) 608), (.int (91) 0), (.int (1) 0), (.int (0) 0), (.int (0) 0), (.int (3) 0), (.ref 104), (.bool true), (.int (276) 0), (.ref 105), .none, .none, .none, (.ref 106), (.int (609) 0), (.int (91) 0), (.str (zs [47, 99, 108, 97, 105, 109, 47, 99, 117, 116, 46, 112, 121]) 610)]), #[]⟩),
  (nat_lit 108, ⟨(.type "function"), none, (.func { docDef (zs [95, 108, 97, 119, 95, 99, 104, 97, 105, 110, 115]) (paramsOf 9) (bodyOf 9) (scopeOf 9) (.str (zs [108, 97, 119, 95, 121, 102, 48, 48, 49, 54, 95, 48, 49]) 584) (.ref 107) .none with defaults := .none }), #[]⟩),
  (nat_lit 112, ⟨(.type "code"), none, (.fields #[(.str (zs [95, 108, 97, 119, 95, 100, 101, 97, 108, 116]) 612), (.str (zs [95, 108, 97, 119, 95, 100, 101, 97, 108, 116]) 613), (.str (zs [47, 99, 108, 97, 105, 109, 47, 99, 117, 116, 46, 112, 121]) 614), (.int (99) 0), (.int (1) 0), (.int (0) 0), (.int (0) 0), (.int (3) 0), (.ref 109), (.bool true), (.int (276) 0), (.ref 110), .none, .none, .none, (.ref 111), (.int (615) 0), (.int (99) 0), (.str (zs [47, 99, 108, 97, 105, 109, 47, 99, 117, 116, 46, 112, 121]) 616)]), #[]⟩),
  (nat_lit 113, ⟨(.type "function"), none, (.func { docDef (zs [95, 108, 97, 119, 95, 100, 101, 97, 108, 116]) (paramsOf 10) (bodyOf 10) (scopeOf 10) (.str (zs [108, 97, 119, 95, 121, 102, 48, 48, 49, 54, 95, 48, 49]) 584) (.ref 112) .none with defaults := .none }), #[]⟩),
  (nat_lit 117, ⟨(.type "code"), none, (.fields #[(.str (zs [108, 97, 119]) 618), (.str (zs [108, 97, 119]) 619), (.str (zs [47, 99, 108, 97, 105, 109, 47, 99, 117, 116, 46, 112, 121]) 620), (.int (109) 0), (.int (1) 0), (.int (0) 0), (.int (0) 0), (.int (3) 0), (.ref 114), (.bool true), (.int (276) 0), (.ref 115), .none, .none, .none, (.ref 116), (.int (621) 0), (.int (109) 0), (.str (zs [47, 99, 108, 97, 105, 109, 47, 99, 117, 116, 46, 112, 121]) 622)]), #[]⟩),
  (nat_lit 118, ⟨(.type "function"), none, (.func { docDef (zs [108, 97, 119]) (paramsOf 11) (bodyOf 11) (scopeOf 11) (.str (zs [108, 97, 119, 95, 121, 102, 48, 48, 49, 54, 95, 48, 49]) 584) (.ref 117) .none with defaults := .none }), #[]⟩)]
noncomputable def fragAs : List Addr := [3, 35, 36, 37, 43, 44, 50, 51, 57, 58, 64, 65, 66, 74, 75, 81, 82, 88, 89, 95, 96, 102, 103, 107, 108, 112, 113, 117, 118]
noncomputable def keepL : List Nat := [0, 2, 5, 6, 7, 9, 10, 11, 12, 13, 14, 15, 16, 17, 18, 19, 20, 21, 22, 23, 24, 25, 26, 27, 28, 29, 30, 31, 32, 33, 34, 35, 36, 37, 38, 39, 40, 41, 42, 43, 44, 45, 46, 47, 48, 49, 50, 51, 52, 53, 54, 55, 56, 57, 58, 59, 60, 61, 62, 64, 65, 66, 67, 68]
noncomputable abbrev progL : Program := PySem.Challenge.rw_yf0016_01.row.prog
noncomputable def viewL : Program := view progL keepL
end Mine
end
section
set_option maxRecDepth 1000000
namespace Mine
noncomputable def heapA (P : Params) : Heap := ⟨#[
  ⟨(.type "dict"), none, (.dict (List.toArray [⟨PyData.keyHash P (zs [95, 95, 110, 97, 109, 101, 95, 95]), (.str (zs [95, 95, 110, 97, 109, 101, 95, 95]) 1), (.str (zs [98, 117, 105, 108, 116, 105, 110, 115]) 160)⟩,
    ⟨PyData.keyHash P (zs [95, 95, 100, 111, 99, 95, 95]), (.str (zs [95, 95, 100, 111, 99, 95, 95]) 2), (.builtin "builtins.__doc__:str#opaque")⟩,
    ⟨PyData.keyHash P (zs [95, 95, 112, 97, 99, 107, 97, 103, 101, 95, 95]), (.str (zs [95, 95, 112, 97, 99, 107, 97, 103, 101, 95, 95]) 3), (.builtin "builtins.__package__:str#opaque")⟩,
    ⟨PyData.keyHash P (zs [95, 95, 108, 111, 97, 100, 101, 114, 95, 95]), (.str (zs [95, 95, 108, 111, 97, 100, 101, 114, 95, 95]) 4), (.builtin "builtins.__loader__:shared#opaque")⟩,
    ⟨PyData.keyHash P (zs [95, 95, 115, 112, 101, 99, 95, 95]), (.str (zs [95, 95, 115, 112, 101, 99, 95, 95]) 5), (.builtin "builtins.__spec__#opaque")⟩,
    ⟨PyData.keyHash P (zs [95, 95, 98, 117, 105, 108, 100, 95, 99, 108, 97, 115, 115, 95, 95]), (.str (zs [95, 95, 98, 117, 105, 108, 100, 95, 99, 108, 97, 115, 115, 95, 95]) 6), (.builtin "__build_class__")⟩,
    ⟨PyData.keyHash P (zs [95, 95, 105, 109, 112, 111, 114, 116, 95, 95]), (.str (zs [95, 95, 105, 109, 112, 111, 114, 116, 95, 95]) 7), (.builtin "__import__")⟩,
    ⟨PyData.keyHash P (zs [97, 98, 115]), (.str (zs [97, 98, 115]) 8), (.builtin "abs")⟩,
    ⟨PyData.keyHash P (zs [97, 108, 108]), (.str (zs [97, 108, 108]) 9), (.builtin "all")⟩,
    ⟨PyData.keyHash P (zs [97, 110, 121]), (.str (zs [97, 110, 121]) 10), (.builtin "any")⟩,
    ⟨PyData.keyHash P (zs [97, 115, 99, 105, 105]), (.str (zs [97, 115, 99, 105, 105]) 11), (.builtin "ascii")⟩,
    ⟨PyData.keyHash P (zs [98, 105, 110]), (.str (zs [98, 105, 110]) 12), (.builtin "bin")⟩,
    ⟨PyData.keyHash P (zs [98, 114, 101, 97, 107, 112, 111, 105, 110, 116]), (.str (zs [98, 114, 101, 97, 107, 112, 111, 105, 110, 116]) 13), (.builtin "breakpoint")⟩,
    ⟨PyData.keyHash P (zs [99, 97, 108, 108, 97, 98, 108, 101]), (.str (zs [99, 97, 108, 108, 97, 98, 108, 101]) 14), (.builtin "callable")⟩,
    ⟨PyData.keyHash P (zs [99, 104, 114]), (.str (zs [99, 104, 114]) 15), (.builtin "chr")⟩,
    ⟨PyData.keyHash P (zs [99, 111, 109, 112, 105, 108, 101]), (.str (zs [99, 111, 109, 112, 105, 108, 101]) 16), (.builtin "compile")⟩,
    ⟨PyData.keyHash P (zs [100, 101, 108, 97, 116, 116, 114]), (.str (zs [100, 101, 108, 97, 116, 116, 114]) 17), (.builtin "delattr")⟩,
    ⟨PyData.keyHash P (zs [100, 105, 114]), (.str (zs [100, 105, 114]) 18), (.builtin "dir")⟩,
    ⟨PyData.keyHash P (zs [100, 105, 118, 109, 111, 100]), (.str (zs [100, 105, 118, 109, 111, 100]) 19), (.builtin "divmod")⟩,
    ⟨PyData.keyHash P (zs [101, 118, 97, 108]), (.str (zs [101, 118, 97, 108]) 20), (.builtin "eval")⟩,
    ⟨PyData.keyHash P (zs [101, 120, 101, 99]), (.str (zs [101, 120, 101, 99]) 21), (.builtin "exec")⟩,
    ⟨PyData.keyHash P (zs [102, 111, 114, 109, 97, 116]), (.str (zs [102, 111, 114, 109, 97, 116]) 22), (.builtin "format")⟩,
    ⟨PyData.keyHash P (zs [103, 101, 116, 97, 116, 116, 114]), (.str (zs [103, 101, 116, 97, 116, 116, 114]) 23), (.builtin "getattr")⟩,
    ⟨PyData.keyHash P (zs [103, 108, 111, 98, 97, 108, 115]), (.str (zs [103, 108, 111, 98, 97, 108, 115]) 24), (.builtin "globals")⟩,
    ⟨PyData.keyHash P (zs [104, 97, 115, 97, 116, 116, 114]), (.str (zs [104, 97, 115, 97, 116, 116, 114]) 25), (.builtin "hasattr")⟩,
    ⟨PyData.keyHash P (zs [104, 97, 115, 104]), (.str (zs [104, 97, 115, 104]) 26), (.builtin "hash")⟩,
    ⟨PyData.keyHash P (zs [104, 101, 120]), (.str (zs [104, 101, 120]) 27), (.builtin "hex")⟩,
    ⟨PyData.keyHash P (zs [105, 100]), (.str (zs [105, 100]) 28), (.builtin "id")⟩,
    ⟨PyData.keyHash P (zs [105, 110, 112, 117, 116]), (.str (zs [105, 110, 112, 117, 116]) 29), (.builtin "input")⟩,
    ⟨PyData.keyHash P (zs [105, 115, 105, 110, 115, 116, 97, 110, 99, 101]), (.str (zs [105, 115, 105, 110, 115, 116, 97, 110, 99, 101]) 30), (.builtin "isinstance")⟩,
    ⟨PyData.keyHash P (zs [105, 115, 115, 117, 98, 99, 108, 97, 115, 115]), (.str (zs [105, 115, 115, 117, 98, 99, 108, 97, 115, 115]) 31), (.builtin "issubclass")⟩,
    ⟨PyData.keyHash P (zs [105, 116, 101, 114]), (.str (zs [105, 116, 101, 114]) 32), (.builtin "iter")⟩,
    ⟨PyData.keyHash P (zs [97, 105, 116, 101, 114]), (.str (zs [97, 105, 116, 101, 114]) 33), (.builtin "aiter")⟩,
    ⟨PyData.keyHash P (zs [108, 101, 110]), (.str (zs [108, 101, 110]) 34), (.builtin "len")⟩,
    ⟨PyData.keyHash P (zs [108, 111, 99, 97, 108, 115]), (.str (zs [108, 111, 99, 97, 108, 115]) 35), (.builtin "locals")⟩,
    ⟨PyData.keyHash P (zs [109, 97, 120]), (.str (zs [109, 97, 120]) 36), (.builtin "max")⟩,
    ⟨PyData.keyHash P (zs [109, 105, 110]), (.str (zs [109, 105, 110]) 37), (.builtin "min")⟩,
    ⟨PyData.keyHash P (zs [110, 101, 120, 116]), (.str (zs [110, 101, 120, 116]) 38), (.builtin "next")⟩,
    ⟨PyData.keyHash P (zs [97, 110, 101, 120, 116]), (.str (zs [97, 110, 101, 120, 116]) 39), (.builtin "anext")⟩,
    ⟨PyData.keyHash P (zs [111, 99, 116]), (.str (zs [111, 99, 116]) 40), (.builtin "oct")⟩,
    ⟨PyData.keyHash P (zs [111, 114, 100]), (.str (zs [111, 114, 100]) 41), (.builtin "ord")⟩,
    ⟨PyData.keyHash P (zs [112, 111, 119]), (.str (zs [112, 111, 119]) 42), (.builtin "pow")⟩,
    ⟨PyData.keyHash P (zs [112, 114, 105, 110, 116]), (.str (zs [112, 114, 105, 110, 116]) 43), (.builtin "print")⟩,
    ⟨PyData.keyHash P (zs [114, 101, 112, 114]), (.str (zs [114, 101, 112, 114]) 44), (.builtin "repr")⟩,
    ⟨PyData.keyHash P (zs [114, 111, 117, 110, 100]), (.str (zs [114, 111, 117, 110, 100]) 45), (.builtin "round")⟩,
    ⟨PyData.keyHash P (zs [115, 101, 116, 97, 116, 116, 114]), (.str (zs [115, 101, 116, 97, 116, 116, 114]) 46), (.builtin "setattr")⟩,
    ⟨PyData.keyHash P (zs [115, 111, 114, 116, 101, 100]), (.str (zs [115, 111, 114, 116, 101, 100]) 47), (.builtin "sorted")⟩,
    ⟨PyData.keyHash P (zs [115, 117, 109]), (.str (zs [115, 117, 109]) 48), (.builtin "sum")⟩,
    ⟨PyData.keyHash P (zs [118, 97, 114, 115]), (.str (zs [118, 97, 114, 115]) 49), (.builtin "vars")⟩,
    ⟨PyData.keyHash P (zs [78, 111, 110, 101]), (.str (zs [78, 111, 110, 101]) 50), .none⟩,
    ⟨PyData.keyHash P (zs [69, 108, 108, 105, 112, 115, 105, 115]), (.str (zs [69, 108, 108, 105, 112, 115, 105, 115]) 51), .ellipsis⟩,
    ⟨PyData.keyHash P (zs [78, 111, 116, 73, 109, 112, 108, 101, 109, 101, 110, 116, 101, 100]), (.str (zs [78, 111, 116, 73, 109, 112, 108, 101, 109, 101, 110, 116, 101, 100]) 52), .notImplemented⟩,
    ⟨PyData.keyHash P (zs [70, 97, 108, 115, 101]), (.str (zs [70, 97, 108, 115, 101]) 53), (.bool false)⟩,
    ⟨PyData.keyHash P (zs [84, 114, 117, 101]), (.str (zs [84, 114, 117, 101]) 54), (.bool true)⟩,
    ⟨PyData.keyHash P (zs [98, 111, 111, 108]), (.str (zs [98, 111, 111, 108]) 55), (.type "bool")⟩,
    ⟨PyData.keyHash P (zs [109, 101, 109, 111, 114, 121, 118, 105, 101, 119]), (.str (zs [109, 101, 109, 111, 114, 121, 118, 105, 101, 119]) 56), (.type "memoryview")⟩,
    ⟨PyData.keyHash P (zs [98, 121, 116, 101, 97, 114, 114, 97, 121]), (.str (zs [98, 121, 116, 101, 97, 114, 114, 97, 121]) 57), (.type "bytearray")⟩,
    ⟨PyData.keyHash P (zs [98, 121, 116, 101, 115]), (.str (zs [98, 121, 116, 101, 115]) 58), (.type "bytes")⟩,
    ⟨PyData.keyHash P (zs [99, 108, 97, 115, 115, 109, 101, 116, 104, 111, 100]), (.str (zs [99, 108, 97, 115, 115, 109, 101, 116, 104, 111, 100]) 59), (.type "classmethod")⟩,
    ⟨PyData.keyHash P (zs [99, 111, 109, 112, 108, 101, 120]), (.str (zs [99, 111, 109, 112, 108, 101, 120]) 60), (.type "complex")⟩,
    ⟨PyData.keyHash P (zs [100, 105, 99, 116]), (.str (zs [100, 105, 99, 116]) 61), (.type "dict")⟩,
    ⟨PyData.keyHash P (zs [101, 110, 117, 109, 101, 114, 97, 116, 101]), (.str (zs [101, 110, 117, 109, 101, 114, 97, 116, 101]) 62), (.type "enumerate")⟩,
    ⟨PyData.keyHash P (zs [102, 105, 108, 116, 101, 114]), (.str (zs [102, 105, 108, 116, 101, 114]) 63), (.type "filter")⟩,
    ⟨PyData.keyHash P (zs [102, 108, 111, 97, 116]), (.str (zs [102, 108, 111, 97, 116]) 64), (.type "float")⟩,
    ⟨PyData.keyHash P (zs [102, 114, 111, 122, 101, 110, 115, 101, 116]), (.str (zs [102, 114, 111, 122, 101, 110, 115, 101, 116]) 65), (.type "frozenset")⟩,
    ⟨PyData.keyHash P (zs [112, 114, 111, 112, 101, 114, 116, 121]), (.str (zs [112, 114, 111, 112, 101, 114, 116, 121]) 66), (.type "property")⟩,
    ⟨PyData.keyHash P (zs [105, 110, 116]), (.str (zs [105, 110, 116]) 67), (.type "int")⟩,
    ⟨PyData.keyHash P (zs [108, 105, 115, 116]), (.str (zs [108, 105, 115, 116]) 68), (.type "list")⟩,
    ⟨PyData.keyHash P (zs [109, 97, 112]), (.str (zs [109, 97, 112]) 69), (.type "map")⟩,
    ⟨PyData.keyHash P (zs [111, 98, 106, 101, 99, 116]), (.str (zs [111, 98, 106, 101, 99, 116]) 70), (.type "object")⟩,
    ⟨PyData.keyHash P (zs [114, 97, 110, 103, 101]), (.str (zs [114, 97, 110, 103, 101]) 71), (.type "range")⟩,
    ⟨PyData.keyHash P (zs [114, 101, 118, 101, 114, 115, 101, 100]), (.str (zs [114, 101, 118, 101, 114, 115, 101, 100]) 72), (.type "reversed")⟩,
    ⟨PyData.keyHash P (zs [115, 101, 116]), (.str (zs [115, 101, 116]) 73), (.type "set")⟩,
    ⟨PyData.keyHash P (zs [115, 108, 105, 99, 101]), (.str (zs [115, 108, 105, 99, 101]) 74), (.type "slice")⟩,
    ⟨PyData.keyHash P (zs [115, 116, 97, 116, 105, 99, 109, 101, 116, 104, 111, 100]), (.str (zs [115, 116, 97, 116, 105, 99, 109, 101, 116, 104, 111, 100]) 75), (.type "staticmethod")⟩,
    ⟨PyData.keyHash P (zs [115, 116, 114]), (.str (zs [115, 116, 114]) 76), (.type "str")⟩,
    ⟨PyData.keyHash P (zs [115, 117, 112, 101, 114]), (.str (zs [115, 117, 112, 101, 114]) 77), (.type "super")⟩,
    ⟨PyData.keyHash P (zs [116, 117, 112, 108, 101]), (.str (zs [116, 117, 112, 108, 101]) 78), (.type "tuple")⟩,
    ⟨PyData.keyHash P (zs [116, 121, 112, 101]), (.str (zs [116, 121, 112, 101]) 79), (.type "type")⟩,
    ⟨PyData.keyHash P (zs [122, 105, 112]), (.str (zs [122, 105, 112]) 80), (.type "zip")⟩,
    ⟨PyData.keyHash P (zs [95, 95, 100, 101, 98, 117, 103, 95, 95]), (.str (zs [95, 95, 100, 101, 98, 117, 103, 95, 95]) 81), (.bool true)⟩,
    ⟨PyData.keyHash P (zs [66, 97, 115, 101, 69, 120, 99, 101, 112, 116, 105, 111, 110]), (.str (zs [66, 97, 115, 101, 69, 120, 99, 101, 112, 116, 105, 111, 110]) 82), (.type "BaseException")⟩,
    ⟨PyData.keyHash P (zs [66, 97, 115, 101, 69, 120, 99, 101, 112, 116, 105, 111, 110, 71, 114, 111, 117, 112]), (.str (zs [66, 97, 115, 101, 69, 120, 99, 101, 112, 116, 105, 111, 110, 71, 114, 111, 117, 112]) 83), (.type "BaseExceptionGroup")⟩,
    ⟨PyData.keyHash P (zs [69, 120, 99, 101, 112, 116, 105, 111, 110]), (.str (zs [69, 120, 99, 101, 112, 116, 105, 111, 110]) 84), (.type "Exception")⟩,
    ⟨PyData.keyHash P (zs [71, 101, 110, 101, 114, 97, 116, 111, 114, 69, 120, 105, 116]), (.str (zs [71, 101, 110, 101, 114, 97, 116, 111, 114, 69, 120, 105, 116]) 85), (.type "GeneratorExit")⟩,
    ⟨PyData.keyHash P (zs [75, 101, 121, 98, 111, 97, 114, 100, 73, 110, 116, 101, 114, 114, 117, 112, 116]), (.str (zs [75, 101, 121, 98, 111, 97, 114, 100, 73, 110, 116, 101, 114, 114, 117, 112, 116]) 86), (.type "KeyboardInterrupt")⟩,
    ⟨PyData.keyHash P (zs [83, 121, 115, 116, 101, 109, 69, 120, 105, 116]), (.str (zs [83, 121, 115, 116, 101, 109, 69, 120, 105, 116]) 87), (.type "SystemExit")⟩,
    ⟨PyData.keyHash P (zs [65, 114, 105, 116, 104, 109, 101, 116, 105, 99, 69, 114, 114, 111, 114]), (.str (zs [65, 114, 105, 116, 104, 109, 101, 116, 105, 99, 69, 114, 114, 111, 114]) 88), (.type "ArithmeticError")⟩,
    ⟨PyData.keyHash P (zs [65, 115, 115, 101, 114, 116, 105, 111, 110, 69, 114, 114, 111, 114]), (.str (zs [65, 115, 115, 101, 114, 116, 105, 111, 110, 69, 114, 114, 111, 114]) 89), (.type "AssertionError")⟩,
    ⟨PyData.keyHash P (zs [65, 116, 116, 114, 105, 98, 117, 116, 101, 69, 114, 114, 111, 114]), (.str (zs [65, 116, 116, 114, 105, 98, 117, 116, 101, 69, 114, 114, 111, 114]) 90), (.type "AttributeError")⟩,
    ⟨PyData.keyHash P (zs [66, 117, 102, 102, 101, 114, 69, 114, 114, 111, 114]), (.str (zs [66, 117, 102, 102, 101, 114, 69, 114, 114, 111, 114]) 91), (.type "BufferError")⟩,
    ⟨PyData.keyHash P (zs [69, 79, 70, 69, 114, 114, 111, 114]), (.str (zs [69, 79, 70, 69, 114, 114, 111, 114]) 92), (.type "EOFError")⟩,
    ⟨PyData.keyHash P (zs [73, 109, 112, 111, 114, 116, 69, 114, 114, 111, 114]), (.str (zs [73, 109, 112, 111, 114, 116, 69, 114, 114, 111, 114]) 93), (.type "ImportError")⟩,
    ⟨PyData.keyHash P (zs [76, 111, 111, 107, 117, 112, 69, 114, 114, 111, 114]), (.str (zs [76, 111, 111, 107, 117, 112, 69, 114, 114, 111, 114]) 94), (.type "LookupError")⟩,
    ⟨PyData.keyHash P (zs [77, 101, 109, 111, 114, 121, 69, 114, 114, 111, 114]), (.str (zs [77, 101, 109, 111, 114, 121, 69, 114, 114, 111, 114]) 95), (.type "MemoryError")⟩,
    ⟨PyData.keyHash P (zs [78, 97, 109, 101, 69, 114, 114, 111, 114]), (.str (zs [78, 97, 109, 101, 69, 114, 114, 111, 114]) 96), (.type "NameError")⟩,
    ⟨PyData.keyHash P (zs [79, 83, 69, 114, 114, 111, 114]), (.str (zs [79, 83, 69, 114, 114, 111, 114]) 97), (.type "OSError")⟩,
    ⟨PyData.keyHash P (zs [82, 101, 102, 101, 114, 101, 110, 99, 101, 69, 114, 114, 111, 114]), (.str (zs [82, 101, 102, 101, 114, 101, 110, 99, 101, 69, 114, 114, 111, 114]) 98), (.type "ReferenceError")⟩,
    ⟨PyData.keyHash P (zs [82, 117, 110, 116, 105, 109, 101, 69, 114, 114, 111, 114]), (.str (zs [82, 117, 110, 116, 105, 109, 101, 69, 114, 114, 111, 114]) 99), (.type "RuntimeError")⟩,
    ⟨PyData.keyHash P (zs [83, 116, 111, 112, 65, 115, 121, 110, 99, 73, 116, 101, 114, 97, 116, 105, 111, 110]), (.str (zs [83, 116, 111, 112, 65, 115, 121, 110, 99, 73, 116, 101, 114, 97, 116, 105, 111, 110]) 100), (.type "StopAsyncIteration")⟩,
    ⟨PyData.keyHash P (zs [83, 116, 111, 112, 73, 116, 101, 114, 97, 116, 105, 111, 110]), (.str (zs [83, 116, 111, 112, 73, 116, 101, 114, 97, 116, 105, 111, 110]) 101), (.type "StopIteration")⟩,
    ⟨PyData.keyHash P (zs [83, 121, 110, 116, 97, 120, 69, 114, 114, 111, 114]), (.str (zs [83, 121, 110, 116, 97, 120, 69, 114, 114, 111, 114]) 102), (.type "SyntaxError")⟩,
    ⟨PyData.keyHash P (zs [83, 121, 115, 116, 101, 109, 69, 114, 114, 111, 114]), (.str (zs [83, 121, 115, 116, 101, 109, 69, 114, 114, 111, 114]) 103), (.type "SystemError")⟩,
    ⟨PyData.keyHash P (zs [84, 121, 112, 101, 69, 114, 114, 111, 114]), (.str (zs [84, 121, 112, 101, 69, 114, 114, 111, 114]) 104), (.type "TypeError")⟩,
    ⟨PyData.keyHash P (zs [86, 97, 108, 117, 101, 69, 114, 114, 111, 114]), (.str (zs [86, 97, 108, 117, 101, 69, 114, 114, 111, 114]) 105), (.type "ValueError")⟩,
    ⟨PyData.keyHash P (zs [87, 97, 114, 110, 105, 110, 103]), (.str (zs [87, 97, 114, 110, 105, 110, 103]) 106), (.type "Warning")⟩,
    ⟨PyData.keyHash P (zs [70, 108, 111, 97, 116, 105, 110, 103, 80, 111, 105, 110, 116, 69, 114, 114, 111, 114]), (.str (zs [70, 108, 111, 97, 116, 105, 110, 103, 80, 111, 105, 110, 116, 69, 114, 114, 111, 114]) 107), (.type "FloatingPointError")⟩,
    ⟨PyData.keyHash P (zs [79, 118, 101, 114, 102, 108, 111, 119, 69, 114, 114, 111, 114]), (.str (zs [79, 118, 101, 114, 102, 108, 111, 119, 69, 114, 114, 111, 114]) 108), (.type "OverflowError")⟩,
    ⟨PyData.keyHash P (zs [90, 101, 114, 111, 68, 105, 118, 105, 115, 105, 111, 110, 69, 114, 114, 111, 114]), (.str (zs [90, 101, 114, 111, 68, 105, 118, 105, 115, 105, 111, 110, 69, 114, 114, 111, 114]) 109), (.type "ZeroDivisionError")⟩,
    ⟨PyData.keyHash P (zs [66, 121, 116, 101, 115, 87, 97, 114, 110, 105, 110, 103]), (.str (zs [66, 121, 116, 101, 115, 87, 97, 114, 110, 105, 110, 103]) 110), (.type "BytesWarning")⟩,
    ⟨PyData.keyHash P (zs [68, 101, 112, 114, 101, 99, 97, 116, 105, 111, 110, 87, 97, 114, 110, 105, 110, 103]), (.str (zs [68, 101, 112, 114, 101, 99, 97, 116, 105, 111, 110, 87, 97, 114, 110, 105, 110, 103]) 111), (.type "DeprecationWarning")⟩,
    ⟨PyData.keyHash P (zs [69, 110, 99, 111, 100, 105, 110, 103, 87, 97, 114, 110, 105, 110, 103]), (.str (zs [69, 110, 99, 111, 100, 105, 110, 103, 87, 97, 114, 110, 105, 110, 103]) 112), (.type "EncodingWarning")⟩,
    ⟨PyData.keyHash P (zs [70, 117, 116, 117, 114, 101, 87, 97, 114, 110, 105, 110, 103]), (.str (zs [70, 117, 116, 117, 114, 101, 87, 97, 114, 110, 105, 110, 103]) 113), (.type "FutureWarning")⟩,
    ⟨PyData.keyHash P (zs [73, 109, 112, 111, 114, 116, 87, 97, 114, 110, 105, 110, 103]), (.str (zs [73, 109, 112, 111, 114, 116, 87, 97, 114, 110, 105, 110, 103]) 114), (.type "ImportWarning")⟩,
    ⟨PyData.keyHash P (zs [80, 101, 110, 100, 105, 110, 103, 68, 101, 112, 114, 101, 99, 97, 116, 105, 111, 110, 87, 97, 114, 110, 105, 110, 103]), (.str (zs [80, 101, 110, 100, 105, 110, 103, 68, 101, 112, 114, 101, 99, 97, 116, 105, 111, 110, 87, 97, 114, 110, 105, 110, 103]) 115), (.type "PendingDeprecationWarning")⟩,
    ⟨PyData.keyHash P (zs [82, 101, 115, 111, 117, 114, 99, 101, 87, 97, 114, 110, 105, 110, 103]), (.str (zs [82, 101, 115, 111, 117, 114, 99, 101, 87, 97, 114, 110, 105, 110, 103]) 116), (.type "ResourceWarning")⟩,
    ⟨PyData.keyHash P (zs [82, 117, 110, 116, 105, 109, 101, 87, 97, 114, 110, 105, 110, 103]), (.str (zs [82, 117, 110, 116, 105, 109, 101, 87, 97, 114, 110, 105, 110, 103]) 117), (.type "RuntimeWarning")⟩,
    ⟨PyData.keyHash P (zs [83, 121, 110, 116, 97, 120, 87, 97, 114, 110, 105, 110, 103]), (.str (zs [83, 121, 110, 116, 97, 120, 87, 97, 114, 110, 105, 110, 103]) 118), (.type "SyntaxWarning")⟩,
    ⟨PyData.keyHash P (zs [85, 110, 105, 99, 111, 100, 101, 87, 97, 114, 110, 105, 110, 103]), (.str (zs [85, 110, 105, 99, 111, 100, 101, 87, 97, 114, 110, 105, 110, 103]) 119), (.type "UnicodeWarning")⟩,
    ⟨PyData.keyHash P (zs [85, 115, 101, 114, 87, 97, 114, 110, 105, 110, 103]), (.str (zs [85, 115, 101, 114, 87, 97, 114, 110, 105, 110, 103]) 120), (.type "UserWarning")⟩,
    ⟨PyData.keyHash P (zs [66, 108, 111, 99, 107, 105, 110, 103, 73, 79, 69, 114, 114, 111, 114]), (.str (zs [66, 108, 111, 99, 107, 105, 110, 103, 73, 79, 69, 114, 114, 111, 114]) 121), (.type "BlockingIOError")⟩,
    ⟨PyData.keyHash P (zs [67, 104, 105, 108, 100, 80, 114, 111, 99, 101, 115, 115, 69, 114, 114, 111, 114]), (.str (zs [67, 104, 105, 108, 100, 80, 114, 111, 99, 101, 115, 115, 69, 114, 114, 111, 114]) 122), (.type "ChildProcessError")⟩,
    ⟨PyData.keyHash P (zs [67, 111, 110, 110, 101, 99, 116, 105, 111, 110, 69, 114, 114, 111, 114]), (.str (zs [67, 111, 110, 110, 101, 99, 116, 105, 111, 110, 69, 114, 114, 111, 114]) 123), (.type "ConnectionError")⟩,
    ⟨PyData.keyHash P (zs [70, 105, 108, 101, 69, 120, 105, 115, 116, 115, 69, 114, 114, 111, 114]), (.str (zs [70, 105, 108, 101, 69, 120, 105, 115, 116, 115, 69, 114, 114, 111, 114]) 124), (.type "FileExistsError")⟩,
    ⟨PyData.keyHash P (zs [70, 105, 108, 101, 78, 111, 116, 70, 111, 117, 110, 100, 69, 114, 114, 111, 114]), (.str (zs [70, 105, 108, 101, 78, 111, 116, 70, 111, 117, 110, 100, 69, 114, 114, 111, 114]) 125), (.type "FileNotFoundError")⟩,
    ⟨PyData.keyHash P (zs [73, 110, 116, 101, 114, 114, 117, 112, 116, 101, 100, 69, 114, 114, 111, 114]), (.str (zs [73, 110, 116, 101, 114, 114, 117, 112, 116, 101, 100, 69, 114, 114, 111, 114]) 126), (.type "InterruptedError")⟩,
    ⟨PyData.keyHash P (zs [73, 115, 65, 68, 105, 114, 101, 99, 116, 111, 114, 121, 69, 114, 114, 111, 114]), (.str (zs [73, 115, 65, 68, 105, 114, 101, 99, 116, 111, 114, 121, 69, 114, 114, 111, 114]) 127), (.type "IsADirectoryError")⟩,
    ⟨PyData.keyHash P (zs [78, 111, 116, 65, 68, 105, 114, 101, 99, 116, 111, 114, 121, 69, 114, 114, 111, 114]), (.str (zs [78, 111, 116, 65, 68, 105, 114, 101, 99, 116, 111, 114, 121, 69, 114, 114, 111, 114]) 128), (.type "NotADirectoryError")⟩,
    ⟨PyData.keyHash P (zs [80, 101, 114, 109, 105, 115, 115, 105, 111, 110, 69, 114, 114, 111, 114]), (.str (zs [80, 101, 114, 109, 105, 115, 115, 105, 111, 110, 69, 114, 114, 111, 114]) 129), (.type "PermissionError")⟩,
    ⟨PyData.keyHash P (zs [80, 114, 111, 99, 101, 115, 115, 76, 111, 111, 107, 117, 112, 69, 114, 114, 111, 114]), (.str (zs [80, 114, 111, 99, 101, 115, 115, 76, 111, 111, 107, 117, 112, 69, 114, 114, 111, 114]) 130), (.type "ProcessLookupError")⟩,
    ⟨PyData.keyHash P (zs [84, 105, 109, 101, 111, 117, 116, 69, 114, 114, 111, 114]), (.str (zs [84, 105, 109, 101, 111, 117, 116, 69, 114, 114, 111, 114]) 131), (.type "TimeoutError")⟩,
    ⟨PyData.keyHash P (zs [73, 110, 100, 101, 110, 116, 97, 116, 105, 111, 110, 69, 114, 114, 111, 114]), (.str (zs [73, 110, 100, 101, 110, 116, 97, 116, 105, 111, 110, 69, 114, 114, 111, 114]) 132), (.type "IndentationError")⟩,
    ⟨PyData.keyHash P (zs [95, 73, 110, 99, 111, 109, 112, 108, 101, 116, 101, 73, 110, 112, 117, 116, 69, 114, 114, 111, 114]), (.str (zs [95, 73, 110, 99, 111, 109, 112, 108, 101, 116, 101, 73, 110, 112, 117, 116, 69, 114, 114, 111, 114]) 133), (.type "_IncompleteInputError")⟩,
    ⟨PyData.keyHash P (zs [73, 110, 100, 101, 120, 69, 114, 114, 111, 114]), (.str (zs [73, 110, 100, 101, 120, 69, 114, 114, 111, 114]) 134), (.type "IndexError")⟩,
    ⟨PyData.keyHash P (zs [75, 101, 121, 69, 114, 114, 111, 114]), (.str (zs [75, 101, 121, 69, 114, 114, 111, 114]) 135), (.type "KeyError")⟩,
    ⟨PyData.keyHash P (zs [77, 111, 100, 117, 108, 101, 78, 111, 116, 70, 111, 117, 110, 100, 69, 114, 114, 111, 114]), (.str (zs [77, 111, 100, 117, 108, 101, 78, 111, 116, 70, 111, 117, 110, 100, 69, 114, 114, 111, 114]) 136), (.type "ModuleNotFoundError")⟩,
    ⟨PyData.keyHash P (zs [78, 111, 116, 73, 109, 112, 108, 101, 109, 101, 110, 116, 101, 100, 69, 114, 114, 111, 114]), (.str (zs [78, 111, 116, 73, 109, 112, 108, 101, 109, 101, 110, 116, 101, 100, 69, 114, 114, 111, 114]) 137), (.type "NotImplementedError")⟩,
    ⟨PyData.keyHash P (zs [80, 121, 116, 104, 111, 110, 70, 105, 110, 97, 108, 105, 122, 97, 116, 105, 111, 110, 69, 114, 114, 111, 114]), (.str (zs [80, 121, 116, 104, 111, 110, 70, 105, 110, 97, 108, 105, 122, 97, 116, 105, 111, 110, 69, 114, 114, 111, 114]) 138), (.type "PythonFinalizationError")⟩,
    ⟨PyData.keyHash P (zs [82, 101, 99, 117, 114, 115, 105, 111, 110, 69, 114, 114, 111, 114]), (.str (zs [82, 101, 99, 117, 114, 115, 105, 111, 110, 69, 114, 114, 111, 114]) 139), (.type "RecursionError")⟩,
    ⟨PyData.keyHash P (zs [85, 110, 98, 111, 117, 110, 100, 76, 111, 99, 97, 108, 69, 114, 114, 111, 114]), (.str (zs [85, 110, 98, 111, 117, 110, 100, 76, 111, 99, 97, 108, 69, 114, 114, 111, 114]) 140), (.type "UnboundLocalError")⟩,
    ⟨PyData.keyHash P (zs [85, 110, 105, 99, 111, 100, 101, 69, 114, 114, 111, 114]), (.str (zs [85, 110, 105, 99, 111, 100, 101, 69, 114, 114, 111, 114]) 141), (.type "UnicodeError")⟩,
    ⟨PyData.keyHash P (zs [66, 114, 111, 107, 101, 110, 80, 105, 112, 101, 69, 114, 114, 111, 114]), (.str (zs [66, 114, 111, 107, 101, 110, 80, 105, 112, 101, 69, 114, 114, 111, 114]) 142), (.type "BrokenPipeError")⟩,
    ⟨PyData.keyHash P (zs [67, 111, 110, 110, 101, 99, 116, 105, 111, 110, 65, 98, 111, 114, 116, 101, 100, 69, 114, 114, 111, 114]), (.str (zs [67, 111, 110, 110, 101, 99, 116, 105, 111, 110, 65, 98, 111, 114, 116, 101, 100, 69, 114, 114, 111, 114]) 143), (.type "ConnectionAbortedError")⟩,
    ⟨PyData.keyHash P (zs [67, 111, 110, 110, 101, 99, 116, 105, 111, 110, 82, 101, 102, 117, 115, 101, 100, 69, 114, 114, 111, 114]), (.str (zs [67, 111, 110, 110, 101, 99, 116, 105, 111, 110, 82, 101, 102, 117, 115, 101, 100, 69, 114, 114, 111, 114]) 144), (.type "ConnectionRefusedError")⟩,
    ⟨PyData.keyHash P (zs [67, 111, 110, 110, 101, 99, 116, 105, 111, 110, 82, 101, 115, 101, 116, 69, 114, 114, 111, 114]), (.str (zs [67, 111, 110, 110, 101, 99, 116, 105, 111, 110, 82, 101, 115, 101, 116, 69, 114, 114, 111, 114]) 145), (.type "ConnectionResetError")⟩,
    ⟨PyData.keyHash P (zs [84, 97, 98, 69, 114, 114, 111, 114]), (.str (zs [84, 97, 98, 69, 114, 114, 111, 114]) 146), (.type "TabError")⟩,
    ⟨PyData.keyHash P (zs [85, 110, 105, 99, 111, 100, 101, 68, 101, 99, 111, 100, 101, 69, 114, 114, 111, 114]), (.str (zs [85, 110, 105, 99, 111, 100, 101, 68, 101, 99, 111, 100, 101, 69, 114, 114, 111, 114]) 147), (.type "UnicodeDecodeError")⟩,
    ⟨PyData.keyHash P (zs [85, 110, 105, 99, 111, 100, 101, 69, 110, 99, 111, 100, 101, 69, 114, 114, 111, 114]), (.str (zs [85, 110, 105, 99, 111, 100, 101, 69, 110, 99, 111, 100, 101, 69, 114, 114, 111, 114]) 148), (.type "UnicodeEncodeError")⟩,
    ⟨PyData.keyHash P (zs [85, 110, 105, 99, 111, 100, 101, 84, 114, 97, 110, 115, 108, 97, 116, 101, 69, 114, 114, 111, 114]), (.str (zs [85, 110, 105, 99, 111, 100, 101, 84, 114, 97, 110, 115, 108, 97, 116, 101, 69, 114, 114, 111, 114]) 149), (.type "UnicodeTranslateError")⟩,
    ⟨PyData.keyHash P (zs [69, 120, 99, 101, 112, 116, 105, 111, 110, 71, 114, 111, 117, 112]), (.str (zs [69, 120, 99, 101, 112, 116, 105, 111, 110, 71, 114, 111, 117, 112]) 150), (.type "ExceptionGroup")⟩,
    ⟨PyData.keyHash P (zs [69, 110, 118, 105, 114, 111, 110, 109, 101, 110, 116, 69, 114, 114, 111, 114]), (.str (zs [69, 110, 118, 105, 114, 111, 110, 109, 101, 110, 116, 69, 114, 114, 111, 114]) 151), (.type "OSError")⟩,
    ⟨PyData.keyHash P (zs [73, 79, 69, 114, 114, 111, 114]), (.str (zs [73, 79, 69, 114, 114, 111, 114]) 152), (.type "OSError")⟩,
    ⟨PyData.keyHash P (zs [111, 112, 101, 110]), (.str (zs [111, 112, 101, 110]) 153), (.builtin "open")⟩,
    ⟨PyData.keyHash P (zs [113, 117, 105, 116]), (.str (zs [113, 117, 105, 116]) 154), (.builtin "builtins.quit#opaque")⟩,
    ⟨PyData.keyHash P (zs [101, 120, 105, 116]), (.str (zs [101, 120, 105, 116]) 155), (.builtin "builtins.exit#opaque")⟩,
    ⟨PyData.keyHash P (zs [99, 111, 112, 121, 114, 105, 103, 104, 116]), (.str (zs [99, 111, 112, 121, 114, 105, 103, 104, 116]) 156), (.builtin "builtins.copyright#opaque")⟩,
    ⟨PyData.keyHash P (zs [99, 114, 101, 100, 105, 116, 115]), (.str (zs [99, 114, 101, 100, 105, 116, 115]) 157), (.builtin "builtins.credits#opaque")⟩,
    ⟨PyData.keyHash P (zs [108, 105, 99, 101, 110, 115, 101]), (.str (zs [108, 105, 99, 101, 110, 115, 101]) 158), (.builtin "builtins.license#opaque")⟩,
    ⟨PyData.keyHash P (zs [104, 101, 108, 112]), (.str (zs [104, 101, 108, 112]) 159), (.builtin "builtins.help#opaque")⟩]) 159), #[]⟩,
  ⟨(.type "dict"), none, (.dict (List.toArray [⟨PyData.keyHash P (zs [98, 117, 105, 108, 116, 105, 110, 115]), (.str (zs [98, 117, 105, 108, 116, 105, 110, 115]) 162), (.ref 4)⟩,
    ⟨PyData.keyHash P (zs [95, 95, 109, 97, 105, 110, 95, 95]), (.str (zs [95, 95, 109, 97, 105, 110, 95, 95]) 163), (.ref 5)⟩,
    ⟨PyData.keyHash P (zs [95, 115, 114, 101]), (.str (zs [95, 115, 114, 101]) 244), (.ref 12)⟩]) 3), #[]⟩,
  ⟨.none, none, (.dict (List.toArray [⟨PyData.keyHash P (zs [105, 109, 112, 111, 114, 116, 46, 108, 111, 97, 100, 101, 100, 46, 95, 115, 114, 101]), (.str (zs [105, 109, 112, 111, 114, 116, 46, 108, 111, 97, 100, 101, 100, 46, 95, 115, 114, 101]) 183), (.bool true)⟩,
    ⟨PyData.keyHash P (zs [99, 108, 97, 115, 115, 46, 95, 102, 114, 111, 122, 101, 110, 95, 105, 109, 112, 111, 114, 116, 108, 105, 98, 46, 66, 117, 105, 108, 116, 105, 110, 73, 109, 112, 111, 114, 116, 101, 114]), (.str (zs [99, 108, 97, 115, 115, 46, 95, 102, 114, 111, 122, 101, 110, 95, 105, 109, 112, 111, 114, 116, 108, 105, 98, 46, 66, 117, 105, 108, 116, 105, 110, 73, 109, 112, 111, 114, 116, 101, 114]) 185), (.ref 14)⟩,
    ⟨PyData.keyHash P (zs [119, 97, 116, 99, 104, 101, 100, 46, 105, 109, 112, 111, 114, 116]), (.str (zs [119, 97, 116, 99, 104, 101, 100, 46, 105, 109, 112, 111, 114, 116]) 206), (.ref 18)⟩,
    ⟨PyData.keyHash P (zs [99, 108, 97, 115, 115, 46, 95, 102, 114, 111, 122, 101, 110, 95, 105, 109, 112, 111, 114, 116, 108, 105, 98, 46, 77, 111, 100, 117, 108, 101, 83, 112, 101, 99]), (.str (zs [99, 108, 97, 115, 115, 46, 95, 102, 114, 111, 122, 101, 110, 95, 105, 109, 112, 111, 114, 116, 108, 105, 98, 46, 77, 111, 100, 117, 108, 101, 83, 112, 101, 99]) 216), (.ref 22)⟩,
    ⟨PyData.keyHash P (zs [115, 121, 115, 46, 109, 111, 100, 117, 108, 101, 115, 46, 98, 111, 111, 107, 101, 100, 45, 101, 112, 111, 99, 104]), (.str (zs [115, 121, 115, 46, 109, 111, 100, 117, 108, 101, 115, 46, 98, 111, 111, 107, 101, 100, 45, 101, 112, 111, 99, 104]) 245), (.int (3) 0)⟩,
    ⟨PyData.keyHash P (zs [105, 109, 112, 111, 114, 116, 46, 108, 97, 116, 101, 114, 45, 108, 97, 105, 100, 46, 95, 115, 114, 101]), (.str (zs [105, 109, 112, 111, 114, 116, 46, 108, 97, 116, 101, 114, 45, 108, 97, 105, 100, 46, 95, 115, 114, 101]) 270), (.bool true)⟩,
    ⟨PyData.keyHash P (zs [119, 97, 116, 99, 104, 101, 100, 46, 108, 105, 98, 114, 97, 114, 121]), (.str (zs [119, 97, 116, 99, 104, 101, 100, 46, 108, 105, 98, 114, 97, 114, 121]) 272), (.ref 27)⟩,
    ⟨PyData.keyHash P (zs [119, 97, 116, 99, 104, 101, 100, 46, 108, 105, 98, 114, 97, 114, 121, 45, 111, 98, 106, 101, 99, 116, 115]), (.str (zs [119, 97, 116, 99, 104, 101, 100, 46, 108, 105, 98, 114, 97, 114, 121, 45, 111, 98, 106, 101, 99, 116, 115]) 0), (.str (zs [12]) 0)⟩,
    ⟨PyData.keyHash P (zs [119, 97, 116, 99, 104, 101, 100, 46, 108, 105, 98, 114, 97, 114, 121, 45, 100, 101, 101, 112, 46, 95, 115, 114, 101]), (.str (zs [119, 97, 116, 99, 104, 101, 100, 46, 108, 105, 98, 114, 97, 114, 121, 45, 100, 101, 101, 112, 46, 95, 115, 114, 101]) 273), (.str (zs [4, 0, 0, 11, 4, 0, 0, 11, 4, 0, 0, 3, 4, 0, 0, 11, 8, 4, 100, 105, 99, 116, 2]) 0)⟩]) 9), #[]⟩,
  ⟨(.type "dict"), none, (.dict (List.toArray [⟨PyData.keyHash P (zs [95, 95, 110, 97, 109, 101, 95, 95]), (.str (zs [95, 95, 110, 97, 109, 101, 95, 95]) 165), (.str (zs [95, 95, 109, 97, 105, 110, 95, 95]) 164)⟩,
    ⟨PyData.keyHash P (zs [95, 95, 100, 111, 99, 95, 95]), (.str (zs [95, 95, 100, 111, 99, 95, 95]) 166), .none⟩,
    ⟨PyData.keyHash P (zs [95, 95, 112, 97, 99, 107, 97, 103, 101, 95, 95]), (.str (zs [95, 95, 112, 97, 99, 107, 97, 103, 101, 95, 95]) 167), .none⟩,
    ⟨PyData.keyHash P (zs [95, 95, 108, 111, 97, 100, 101, 114, 95, 95]), (.str (zs [95, 95, 108, 111, 97, 100, 101, 114, 95, 95]) 168), (.builtin "__main__.__loader__#opaque")⟩,
    ⟨PyData.keyHash P (zs [95, 95, 115, 112, 101, 99, 95, 95]), (.str (zs [95, 95, 115, 112, 101, 99, 95, 95]) 169), .none⟩,
    ⟨PyData.keyHash P (zs [95, 95, 97, 110, 110, 111, 116, 97, 116, 105, 111, 110, 115, 95, 95]), (.str (zs [95, 95, 97, 110, 110, 111, 116, 97, 116, 105, 111, 110, 115, 95, 95]) 170), (.ref 6)⟩,
    ⟨PyData.keyHash P (zs [95, 95, 98, 117, 105, 108, 116, 105, 110, 115, 95, 95]), (.str (zs [95, 95, 98, 117, 105, 108, 116, 105, 110, 115, 95, 95]) 171), (.ref 4)⟩,
    ⟨PyData.keyHash P (zs [95, 95, 102, 105, 108, 101, 95, 95]), (.str (zs [95, 95, 102, 105, 108, 101, 95, 95]) 173), (.str (zs [47, 99, 108, 97, 105, 109, 47, 99, 117, 116, 46, 112, 121]) 172)⟩,
    ⟨PyData.keyHash P (zs [95, 95, 99, 97, 99, 104, 101, 100, 95, 95]), (.str (zs [95, 95, 99, 97, 99, 104, 101, 100, 95, 95]) 174), .none⟩,
    ⟨PyData.keyHash P (zs [95, 115, 114, 101]), (.str (zs [95, 115, 114, 101]) 275), (.ref 12)⟩]) 10), #[]⟩,
  ⟨(.type "module"), (some 0), .plain, #[]⟩,
  ⟨(.type "module"), (some 3), .plain, #[]⟩,
  ⟨(.type "dict"), none, (.dict (List.toArray []) 0), #[]⟩,
  ⟨(.type "tuple"), none, (.seq #[] 0), #[]⟩,
  ⟨.none, none, (.fields #[]), #[]⟩,
  ⟨(.type "code"), none, (.fields #[(.str (zs [60, 109, 111, 100, 117, 108, 101, 62]) 176), (.str (zs [60, 109, 111, 100, 117, 108, 101, 62]) 177), (.str (zs [47, 99, 108, 97, 105, 109, 47, 99, 117, 116, 46, 112, 121]) 178), (.int (1) 0), (.int (0) 0), (.int (0) 0), (.int (0) 0), (.int (0) 0), (.ref 7), (.bool false), (.int (175) 0), (.ref 8), .none, .none, .none, .none, (.int (179) 0), (.int (1) 0), (.str (zs [47, 99, 108, 97, 105, 109, 47, 99, 117, 116, 46, 112, 121]) 180)]), #[]⟩,
  ⟨(.type "frame"), none, .plain, #[(.some (.ref 9)), (.some (.ref 3)), (.some (.ref 3)), .none, (.some (.str (zs [95, 95, 109, 97, 105, 110, 95, 95]) 164)), .none, (.some (.ref 0))]⟩,
  ⟨(.type "dict"), none, (.dict (List.toArray [⟨PyData.keyHash P (zs [95, 95, 110, 97, 109, 101, 95, 95]), (.str (zs [95, 95, 110, 97, 109, 101, 95, 95]) 247), (.str (zs [95, 115, 114, 101]) 246)⟩,
    ⟨PyData.keyHash P (zs [95, 95, 100, 111, 99, 95, 95]), (.str (zs [95, 95, 100, 111, 99, 95, 95]) 248), .none⟩,
    ⟨PyData.keyHash P (zs [95, 95, 112, 97, 99, 107, 97, 103, 101, 95, 95]), (.str (zs [95, 95, 112, 97, 99, 107, 97, 103, 101, 95, 95]) 250), (.str (zs []) 249)⟩,
    ⟨PyData.keyHash P (zs [95, 95, 108, 111, 97, 100, 101, 114, 95, 95]), (.str (zs [95, 95, 108, 111, 97, 100, 101, 114, 95, 95]) 251), (.builtin "off-the-table:_sre.__loader__:shared#opaque")⟩,
    ⟨PyData.keyHash P (zs [95, 95, 115, 112, 101, 99, 95, 95]), (.str (zs [95, 95, 115, 112, 101, 99, 95, 95]) 252), (.builtin "off-the-table:_sre.__spec__:shared#opaque")⟩,
    ⟨PyData.keyHash P (zs [99, 111, 109, 112, 105, 108, 101]), (.str (zs [99, 111, 109, 112, 105, 108, 101]) 253), (.builtin "_sre.compile")⟩,
    ⟨PyData.keyHash P (zs [116, 101, 109, 112, 108, 97, 116, 101]), (.str (zs [116, 101, 109, 112, 108, 97, 116, 101]) 254), (.builtin "off-the-table:_sre.template:shared#opaque")⟩,
    ⟨PyData.keyHash P (zs [103, 101, 116, 99, 111, 100, 101, 115, 105, 122, 101]), (.str (zs [103, 101, 116, 99, 111, 100, 101, 115, 105, 122, 101]) 255), (.builtin "off-the-table:_sre.getcodesize:shared#opaque")⟩,
    ⟨PyData.keyHash P (zs [97, 115, 99, 105, 105, 95, 105, 115, 99, 97, 115, 101, 100]), (.str (zs [97, 115, 99, 105, 105, 95, 105, 115, 99, 97, 115, 101, 100]) 256), (.builtin "off-the-table:_sre.ascii_iscased:shared#opaque")⟩,
    ⟨PyData.keyHash P (zs [117, 110, 105, 99, 111, 100, 101, 95, 105, 115, 99, 97, 115, 101, 100]), (.str (zs [117, 110, 105, 99, 111, 100, 101, 95, 105, 115, 99, 97, 115, 101, 100]) 257), (.builtin "off-the-table:_sre.unicode_iscased:shared#opaque")⟩,
    ⟨PyData.keyHash P (zs [97, 115, 99, 105, 105, 95, 116, 111, 108, 111, 119, 101, 114]), (.str (zs [97, 115, 99, 105, 105, 95, 116, 111, 108, 111, 119, 101, 114]) 258), (.builtin "off-the-table:_sre.ascii_tolower:shared#opaque")⟩,
    ⟨PyData.keyHash P (zs [117, 110, 105, 99, 111, 100, 101, 95, 116, 111, 108, 111, 119, 101, 114]), (.str (zs [117, 110, 105, 99, 111, 100, 101, 95, 116, 111, 108, 111, 119, 101, 114]) 259), (.builtin "off-the-table:_sre.unicode_tolower:shared#opaque")⟩,
    ⟨PyData.keyHash P (zs [77, 65, 71, 73, 67]), (.str (zs [77, 65, 71, 73, 67]) 261), (.int (20230612) 260)⟩,
    ⟨PyData.keyHash P (zs [67, 79, 68, 69, 83, 73, 90, 69]), (.str (zs [67, 79, 68, 69, 83, 73, 90, 69]) 263), (.int (4) 262)⟩,
    ⟨PyData.keyHash P (zs [77, 65, 88, 82, 69, 80, 69, 65, 84]), (.str (zs [77, 65, 88, 82, 69, 80, 69, 65, 84]) 265), (.int (4294967295) 264)⟩,
    ⟨PyData.keyHash P (zs [77, 65, 88, 71, 82, 79, 85, 80, 83]), (.str (zs [77, 65, 88, 71, 82, 79, 85, 80, 83]) 267), (.int (1073741823) 266)⟩,
    ⟨PyData.keyHash P (zs [99, 111, 112, 121, 114, 105, 103, 104, 116]), (.str (zs [99, 111, 112, 121, 114, 105, 103, 104, 116]) 269), (.str (zs [32, 83, 82, 69, 32, 50, 46, 50, 46, 50, 32, 67, 111, 112, 121, 114, 105, 103, 104, 116, 32, 40, 99, 41, 32, 49, 57, 57, 55, 45, 50, 48, 48, 50, 32, 98, 121, 32, 83, 101, 99, 114, 101, 116, 32, 76, 97, 98, 115, 32, 65, 66, 32]) 268)⟩]) 17), #[]⟩,
  ⟨(.type "module"), (some 11), .plain, #[]⟩,
  ⟨(.type "dict"), none, (.dict (List.toArray [⟨PyData.keyHash P (zs [95, 95, 109, 111, 100, 117, 108, 101, 95, 95]), (.str (zs [95, 95, 109, 111, 100, 117, 108, 101, 95, 95]) 189), (.str (zs [95, 102, 114, 111, 122, 101, 110, 95, 105, 109, 112, 111, 114, 116, 108, 105, 98]) 186)⟩,
    ⟨PyData.keyHash P (zs [95, 95, 102, 105, 114, 115, 116, 108, 105, 110, 101, 110, 111, 95, 95]), (.str (zs [95, 95, 102, 105, 114, 115, 116, 108, 105, 110, 101, 110, 111, 95, 95]) 190), (.int (971) 187)⟩,
    ⟨PyData.keyHash P (zs [95, 95, 100, 111, 99, 95, 95]), (.str (zs [95, 95, 100, 111, 99, 95, 95]) 191), (.builtin "_frozen_importlib.BuiltinImporter.__doc__:str#opaque")⟩,
    ⟨PyData.keyHash P (zs [95, 79, 82, 73, 71, 73, 78]), (.str (zs [95, 79, 82, 73, 71, 73, 78]) 192), (.str (zs [98, 117, 105, 108, 116, 45, 105, 110]) 188)⟩,
    ⟨PyData.keyHash P (zs [102, 105, 110, 100, 95, 115, 112, 101, 99]), (.str (zs [102, 105, 110, 100, 95, 115, 112, 101, 99]) 193), (.builtin "_frozen_importlib.BuiltinImporter.find_spec#opaque")⟩,
    ⟨PyData.keyHash P (zs [99, 114, 101, 97, 116, 101, 95, 109, 111, 100, 117, 108, 101]), (.str (zs [99, 114, 101, 97, 116, 101, 95, 109, 111, 100, 117, 108, 101]) 194), (.builtin "_frozen_importlib.BuiltinImporter.create_module#opaque")⟩,
    ⟨PyData.keyHash P (zs [101, 120, 101, 99, 95, 109, 111, 100, 117, 108, 101]), (.str (zs [101, 120, 101, 99, 95, 109, 111, 100, 117, 108, 101]) 195), (.builtin "_frozen_importlib.BuiltinImporter.exec_module#opaque")⟩,
    ⟨PyData.keyHash P (zs [103, 101, 116, 95, 99, 111, 100, 101]), (.str (zs [103, 101, 116, 95, 99, 111, 100, 101]) 196), (.builtin "_frozen_importlib.BuiltinImporter.get_code#opaque")⟩,
    ⟨PyData.keyHash P (zs [103, 101, 116, 95, 115, 111, 117, 114, 99, 101]), (.str (zs [103, 101, 116, 95, 115, 111, 117, 114, 99, 101]) 197), (.builtin "_frozen_importlib.BuiltinImporter.get_source#opaque")⟩,
    ⟨PyData.keyHash P (zs [105, 115, 95, 112, 97, 99, 107, 97, 103, 101]), (.str (zs [105, 115, 95, 112, 97, 99, 107, 97, 103, 101]) 198), (.builtin "_frozen_importlib.BuiltinImporter.is_package#opaque")⟩,
    ⟨PyData.keyHash P (zs [108, 111, 97, 100, 95, 109, 111, 100, 117, 108, 101]), (.str (zs [108, 111, 97, 100, 95, 109, 111, 100, 117, 108, 101]) 199), (.builtin "_frozen_importlib.BuiltinImporter.load_module#opaque")⟩,
    ⟨PyData.keyHash P (zs [95, 95, 115, 116, 97, 116, 105, 99, 95, 97, 116, 116, 114, 105, 98, 117, 116, 101, 115, 95, 95]), (.str (zs [95, 95, 115, 116, 97, 116, 105, 99, 95, 97, 116, 116, 114, 105, 98, 117, 116, 101, 115, 95, 95]) 200), (.ref 15)⟩,
    ⟨PyData.keyHash P (zs [95, 95, 100, 105, 99, 116, 95, 95]), (.str (zs [95, 95, 100, 105, 99, 116, 95, 95]) 202), (.ref 16)⟩,
    ⟨PyData.keyHash P (zs [95, 95, 119, 101, 97, 107, 114, 101, 102, 95, 95]), (.str (zs [95, 95, 119, 101, 97, 107, 114, 101, 102, 95, 95]) 204), (.ref 17)⟩]) 14), #[]⟩,
  ⟨(.type "type"), none, (.cls ⟨"BuiltinImporter", [(.type "object")], [(.ref 14), (.type "object")], 13, "BuiltinImporter", true, [], [], false, .none, false⟩), #[]⟩,
  ⟨(.type "tuple"), none, (.seq #[] 0), #[]⟩,
  ⟨(.type "getset_descriptor"), none, (.fields #[(.str (zs [95, 95, 100, 105, 99, 116, 95, 95]) 201), (.ref 14), (.builtin "function.__dict__"), (.builtin "function.__dict__#set")]), #[]⟩,
  ⟨(.type "getset_descriptor"), none, (.fields #[(.str (zs [95, 95, 119, 101, 97, 107, 114, 101, 102, 95, 95]) 203), (.ref 14), (.builtin "ExceptionGroup.__weakref__"), .none]), #[]⟩,
  ⟨.none, none, (.seq #[(.int (13) 0), (.str (zs [6, 189, 10, 95, 95, 109, 111, 100, 117, 108, 101, 95, 95, 6, 186, 17, 95, 102, 114, 111, 122, 101, 110, 95, 105, 109, 112, 111, 114, 116, 108, 105, 98, 6, 190, 15, 95, 95, 102, 105, 114, 115, 116, 108, 105, 110, 101, 110, 111, 95, 95, 4, 187, 0, 971, 6, 191, 7, 95, 95, 100, 111, 99, 95, 95, 9, 52, 95, 102, 114, 111, 122, 101, 110, 95, 105, 109, 112, 111, 114, 116, 108, 105, 98, 46, 66, 117, 105, 108, 116, 105, 110, 73, 109, 112, 111, 114, 116, 101, 114, 46, 95, 95, 100, 111, 99, 95, 95, 58, 115, 116, 114, 35, 111, 112, 97, 113, 117, 101, 6, 192, 7, 95, 79, 82, 73, 71, 73, 78, 6, 188, 8, 98, 117, 105, 108, 116, 45, 105, 110, 6, 193, 9, 102, 105, 110, 100, 95, 115, 112, 101, 99, 9, 50, 95, 102, 114, 111, 122, 101, 110, 95, 105, 109, 112, 111, 114, 116, 108, 105, 98, 46, 66, 117, 105, 108, 116, 105, 110, 73, 109, 112, 111, 114, 116, 101, 114, 46, 102, 105, 110, 100, 95, 115, 112, 101, 99, 35, 111, 112, 97, 113, 117, 101, 6, 194, 13, 99, 114, 101, 97, 116, 101, 95, 109, 111, 100, 117, 108, 101, 9, 54, 95, 102, 114, 111, 122, 101, 110, 95, 105, 109, 112, 111, 114, 116, 108, 105, 98, 46, 66, 117, 105, 108, 116, 105, 110, 73, 109, 112, 111, 114, 116, 101, 114, 46, 99, 114, 101, 97, 116, 101, 95, 109, 111, 100, 117, 108, 101, 35, 111, 112, 97, 113, 117, 101, 6, 195, 11, 101, 120, 101, 99, 95, 109, 111, 100, 117, 108, 101, 9, 52, 95, 102, 114, 111, 122, 101, 110, 95, 105, 109, 112, 111, 114, 116, 108, 105, 98, 46, 66, 117, 105, 108, 116, 105, 110, 73, 109, 112, 111, 114, 116, 101, 114, 46, 101, 120, 101, 99, 95, 109, 111, 100, 117, 108, 101, 35, 111, 112, 97, 113, 117, 101, 6, 196, 8, 103, 101, 116, 95, 99, 111, 100, 101, 9, 49, 95, 102, 114, 111, 122, 101, 110, 95, 105, 109, 112, 111, 114, 116, 108, 105, 98, 46, 66, 117, 105, 108, 116, 105, 110, 73, 109, 112, 111, 114, 116, 101, 114, 46, 103, 101, 116, 95, 99, 111, 100, 101, 35, 111, 112, 97, 113, 117, 101, 6, 197, 10, 103, 101, 116, 95, 115, 111, 117, 114, 99, 101, 9, 51, 95, 102, 114, 111, 122, 101, 110, 95, 105, 109, 112, 111, 114, 116, 108, 105, 98, 46, 66, 117, 105, 108, 116, 105, 110, 73, 109, 112, 111, 114, 116, 101, 114, 46, 103, 101, 116, 95, 115, 111, 117, 114, 99, 101, 35, 111, 112, 97, 113, 117, 101, 6, 198, 10, 105, 115, 95, 112, 97, 99, 107, 97, 103, 101, 9, 51, 95, 102, 114, 111, 122, 101, 110, 95, 105, 109, 112, 111, 114, 116, 108, 105, 98, 46, 66, 117, 105, 108, 116, 105, 110, 73, 109, 112, 111, 114, 116, 101, 114, 46, 105, 115, 95, 112, 97, 99, 107, 97, 103, 101, 35, 111, 112, 97, 113, 117, 101, 6, 199, 11, 108, 111, 97, 100, 95, 109, 111, 100, 117, 108, 101, 9, 52, 95, 102, 114, 111, 122, 101, 110, 95, 105, 109, 112, 111, 114, 116, 108, 105, 98, 46, 66, 117, 105, 108, 116, 105, 110, 73, 109, 112, 111, 114, 116, 101, 114, 46, 108, 111, 97, 100, 95, 109, 111, 100, 117, 108, 101, 35, 111, 112, 97, 113, 117, 101, 6, 200, 21, 95, 95, 115, 116, 97, 116, 105, 99, 95, 97, 116, 116, 114, 105, 98, 117, 116, 101, 115, 95, 95, 4, 0, 0, 15, 6, 202, 8, 95, 95, 100, 105, 99, 116, 95, 95, 4, 0, 0, 16, 6, 204, 11, 95, 95, 119, 101, 97, 107, 114, 101, 102, 95, 95, 4, 0, 0, 17]) 0), (.bool true), (.bool true), (.str (zs []) 205), (.int (21) 0), (.str (zs [6, 227, 10, 95, 95, 109, 111, 100, 117, 108, 101, 95, 95, 6, 217, 17, 95, 102, 114, 111, 122, 101, 110, 95, 105, 109, 112, 111, 114, 116, 108, 105, 98, 6, 228, 15, 95, 95, 102, 105, 114, 115, 116, 108, 105, 110, 101, 110, 111, 95, 95, 4, 218, 0, 562, 6, 229, 7, 95, 95, 100, 111, 99, 95, 95, 9, 47, 95, 102, 114, 111, 122, 101, 110, 95, 105, 109, 112, 111, 114, 116, 108, 105, 98, 46, 77, 111, 100, 117, 108, 101, 83, 112, 101, 99, 46, 95, 95, 100, 111, 99, 95, 95, 58, 115, 116, 114, 35, 111, 112, 97, 113, 117, 101, 6, 230, 8, 95, 95, 105, 110, 105, 116, 95, 95, 9, 44, 95, 102, 114, 111, 122, 101, 110, 95, 105, 109, 112, 111, 114, 116, 108, 105, 98, 46, 77, 111, 100, 117, 108, 101, 83, 112, 101, 99, 46, 95, 95, 105, 110, 105, 116, 95, 95, 35, 111, 112, 97, 113, 117, 101, 6, 231, 8, 95, 95, 114, 101, 112, 114, 95, 95, 9, 44, 95, 102, 114, 111, 122, 101, 110, 95, 105, 109, 112, 111, 114, 116, 108, 105, 98, 46, 77, 111, 100, 117, 108, 101, 83, 112, 101, 99, 46, 95, 95, 114, 101, 112, 114, 95, 95, 35, 111, 112, 97, 113, 117, 101, 6, 232, 6, 95, 95, 101, 113, 95, 95, 9, 42, 95, 102, 114, 111, 122, 101, 110, 95, 105, 109, 112, 111, 114, 116, 108, 105, 98, 46, 77, 111, 100, 117, 108, 101, 83, 112, 101, 99, 46, 95, 95, 101, 113, 95, 95, 35, 111, 112, 97, 113, 117, 101, 6, 233, 6, 99, 97, 99, 104, 101, 100, 9, 42, 95, 102, 114, 111, 122, 101, 110, 95, 105, 109, 112, 111, 114, 116, 108, 105, 98, 46, 77, 111, 100, 117, 108, 101, 83, 112, 101, 99, 46, 99, 97, 99, 104, 101, 100, 35, 111, 112, 97, 113, 117, 101, 6, 234, 6, 112, 97, 114, 101, 110, 116, 9, 42, 95, 102, 114, 111, 122, 101, 110, 95, 105, 109, 112, 111, 114, 116, 108, 105, 98, 46, 77, 111, 100, 117, 108, 101, 83, 112, 101, 99, 46, 112, 97, 114, 101, 110, 116, 35, 111, 112, 97, 113, 117, 101, 6, 235, 12, 104, 97, 115, 95, 108, 111, 99, 97, 116, 105, 111, 110, 9, 48, 95, 102, 114, 111, 122, 101, 110, 95, 105, 109, 112, 111, 114, 116, 108, 105, 98, 46, 77, 111, 100, 117, 108, 101, 83, 112, 101, 99, 46, 104, 97, 115, 95, 108, 111, 99, 97, 116, 105, 111, 110, 35, 111, 112, 97, 113, 117, 101, 6, 236, 21, 95, 95, 115, 116, 97, 116, 105, 99, 95, 97, 116, 116, 114, 105, 98, 117, 116, 101, 115, 95, 95, 4, 0, 0, 23, 6, 238, 8, 95, 95, 100, 105, 99, 116, 95, 95, 4, 0, 0, 24, 6, 240, 11, 95, 95, 119, 101, 97, 107, 114, 101, 102, 95, 95, 4, 0, 0, 25, 6, 241, 8, 95, 95, 104, 97, 115, 104, 95, 95, 0]) 0), (.bool true), (.bool true), (.str (zs []) 242)] 1), #[]⟩,
  ⟨(.type "list"), none, (.seq #[] 0), #[]⟩,
  ⟨(.type "dict"), none, (.dict (List.toArray [⟨PyData.keyHash P (zs [110, 97, 109, 101]), (.str (zs [110, 97, 109, 101]) 208), (.str (zs [95, 115, 114, 101]) 207)⟩,
    ⟨PyData.keyHash P (zs [108, 111, 97, 100, 101, 114]), (.str (zs [108, 111, 97, 100, 101, 114]) 209), (.ref 14)⟩,
    ⟨PyData.keyHash P (zs [111, 114, 105, 103, 105, 110]), (.str (zs [111, 114, 105, 103, 105, 110]) 210), (.str (zs [98, 117, 105, 108, 116, 45, 105, 110]) 184)⟩,
    ⟨PyData.keyHash P (zs [108, 111, 97, 100, 101, 114, 95, 115, 116, 97, 116, 101]), (.str (zs [108, 111, 97, 100, 101, 114, 95, 115, 116, 97, 116, 101]) 211), .none⟩,
    ⟨PyData.keyHash P (zs [115, 117, 98, 109, 111, 100, 117, 108, 101, 95, 115, 101, 97, 114, 99, 104, 95, 108, 111, 99, 97, 116, 105, 111, 110, 115]), (.str (zs [115, 117, 98, 109, 111, 100, 117, 108, 101, 95, 115, 101, 97, 114, 99, 104, 95, 108, 111, 99, 97, 116, 105, 111, 110, 115]) 212), .none⟩,
    ⟨PyData.keyHash P (zs [95, 117, 110, 105, 110, 105, 116, 105, 97, 108, 105, 122, 101, 100, 95, 115, 117, 98, 109, 111, 100, 117, 108, 101, 115]), (.str (zs [95, 117, 110, 105, 110, 105, 116, 105, 97, 108, 105, 122, 101, 100, 95, 115, 117, 98, 109, 111, 100, 117, 108, 101, 115]) 213), (.ref 19)⟩,
    ⟨PyData.keyHash P (zs [95, 115, 101, 116, 95, 102, 105, 108, 101, 97, 116, 116, 114]), (.str (zs [95, 115, 101, 116, 95, 102, 105, 108, 101, 97, 116, 116, 114]) 214), (.bool false)⟩,
    ⟨PyData.keyHash P (zs [95, 99, 97, 99, 104, 101, 100]), (.str (zs [95, 99, 97, 99, 104, 101, 100]) 215), .none⟩,
    ⟨PyData.keyHash P (zs [95, 105, 110, 105, 116, 105, 97, 108, 105, 122, 105, 110, 103]), (.str (zs [95, 105, 110, 105, 116, 105, 97, 108, 105, 122, 105, 110, 103]) 243), (.bool false)⟩]) 9), #[]⟩,
  ⟨(.type "dict"), none, (.dict (List.toArray [⟨PyData.keyHash P (zs [95, 95, 109, 111, 100, 117, 108, 101, 95, 95]), (.str (zs [95, 95, 109, 111, 100, 117, 108, 101, 95, 95]) 227), (.str (zs [95, 102, 114, 111, 122, 101, 110, 95, 105, 109, 112, 111, 114, 116, 108, 105, 98]) 217)⟩,
    ⟨PyData.keyHash P (zs [95, 95, 102, 105, 114, 115, 116, 108, 105, 110, 101, 110, 111, 95, 95]), (.str (zs [95, 95, 102, 105, 114, 115, 116, 108, 105, 110, 101, 110, 111, 95, 95]) 228), (.int (562) 218)⟩,
    ⟨PyData.keyHash P (zs [95, 95, 100, 111, 99, 95, 95]), (.str (zs [95, 95, 100, 111, 99, 95, 95]) 229), (.builtin "_frozen_importlib.ModuleSpec.__doc__:str#opaque")⟩,
    ⟨PyData.keyHash P (zs [95, 95, 105, 110, 105, 116, 95, 95]), (.str (zs [95, 95, 105, 110, 105, 116, 95, 95]) 230), (.builtin "_frozen_importlib.ModuleSpec.__init__#opaque")⟩,
    ⟨PyData.keyHash P (zs [95, 95, 114, 101, 112, 114, 95, 95]), (.str (zs [95, 95, 114, 101, 112, 114, 95, 95]) 231), (.builtin "_frozen_importlib.ModuleSpec.__repr__#opaque")⟩,
    ⟨PyData.keyHash P (zs [95, 95, 101, 113, 95, 95]), (.str (zs [95, 95, 101, 113, 95, 95]) 232), (.builtin "_frozen_importlib.ModuleSpec.__eq__#opaque")⟩,
    ⟨PyData.keyHash P (zs [99, 97, 99, 104, 101, 100]), (.str (zs [99, 97, 99, 104, 101, 100]) 233), (.builtin "_frozen_importlib.ModuleSpec.cached#opaque")⟩,
    ⟨PyData.keyHash P (zs [112, 97, 114, 101, 110, 116]), (.str (zs [112, 97, 114, 101, 110, 116]) 234), (.builtin "_frozen_importlib.ModuleSpec.parent#opaque")⟩,
    ⟨PyData.keyHash P (zs [104, 97, 115, 95, 108, 111, 99, 97, 116, 105, 111, 110]), (.str (zs [104, 97, 115, 95, 108, 111, 99, 97, 116, 105, 111, 110]) 235), (.builtin "_frozen_importlib.ModuleSpec.has_location#opaque")⟩,
    ⟨PyData.keyHash P (zs [95, 95, 115, 116, 97, 116, 105, 99, 95, 97, 116, 116, 114, 105, 98, 117, 116, 101, 115, 95, 95]), (.str (zs [95, 95, 115, 116, 97, 116, 105, 99, 95, 97, 116, 116, 114, 105, 98, 117, 116, 101, 115, 95, 95]) 236), (.ref 23)⟩,
    ⟨PyData.keyHash P (zs [95, 95, 100, 105, 99, 116, 95, 95]), (.str (zs [95, 95, 100, 105, 99, 116, 95, 95]) 238), (.ref 24)⟩,
    ⟨PyData.keyHash P (zs [95, 95, 119, 101, 97, 107, 114, 101, 102, 95, 95]), (.str (zs [95, 95, 119, 101, 97, 107, 114, 101, 102, 95, 95]) 240), (.ref 25)⟩,
    ⟨PyData.keyHash P (zs [95, 95, 104, 97, 115, 104, 95, 95]), (.str (zs [95, 95, 104, 97, 115, 104, 95, 95]) 241), .none⟩]) 13), #[]⟩,
  ⟨(.type "type"), none, (.cls ⟨"ModuleSpec", [(.type "object")], [(.ref 22), (.type "object")], 21, "ModuleSpec", true, [], [], false, .none, false⟩), #[]⟩,
  ⟨(.type "tuple"), none, (.seq #[(.str (zs [95, 99, 97, 99, 104, 101, 100]) 219), (.str (zs [95, 115, 101, 116, 95, 102, 105, 108, 101, 97, 116, 116, 114]) 220), (.str (zs [95, 117, 110, 105, 110, 105, 116, 105, 97, 108, 105, 122, 101, 100, 95, 115, 117, 98, 109, 111, 100, 117, 108, 101, 115]) 221), (.str (zs [108, 111, 97, 100, 101, 114]) 222), (.str (zs [108, 111, 97, 100, 101, 114, 95, 115, 116, 97, 116, 101]) 223), (.str (zs [110, 97, 109, 101]) 224), (.str (zs [111, 114, 105, 103, 105, 110]) 225), (.str (zs [115, 117, 98, 109, 111, 100, 117, 108, 101, 95, 115, 101, 97, 114, 99, 104, 95, 108, 111, 99, 97, 116, 105, 111, 110, 115]) 226)] 0), #[]⟩,
  ⟨(.type "getset_descriptor"), none, (.fields #[(.str (zs [95, 95, 100, 105, 99, 116, 95, 95]) 237), (.ref 22), (.builtin "function.__dict__"), (.builtin "function.__dict__#set")]), #[]⟩,
  ⟨(.type "getset_descriptor"), none, (.fields #[(.str (zs [95, 95, 119, 101, 97, 107, 114, 101, 102, 95, 95]) 239), (.ref 22), (.builtin "ExceptionGroup.__weakref__"), .none]), #[]⟩,
  ⟨(.ref 22), (some 20), .plain, #[]⟩,
  ⟨.none, none, (.seq #[(.int (11) 0), (.str (Str.mk #[6, 247, 8, 95, 95, 110, 97, 109, 101, 95, 95, 6, 246, 4, 95, 115, 114, 101, 6, 248, 7, 95, 95, 100, 111, 99, 95, 95, 0, 6, 250, 11, 95, 95, 112, 97, 99, 107, 97, 103, 101, 95, 95, 6, 249, 0, 6, 251, 10, 95, 95, 108, 111, 97, 100, 101, 114, 95, 95, 4, 0, 0, 14, 6, 252, 8, 95, 95, 115, 112, 101, 99, 95, 95, 4, 0, 0, 26, 6, 253, 7, 99, 111, 109, 112, 105, 108, 101, 9, 12, 95, 115, 114, 101, 46, 99, 111, 109, 112, 105, 108, 101, 6, 254, 8, 116, 101, 109, 112, 108, 97, 116, 101, 9, 13, 95, 115, 114, 101, 46, 116, 101, 109, 112, 108, 97, 116, 101, 6, 255, 11, 103, 101, 116, 99, 111, 100, 101, 115, 105, 122, 101, 9, 16, 95, 115, 114, 101, 46, 103, 101, 116, 99, 111, 100, 101, 115, 105, 122, 101, 6, 256, 13, 97, 115, 99, 105, 105, 95, 105, 115, 99, 97, 115, 101, 100, 9, 18, 95, 115, 114, 101, 46, 97, 115, 99, 105, 105, 95, 105, 115, 99, 97, 115, 101, 100, 6, 257, 15, 117, 110, 105, 99, 111, 100, 101, 95, 105, 115, 99, 97, 115, 101, 100, 9, 20, 95, 115, 114, 101, 46, 117, 110, 105, 99, 111, 100, 101, 95, 105, 115, 99, 97, 115, 101, 100, 6, 258, 13, 97, 115, 99, 105, 105, 95, 116, 111, 108, 111, 119, 101, 114, 9, 18, 95, 115, 114, 101, 46, 97, 115, 99, 105, 105, 95, 116, 111, 108, 111, 119, 101, 114, 6, 259, 15, 117, 110, 105, 99, 111, 100, 101, 95, 116, 111, 108, 111, 119, 101, 114, 9, 20, 95, 115, 114, 101, 46, 117, 110, 105, 99, 111, 100, 101, 95, 116, 111, 108, 111, 119, 101, 114, 6, 261, 5, 77, 65, 71, 73, 67, 4, 260, 0, 20230612, 6, 263, 8, 67, 79, 68, 69, 83, 73, 90, 69, 4, 262, 0, 4, 6, 265, 9, 77, 65, 88, 82, 69, 80, 69, 65, 84, 4, 264, 0, 4294967295, 6, 267, 9, 77, 65, 88, 71, 82, 79, 85, 80, 83, 4, 266, 0, 1073741823, 6, 269, 9, 99, 111, 112, 121, 114, 105, 103, 104, 116, 6, 268, 53, 32, 83, 82, 69, 32, 50, 46, 50, 46, 50, 32, 67, 111, 112, 121, 114, 105, 103, 104, 116, 32, 40, 99, 41, 32, 49, 57, 57, 55, 45, 50, 48, 48, 50, 32, 98, 121, 32, 83, 101, 99, 114, 101, 116, 32, 76, 97, 98, 115, 32, 65, 66, 32]) 0), (.bool true), (.bool false), (.str (zs [95, 115, 114, 101]) 271)] 0), #[]⟩], {}⟩
noncomputable def heapB (P : Params) : Heap := ⟨#[
  ⟨(.type "dict"), none, (.dict (List.toArray [⟨PyData.keyHash P (zs [95, 95, 110, 97, 109, 101, 95, 95]), (.str (zs [95, 95, 110, 97, 109, 101, 95, 95]) 1), (.str (zs [98, 117, 105, 108, 116, 105, 110, 115]) 160)⟩,
    ⟨PyData.keyHash P (zs [95, 95, 100, 111, 99, 95, 95]), (.str (zs [95, 95, 100, 111, 99, 95, 95]) 2), (.builtin "builtins.__doc__:str#opaque")⟩,
    ⟨PyData.keyHash P (zs [95, 95, 112, 97, 99, 107, 97, 103, 101, 95, 95]), (.str (zs [95, 95, 112, 97, 99, 107, 97, 103, 101, 95, 95]) 3), (.builtin "builtins.__package__:str#opaque")⟩,
    ⟨PyData.keyHash P (zs [95, 95, 108, 111, 97, 100, 101, 114, 95, 95]), (.str (zs [95, 95, 108, 111, 97, 100, 101, 114, 95, 95]) 4), (.builtin "builtins.__loader__:shared#opaque")⟩,
    ⟨PyData.keyHash P (zs [95, 95, 115, 112, 101, 99, 95, 95]), (.str (zs [95, 95, 115, 112, 101, 99, 95, 95]) 5), (.builtin "builtins.__spec__#opaque")⟩,
    ⟨PyData.keyHash P (zs [95, 95, 98, 117, 105, 108, 100, 95, 99, 108, 97, 115, 115, 95, 95]), (.str (zs [95, 95, 98, 117, 105, 108, 100, 95, 99, 108, 97, 115, 115, 95, 95]) 6), (.builtin "__build_class__")⟩,
    ⟨PyData.keyHash P (zs [95, 95, 105, 109, 112, 111, 114, 116, 95, 95]), (.str (zs [95, 95, 105, 109, 112, 111, 114, 116, 95, 95]) 7), (.builtin "__import__")⟩,
    ⟨PyData.keyHash P (zs [97, 98, 115]), (.str (zs [97, 98, 115]) 8), (.builtin "abs")⟩,
    ⟨PyData.keyHash P (zs [97, 108, 108]), (.str (zs [97, 108, 108]) 9), (.builtin "all")⟩,
    ⟨PyData.keyHash P (zs [97, 110, 121]), (.str (zs [97, 110, 121]) 10), (.builtin "any")⟩,
    ⟨PyData.keyHash P (zs [97, 115, 99, 105, 105]), (.str (zs [97, 115, 99, 105, 105]) 11), (.builtin "ascii")⟩,
    ⟨PyData.keyHash P (zs [98, 105, 110]), (.str (zs [98, 105, 110]) 12), (.builtin "bin")⟩,
    ⟨PyData.keyHash P (zs [98, 114, 101, 97, 107, 112, 111, 105, 110, 116]), (.str (zs [98, 114, 101, 97, 107, 112, 111, 105, 110, 116]) 13), (.builtin "breakpoint")⟩,
    ⟨PyData.keyHash P (zs [99, 97, 108, 108, 97, 98, 108, 101]), (.str (zs [99, 97, 108, 108, 97, 98, 108, 101]) 14), (.builtin "callable")⟩,
    ⟨PyData.keyHash P (zs [99, 104, 114]), (.str (zs [99, 104, 114]) 15), (.builtin "chr")⟩,
    ⟨PyData.keyHash P (zs [99, 111, 109, 112, 105, 108, 101]), (.str (zs [99, 111, 109, 112, 105, 108, 101]) 16), (.builtin "compile")⟩,
    ⟨PyData.keyHash P (zs [100, 101, 108, 97, 116, 116, 114]), (.str (zs [100, 101, 108, 97, 116, 116, 114]) 17), (.builtin "delattr")⟩,
    ⟨PyData.keyHash P (zs [100, 105, 114]), (.str (zs [100, 105, 114]) 18), (.builtin "dir")⟩,
    ⟨PyData.keyHash P (zs [100, 105, 118, 109, 111, 100]), (.str (zs [100, 105, 118, 109, 111, 100]) 19), (.builtin "divmod")⟩,
    ⟨PyData.keyHash P (zs [101, 118, 97, 108]), (.str (zs [101, 118, 97, 108]) 20), (.builtin "eval")⟩,
    ⟨PyData.keyHash P (zs [101, 120, 101, 99]), (.str (zs [101, 120, 101, 99]) 21), (.builtin "exec")⟩,
    ⟨PyData.keyHash P (zs [102, 111, 114, 109, 97, 116]), (.str (zs [102, 111, 114, 109, 97, 116]) 22), (.builtin "format")⟩,
    ⟨PyData.keyHash P (zs [103, 101, 116, 97, 116, 116, 114]), (.str (zs [103, 101, 116, 97, 116, 116, 114]) 23), (.builtin "getattr")⟩,
    ⟨PyData.keyHash P (zs [103, 108, 111, 98, 97, 108, 115]), (.str (zs [103, 108, 111, 98, 97, 108, 115]) 24), (.builtin "globals")⟩,
    ⟨PyData.keyHash P (zs [104, 97, 115, 97, 116, 116, 114]), (.str (zs [104, 97, 115, 97, 116, 116, 114]) 25), (.builtin "hasattr")⟩,
    ⟨PyData.keyHash P (zs [104, 97, 115, 104]), (.str (zs [104, 97, 115, 104]) 26), (.builtin "hash")⟩,
    ⟨PyData.keyHash P (zs [104, 101, 120]), (.str (zs [104, 101, 120]) 27), (.builtin "hex")⟩,
    ⟨PyData.keyHash P (zs [105, 100]), (.str (zs [105, 100]) 28), (.builtin "id")⟩,
    ⟨PyData.keyHash P (zs [105, 110, 112, 117, 116]), (.str (zs [105, 110, 112, 117, 116]) 29), (.builtin "input")⟩,
    ⟨PyData.keyHash P (zs [105, 115, 105, 110, 115, 116, 97, 110, 99, 101]), (.str (zs [105, 115, 105, 110, 115, 116, 97, 110, 99, 101]) 30), (.builtin "isinstance")⟩,
    ⟨PyData.keyHash P (zs [105, 115, 115, 117, 98, 99, 108, 97, 115, 115]), (.str (zs [105, 115, 115, 117, 98, 99, 108, 97, 115, 115]) 31), (.builtin "issubclass")⟩,
    ⟨PyData.keyHash P (zs [105, 116, 101, 114]), (.str (zs [105, 116, 101, 114]) 32), (.builtin "iter")⟩,
    ⟨PyData.keyHash P (zs [97, 105, 116, 101, 114]), (.str (zs [97, 105, 116, 101, 114]) 33), (.builtin "aiter")⟩,
    ⟨PyData.keyHash P (zs [108, 101, 110]), (.str (zs [108, 101, 110]) 34), (.builtin "len")⟩,
    ⟨PyData.keyHash P (zs [108, 111, 99, 97, 108, 115]), (.str (zs [108, 111, 99, 97, 108, 115]) 35), (.builtin "locals")⟩,
    ⟨PyData.keyHash P (zs [109, 97, 120]), (.str (zs [109, 97, 120]) 36), (.builtin "max")⟩,
    ⟨PyData.keyHash P (zs [109, 105, 110]), (.str (zs [109, 105, 110]) 37), (.builtin "min")⟩,
    ⟨PyData.keyHash P (zs [110, 101, 120, 116]), (.str (zs [110, 101, 120, 116]) 38), (.builtin "next")⟩,
    ⟨PyData.keyHash P (zs [97, 110, 101, 120, 116]), (.str (zs [97, 110, 101, 120, 116]) 39), (.builtin "anext")⟩,
    ⟨PyData.keyHash P (zs [111, 99, 116]), (.str (zs [111, 99, 116]) 40), (.builtin "oct")⟩,
    ⟨PyData.keyHash P (zs [111, 114, 100]), (.str (zs [111, 114, 100]) 41), (.builtin "ord")⟩,
    ⟨PyData.keyHash P (zs [112, 111, 119]), (.str (zs [112, 111, 119]) 42), (.builtin "pow")⟩,
    ⟨PyData.keyHash P (zs [112, 114, 105, 110, 116]), (.str (zs [112, 114, 105, 110, 116]) 43), (.builtin "print")⟩,
    ⟨PyData.keyHash P (zs [114, 101, 112, 114]), (.str (zs [114, 101, 112, 114]) 44), (.builtin "repr")⟩,
    ⟨PyData.keyHash P (zs [114, 111, 117, 110, 100]), (.str (zs [114, 111, 117, 110, 100]) 45), (.builtin "round")⟩,
    ⟨PyData.keyHash P (zs [115, 101, 116, 97, 116, 116, 114]), (.str (zs [115, 101, 116, 97, 116, 116, 114]) 46), (.builtin "setattr")⟩,
    ⟨PyData.keyHash P (zs [115, 111, 114, 116, 101, 100]), (.str (zs [115, 111, 114, 116, 101, 100]) 47), (.builtin "sorted")⟩,
    ⟨PyData.keyHash P (zs [115, 117, 109]), (.str (zs [115, 117, 109]) 48), (.builtin "sum")⟩,
    ⟨PyData.keyHash P (zs [118, 97, 114, 115]), (.str (zs [118, 97, 114, 115]) 49), (.builtin "vars")⟩,
    ⟨PyData.keyHash P (zs [78, 111, 110, 101]), (.str (zs [78, 111, 110, 101]) 50), .none⟩,
    ⟨PyData.keyHash P (zs [69, 108, 108, 105, 112, 115, 105, 115]), (.str (zs [69, 108, 108, 105, 112, 115, 105, 115]) 51), .ellipsis⟩,
    ⟨PyData.keyHash P (zs [78, 111, 116, 73, 109, 112, 108, 101, 109, 101, 110, 116, 101, 100]), (.str (zs [78, 111, 116, 73, 109, 112, 108, 101, 109, 101, 110, 116, 101, 100]) 52), .notImplemented⟩,
    ⟨PyData.keyHash P (zs [70, 97, 108, 115, 101]), (.str (zs [70, 97, 108, 115, 101]) 53), (.bool false)⟩,
    ⟨PyData.keyHash P (zs [84, 114, 117, 101]), (.str (zs [84, 114, 117, 101]) 54), (.bool true)⟩,
    ⟨PyData.keyHash P (zs [98, 111, 111, 108]), (.str (zs [98, 111, 111, 108]) 55), (.type "bool")⟩,
    ⟨PyData.keyHash P (zs [109, 101, 109, 111, 114, 121, 118, 105, 101, 119]), (.str (zs [109, 101, 109, 111, 114, 121, 118, 105, 101, 119]) 56), (.type "memoryview")⟩,
    ⟨PyData.keyHash P (zs [98, 121, 116, 101, 97, 114, 114, 97, 121]), (.str (zs [98, 121, 116, 101, 97, 114, 114, 97, 121]) 57), (.type "bytearray")⟩,
    ⟨PyData.keyHash P (zs [98, 121, 116, 101, 115]), (.str (zs [98, 121, 116, 101, 115]) 58), (.type "bytes")⟩,
    ⟨PyData.keyHash P (zs [99, 108, 97, 115, 115, 109, 101, 116, 104, 111, 100]), (.str (zs [99, 108, 97, 115, 115, 109, 101, 116, 104, 111, 100]) 59), (.type "classmethod")⟩,
    ⟨PyData.keyHash P (zs [99, 111, 109, 112, 108, 101, 120]), (.str (zs [99, 111, 109, 112, 108, 101, 120]) 60), (.type "complex")⟩,
    ⟨PyData.keyHash P (zs [100, 105, 99, 116]), (.str (zs [100, 105, 99, 116]) 61), (.type "dict")⟩,
    ⟨PyData.keyHash P (zs [101, 110, 117, 109, 101, 114, 97, 116, 101]), (.str (zs [101, 110, 117, 109, 101, 114, 97, 116, 101]) 62), (.type "enumerate")⟩,
    ⟨PyData.keyHash P (zs [102, 105, 108, 116, 101, 114]), (.str (zs [102, 105, 108, 116, 101, 114]) 63), (.type "filter")⟩,
    ⟨PyData.keyHash P (zs [102, 108, 111, 97, 116]), (.str (zs [102, 108, 111, 97, 116]) 64), (.type "float")⟩,
    ⟨PyData.keyHash P (zs [102, 114, 111, 122, 101, 110, 115, 101, 116]), (.str (zs [102, 114, 111, 122, 101, 110, 115, 101, 116]) 65), (.type "frozenset")⟩,
    ⟨PyData.keyHash P (zs [112, 114, 111, 112, 101, 114, 116, 121]), (.str (zs [112, 114, 111, 112, 101, 114, 116, 121]) 66), (.type "property")⟩,
    ⟨PyData.keyHash P (zs [105, 110, 116]), (.str (zs [105, 110, 116]) 67), (.type "int")⟩,
    ⟨PyData.keyHash P (zs [108, 105, 115, 116]), (.str (zs [108, 105, 115, 116]) 68), (.type "list")⟩,
    ⟨PyData.keyHash P (zs [109, 97, 112]), (.str (zs [109, 97, 112]) 69), (.type "map")⟩,
    ⟨PyData.keyHash P (zs [111, 98, 106, 101, 99, 116]), (.str (zs [111, 98, 106, 101, 99, 116]) 70), (.type "object")⟩,
    ⟨PyData.keyHash P (zs [114, 97, 110, 103, 101]), (.str (zs [114, 97, 110, 103, 101]) 71), (.type "range")⟩,
    ⟨PyData.keyHash P (zs [114, 101, 118, 101, 114, 115, 101, 100]), (.str (zs [114, 101, 118, 101, 114, 115, 101, 100]) 72), (.type "reversed")⟩,
    ⟨PyData.keyHash P (zs [115, 101, 116]), (.str (zs [115, 101, 116]) 73), (.type "set")⟩,
    ⟨PyData.keyHash P (zs [115, 108, 105, 99, 101]), (.str (zs [115, 108, 105, 99, 101]) 74), (.type "slice")⟩,
    ⟨PyData.keyHash P (zs [115, 116, 97, 116, 105, 99, 109, 101, 116, 104, 111, 100]), (.str (zs [115, 116, 97, 116, 105, 99, 109, 101, 116, 104, 111, 100]) 75), (.type "staticmethod")⟩,
    ⟨PyData.keyHash P (zs [115, 116, 114]), (.str (zs [115, 116, 114]) 76), (.type "str")⟩,
    ⟨PyData.keyHash P (zs [115, 117, 112, 101, 114]), (.str (zs [115, 117, 112, 101, 114]) 77), (.type "super")⟩,
    ⟨PyData.keyHash P (zs [116, 117, 112, 108, 101]), (.str (zs [116, 117, 112, 108, 101]) 78), (.type "tuple")⟩,
    ⟨PyData.keyHash P (zs [116, 121, 112, 101]), (.str (zs [116, 121, 112, 101]) 79), (.type "type")⟩,
    ⟨PyData.keyHash P (zs [122, 105, 112]), (.str (zs [122, 105, 112]) 80), (.type "zip")⟩,
    ⟨PyData.keyHash P (zs [95, 95, 100, 101, 98, 117, 103, 95, 95]), (.str (zs [95, 95, 100, 101, 98, 117, 103, 95, 95]) 81), (.bool true)⟩,
    ⟨PyData.keyHash P (zs [66, 97, 115, 101, 69, 120, 99, 101, 112, 116, 105, 111, 110]), (.str (zs [66, 97, 115, 101, 69, 120, 99, 101, 112, 116, 105, 111, 110]) 82), (.type "BaseException")⟩,
    ⟨PyData.keyHash P (zs [66, 97, 115, 101, 69, 120, 99, 101, 112, 116, 105, 111, 110, 71, 114, 111, 117, 112]), (.str (zs [66, 97, 115, 101, 69, 120, 99, 101, 112, 116, 105, 111, 110, 71, 114, 111, 117, 112]) 83), (.type "BaseExceptionGroup")⟩,
    ⟨PyData.keyHash P (zs [69, 120, 99, 101, 112, 116, 105, 111, 110]), (.str (zs [69, 120, 99, 101, 112, 116, 105, 111, 110]) 84), (.type "Exception")⟩,
    ⟨PyData.keyHash P (zs [71, 101, 110, 101, 114, 97, 116, 111, 114, 69, 120, 105, 116]), (.str (zs [71, 101, 110, 101, 114, 97, 116, 111, 114, 69, 120, 105, 116]) 85), (.type "GeneratorExit")⟩,
    ⟨PyData.keyHash P (zs [75, 101, 121, 98, 111, 97, 114, 100, 73, 110, 116, 101, 114, 114, 117, 112, 116]), (.str (zs [75, 101, 121, 98, 111, 97, 114, 100, 73, 110, 116, 101, 114, 114, 117, 112, 116]) 86), (.type "KeyboardInterrupt")⟩,
    ⟨PyData.keyHash P (zs [83, 121, 115, 116, 101, 109, 69, 120, 105, 116]), (.str (zs [83, 121, 115, 116, 101, 109, 69, 120, 105, 116]) 87), (.type "SystemExit")⟩,
    ⟨PyData.keyHash P (zs [65, 114, 105, 116, 104, 109, 101, 116, 105, 99, 69, 114, 114, 111, 114]), (.str (zs [65, 114, 105, 116, 104, 109, 101, 116, 105, 99, 69, 114, 114, 111, 114]) 88), (.type "ArithmeticError")⟩,
    ⟨PyData.keyHash P (zs [65, 115, 115, 101, 114, 116, 105, 111, 110, 69, 114, 114, 111, 114]), (.str (zs [65, 115, 115, 101, 114, 116, 105, 111, 110, 69, 114, 114, 111, 114]) 89), (.type "AssertionError")⟩,
    ⟨PyData.keyHash P (zs [65, 116, 116, 114, 105, 98, 117, 116, 101, 69, 114, 114, 111, 114]), (.str (zs [65, 116, 116, 114, 105, 98, 117, 116, 101, 69, 114, 114, 111, 114]) 90), (.type "AttributeError")⟩,
    ⟨PyData.keyHash P (zs [66, 117, 102, 102, 101, 114, 69, 114, 114, 111, 114]), (.str (zs [66, 117, 102, 102, 101, 114, 69, 114, 114, 111, 114]) 91), (.type "BufferError")⟩,
    ⟨PyData.keyHash P (zs [69, 79, 70, 69, 114, 114, 111, 114]), (.str (zs [69, 79, 70, 69, 114, 114, 111, 114]) 92), (.type "EOFError")⟩,
    ⟨PyData.keyHash P (zs [73, 109, 112, 111, 114, 116, 69, 114, 114, 111, 114]), (.str (zs [73, 109, 112, 111, 114, 116, 69, 114, 114, 111, 114]) 93), (.type "ImportError")⟩,
    ⟨PyData.keyHash P (zs [76, 111, 111, 107, 117, 112, 69, 114, 114, 111, 114]), (.str (zs [76, 111, 111, 107, 117, 112, 69, 114, 114, 111, 114]) 94), (.type "LookupError")⟩,
    ⟨PyData.keyHash P (zs [77, 101, 109, 111, 114, 121, 69, 114, 114, 111, 114]), (.str (zs [77, 101, 109, 111, 114, 121, 69, 114, 114, 111, 114]) 95), (.type "MemoryError")⟩,
    ⟨PyData.keyHash P (zs [78, 97, 109, 101, 69, 114, 114, 111, 114]), (.str (zs [78, 97, 109, 101, 69, 114, 114, 111, 114]) 96), (.type "NameError")⟩,
    ⟨PyData.keyHash P (zs [79, 83, 69, 114, 114, 111, 114]), (.str (zs [79, 83, 69, 114, 114, 111, 114]) 97), (.type "OSError")⟩,
    ⟨PyData.keyHash P (zs [82, 101, 102, 101, 114, 101, 110, 99, 101, 69, 114, 114, 111, 114]), (.str (zs [82, 101, 102, 101, 114, 101, 110, 99, 101, 69, 114, 114, 111, 114]) 98), (.type "ReferenceError")⟩,
    ⟨PyData.keyHash P (zs [82, 117, 110, 116, 105, 109, 101, 69, 114, 114, 111, 114]), (.str (zs [82, 117, 110, 116, 105, 109, 101, 69, 114, 114, 111, 114]) 99), (.type "RuntimeError")⟩,
    ⟨PyData.keyHash P (zs [83, 116, 111, 112, 65, 115, 121, 110, 99, 73, 116, 101, 114, 97, 116, 105, 111, 110]), (.str (zs [83, 116, 111, 112, 65, 115, 121, 110, 99, 73, 116, 101, 114, 97, 116, 105, 111, 110]) 100), (.type "StopAsyncIteration")⟩,
    ⟨PyData.keyHash P (zs [83, 116, 111, 112, 73, 116, 101, 114, 97, 116, 105, 111, 110]), (.str (zs [83, 116, 111, 112, 73, 116, 101, 114, 97, 116, 105, 111, 110]) 101), (.type "StopIteration")⟩,
    ⟨PyData.keyHash P (zs [83, 121, 110, 116, 97, 120, 69, 114, 114, 111, 114]), (.str (zs [83, 121, 110, 116, 97, 120, 69, 114, 114, 111, 114]) 102), (.type "SyntaxError")⟩,
    ⟨PyData.keyHash P (zs [83, 121, 115, 116, 101, 109, 69, 114, 114, 111, 114]), (.str (zs [83, 121, 115, 116, 101, 109, 69, 114, 114, 111, 114]) 103), (.type "SystemError")⟩,
    ⟨PyData.keyHash P (zs [84, 121, 112, 101, 69, 114, 114, 111, 114]), (.str (zs [84, 121, 112, 101, 69, 114, 114, 111, 114]) 104), (.type "TypeError")⟩,
    ⟨PyData.keyHash P (zs [86, 97, 108, 117, 101, 69, 114, 114, 111, 114]), (.str (zs [86, 97, 108, 117, 101, 69, 114, 114, 111, 114]) 105), (.type "ValueError")⟩,
    ⟨PyData.keyHash P (zs [87, 97, 114, 110, 105, 110, 103]), (.str (zs [87, 97, 114, 110, 105, 110, 103]) 106), (.type "Warning")⟩,
    ⟨PyData.keyHash P (zs [70, 108, 111, 97, 116, 105, 110, 103, 80, 111, 105, 110, 116, 69, 114, 114, 111, 114]), (.str (zs [70, 108, 111, 97, 116, 105, 110, 103, 80, 111, 105, 110, 116, 69, 114, 114, 111, 114]) 107), (.type "FloatingPointError")⟩,
    ⟨PyData.keyHash P (zs [79, 118, 101, 114, 102, 108, 111, 119, 69, 114, 114, 111, 114]), (.str (zs [79, 118, 101, 114, 102, 108, 111, 119, 69, 114, 114, 111, 114]) 108), (.type "OverflowError")⟩,
    ⟨PyData.keyHash P (zs [90, 101, 114, 111, 68, 105, 118, 105, 115, 105, 111, 110, 69, 114, 114, 111, 114]), (.str (zs [90, 101, 114, 111, 68, 105, 118, 105, 115, 105, 111, 110, 69, 114, 114, 111, 114]) 109), (.type "ZeroDivisionError")⟩,
    ⟨PyData.keyHash P (zs [66, 121, 116, 101, 115, 87, 97, 114, 110, 105, 110, 103]), (.str (zs [66, 121, 116, 101, 115, 87, 97, 114, 110, 105, 110, 103]) 110), (.type "BytesWarning")⟩,
    ⟨PyData.keyHash P (zs [68, 101, 112, 114, 101, 99, 97, 116, 105, 111, 110, 87, 97, 114, 110, 105, 110, 103]), (.str (zs [68, 101, 112, 114, 101, 99, 97, 116, 105, 111, 110, 87, 97, 114, 110, 105, 110, 103]) 111), (.type "DeprecationWarning")⟩,
    ⟨PyData.keyHash P (zs [69, 110, 99, 111, 100, 105, 110, 103, 87, 97, 114, 110, 105, 110, 103]), (.str (zs [69, 110, 99, 111, 100, 105, 110, 103, 87, 97, 114, 110, 105, 110, 103]) 112), (.type "EncodingWarning")⟩,
    ⟨PyData.keyHash P (zs [70, 117, 116, 117, 114, 101, 87, 97, 114, 110, 105, 110, 103]), (.str (zs [70, 117, 116, 117, 114, 101, 87, 97, 114, 110, 105, 110, 103]) 113), (.type "FutureWarning")⟩,
    ⟨PyData.keyHash P (zs [73, 109, 112, 111, 114, 116, 87, 97, 114, 110, 105, 110, 103]), (.str (zs [73, 109, 112, 111, 114, 116, 87, 97, 114, 110, 105, 110, 103]) 114), (.type "ImportWarning")⟩,
    ⟨PyData.keyHash P (zs [80, 101, 110, 100, 105, 110, 103, 68, 101, 112, 114, 101, 99, 97, 116, 105, 111, 110, 87, 97, 114, 110, 105, 110, 103]), (.str (zs [80, 101, 110, 100, 105, 110, 103, 68, 101, 112, 114, 101, 99, 97, 116, 105, 111, 110, 87, 97, 114, 110, 105, 110, 103]) 115), (.type "PendingDeprecationWarning")⟩,
    ⟨PyData.keyHash P (zs [82, 101, 115, 111, 117, 114, 99, 101, 87, 97, 114, 110, 105, 110, 103]), (.str (zs [82, 101, 115, 111, 117, 114, 99, 101, 87, 97, 114, 110, 105, 110, 103]) 116), (.type "ResourceWarning")⟩,
    ⟨PyData.keyHash P (zs [82, 117, 110, 116, 105, 109, 101, 87, 97, 114, 110, 105, 110, 103]), (.str (zs [82, 117, 110, 116, 105, 109, 101, 87, 97, 114, 110, 105, 110, 103]) 117), (.type "RuntimeWarning")⟩,
    ⟨PyData.keyHash P (zs [83, 121, 110, 116, 97, 120, 87, 97, 114, 110, 105, 110, 103]), (.str (zs [83, 121, 110, 116, 97, 120, 87, 97, 114, 110, 105, 110, 103]) 118), (.type "SyntaxWarning")⟩,
    ⟨PyData.keyHash P (zs [85, 110, 105, 99, 111, 100, 101, 87, 97, 114, 110, 105, 110, 103]), (.str (zs [85, 110, 105, 99, 111, 100, 101, 87, 97, 114, 110, 105, 110, 103]) 119), (.type "UnicodeWarning")⟩,
    ⟨PyData.keyHash P (zs [85, 115, 101, 114, 87, 97, 114, 110, 105, 110, 103]), (.str (zs [85, 115, 101, 114, 87, 97, 114, 110, 105, 110, 103]) 120), (.type "UserWarning")⟩,
    ⟨PyData.keyHash P (zs [66, 108, 111, 99, 107, 105, 110, 103, 73, 79, 69, 114, 114, 111, 114]), (.str (zs [66, 108, 111, 99, 107, 105, 110, 103, 73, 79, 69, 114, 114, 111, 114]) 121), (.type "BlockingIOError")⟩,
    ⟨PyData.keyHash P (zs [67, 104, 105, 108, 100, 80, 114, 111, 99, 101, 115, 115, 69, 114, 114, 111, 114]), (.str (zs [67, 104, 105, 108, 100, 80, 114, 111, 99, 101, 115, 115, 69, 114, 114, 111, 114]) 122), (.type "ChildProcessError")⟩,
    ⟨PyData.keyHash P (zs [67, 111, 110, 110, 101, 99, 116, 105, 111, 110, 69, 114, 114, 111, 114]), (.str (zs [67, 111, 110, 110, 101, 99, 116, 105, 111, 110, 69, 114, 114, 111, 114]) 123), (.type "ConnectionError")⟩,
    ⟨PyData.keyHash P (zs [70, 105, 108, 101, 69, 120, 105, 115, 116, 115, 69, 114, 114, 111, 114]), (.str (zs [70, 105, 108, 101, 69, 120, 105, 115, 116, 115, 69, 114, 114, 111, 114]) 124), (.type "FileExistsError")⟩,
    ⟨PyData.keyHash P (zs [70, 105, 108, 101, 78, 111, 116, 70, 111, 117, 110, 100, 69, 114, 114, 111, 114]), (.str (zs [70, 105, 108, 101, 78, 111, 116, 70, 111, 117, 110, 100, 69, 114, 114, 111, 114]) 125), (.type "FileNotFoundError")⟩,
    ⟨PyData.keyHash P (zs [73, 110, 116, 101, 114, 114, 117, 112, 116, 101, 100, 69, 114, 114, 111, 114]), (.str (zs [73, 110, 116, 101, 114, 114, 117, 112, 116, 101, 100, 69, 114, 114, 111, 114]) 126), (.type "InterruptedError")⟩,
    ⟨PyData.keyHash P (zs [73, 115, 65, 68, 105, 114, 101, 99, 116, 111, 114, 121, 69, 114, 114, 111, 114]), (.str (zs [73, 115, 65, 68, 105, 114, 101, 99, 116, 111, 114, 121, 69, 114, 114, 111, 114]) 127), (.type "IsADirectoryError")⟩,
    ⟨PyData.keyHash P (zs [78, 111, 116, 65, 68, 105, 114, 101, 99, 116, 111, 114, 121, 69, 114, 114, 111, 114]), (.str (zs [78, 111, 116, 65, 68, 105, 114, 101, 99, 116, 111, 114, 121, 69, 114, 114, 111, 114]) 128), (.type "NotADirectoryError")⟩,
    ⟨PyData.keyHash P (zs [80, 101, 114, 109, 105, 115, 115, 105, 111, 110, 69, 114, 114, 111, 114]), (.str (zs [80, 101, 114, 109, 105, 115, 115, 105, 111, 110, 69, 114, 114, 111, 114]) 129), (.type "PermissionError")⟩,
    ⟨PyData.keyHash P (zs [80, 114, 111, 99, 101, 115, 115, 76, 111, 111, 107, 117, 112, 69, 114, 114, 111, 114]), (.str (zs [80, 114, 111, 99, 101, 115, 115, 76, 111, 111, 107, 117, 112, 69, 114, 114, 111, 114]) 130), (.type "ProcessLookupError")⟩,
    ⟨PyData.keyHash P (zs [84, 105, 109, 101, 111, 117, 116, 69, 114, 114, 111, 114]), (.str (zs [84, 105, 109, 101, 111, 117, 116, 69, 114, 114, 111, 114]) 131), (.type "TimeoutError")⟩,
    ⟨PyData.keyHash P (zs [73, 110, 100, 101, 110, 116, 97, 116, 105, 111, 110, 69, 114, 114, 111, 114]), (.str (zs [73, 110, 100, 101, 110, 116, 97, 116, 105, 111, 110, 69, 114, 114, 111, 114]) 132), (.type "IndentationError")⟩,
    ⟨PyData.keyHash P (zs [95, 73, 110, 99, 111, 109, 112, 108, 101, 116, 101, 73, 110, 112, 117, 116, 69, 114, 114, 111, 114]), (.str (zs [95, 73, 110, 99, 111, 109, 112, 108, 101, 116, 101, 73, 110, 112, 117, 116, 69, 114, 114, 111, 114]) 133), (.type "_IncompleteInputError")⟩,
    ⟨PyData.keyHash P (zs [73, 110, 100, 101, 120, 69, 114, 114, 111, 114]), (.str (zs [73, 110, 100, 101, 120, 69, 114, 114, 111, 114]) 134), (.type "IndexError")⟩,
    ⟨PyData.keyHash P (zs [75, 101, 121, 69, 114, 114, 111, 114]), (.str (zs [75, 101, 121, 69, 114, 114, 111, 114]) 135), (.type "KeyError")⟩,
    ⟨PyData.keyHash P (zs [77, 111, 100, 117, 108, 101, 78, 111, 116, 70, 111, 117, 110, 100, 69, 114, 114, 111, 114]), (.str (zs [77, 111, 100, 117, 108, 101, 78, 111, 116, 70, 111, 117, 110, 100, 69, 114, 114, 111, 114]) 136), (.type "ModuleNotFoundError")⟩,
    ⟨PyData.keyHash P (zs [78, 111, 116, 73, 109, 112, 108, 101, 109, 101, 110, 116, 101, 100, 69, 114, 114, 111, 114]), (.str (zs [78, 111, 116, 73, 109, 112, 108, 101, 109, 101, 110, 116, 101, 100, 69, 114, 114, 111, 114]) 137), (.type "NotImplementedError")⟩,
    ⟨PyData.keyHash P (zs [80, 121, 116, 104, 111, 110, 70, 105, 110, 97, 108, 105, 122, 97, 116, 105, 111, 110, 69, 114, 114, 111, 114]), (.str (zs [80, 121, 116, 104, 111, 110, 70, 105, 110, 97, 108, 105, 122, 97, 116, 105, 111, 110, 69, 114, 114, 111, 114]) 138), (.type "PythonFinalizationError")⟩,
    ⟨PyData.keyHash P (zs [82, 101, 99, 117, 114, 115, 105, 111, 110, 69, 114, 114, 111, 114]), (.str (zs [82, 101, 99, 117, 114, 115, 105, 111, 110, 69, 114, 114, 111, 114]) 139), (.type "RecursionError")⟩,
    ⟨PyData.keyHash P (zs [85, 110, 98, 111, 117, 110, 100, 76, 111, 99, 97, 108, 69, 114, 114, 111, 114]), (.str (zs [85, 110, 98, 111, 117, 110, 100, 76, 111, 99, 97, 108, 69, 114, 114, 111, 114]) 140), (.type "UnboundLocalError")⟩,
    ⟨PyData.keyHash P (zs [85, 110, 105, 99, 111, 100, 101, 69, 114, 114, 111, 114]), (.str (zs [85, 110, 105, 99, 111, 100, 101, 69, 114, 114, 111, 114]) 141), (.type "UnicodeError")⟩,
    ⟨PyData.keyHash P (zs [66, 114, 111, 107, 101, 110, 80, 105, 112, 101, 69, 114, 114, 111, 114]), (.str (zs [66, 114, 111, 107, 101, 110, 80, 105, 112, 101, 69, 114, 114, 111, 114]) 142), (.type "BrokenPipeError")⟩,
    ⟨PyData.keyHash P (zs [67, 111, 110, 110, 101, 99, 116, 105, 111, 110, 65, 98, 111, 114, 116, 101, 100, 69, 114, 114, 111, 114]), (.str (zs [67, 111, 110, 110, 101, 99, 116, 105, 111, 110, 65, 98, 111, 114, 116, 101, 100, 69, 114, 114, 111, 114]) 143), (.type "ConnectionAbortedError")⟩,
    ⟨PyData.keyHash P (zs [67, 111, 110, 110, 101, 99, 116, 105, 111, 110, 82, 101, 102, 117, 115, 101, 100, 69, 114, 114, 111, 114]), (.str (zs [67, 111, 110, 110, 101, 99, 116, 105, 111, 110, 82, 101, 102, 117, 115, 101, 100, 69, 114, 114, 111, 114]) 144), (.type "ConnectionRefusedError")⟩,
    ⟨PyData.keyHash P (zs [67, 111, 110, 110, 101, 99, 116, 105, 111, 110, 82, 101, 115, 101, 116, 69, 114, 114, 111, 114]), (.str (zs [67, 111, 110, 110, 101, 99, 116, 105, 111, 110, 82, 101, 115, 101, 116, 69, 114, 114, 111, 114]) 145), (.type "ConnectionResetError")⟩,
    ⟨PyData.keyHash P (zs [84, 97, 98, 69, 114, 114, 111, 114]), (.str (zs [84, 97, 98, 69, 114, 114, 111, 114]) 146), (.type "TabError")⟩,
    ⟨PyData.keyHash P (zs [85, 110, 105, 99, 111, 100, 101, 68, 101, 99, 111, 100, 101, 69, 114, 114, 111, 114]), (.str (zs [85, 110, 105, 99, 111, 100, 101, 68, 101, 99, 111, 100, 101, 69, 114, 114, 111, 114]) 147), (.type "UnicodeDecodeError")⟩,
    ⟨PyData.keyHash P (zs [85, 110, 105, 99, 111, 100, 101, 69, 110, 99, 111, 100, 101, 69, 114, 114, 111, 114]), (.str (zs [85, 110, 105, 99, 111, 100, 101, 69, 110, 99, 111, 100, 101, 69, 114, 114, 111, 114]) 148), (.type "UnicodeEncodeError")⟩,
    ⟨PyData.keyHash P (zs [85, 110, 105, 99, 111, 100, 101, 84, 114, 97, 110, 115, 108, 97, 116, 101, 69, 114, 114, 111, 114]), (.str (zs [85, 110, 105, 99, 111, 100, 101, 84, 114, 97, 110, 115, 108, 97, 116, 101, 69, 114, 114, 111, 114]) 149), (.type "UnicodeTranslateError")⟩,
    ⟨PyData.keyHash P (zs [69, 120, 99, 101, 112, 116, 105, 111, 110, 71, 114, 111, 117, 112]), (.str (zs [69, 120, 99, 101, 112, 116, 105, 111, 110, 71, 114, 111, 117, 112]) 150), (.type "ExceptionGroup")⟩,
    ⟨PyData.keyHash P (zs [69, 110, 118, 105, 114, 111, 110, 109, 101, 110, 116, 69, 114, 114, 111, 114]), (.str (zs [69, 110, 118, 105, 114, 111, 110, 109, 101, 110, 116, 69, 114, 114, 111, 114]) 151), (.type "OSError")⟩,
    ⟨PyData.keyHash P (zs [73, 79, 69, 114, 114, 111, 114]), (.str (zs [73, 79, 69, 114, 114, 111, 114]) 152), (.type "OSError")⟩,
    ⟨PyData.keyHash P (zs [111, 112, 101, 110]), (.str (zs [111, 112, 101, 110]) 153), (.builtin "open")⟩,
    ⟨PyData.keyHash P (zs [113, 117, 105, 116]), (.str (zs [113, 117, 105, 116]) 154), (.builtin "builtins.quit#opaque")⟩,
    ⟨PyData.keyHash P (zs [101, 120, 105, 116]), (.str (zs [101, 120, 105, 116]) 155), (.builtin "builtins.exit#opaque")⟩,
    ⟨PyData.keyHash P (zs [99, 111, 112, 121, 114, 105, 103, 104, 116]), (.str (zs [99, 111, 112, 121, 114, 105, 103, 104, 116]) 156), (.builtin "builtins.copyright#opaque")⟩,
    ⟨PyData.keyHash P (zs [99, 114, 101, 100, 105, 116, 115]), (.str (zs [99, 114, 101, 100, 105, 116, 115]) 157), (.builtin "builtins.credits#opaque")⟩,
    ⟨PyData.keyHash P (zs [108, 105, 99, 101, 110, 115, 101]), (.str (zs [108, 105, 99, 101, 110, 115, 101]) 158), (.builtin "builtins.license#opaque")⟩,
    ⟨PyData.keyHash P (zs [104, 101, 108, 112]), (.str (zs [104, 101, 108, 112]) 159), (.builtin "builtins.help#opaque")⟩]) 159), #[]⟩,
  ⟨(.type "dict"), none, (.dict (List.toArray [⟨PyData.keyHash P (zs [98, 117, 105, 108, 116, 105, 110, 115]), (.str (zs [98, 117, 105, 108, 116, 105, 110, 115]) 162), (.ref 4)⟩,
    ⟨PyData.keyHash P (zs [95, 95, 109, 97, 105, 110, 95, 95]), (.str (zs [95, 95, 109, 97, 105, 110, 95, 95]) 163), (.ref 5)⟩,
    ⟨PyData.keyHash P (zs [95, 115, 114, 101]), (.str (zs [95, 115, 114, 101]) 244), (.ref 12)⟩]) 3), #[]⟩,
  ⟨.none, none, (.dict (List.toArray [⟨PyData.keyHash P (zs [105, 109, 112, 111, 114, 116, 46, 108, 111, 97, 100, 101, 100, 46, 95, 115, 114, 101]), (.str (zs [105, 109, 112, 111, 114, 116, 46, 108, 111, 97, 100, 101, 100, 46, 95, 115, 114, 101]) 183), (.bool true)⟩,
    ⟨PyData.keyHash P (zs [99, 108, 97, 115, 115, 46, 95, 102, 114, 111, 122, 101, 110, 95, 105, 109, 112, 111, 114, 116, 108, 105, 98, 46, 66, 117, 105, 108, 116, 105, 110, 73, 109, 112, 111, 114, 116, 101, 114]), (.str (zs [99, 108, 97, 115, 115, 46, 95, 102, 114, 111, 122, 101, 110, 95, 105, 109, 112, 111, 114, 116, 108, 105, 98, 46, 66, 117, 105, 108, 116, 105, 110, 73, 109, 112, 111, 114, 116, 101, 114]) 185), (.ref 14)⟩,
    ⟨PyData.keyHash P (zs [119, 97, 116, 99, 104, 101, 100, 46, 105, 109, 112, 111, 114, 116]), (.str (zs [119, 97, 116, 99, 104, 101, 100, 46, 105, 109, 112, 111, 114, 116]) 206), (.ref 18)⟩,
    ⟨PyData.keyHash P (zs [99, 108, 97, 115, 115, 46, 95, 102, 114, 111, 122, 101, 110, 95, 105, 109, 112, 111, 114, 116, 108, 105, 98, 46, 77, 111, 100, 117, 108, 101, 83, 112, 101, 99]), (.str (zs [99, 108, 97, 115, 115, 46, 95, 102, 114, 111, 122, 101, 110, 95, 105, 109, 112, 111, 114, 116, 108, 105, 98, 46, 77, 111, 100, 117, 108, 101, 83, 112, 101, 99]) 216), (.ref 22)⟩,
    ⟨PyData.keyHash P (zs [115, 121, 115, 46, 109, 111, 100, 117, 108, 101, 115, 46, 98, 111, 111, 107, 101, 100, 45, 101, 112, 111, 99, 104]), (.str (zs [115, 121, 115, 46, 109, 111, 100, 117, 108, 101, 115, 46, 98, 111, 111, 107, 101, 100, 45, 101, 112, 111, 99, 104]) 245), (.int (3) 0)⟩,
    ⟨PyData.keyHash P (zs [105, 109, 112, 111, 114, 116, 46, 108, 97, 116, 101, 114, 45, 108, 97, 105, 100, 46, 95, 115, 114, 101]), (.str (zs [105, 109, 112, 111, 114, 116, 46, 108, 97, 116, 101, 114, 45, 108, 97, 105, 100, 46, 95, 115, 114, 101]) 270), (.bool true)⟩,
    ⟨PyData.keyHash P (zs [119, 97, 116, 99, 104, 101, 100, 46, 108, 105, 98, 114, 97, 114, 121]), (.str (zs [119, 97, 116, 99, 104, 101, 100, 46, 108, 105, 98, 114, 97, 114, 121]) 272), (.ref 27)⟩,
    ⟨PyData.keyHash P (zs [119, 97, 116, 99, 104, 101, 100, 46, 108, 105, 98, 114, 97, 114, 121, 45, 111, 98, 106, 101, 99, 116, 115]), (.str (zs [119, 97, 116, 99, 104, 101, 100, 46, 108, 105, 98, 114, 97, 114, 121, 45, 111, 98, 106, 101, 99, 116, 115]) 0), (.str (zs [12]) 0)⟩,
    ⟨PyData.keyHash P (zs [119, 97, 116, 99, 104, 101, 100, 46, 108, 105, 98, 114, 97, 114, 121, 45, 100, 101, 101, 112, 46, 95, 115, 114, 101]), (.str (zs [119, 97, 116, 99, 104, 101, 100, 46, 108, 105, 98, 114, 97, 114, 121, 45, 100, 101, 101, 112, 46, 95, 115, 114, 101]) 273), (.str (zs [4, 0, 0, 11, 4, 0, 0, 11, 4, 0, 0, 3, 4, 0, 0, 11, 8, 4, 100, 105, 99, 116, 2]) 0)⟩]) 9), #[]⟩,
  ⟨(.type "dict"), none, (.dict (List.toArray [⟨PyData.keyHash P (zs [95, 95, 110, 97, 109, 101, 95, 95]), (.str (zs [95, 95, 110, 97, 109, 101, 95, 95]) 165), (.str (zs [108, 97, 119, 95, 121, 102, 48, 48, 49, 54, 95, 48, 49]) 584)⟩,
    ⟨PyData.keyHash P (zs [95, 95, 100, 111, 99, 95, 95]), (.str (zs [95, 95, 100, 111, 99, 95, 95]) 166), .none⟩,
    ⟨PyData.keyHash P (zs [95, 95, 112, 97, 99, 107, 97, 103, 101, 95, 95]), (.str (zs [95, 95, 112, 97, 99, 107, 97, 103, 101, 95, 95]) 167), .none⟩,
    ⟨PyData.keyHash P (zs [95, 95, 108, 111, 97, 100, 101, 114, 95, 95]), (.str (zs [95, 95, 108, 111, 97, 100, 101, 114, 95, 95]) 168), (.builtin "__main__.__loader__#opaque")⟩,
    ⟨PyData.keyHash P (zs [95, 95, 115, 112, 101, 99, 95, 95]), (.str (zs [95, 95, 115, 112, 101, 99, 95, 95]) 169), .none⟩,
    ⟨PyData.keyHash P (zs [95, 95, 97, 110, 110, 111, 116, 97, 116, 105, 111, 110, 115, 95, 95]), (.str (zs [95, 95, 97, 110, 110, 111, 116, 97, 116, 105, 111, 110, 115, 95, 95]) 170), (.ref 6)⟩,
    ⟨PyData.keyHash P (zs [95, 95, 98, 117, 105, 108, 116, 105, 110, 115, 95, 95]), (.str (zs [95, 95, 98, 117, 105, 108, 116, 105, 110, 115, 95, 95]) 171), (.ref 4)⟩,
    ⟨PyData.keyHash P (zs [95, 95, 102, 105, 108, 101, 95, 95]), (.str (zs [95, 95, 102, 105, 108, 101, 95, 95]) 173), (.str (zs [47, 99, 108, 97, 105, 109, 47, 99, 117, 116, 46, 112, 121]) 172)⟩,
    ⟨PyData.keyHash P (zs [95, 95, 99, 97, 99, 104, 101, 100, 95, 95]), (.str (zs [95, 95, 99, 97, 99, 104, 101, 100, 95, 95]) 174), .none⟩,
    ⟨PyData.keyHash P (zs [95, 115, 114, 101]), (.str (zs [95, 115, 114, 101]) 275), (.ref 12)⟩,
    ⟨PyData.keyHash P (zs [95, 113, 117, 111, 116, 101, 100]), (.str (zs [95, 113, 117, 111, 116, 101, 100]) 327), (.ref 36)⟩,
    ⟨PyData.keyHash P (zs [95, 112, 97, 114, 101, 110, 95, 100, 101, 112, 116, 104]), (.str (zs [95, 112, 97, 114, 101, 110, 95, 100, 101, 112, 116, 104]) 336), (.ref 44)⟩,
    ⟨PyData.keyHash P (zs [95, 115, 116, 114, 99, 111, 108, 108]), (.str (zs [95, 115, 116, 114, 99, 111, 108, 108]) 346), (.ref 51)⟩,
    ⟨PyData.keyHash P (zs [95, 115, 116, 114, 120, 102, 114, 109]), (.str (zs [95, 115, 116, 114, 120, 102, 114, 109]) 353), (.ref 58)⟩,
    ⟨PyData.keyHash P (zs [95, 115, 116, 114, 105, 112, 95, 112, 97, 100, 100, 105, 110, 103]), (.str (zs [95, 115, 116, 114, 105, 112, 95, 112, 97, 100, 100, 105, 110, 103]) 363), (.ref 65)⟩,
    ⟨PyData.keyHash P (zs [69, 78, 68, 77, 65, 82, 75, 69, 82]), (.str (zs [69, 78, 68, 77, 65, 82, 75, 69, 82]) 367), (.int (0) 366)⟩,
    ⟨PyData.keyHash P (zs [76, 80, 65, 82]), (.str (zs [76, 80, 65, 82]) 369), (.int (7) 368)⟩,
    ⟨PyData.keyHash P (zs [82, 80, 65, 82]), (.str (zs [82, 80, 65, 82]) 371), (.int (8) 370)⟩,
    ⟨PyData.keyHash P (zs [76, 83, 81, 66]), (.str (zs [76, 83, 81, 66]) 373), (.int (9) 372)⟩,
    ⟨PyData.keyHash P (zs [82, 83, 81, 66]), (.str (zs [82, 83, 81, 66]) 375), (.int (10) 374)⟩,
    ⟨PyData.keyHash P (zs [67, 79, 76, 79, 78]), (.str (zs [67, 79, 76, 79, 78]) 377), (.int (11) 376)⟩,
    ⟨PyData.keyHash P (zs [67, 79, 77, 77, 65]), (.str (zs [67, 79, 77, 77, 65]) 379), (.int (12) 378)⟩,
    ⟨PyData.keyHash P (zs [83, 69, 77, 73]), (.str (zs [83, 69, 77, 73]) 381), (.int (13) 380)⟩,
    ⟨PyData.keyHash P (zs [80, 76, 85, 83]), (.str (zs [80, 76, 85, 83]) 383), (.int (14) 382)⟩,
    ⟨PyData.keyHash P (zs [77, 73, 78, 85, 83]), (.str (zs [77, 73, 78, 85, 83]) 385), (.int (15) 384)⟩,
    ⟨PyData.keyHash P (zs [83, 84, 65, 82]), (.str (zs [83, 84, 65, 82]) 387), (.int (16) 386)⟩,
    ⟨PyData.keyHash P (zs [83, 76, 65, 83, 72]), (.str (zs [83, 76, 65, 83, 72]) 389), (.int (17) 388)⟩,
    ⟨PyData.keyHash P (zs [86, 66, 65, 82]), (.str (zs [86, 66, 65, 82]) 391), (.int (18) 390)⟩,
    ⟨PyData.keyHash P (zs [65, 77, 80, 69, 82]), (.str (zs [65, 77, 80, 69, 82]) 393), (.int (19) 392)⟩,
    ⟨PyData.keyHash P (zs [76, 69, 83, 83]), (.str (zs [76, 69, 83, 83]) 395), (.int (20) 394)⟩,
    ⟨PyData.keyHash P (zs [71, 82, 69, 65, 84, 69, 82]), (.str (zs [71, 82, 69, 65, 84, 69, 82]) 397), (.int (21) 396)⟩,
    ⟨PyData.keyHash P (zs [69, 81, 85, 65, 76]), (.str (zs [69, 81, 85, 65, 76]) 399), (.int (22) 398)⟩,
    ⟨PyData.keyHash P (zs [68, 79, 84]), (.str (zs [68, 79, 84]) 401), (.int (23) 400)⟩,
    ⟨PyData.keyHash P (zs [80, 69, 82, 67, 69, 78, 84]), (.str (zs [80, 69, 82, 67, 69, 78, 84]) 403), (.int (24) 402)⟩,
    ⟨PyData.keyHash P (zs [76, 66, 82, 65, 67, 69]), (.str (zs [76, 66, 82, 65, 67, 69]) 405), (.int (25) 404)⟩,
    ⟨PyData.keyHash P (zs [82, 66, 82, 65, 67, 69]), (.str (zs [82, 66, 82, 65, 67, 69]) 407), (.int (26) 406)⟩,
    ⟨PyData.keyHash P (zs [69, 81, 69, 81, 85, 65, 76]), (.str (zs [69, 81, 69, 81, 85, 65, 76]) 409), (.int (27) 408)⟩,
    ⟨PyData.keyHash P (zs [78, 79, 84, 69, 81, 85, 65, 76]), (.str (zs [78, 79, 84, 69, 81, 85, 65, 76]) 411), (.int (28) 410)⟩,
    ⟨PyData.keyHash P (zs [76, 69, 83, 83, 69, 81, 85, 65, 76]), (.str (zs [76, 69, 83, 83, 69, 81, 85, 65, 76]) 413), (.int (29) 412)⟩,
    ⟨PyData.keyHash P (zs [71, 82, 69, 65, 84, 69, 82, 69, 81, 85, 65, 76]), (.str (zs [71, 82, 69, 65, 84, 69, 82, 69, 81, 85, 65, 76]) 415), (.int (30) 414)⟩,
    ⟨PyData.keyHash P (zs [84, 73, 76, 68, 69]), (.str (zs [84, 73, 76, 68, 69]) 417), (.int (31) 416)⟩,
    ⟨PyData.keyHash P (zs [67, 73, 82, 67, 85, 77, 70, 76, 69, 88]), (.str (zs [67, 73, 82, 67, 85, 77, 70, 76, 69, 88]) 419), (.int (32) 418)⟩,
    ⟨PyData.keyHash P (zs [76, 69, 70, 84, 83, 72, 73, 70, 84]), (.str (zs [76, 69, 70, 84, 83, 72, 73, 70, 84]) 421), (.int (33) 420)⟩,
    ⟨PyData.keyHash P (zs [82, 73, 71, 72, 84, 83, 72, 73, 70, 84]), (.str (zs [82, 73, 71, 72, 84, 83, 72, 73, 70, 84]) 423), (.int (34) 422)⟩,
    ⟨PyData.keyHash P (zs [68, 79, 85, 66, 76, 69, 83, 84, 65, 82]), (.str (zs [68, 79, 85, 66, 76, 69, 83, 84, 65, 82]) 425), (.int (35) 424)⟩,
    ⟨PyData.keyHash P (zs [80, 76, 85, 83, 69, 81, 85, 65, 76]), (.str (zs [80, 76, 85, 83, 69, 81, 85, 65, 76]) 427), (.int (36) 426)⟩,
    ⟨PyData.keyHash P (zs [77, 73, 78, 69, 81, 85, 65, 76]), (.str (zs [77, 73, 78, 69, 81, 85, 65, 76]) 429), (.int (37) 428)⟩,
    ⟨PyData.keyHash P (zs [83, 84, 65, 82, 69, 81, 85, 65, 76]), (.str (zs [83, 84, 65, 82, 69, 81, 85, 65, 76]) 431), (.int (38) 430)⟩,
    ⟨PyData.keyHash P (zs [83, 76, 65, 83, 72, 69, 81, 85, 65, 76]), (.str (zs [83, 76, 65, 83, 72, 69, 81, 85, 65, 76]) 433), (.int (39) 432)⟩,
    ⟨PyData.keyHash P (zs [80, 69, 82, 67, 69, 78, 84, 69, 81, 85, 65, 76]), (.str (zs [80, 69, 82, 67, 69, 78, 84, 69, 81, 85, 65, 76]) 435), (.int (40) 434)⟩,
    ⟨PyData.keyHash P (zs [65, 77, 80, 69, 82, 69, 81, 85, 65, 76]), (.str (zs [65, 77, 80, 69, 82, 69, 81, 85, 65, 76]) 437), (.int (41) 436)⟩,
    ⟨PyData.keyHash P (zs [86, 66, 65, 82, 69, 81, 85, 65, 76]), (.str (zs [86, 66, 65, 82, 69, 81, 85, 65, 76]) 439), (.int (42) 438)⟩,
    ⟨PyData.keyHash P (zs [67, 73, 82, 67, 85, 77, 70, 76, 69, 88, 69, 81, 85, 65, 76]), (.str (zs [67, 73, 82, 67, 85, 77, 70, 76, 69, 88, 69, 81, 85, 65, 76]) 441), (.int (43) 440)⟩,
    ⟨PyData.keyHash P (zs [76, 69, 70, 84, 83, 72, 73, 70, 84, 69, 81, 85, 65, 76]), (.str (zs [76, 69, 70, 84, 83, 72, 73, 70, 84, 69, 81, 85, 65, 76]) 443), (.int (44) 442)⟩,
    ⟨PyData.keyHash P (zs [82, 73, 71, 72, 84, 83, 72, 73, 70, 84, 69, 81, 85, 65, 76]), (.str (zs [82, 73, 71, 72, 84, 83, 72, 73, 70, 84, 69, 81, 85, 65, 76]) 445), (.int (45) 444)⟩,
    ⟨PyData.keyHash P (zs [68, 79, 85, 66, 76, 69, 83, 84, 65, 82, 69, 81, 85, 65, 76]), (.str (zs [68, 79, 85, 66, 76, 69, 83, 84, 65, 82, 69, 81, 85, 65, 76]) 447), (.int (46) 446)⟩,
    ⟨PyData.keyHash P (zs [68, 79, 85, 66, 76, 69, 83, 76, 65, 83, 72]), (.str (zs [68, 79, 85, 66, 76, 69, 83, 76, 65, 83, 72]) 449), (.int (47) 448)⟩,
    ⟨PyData.keyHash P (zs [68, 79, 85, 66, 76, 69, 83, 76, 65, 83, 72, 69, 81, 85, 65, 76]), (.str (zs [68, 79, 85, 66, 76, 69, 83, 76, 65, 83, 72, 69, 81, 85, 65, 76]) 451), (.int (48) 450)⟩,
    ⟨PyData.keyHash P (zs [65, 84]), (.str (zs [65, 84]) 453), (.int (49) 452)⟩,
    ⟨PyData.keyHash P (zs [65, 84, 69, 81, 85, 65, 76]), (.str (zs [65, 84, 69, 81, 85, 65, 76]) 455), (.int (50) 454)⟩,
    ⟨PyData.keyHash P (zs [82, 65, 82, 82, 79, 87]), (.str (zs [82, 65, 82, 82, 79, 87]) 457), (.int (51) 456)⟩,
    ⟨PyData.keyHash P (zs [69, 76, 76, 73, 80, 83, 73, 83]), (.str (zs [69, 76, 76, 73, 80, 83, 73, 83]) 459), (.int (52) 458)⟩,
    ⟨PyData.keyHash P (zs [67, 79, 76, 79, 78, 69, 81, 85, 65, 76]), (.str (zs [67, 79, 76, 79, 78, 69, 81, 85, 65, 76]) 461), (.int (53) 460)⟩,
    ⟨PyData.keyHash P (zs [69, 88, 67, 76, 65, 77, 65, 84, 73, 79, 78]), (.str (zs [69, 88, 67, 76, 65, 77, 65, 84, 73, 79, 78]) 463), (.int (54) 462)⟩,
    ⟨PyData.keyHash P (zs [78, 84, 95, 79, 70, 70, 83, 69, 84]), (.str (zs [78, 84, 95, 79, 70, 70, 83, 69, 84]) 465), (.int (256) 464)⟩,
    ⟨PyData.keyHash P (zs [69, 88, 65, 67, 84, 95, 84, 79, 75, 69, 78, 95, 84, 89, 80, 69, 83]), (.str (zs [69, 88, 65, 67, 84, 95, 84, 79, 75, 69, 78, 95, 84, 89, 80, 69, 83]) 562), (.ref 66)⟩,
    ⟨PyData.keyHash P (zs [73, 83, 84, 69, 82, 77, 73, 78, 65, 76]), (.str (zs [73, 83, 84, 69, 82, 77, 73, 78, 65, 76]) 569), (.ref 75)⟩,
    ⟨PyData.keyHash P (zs [73, 83, 78, 79, 78, 84, 69, 82, 77, 73, 78, 65, 76]), (.str (zs [73, 83, 78, 79, 78, 84, 69, 82, 77, 73, 78, 65, 76]) 576), (.ref 82)⟩,
    ⟨PyData.keyHash P (zs [73, 83, 69, 79, 70]), (.str (zs [73, 83, 69, 79, 70]) 583), (.ref 89)⟩,
    ⟨PyData.keyHash P (zs [95, 108, 97, 119, 95, 116, 101, 120, 116]), (.str (zs [95, 108, 97, 119, 95, 116, 101, 120, 116]) 594), (.ref 96)⟩,
    ⟨PyData.keyHash P (zs [95, 108, 97, 119, 95, 115, 108, 97, 99, 107, 115]), (.str (zs [95, 108, 97, 119, 95, 115, 108, 97, 99, 107, 115]) 605), (.ref 103)⟩,
    ⟨PyData.keyHash P (zs [95, 108, 97, 119, 95, 99, 104, 97, 105, 110, 115]), (.str (zs [95, 108, 97, 119, 95, 99, 104, 97, 105, 110, 115]) 611), (.ref 108)⟩,
    ⟨PyData.keyHash P (zs [95, 108, 97, 119, 95, 100, 101, 97, 108, 116]), (.str (zs [95, 108, 97, 119, 95, 100, 101, 97, 108, 116]) 617), (.ref 113)⟩,
    ⟨PyData.keyHash P (zs [108, 97, 119]), (.str (zs [108, 97, 119]) 623), (.ref 118)⟩]) 74), #[]⟩,
  ⟨(.type "module"), (some 0), .plain, #[]⟩,
  ⟨(.type "module"), (some 3), .plain, #[]⟩,
  ⟨(.type "dict"), none, (.dict (List.toArray []) 0), #[]⟩,
  ⟨(.type "tuple"), none, (.seq #[] 0), #[]⟩,
  ⟨.none, none, (.fields #[]), #[]⟩,
  ⟨(.type "code"), none, (.fields #[(.str (zs [60, 109, 111, 100, 117, 108, 101, 62]) 176), (.str (zs [60, 109, 111, 100, 117, 108, 101, 62]) 177), (.str (zs [47, 99, 108, 97, 105, 109, 47, 99, 117, 116, 46, 112, 121]) 178), (.int (1) 0), (.int (0) 0), (.int (0) 0), (.int (0) 0), (.int (0) 0), (.ref 7), (.bool false), (.int (175) 0), (.ref 8), .none, .none, .none, .none, (.int (179) 0), (.int (1) 0), (.str (zs [47, 99, 108, 97, 105, 109, 47, 99, 117, 116, 46, 112, 121]) 180)]), #[]⟩,
  ⟨(.type "frame"), none, .plain, #[(.some (.ref 9)), (.some (.ref 3)), (.some (.ref 3)), .none, (.some (.str (zs [95, 95, 109, 97, 105, 110, 95, 95]) 164)), .none, (.some (.ref 0))]⟩,
  ⟨(.type "dict"), none, (.dict (List.toArray [⟨PyData.keyHash P (zs [95, 95, 110, 97, 109, 101, 95, 95]), (.str (zs [95, 95, 110, 97, 109, 101, 95, 95]) 247), (.str (zs [95, 115, 114, 101]) 246)⟩,
    ⟨PyData.keyHash P (zs [95, 95, 100, 111, 99, 95, 95]), (.str (zs [95, 95, 100, 111, 99, 95, 95]) 248), .none⟩,
    ⟨PyData.keyHash P (zs [95, 95, 112, 97, 99, 107, 97, 103, 101, 95, 95]), (.str (zs [95, 95, 112, 97, 99, 107, 97, 103, 101, 95, 95]) 250), (.str (zs []) 249)⟩,
    ⟨PyData.keyHash P (zs [95, 95, 108, 111, 97, 100, 101, 114, 95, 95]), (.str (zs [95, 95, 108, 111, 97, 100, 101, 114, 95, 95]) 251), (.builtin "off-the-table:_sre.__loader__:shared#opaque")⟩,
    ⟨PyData.keyHash P (zs [95, 95, 115, 112, 101, 99, 95, 95]), (.str (zs [95, 95, 115, 112, 101, 99, 95, 95]) 252), (.builtin "off-the-table:_sre.__spec__:shared#opaque")⟩,
    ⟨PyData.keyHash P (zs [99, 111, 109, 112, 105, 108, 101]), (.str (zs [99, 111, 109, 112, 105, 108, 101]) 253), (.builtin "_sre.compile")⟩,
    ⟨PyData.keyHash P (zs [116, 101, 109, 112, 108, 97, 116, 101]), (.str (zs [116, 101, 109, 112, 108, 97, 116, 101]) 254), (.builtin "off-the-table:_sre.template:shared#opaque")⟩,
    ⟨PyData.keyHash P (zs [103, 101, 116, 99, 111, 100, 101, 115, 105, 122, 101]), (.str (zs [103, 101, 116, 99, 111, 100, 101, 115, 105, 122, 101]) 255), (.builtin "off-the-table:_sre.getcodesize:shared#opaque")⟩,
    ⟨PyData.keyHash P (zs [97, 115, 99, 105, 105, 95, 105, 115, 99, 97, 115, 101, 100]), (.str (zs [97, 115, 99, 105, 105, 95, 105, 115, 99, 97, 115, 101, 100]) 256), (.builtin "off-the-table:_sre.ascii_iscased:shared#opaque")⟩,
    ⟨PyData.keyHash P (zs [117, 110, 105, 99, 111, 100, 101, 95, 105, 115, 99, 97, 115, 101, 100]), (.str (zs [117, 110, 105, 99, 111, 100, 101, 95, 105, 115, 99, 97, 115, 101, 100]) 257), (.builtin "off-the-table:_sre.unicode_iscased:shared#opaque")⟩,
    ⟨PyData.keyHash P (zs [97, 115, 99, 105, 105, 95, 116, 111, 108, 111, 119, 101, 114]), (.str (zs [97, 115, 99, 105, 105, 95, 116, 111, 108, 111, 119, 101, 114]) 258), (.builtin "off-the-table:_sre.ascii_tolower:shared#opaque")⟩,
    ⟨PyData.keyHash P (zs [117, 110, 105, 99, 111, 100, 101, 95, 116, 111, 108, 111, 119, 101, 114]), (.str (zs [117, 110, 105, 99, 111, 100, 101, 95, 116, 111, 108, 111, 119, 101, 114]) 259), (.builtin "off-the-table:_sre.unicode_tolower:shared#opaque")⟩,
    ⟨PyData.keyHash P (zs [77, 65, 71, 73, 67]), (.str (zs [77, 65, 71, 73, 67]) 261), (.int (20230612) 260)⟩,
    ⟨PyData.keyHash P (zs [67, 79, 68, 69, 83, 73, 90, 69]), (.str (zs [67, 79, 68, 69, 83, 73, 90, 69]) 263), (.int (4) 262)⟩,
    ⟨PyData.keyHash P (zs [77, 65, 88, 82, 69, 80, 69, 65, 84]), (.str (zs [77, 65, 88, 82, 69, 80, 69, 65, 84]) 265), (.int (4294967295) 264)⟩,
    ⟨PyData.keyHash P (zs [77, 65, 88, 71, 82, 79, 85, 80, 83]), (.str (zs [77, 65, 88, 71, 82, 79, 85, 80, 83]) 267), (.int (1073741823) 266)⟩,
    ⟨PyData.keyHash P (zs [99, 111, 112, 121, 114, 105, 103, 104, 116]), (.str (zs [99, 111, 112, 121, 114, 105, 103, 104, 116]) 269), (.str (zs [32, 83, 82, 69, 32, 50, 46, 50, 46, 50, 32, 67, 111, 112, 121, 114, 105, 103, 104, 116, 32, 40, 99, 41, 32, 49, 57, 57, 55, 45, 50, 48, 48, 50, 32, 98, 121, 32, 83, 101, 99, 114, 101, 116, 32, 76, 97, 98, 115, 32, 65, 66, 32]) 268)⟩]) 17), #[]⟩,
  ⟨(.type "module"), (some 11), .plain, #[]⟩,
  ⟨(.type "dict"), none, (.dict (List.toArray [⟨PyData.keyHash P (zs [95, 95, 109, 111, 100, 117, 108, 101, 95, 95]), (.str (zs [95, 95, 109, 111, 100, 117, 108, 101, 95, 95]) 189), (.str (zs [95, 102, 114, 111, 122, 101, 110, 95, 105, 109, 112, 111, 114, 116, 108, 105, 98]) 186)⟩,
    ⟨PyData.keyHash P (zs [95, 95, 102, 105, 114, 115, 116, 108, 105, 110, 101, 110, 111, 95, 95]), (.str (zs [95, 95, 102, 105, 114, 115, 116, 108, 105, 110, 101, 110, 111, 95, 95]) 190), (.int (971) 187)⟩,
    ⟨PyData.keyHash P (zs [95, 95, 100, 111, 99, 95, 95]), (.str (zs [95, 95, 100, 111, 99, 95, 95]) 191), (.builtin "_frozen_importlib.BuiltinImporter.__doc__:str#opaque")⟩,
    ⟨PyData.keyHash P (zs [95, 79, 82, 73, 71, 73, 78]), (.str (zs [95, 79, 82, 73, 71, 73, 78]) 192), (.str (zs [98, 117, 105, 108, 116, 45, 105, 110]) 188)⟩,
    ⟨PyData.keyHash P (zs [102, 105, 110, 100, 95, 115, 112, 101, 99]), (.str (zs [102, 105, 110, 100, 95, 115, 112, 101, 99]) 193), (.builtin "_frozen_importlib.BuiltinImporter.find_spec#opaque")⟩,
    ⟨PyData.keyHash P (zs [99, 114, 101, 97, 116, 101, 95, 109, 111, 100, 117, 108, 101]), (.str (zs [99, 114, 101, 97, 116, 101, 95, 109, 111, 100, 117, 108, 101]) 194), (.builtin "_frozen_importlib.BuiltinImporter.create_module#opaque")⟩,
    ⟨PyData.keyHash P (zs [101, 120, 101, 99, 95, 109, 111, 100, 117, 108, 101]), (.str (zs [101, 120, 101, 99, 95, 109, 111, 100, 117, 108, 101]) 195), (.builtin "_frozen_importlib.BuiltinImporter.exec_module#opaque")⟩,
    ⟨PyData.keyHash P (zs [103, 101, 116, 95, 99, 111, 100, 101]), (.str (zs [103, 101, 116, 95, 99, 111, 100, 101]) 196), (.builtin "_frozen_importlib.BuiltinImporter.get_code#opaque")⟩,
    ⟨PyData.keyHash P (zs [103, 101, 116, 95, 115, 111, 117, 114, 99, 101]), (.str (zs [103, 101, 116, 95, 115, 111, 117, 114, 99, 101]) 197), (.builtin "_frozen_importlib.BuiltinImporter.get_source#opaque")⟩,
    ⟨PyData.keyHash P (zs [105, 115, 95, 112, 97, 99, 107, 97, 103, 101]), (.str (zs [105, 115, 95, 112, 97, 99, 107, 97, 103, 101]) 198), (.builtin "_frozen_importlib.BuiltinImporter.is_package#opaque")⟩,
    ⟨PyData.keyHash P (zs [108, 111, 97, 100, 95, 109, 111, 100, 117, 108, 101]), (.str (zs [108, 111, 97, 100, 95, 109, 111, 100, 117, 108, 101]) 199), (.builtin "_frozen_importlib.BuiltinImporter.load_module#opaque")⟩,
    ⟨PyData.keyHash P (zs [95, 95, 115, 116, 97, 116, 105, 99, 95, 97, 116, 116, 114, 105, 98, 117, 116, 101, 115, 95, 95]), (.str (zs [95, 95, 115, 116, 97, 116, 105, 99, 95, 97, 116, 116, 114, 105, 98, 117, 116, 101, 115, 95, 95]) 200), (.ref 15)⟩,
    ⟨PyData.keyHash P (zs [95, 95, 100, 105, 99, 116, 95, 95]), (.str (zs [95, 95, 100, 105, 99, 116, 95, 95]) 202), (.ref 16)⟩,
    ⟨PyData.keyHash P (zs [95, 95, 119, 101, 97, 107, 114, 101, 102, 95, 95]), (.str (zs [95, 95, 119, 101, 97, 107, 114, 101, 102, 95, 95]) 204), (.ref 17)⟩]) 14), #[]⟩,
  ⟨(.type "type"), none, (.cls ⟨"BuiltinImporter", [(.type "object")], [(.ref 14), (.type "object")], 13, "BuiltinImporter", true, [], [], false, .none, false⟩), #[]⟩,
  ⟨(.type "tuple"), none, (.seq #[] 0), #[]⟩,
  ⟨(.type "getset_descriptor"), none, (.fields #[(.str (zs [95, 95, 100, 105, 99, 116, 95, 95]) 201), (.ref 14), (.builtin "function.__dict__"), (.builtin "function.__dict__#set")]), #[]⟩,
  ⟨(.type "getset_descriptor"), none, (.fields #[(.str (zs [95, 95, 119, 101, 97, 107, 114, 101, 102, 95, 95]) 203), (.ref 14), (.builtin "ExceptionGroup.__weakref__"), .none]), #[]⟩,
  ⟨.none, none, (.seq #[(.int (13) 0), (.str (zs [6, 189, 10, 95, 95, 109, 111, 100, 117, 108, 101, 95, 95, 6, 186, 17, 95, 102, 114, 111, 122, 101, 110, 95, 105, 109, 112, 111, 114, 116, 108, 105, 98, 6, 190, 15, 95, 95, 102, 105, 114, 115, 116, 108, 105, 110, 101, 110, 111, 95, 95, 4, 187, 0, 971, 6, 191, 7, 95, 95, 100, 111, 99, 95, 95, 9, 52, 95, 102, 114, 111, 122, 101, 110, 95, 105, 109, 112, 111, 114, 116, 108, 105, 98, 46, 66, 117, 105, 108, 116, 105, 110, 73, 109, 112, 111, 114, 116, 101, 114, 46, 95, 95, 100, 111, 99, 95, 95, 58, 115, 116, 114, 35, 111, 112, 97, 113, 117, 101, 6, 192, 7, 95, 79, 82, 73, 71, 73, 78, 6, 188, 8, 98, 117, 105, 108, 116, 45, 105, 110, 6, 193, 9, 102, 105, 110, 100, 95, 115, 112, 101, 99, 9, 50, 95, 102, 114, 111, 122, 101, 110, 95, 105, 109, 112, 111, 114, 116, 108, 105, 98, 46, 66, 117, 105, 108, 116, 105, 110, 73, 109, 112, 111, 114, 116, 101, 114, 46, 102, 105, 110, 100, 95, 115, 112, 101, 99, 35, 111, 112, 97, 113, 117, 101, 6, 194, 13, 99, 114, 101, 97, 116, 101, 95, 109, 111, 100, 117, 108, 101, 9, 54, 95, 102, 114, 111, 122, 101, 110, 95, 105, 109, 112, 111, 114, 116, 108, 105, 98, 46, 66, 117, 105, 108, 116, 105, 110, 73, 109, 112, 111, 114, 116, 101, 114, 46, 99, 114, 101, 97, 116, 101, 95, 109, 111, 100, 117, 108, 101, 35, 111, 112, 97, 113, 117, 101, 6, 195, 11, 101, 120, 101, 99, 95, 109, 111, 100, 117, 108, 101, 9, 52, 95, 102, 114, 111, 122, 101, 110, 95, 105, 109, 112, 111, 114, 116, 108, 105, 98, 46, 66, 117, 105, 108, 116, 105, 110, 73, 109, 112, 111, 114, 116, 101, 114, 46, 101, 120, 101, 99, 95, 109, 111, 100, 117, 108, 101, 35, 111, 112, 97, 113, 117, 101, 6, 196, 8, 103, 101, 116, 95, 99, 111, 100, 101, 9, 49, 95, 102, 114, 111, 122, 101, 110, 95, 105, 109, 112, 111, 114, 116, 108, 105, 98, 46, 66, 117, 105, 108, 116, 105, 110, 73, 109, 112, 111, 114, 116, 101, 114, 46, 103, 101, 116, 95, 99, 111, 100, 101, 35, 111, 112, 97, 113, 117, 101, 6, 197, 10, 103, 101, 116, 95, 115, 111, 117, 114, 99, 101, 9, 51, 95, 102, 114, 111, 122, 101, 110, 95, 105, 109, 112, 111, 114, 116, 108, 105, 98, 46, 66, 117, 105, 108, 116, 105, 110, 73, 109, 112, 111, 114, 116, 101, 114, 46, 103, 101, 116, 95, 115, 111, 117, 114, 99, 101, 35, 111, 112, 97, 113, 117, 101, 6, 198, 10, 105, 115, 95, 112, 97, 99, 107, 97, 103, 101, 9, 51, 95, 102, 114, 111, 122, 101, 110, 95, 105, 109, 112, 111, 114, 116, 108, 105, 98, 46, 66, 117, 105, 108, 116, 105, 110, 73, 109, 112, 111, 114, 116, 101, 114, 46, 105, 115, 95, 112, 97, 99, 107, 97, 103, 101, 35, 111, 112, 97, 113, 117, 101, 6, 199, 11, 108, 111, 97, 100, 95, 109, 111, 100, 117, 108, 101, 9, 52, 95, 102, 114, 111, 122, 101, 110, 95, 105, 109, 112, 111, 114, 116, 108, 105, 98, 46, 66, 117, 105, 108, 116, 105, 110, 73, 109, 112, 111, 114, 116, 101, 114, 46, 108, 111, 97, 100, 95, 109, 111, 100, 117, 108, 101, 35, 111, 112, 97, 113, 117, 101, 6, 200, 21, 95, 95, 115, 116, 97, 116, 105, 99, 95, 97, 116, 116, 114, 105, 98, 117, 116, 101, 115, 95, 95, 4, 0, 0, 15, 6, 202, 8, 95, 95, 100, 105, 99, 116, 95, 95, 4, 0, 0, 16, 6, 204, 11, 95, 95, 119, 101, 97, 107, 114, 101, 102, 95, 95, 4, 0, 0, 17]) 0), (.bool true), (.bool true), (.str (zs []) 205), (.int (21) 0), (.str (zs [6, 227, 10, 95, 95, 109, 111, 100, 117, 108, 101, 95, 95, 6, 217, 17, 95, 102, 114, 111, 122, 101, 110, 95, 105, 109, 112, 111, 114, 116, 108, 105, 98, 6, 228, 15, 95, 95, 102, 105, 114, 115, 116, 108, 105, 110, 101, 110, 111, 95, 95, 4, 218, 0, 562, 6, 229, 7, 95, 95, 100, 111, 99, 95, 95, 9, 47, 95, 102, 114, 111, 122, 101, 110, 95, 105, 109, 112, 111, 114, 116, 108, 105, 98, 46, 77, 111, 100, 117, 108, 101, 83, 112, 101, 99, 46, 95, 95, 100, 111, 99, 95, 95, 58, 115, 116, 114, 35, 111, 112, 97, 113, 117, 101, 6, 230, 8, 95, 95, 105, 110, 105, 116, 95, 95, 9, 44, 95, 102, 114, 111, 122, 101, 110, 95, 105, 109, 112, 111, 114, 116, 108, 105, 98, 46, 77, 111, 100, 117, 108, 101, 83, 112, 101, 99, 46, 95, 95, 105, 110, 105, 116, 95, 95, 35, 111, 112, 97, 113, 117, 101, 6, 231, 8, 95, 95, 114, 101, 112, 114, 95, 95, 9, 44, 95, 102, 114, 111, 122, 101, 110, 95, 105, 109, 112, 111, 114, 116, 108, 105, 98, 46, 77, 111, 100, 117, 108, 101, 83, 112, 101, 99, 46, 95, 95, 114, 101, 112, 114, 95, 95, 35, 111, 112, 97, 113, 117, 101, 6, 232, 6, 95, 95, 101, 113, 95, 95, 9, 42, 95, 102, 114, 111, 122, 101, 110, 95, 105, 109, 112, 111, 114, 116, 108, 105, 98, 46, 77, 111, 100, 117, 108, 101, 83, 112, 101, 99, 46, 95, 95, 101, 113, 95, 95, 35, 111, 112, 97, 113, 117, 101, 6, 233, 6, 99, 97, 99, 104, 101, 100, 9, 42, 95, 102, 114, 111, 122, 101, 110, 95, 105, 109, 112, 111, 114, 116, 108, 105, 98, 46, 77, 111, 100, 117, 108, 101, 83, 112, 101, 99, 46, 99, 97, 99, 104, 101, 100, 35, 111, 112, 97, 113, 117, 101, 6, 234, 6, 112, 97, 114, 101, 110, 116, 9, 42, 95, 102, 114, 111, 122, 101, 110, 95, 105, 109, 112, 111, 114, 116, 108, 105, 98, 46, 77, 111, 100, 117, 108, 101, 83, 112, 101, 99, 46, 112, 97, 114, 101, 110, 116, 35, 111, 112, 97, 113, 117, 101, 6, 235, 12, 104, 97, 115, 95, 108, 111, 99, 97, 116, 105, 111, 110, 9, 48, 95, 102, 114, 111, 122, 101, 110, 95, 105, 109, 112, 111, 114, 116, 108, 105, 98, 46, 77, 111, 100, 117, 108, 101, 83, 112, 101, 99, 46, 104, 97, 115, 95, 108, 111, 99, 97, 116, 105, 111, 110, 35, 111, 112, 97, 113, 117, 101, 6, 236, 21, 95, 95, 115, 116, 97, 116, 105, 99, 95, 97, 116, 116, 114, 105, 98, 117, 116, 101, 115, 95, 95, 4, 0, 0, 23, 6, 238, 8, 95, 95, 100, 105, 99, 116, 95, 95, 4, 0, 0, 24, 6, 240, 11, 95, 95, 119, 101, 97, 107, 114, 101, 102, 95, 95, 4, 0, 0, 25, 6, 241, 8, 95, 95, 104, 97, 115, 104, 95, 95, 0]) 0), (.bool true), (.bool true), (.str (zs []) 242)] 1), #[]⟩,
  ⟨(.type "list"), none, (.seq #[] 0), #[]⟩,
  ⟨(.type "dict"), none, (.dict (List.toArray [⟨PyData.keyHash P (zs [110, 97, 109, 101]), (.str (zs [110, 97, 109, 101]) 208), (.str (zs [95, 115, 114, 101]) 207)⟩,
    ⟨PyData.keyHash P (zs [108, 111, 97, 100, 101, 114]), (.str (zs [108, 111, 97, 100, 101, 114]) 209), (.ref 14)⟩,
    ⟨PyData.keyHash P (zs [111, 114, 105, 103, 105, 110]), (.str (zs [111, 114, 105, 103, 105, 110]) 210), (.str (zs [98, 117, 105, 108, 116, 45, 105, 110]) 184)⟩,
    ⟨PyData.keyHash P (zs [108, 111, 97, 100, 101, 114, 95, 115, 116, 97, 116, 101]), (.str (zs [108, 111, 97, 100, 101, 114, 95, 115, 116, 97, 116, 101]) 211), .none⟩,
    ⟨PyData.keyHash P (zs [115, 117, 98, 109, 111, 100, 117, 108, 101, 95, 115, 101, 97, 114, 99, 104, 95, 108, 111, 99, 97, 116, 105, 111, 110, 115]), (.str (zs [115, 117, 98, 109, 111, 100, 117, 108, 101, 95, 115, 101, 97, 114, 99, 104, 95, 108, 111, 99, 97, 116, 105, 111, 110, 115]) 212), .none⟩,
    ⟨PyData.keyHash P (zs [95, 117, 110, 105, 110, 105, 116, 105, 97, 108, 105, 122, 101, 100, 95, 115, 117, 98, 109, 111, 100, 117, 108, 101, 115]), (.str (zs [95, 117, 110, 105, 110, 105, 116, 105, 97, 108, 105, 122, 101, 100, 95, 115, 117, 98, 109, 111, 100, 117, 108, 101, 115]) 213), (.ref 19)⟩,
    ⟨PyData.keyHash P (zs [95, 115, 101, 116, 95, 102, 105, 108, 101, 97, 116, 116, 114]), (.str (zs [95, 115, 101, 116, 95, 102, 105, 108, 101, 97, 116, 116, 114]) 214), (.bool false)⟩,
    ⟨PyData.keyHash P (zs [95, 99, 97, 99, 104, 101, 100]), (.str (zs [95, 99, 97, 99, 104, 101, 100]) 215), .none⟩,
    ⟨PyData.keyHash P (zs [95, 105, 110, 105, 116, 105, 97, 108, 105, 122, 105, 110, 103]), (.str (zs [95, 105, 110, 105, 116, 105, 97, 108, 105, 122, 105, 110, 103]) 243), (.bool false)⟩]) 9), #[]⟩,
  ⟨(.type "dict"), none, (.dict (List.toArray [⟨PyData.keyHash P (zs [95, 95, 109, 111, 100, 117, 108, 101, 95, 95]), (.str (zs [95, 95, 109, 111, 100, 117, 108, 101, 95, 95]) 227), (.str (zs [95, 102, 114, 111, 122, 101, 110, 95, 105, 109, 112, 111, 114, 116, 108, 105, 98]) 217)⟩,
    ⟨PyData.keyHash P (zs [95, 95, 102, 105, 114, 115, 116, 108, 105, 110, 101, 110, 111, 95, 95]), (.str (zs [95, 95, 102, 105, 114, 115, 116, 108, 105, 110, 101, 110, 111, 95, 95]) 228), (.int (562) 218)⟩,
    ⟨PyData.keyHash P (zs [95, 95, 100, 111, 99, 95, 95]), (.str (zs [95, 95, 100, 111, 99, 95, 95]) 229), (.builtin "_frozen_importlib.ModuleSpec.__doc__:str#opaque")⟩,
    ⟨PyData.keyHash P (zs [95, 95, 105, 110, 105, 116, 95, 95]), (.str (zs [95, 95, 105, 110, 105, 116, 95, 95]) 230), (.builtin "_frozen_importlib.ModuleSpec.__init__#opaque")⟩,
    ⟨PyData.keyHash P (zs [95, 95, 114, 101, 112, 114, 95, 95]), (.str (zs [95, 95, 114, 101, 112, 114, 95, 95]) 231), (.builtin "_frozen_importlib.ModuleSpec.__repr__#opaque")⟩,
    ⟨PyData.keyHash P (zs [95, 95, 101, 113, 95, 95]), (.str (zs [95, 95, 101, 113, 95, 95]) 232), (.builtin "_frozen_importlib.ModuleSpec.__eq__#opaque")⟩,
    ⟨PyData.keyHash P (zs [99, 97, 99, 104, 101, 100]), (.str (zs [99, 97, 99, 104, 101, 100]) 233), (.builtin "_frozen_importlib.ModuleSpec.cached#opaque")⟩,
    ⟨PyData.keyHash P (zs [112, 97, 114, 101, 110, 116]), (.str (zs [112, 97, 114, 101, 110, 116]) 234), (.builtin "_frozen_importlib.ModuleSpec.parent#opaque")⟩,
    ⟨PyData.keyHash P (zs [104, 97, 115, 95, 108, 111, 99, 97, 116, 105, 111, 110]), (.str (zs [104, 97, 115, 95, 108, 111, 99, 97, 116, 105, 111, 110]) 235), (.builtin "_frozen_importlib.ModuleSpec.has_location#opaque")⟩,
    ⟨PyData.keyHash P (zs [95, 95, 115, 116, 97, 116, 105, 99, 95, 97, 116, 116, 114, 105, 98, 117, 116, 101, 115, 95, 95]), (.str (zs [95, 95, 115, 116, 97, 116, 105, 99, 95, 97, 116, 116, 114, 105, 98, 117, 116, 101, 115, 95, 95]) 236), (.ref 23)⟩,
    ⟨PyData.keyHash P (zs [95, 95, 100, 105, 99, 116, 95, 95]), (.str (zs [95, 95, 100, 105, 99, 116, 95, 95]) 238), (.ref 24)⟩,
    ⟨PyData.keyHash P (zs [95, 95, 119, 101, 97, 107, 114, 101, 102, 95, 95]), (.str (zs [95, 95, 119, 101, 97, 107, 114, 101, 102, 95, 95]) 240), (.ref 25)⟩,
    ⟨PyData.keyHash P (zs [95, 95, 104, 97, 115, 104, 95, 95]), (.str (zs [95, 95, 104, 97, 115, 104, 95, 95]) 241), .none⟩]) 13), #[]⟩,
  ⟨(.type "type"), none, (.cls ⟨"ModuleSpec", [(.type "object")], [(.ref 22), (.type "object")], 21, "ModuleSpec", true, [], [], false, .none, false⟩), #[]⟩,
  ⟨(.type "tuple"), none, (.seq #[(.str (zs [95, 99, 97, 99, 104, 101, 100]) 219), (.str (zs [95, 115, 101, 116, 95, 102, 105, 108, 101, 97, 116, 116, 114]) 220), (.str (zs [95, 117, 110, 105, 110, 105, 116, 105, 97, 108, 105, 122, 101, 100, 95, 115, 117, 98, 109, 111, 100, 117, 108, 101, 115]) 221), (.str (zs [108, 111, 97, 100, 101, 114]) 222), (.str (zs [108, 111, 97, 100, 101, 114, 95, 115, 116, 97, 116, 101]) 223), (.str (zs [110, 97, 109, 101]) 224), (.str (zs [111, 114, 105, 103, 105, 110]) 225), (.str (zs [115, 117, 98, 109, 111, 100, 117, 108, 101, 95, 115, 101, 97, 114, 99, 104, 95, 108, 111, 99, 97, 116, 105, 111, 110, 115]) 226)] 0), #[]⟩,
  ⟨(.type "getset_descriptor"), none, (.fields #[(.str (zs [95, 95, 100, 105, 99, 116, 95, 95]) 237), (.ref 22), (.builtin "function.__dict__"), (.builtin "function.__dict__#set")]), #[]⟩,
  ⟨(.type "getset_descriptor"), none, (.fields #[(.str (zs [95, 95, 119, 101, 97, 107, 114, 101, 102, 95, 95]) 239), (.ref 22), (.builtin "ExceptionGroup.__weakref__"), .none]), #[]⟩,
  ⟨(.ref 22), (some 20), .plain, #[]⟩,
  ⟨.none, none, (.seq #[(.int (11) 0), (.str (Str.mk #[6, 247, 8, 95, 95, 110, 97, 109, 101, 95, 95, 6, 246, 4, 95, 115, 114, 101, 6, 248, 7, 95, 95, 100, 111, 99, 95, 95, 0, 6, 250, 11, 95, 95, 112, 97, 99, 107, 97, 103, 101, 95, 95, 6, 249, 0, 6, 251, 10, 95, 95, 108, 111, 97, 100, 101, 114, 95, 95, 4, 0, 0, 14, 6, 252, 8, 95, 95, 115, 112, 101, 99, 95, 95, 4, 0, 0, 26, 6, 253, 7, 99, 111, 109, 112, 105, 108, 101, 9, 12, 95, 115, 114, 101, 46, 99, 111, 109, 112, 105, 108, 101, 6, 254, 8, 116, 101, 109, 112, 108, 97, 116, 101, 9, 13, 95, 115, 114, 101, 46, 116, 101, 109, 112, 108, 97, 116, 101, 6, 255, 11, 103, 101, 116, 99, 111, 100, 101, 115, 105, 122, 101, 9, 16, 95, 115, 114, 101, 46, 103, 101, 116, 99, 111, 100, 101, 115, 105, 122, 101, 6, 256, 13, 97, 115, 99, 105, 105, 95, 105, 115, 99, 97, 115, 101, 100, 9, 18, 95, 115, 114, 101, 46, 97, 115, 99, 105, 105, 95, 105, 115, 99, 97, 115, 101, 100, 6, 257, 15, 117, 110, 105, 99, 111, 100, 101, 95, 105, 115, 99, 97, 115, 101, 100, 9, 20, 95, 115, 114, 101, 46, 117, 110, 105, 99, 111, 100, 101, 95, 105, 115, 99, 97, 115, 101, 100, 6, 258, 13, 97, 115, 99, 105, 105, 95, 116, 111, 108, 111, 119, 101, 114, 9, 18, 95, 115, 114, 101, 46, 97, 115, 99, 105, 105, 95, 116, 111, 108, 111, 119, 101, 114, 6, 259, 15, 117, 110, 105, 99, 111, 100, 101, 95, 116, 111, 108, 111, 119, 101, 114, 9, 20, 95, 115, 114, 101, 46, 117, 110, 105, 99, 111, 100, 101, 95, 116, 111, 108, 111, 119, 101, 114, 6, 261, 5, 77, 65, 71, 73, 67, 4, 260, 0, 20230612, 6, 263, 8, 67, 79, 68, 69, 83, 73, 90, 69, 4, 262, 0, 4, 6, 265, 9, 77, 65, 88, 82, 69, 80, 69, 65, 84, 4, 264, 0, 4294967295, 6, 267, 9, 77, 65, 88, 71, 82, 79, 85, 80, 83, 4, 266, 0, 1073741823, 6, 269, 9, 99, 111, 112, 121, 114, 105, 103, 104, 116, 6, 268, 53, 32, 83, 82, 69, 32, 50, 46, 50, 46, 50, 32, 67, 111, 112, 121, 114, 105, 103, 104, 116, 32, 40, 99, 41, 32, 49, 57, 57, 55, 45, 50, 48, 48, 50, 32, 98, 121, 32, 83, 101, 99, 114, 101, 116, 32, 76, 97, 98, 115, 32, 65, 66, 32]) 0), (.bool true), (.bool false), (.str (zs [95, 115, 114, 101]) 271)] 0), #[]⟩,
  ⟨(.type "tuple"), none, (.seq #[] 0), #[]⟩,
  ⟨.none, none, (.fields #[(.int (4) 0), (.int (0) 0), (.ref 43), (.int (8) 0), (.int (0) 0), (.ref 50), (.int (10) 0), (.int (0) 0), (.ref 57), (.int (12) 0), (.int (0) 0), (.ref 64), (.int (74) 0), (.int (0) 0), (.ref 74), (.int (76) 0), (.int (0) 0), (.ref 81), (.int (78) 0), (.int (0) 0), (.ref 88), (.int (81) 0), (.int (0) 0), (.ref 95), (.int (84) 0), (.int (0) 0), (.ref 102), (.int (91) 0), (.int (0) 0), (.ref 107), (.int (99) 0), (.int (0) 0), (.ref 112), (.int (109) 0), (.int (0) 0), (.ref 117)]), #[]⟩,
  ⟨(.type "code"), none, (.fields #[(.str (zs [60, 109, 111, 100, 117, 108, 101, 62]) 277), (.str (zs [60, 109, 111, 100, 117, 108, 101, 62]) 278), (.str (zs [47, 99, 108, 97, 105, 109, 47, 99, 117, 116, 46, 112, 121]) 279), (.int (1) 0), (.int (0) 0), (.int (0) 0), (.int (0) 0), (.int (0) 0), (.ref 28), (.bool false), (.int (276) 0), (.ref 29), .none, .none, .none, .none, (.int (280) 0), (.int (1) 0), (.str (zs [47, 99, 108, 97, 105, 109, 47, 99, 117, 116, 46, 112, 121]) 281)]), #[]⟩,
  ⟨(.type "frame"), none, .plain, #[(.some (.ref 30)), (.some (.ref 3)), (.some (.ref 3)), .none, (.some (.str (zs [95, 95, 109, 97, 105, 110, 95, 95]) 164)), .none, (.some (.ref 0))]⟩,
  ⟨(.type "list"), none, (.seq #[(.int (14) 287), (.int (8) 288), (.int (1) 289), (.int (2) 290), (.int (4294967295) 291), (.int (1) 292), (.int (1) 293), (.int (34) 294), (.int (0) 295), (.int (16) 296), (.int (34) 297), (.int (28) 298), (.int (22) 299), (.int (0) 300), (.int (4294967295) 301), (.int (7) 302), (.int (11) 303), (.int (13) 304), (.int (7) 305), (.int (21) 306), (.int (16) 307), (.int (34) 308), (.int (16) 309), (.int (92) 310), (.int (0) 311), (.int (15) 312), (.int (8) 313), (.int (6) 314), (.int (16) 315), (.int (92) 316), (.int (2) 317), (.int (15) 318), (.int (2) 319), (.int (0) 320), (.int (1) 321), (.int (16) 322), (.int (34) 323), (.int (1) 324)] 0), #[]⟩,
  ⟨(.type "dict"), none, (.dict (List.toArray []) 0), #[]⟩,
  ⟨(.type "tuple"), none, (.seq #[.none] 0), #[]⟩,
  ⟨(.type "tuple"), none, (.seq #[(.int (14) 0), (.int (8) 0), (.int (1) 0), (.int (2) 0), (.int (4294967295) 0), (.int (1) 0), (.int (1) 0), (.int (34) 0), (.int (0) 0), (.int (16) 0), (.int (34) 0), (.int (28) 0), (.int (22) 0), (.int (0) 0), (.int (4294967295) 0), (.int (7) 0), (.int (11) 0), (.int (13) 0), (.int (7) 0), (.int (21) 0), (.int (16) 0), (.int (34) 0), (.int (16) 0), (.int (92) 0), (.int (0) 0), (.int (15) 0), (.int (8) 0), (.int (6) 0), (.int (16) 0), (.int (92) 0), (.int (2) 0), (.int (15) 0), (.int (2) 0), (.int (0) 0), (.int (1) 0), (.int (16) 0), (.int (34) 0), (.int (1) 0)] 0), #[]⟩,
  ⟨(.type "re.Pattern"), none, (.fields #[(.bytes #[34, 40, 63, 58, 91, 94, 34, 92, 92, 93, 124, 92, 92, 46, 41, 42, 43, 34] 285), (.int (0) 326), (.int (0) 0), .none, .none, (.ref 35), (.int (1) 0)]), #[]⟩,
  ⟨(.type "tuple"), none, (.seq #[(.int (0) 328)] 0), #[]⟩,
  ⟨(.type "tuple"), none, (.seq #[] 0), #[]⟩,
  ⟨.none, none, (.fields #[]), #[]⟩,
  ⟨(.type "tuple"), none, (.seq #[(.str (zs [100, 97, 116, 97]) 332), (.str (zs [100, 101, 112, 116, 104]) 333)] 0), #[]⟩,
  ⟨(.type "tuple"), none, (.seq #[] 0), #[]⟩,
  ⟨.none, none, (.func { docDef (zs [95, 112, 97, 114, 101, 110, 95, 100, 101, 112, 116, 104]) (paramsOf 0) (bodyOf 0) (scopeOf 0) .none .none .none with defaults := .none, globals := 0 }), #[]⟩,
  ⟨(.type "code"), none, (.fields #[(.str (zs [95, 112, 97, 114, 101, 110, 95, 100, 101, 112, 116, 104]) 329), (.str (zs [95, 112, 97, 114, 101, 110, 95, 100, 101, 112, 116, 104]) 330), (.str (zs [47, 99, 108, 97, 105, 109, 47, 99, 117, 116, 46, 112, 121]) 331), (.int (4) 0), (.int (2) 0), (.int (0) 0), (.int (0) 0), (.int (3) 0), (.ref 38), (.bool true), (.int (276) 0), (.ref 39), .none, (.ref 40), (.ref 41), (.ref 42), (.int (334) 0), (.int (4) 0), (.str (zs [47, 99, 108, 97, 105, 109, 47, 99, 117, 116, 46, 112, 121]) 335)]), #[]⟩,
  ⟨(.type "function"), none, (.func { docDef (zs [95, 112, 97, 114, 101, 110, 95, 100, 101, 112, 116, 104]) (paramsOf 0) (bodyOf 0) (scopeOf 0) (.str (zs [99, 112, 121, 51, 49, 51, 46, 105, 109, 97, 112, 108, 105, 98]) 282) (.ref 43) .none with defaults := (.ref 37) }), #[]⟩,
  ⟨(.type "tuple"), none, (.seq #[] 0), #[]⟩,
  ⟨.none, none, (.fields #[]), #[]⟩,
  ⟨(.type "tuple"), none, (.seq #[(.str (zs [97]) 342), (.str (zs [98]) 343)] 0), #[]⟩,
  ⟨(.type "tuple"), none, (.seq #[] 0), #[]⟩,
  ⟨.none, none, (.func { docDef (zs [95, 115, 116, 114, 99, 111, 108, 108]) (paramsOf 1) (bodyOf 1) (scopeOf 1) .none .none .none with defaults := .none, globals := 0 }), #[]⟩,
  ⟨(.type "code"), none, (.fields #[(.str (zs [95, 115, 116, 114, 99, 111, 108, 108]) 339), (.str (zs [95, 115, 116, 114, 99, 111, 108, 108]) 340), (.str (zs [47, 99, 108, 97, 105, 109, 47, 99, 117, 116, 46, 112, 121]) 341), (.int (8) 0), (.int (2) 0), (.int (0) 0), (.int (0) 0), (.int (3) 0), (.ref 45), (.bool true), (.int (276) 0), (.ref 46), .none, (.ref 47), (.ref 48), (.ref 49), (.int (344) 0), (.int (8) 0), (.str (zs [47, 99, 108, 97, 105, 109, 47, 99, 117, 116, 46, 112, 121]) 345)]), #[]⟩,
  ⟨(.type "function"), none, (.func { docDef (zs [95, 115, 116, 114, 99, 111, 108, 108]) (paramsOf 1) (bodyOf 1) (scopeOf 1) (.str (zs [99, 112, 121, 51, 49, 51, 46, 108, 111, 99, 97, 108, 101]) 337) (.ref 50) .none with defaults := .none }), #[]⟩,
  ⟨(.type "tuple"), none, (.seq #[] 0), #[]⟩,
  ⟨.none, none, (.fields #[]), #[]⟩,
  ⟨(.type "tuple"), none, (.seq #[(.str (zs [115]) 350)] 0), #[]⟩,
  ⟨(.type "tuple"), none, (.seq #[] 0), #[]⟩,
  ⟨.none, none, (.func { docDef (zs [95, 115, 116, 114, 120, 102, 114, 109]) (paramsOf 2) (bodyOf 2) (scopeOf 2) .none .none .none with defaults := .none, globals := 0 }), #[]⟩,
  ⟨(.type "code"), none, (.fields #[(.str (zs [95, 115, 116, 114, 120, 102, 114, 109]) 347), (.str (zs [95, 115, 116, 114, 120, 102, 114, 109]) 348), (.str (zs [47, 99, 108, 97, 105, 109, 47, 99, 117, 116, 46, 112, 121]) 349), (.int (10) 0), (.int (1) 0), (.int (0) 0), (.int (0) 0), (.int (3) 0), (.ref 52), (.bool true), (.int (276) 0), (.ref 53), .none, (.ref 54), (.ref 55), (.ref 56), (.int (351) 0), (.int (10) 0), (.str (zs [47, 99, 108, 97, 105, 109, 47, 99, 117, 116, 46, 112, 121]) 352)]), #[]⟩,
  ⟨(.type "function"), none, (.func { docDef (zs [95, 115, 116, 114, 120, 102, 114, 109]) (paramsOf 2) (bodyOf 2) (scopeOf 2) (.str (zs [99, 112, 121, 51, 49, 51, 46, 108, 111, 99, 97, 108, 101]) 337) (.ref 57) .none with defaults := .none }), #[]⟩,
  ⟨(.type "tuple"), none, (.seq #[] 0), #[]⟩,
  ⟨.none, none, (.fields #[]), #[]⟩,
  ⟨(.type "tuple"), none, (.seq #[(.str (zs [115]) 357), (.str (zs [97, 109, 111, 117, 110, 116]) 358), (.str (zs [108, 112, 111, 115]) 359), (.str (zs [114, 112, 111, 115]) 360)] 0), #[]⟩,
  ⟨(.type "tuple"), none, (.seq #[] 0), #[]⟩,
  ⟨.none, none, (.func { docDef (zs [95, 115, 116, 114, 105, 112, 95, 112, 97, 100, 100, 105, 110, 103]) (paramsOf 3) (bodyOf 3) (scopeOf 3) .none .none .none with defaults := .none, globals := 0 }), #[]⟩,
  ⟨(.type "code"), none, (.fields #[(.str (zs [95, 115, 116, 114, 105, 112, 95, 112, 97, 100, 100, 105, 110, 103]) 354), (.str (zs [95, 115, 116, 114, 105, 112, 95, 112, 97, 100, 100, 105, 110, 103]) 355), (.str (zs [47, 99, 108, 97, 105, 109, 47, 99, 117, 116, 46, 112, 121]) 356), (.int (12) 0), (.int (2) 0), (.int (0) 0), (.int (0) 0), (.int (3) 0), (.ref 59), (.bool true), (.int (276) 0), (.ref 60), .none, (.ref 61), (.ref 62), (.ref 63), (.int (361) 0), (.int (12) 0), (.str (zs [47, 99, 108, 97, 105, 109, 47, 99, 117, 116, 46, 112, 121]) 362)]), #[]⟩,
  ⟨(.type "function"), none, (.func { docDef (zs [95, 115, 116, 114, 105, 112, 95, 112, 97, 100, 100, 105, 110, 103]) (paramsOf 3) (bodyOf 3) (scopeOf 3) (.str (zs [99, 112, 121, 51, 49, 51, 46, 108, 111, 99, 97, 108, 101]) 337) (.ref 64) .none with defaults := .none }), #[]⟩,
  ⟨(.type "dict"), none, (.dict (List.toArray [⟨PyData.keyHash P (zs [33]), (.str (zs [33]) 466), (.int (54) 462)⟩,
    ⟨PyData.keyHash P (zs [33, 61]), (.str (zs [33, 61]) 468), (.int (28) 410)⟩,
    ⟨PyData.keyHash P (zs [37]), (.str (zs [37]) 470), (.int (24) 402)⟩,
    ⟨PyData.keyHash P (zs [37, 61]), (.str (zs [37, 61]) 472), (.int (40) 434)⟩,
    ⟨PyData.keyHash P (zs [38]), (.str (zs [38]) 474), (.int (19) 392)⟩,
    ⟨PyData.keyHash P (zs [38, 61]), (.str (zs [38, 61]) 476), (.int (41) 436)⟩,
    ⟨PyData.keyHash P (zs [40]), (.str (zs [40]) 478), (.int (7) 368)⟩,
    ⟨PyData.keyHash P (zs [41]), (.str (zs [41]) 480), (.int (8) 370)⟩,
    ⟨PyData.keyHash P (zs [42]), (.str (zs [42]) 482), (.int (16) 386)⟩,
    ⟨PyData.keyHash P (zs [42, 42]), (.str (zs [42, 42]) 484), (.int (35) 424)⟩,
    ⟨PyData.keyHash P (zs [42, 42, 61]), (.str (zs [42, 42, 61]) 486), (.int (46) 446)⟩,
    ⟨PyData.keyHash P (zs [42, 61]), (.str (zs [42, 61]) 488), (.int (38) 430)⟩,
    ⟨PyData.keyHash P (zs [43]), (.str (zs [43]) 490), (.int (14) 382)⟩,
    ⟨PyData.keyHash P (zs [43, 61]), (.str (zs [43, 61]) 492), (.int (36) 426)⟩,
    ⟨PyData.keyHash P (zs [44]), (.str (zs [44]) 494), (.int (12) 378)⟩,
    ⟨PyData.keyHash P (zs [45]), (.str (zs [45]) 496), (.int (15) 384)⟩,
    ⟨PyData.keyHash P (zs [45, 61]), (.str (zs [45, 61]) 498), (.int (37) 428)⟩,
    ⟨PyData.keyHash P (zs [45, 62]), (.str (zs [45, 62]) 500), (.int (51) 456)⟩,
    ⟨PyData.keyHash P (zs [46]), (.str (zs [46]) 502), (.int (23) 400)⟩,
    ⟨PyData.keyHash P (zs [46, 46, 46]), (.str (zs [46, 46, 46]) 504), (.int (52) 458)⟩,
    ⟨PyData.keyHash P (zs [47]), (.str (zs [47]) 506), (.int (17) 388)⟩,
    ⟨PyData.keyHash P (zs [47, 47]), (.str (zs [47, 47]) 508), (.int (47) 448)⟩,
    ⟨PyData.keyHash P (zs [47, 47, 61]), (.str (zs [47, 47, 61]) 510), (.int (48) 450)⟩,
    ⟨PyData.keyHash P (zs [47, 61]), (.str (zs [47, 61]) 512), (.int (39) 432)⟩,
    ⟨PyData.keyHash P (zs [58]), (.str (zs [58]) 514), (.int (11) 376)⟩,
    ⟨PyData.keyHash P (zs [58, 61]), (.str (zs [58, 61]) 516), (.int (53) 460)⟩,
    ⟨PyData.keyHash P (zs [59]), (.str (zs [59]) 518), (.int (13) 380)⟩,
    ⟨PyData.keyHash P (zs [60]), (.str (zs [60]) 520), (.int (20) 394)⟩,
    ⟨PyData.keyHash P (zs [60, 60]), (.str (zs [60, 60]) 522), (.int (33) 420)⟩,
    ⟨PyData.keyHash P (zs [60, 60, 61]), (.str (zs [60, 60, 61]) 524), (.int (44) 442)⟩,
    ⟨PyData.keyHash P (zs [60, 61]), (.str (zs [60, 61]) 526), (.int (29) 412)⟩,
    ⟨PyData.keyHash P (zs [61]), (.str (zs [61]) 528), (.int (22) 398)⟩,
    ⟨PyData.keyHash P (zs [61, 61]), (.str (zs [61, 61]) 530), (.int (27) 408)⟩,
    ⟨PyData.keyHash P (zs [62]), (.str (zs [62]) 532), (.int (21) 396)⟩,
    ⟨PyData.keyHash P (zs [62, 61]), (.str (zs [62, 61]) 534), (.int (30) 414)⟩,
    ⟨PyData.keyHash P (zs [62, 62]), (.str (zs [62, 62]) 535), (.int (34) 422)⟩,
    ⟨PyData.keyHash P (zs [62, 62, 61]), (.str (zs [62, 62, 61]) 536), (.int (45) 444)⟩,
    ⟨PyData.keyHash P (zs [64]), (.str (zs [64]) 537), (.int (49) 452)⟩,
    ⟨PyData.keyHash P (zs [64, 61]), (.str (zs [64, 61]) 538), (.int (50) 454)⟩,
    ⟨PyData.keyHash P (zs [91]), (.str (zs [91]) 539), (.int (9) 372)⟩,
    ⟨PyData.keyHash P (zs [93]), (.str (zs [93]) 540), (.int (10) 374)⟩,
    ⟨PyData.keyHash P (zs [94]), (.str (zs [94]) 541), (.int (32) 418)⟩,
    ⟨PyData.keyHash P (zs [94, 61]), (.str (zs [94, 61]) 542), (.int (43) 440)⟩,
    ⟨PyData.keyHash P (zs [123]), (.str (zs [123]) 543), (.int (25) 404)⟩,
    ⟨PyData.keyHash P (zs [124]), (.str (zs [124]) 544), (.int (18) 390)⟩,
    ⟨PyData.keyHash P (zs [124, 61]), (.str (zs [124, 61]) 545), (.int (42) 438)⟩,
    ⟨PyData.keyHash P (zs [125]), (.str (zs [125]) 546), (.int (26) 406)⟩,
    ⟨PyData.keyHash P (zs [126]), (.str (zs [126]) 547), (.int (31) 416)⟩]) 48), #[]⟩,
  ⟨(.type "dict"), none, (.dict (List.toArray [⟨PyData.keyHash P (zs [45, 62]), (.str (zs [45, 62]) 500), (.int (51) 456)⟩,
    ⟨PyData.keyHash P (zs [46]), (.str (zs [46]) 502), (.int (23) 400)⟩,
    ⟨PyData.keyHash P (zs [46, 46, 46]), (.str (zs [46, 46, 46]) 504), (.int (52) 458)⟩,
    ⟨PyData.keyHash P (zs [47]), (.str (zs [47]) 506), (.int (17) 388)⟩,
    ⟨PyData.keyHash P (zs [47, 47]), (.str (zs [47, 47]) 508), (.int (47) 448)⟩,
    ⟨PyData.keyHash P (zs [47, 47, 61]), (.str (zs [47, 47, 61]) 510), (.int (48) 450)⟩,
    ⟨PyData.keyHash P (zs [47, 61]), (.str (zs [47, 61]) 512), (.int (39) 432)⟩,
    ⟨PyData.keyHash P (zs [58]), (.str (zs [58]) 514), (.int (11) 376)⟩,
    ⟨PyData.keyHash P (zs [58, 61]), (.str (zs [58, 61]) 516), (.int (53) 460)⟩,
    ⟨PyData.keyHash P (zs [59]), (.str (zs [59]) 518), (.int (13) 380)⟩,
    ⟨PyData.keyHash P (zs [60]), (.str (zs [60]) 520), (.int (20) 394)⟩,
    ⟨PyData.keyHash P (zs [60, 60]), (.str (zs [60, 60]) 522), (.int (33) 420)⟩,
    ⟨PyData.keyHash P (zs [60, 60, 61]), (.str (zs [60, 60, 61]) 524), (.int (44) 442)⟩,
    ⟨PyData.keyHash P (zs [60, 61]), (.str (zs [60, 61]) 526), (.int (29) 412)⟩,
    ⟨PyData.keyHash P (zs [61]), (.str (zs [61]) 528), (.int (22) 398)⟩,
    ⟨PyData.keyHash P (zs [61, 61]), (.str (zs [61, 61]) 530), (.int (27) 408)⟩,
    ⟨PyData.keyHash P (zs [62]), (.str (zs [62]) 532), (.int (21) 396)⟩]) 17), #[]⟩,
  ⟨(.type "dict"), none, (.dict (List.toArray [⟨PyData.keyHash P (zs [62, 61]), (.str (zs [62, 61]) 534), (.int (30) 414)⟩,
    ⟨PyData.keyHash P (zs [62, 62]), (.str (zs [62, 62]) 535), (.int (34) 422)⟩,
    ⟨PyData.keyHash P (zs [62, 62, 61]), (.str (zs [62, 62, 61]) 536), (.int (45) 444)⟩,
    ⟨PyData.keyHash P (zs [64]), (.str (zs [64]) 537), (.int (49) 452)⟩,
    ⟨PyData.keyHash P (zs [64, 61]), (.str (zs [64, 61]) 538), (.int (50) 454)⟩,
    ⟨PyData.keyHash P (zs [91]), (.str (zs [91]) 539), (.int (9) 372)⟩,
    ⟨PyData.keyHash P (zs [93]), (.str (zs [93]) 540), (.int (10) 374)⟩,
    ⟨PyData.keyHash P (zs [94]), (.str (zs [94]) 541), (.int (32) 418)⟩,
    ⟨PyData.keyHash P (zs [94, 61]), (.str (zs [94, 61]) 542), (.int (43) 440)⟩,
    ⟨PyData.keyHash P (zs [123]), (.str (zs [123]) 543), (.int (25) 404)⟩,
    ⟨PyData.keyHash P (zs [124]), (.str (zs [124]) 544), (.int (18) 390)⟩,
    ⟨PyData.keyHash P (zs [124, 61]), (.str (zs [124, 61]) 545), (.int (42) 438)⟩,
    ⟨PyData.keyHash P (zs [125]), (.str (zs [125]) 546), (.int (26) 406)⟩,
    ⟨PyData.keyHash P (zs [126]), (.str (zs [126]) 547), (.int (31) 416)⟩]) 14), #[]⟩,
  ⟨(.type "tuple"), none, (.seq #[] 0), #[]⟩,
  ⟨.none, none, (.fields #[]), #[]⟩,
  ⟨(.type "tuple"), none, (.seq #[(.str (zs [120]) 566)] 0), #[]⟩,
  ⟨(.type "tuple"), none, (.seq #[] 0), #[]⟩,
  ⟨.none, none, (.func { docDef (zs [73, 83, 84, 69, 82, 77, 73, 78, 65, 76]) (paramsOf 4) (bodyOf 4) (scopeOf 4) .none .none .none with defaults := .none, globals := 0 }), #[]⟩,
  ⟨(.type "code"), none, (.fields #[(.str (zs [73, 83, 84, 69, 82, 77, 73, 78, 65, 76]) 563), (.str (zs [73, 83, 84, 69, 82, 77, 73, 78, 65, 76]) 564), (.str (zs [47, 99, 108, 97, 105, 109, 47, 99, 117, 116, 46, 112, 121]) 565), (.int (74) 0), (.int (1) 0), (.int (0) 0), (.int (0) 0), (.int (3) 0), (.ref 69), (.bool true), (.int (276) 0), (.ref 70), .none, (.ref 71), (.ref 72), (.ref 73), (.int (567) 0), (.int (74) 0), (.str (zs [47, 99, 108, 97, 105, 109, 47, 99, 117, 116, 46, 112, 121]) 568)]), #[]⟩,
  ⟨(.type "function"), none, (.func { docDef (zs [73, 83, 84, 69, 82, 77, 73, 78, 65, 76]) (paramsOf 4) (bodyOf 4) (scopeOf 4) (.str (zs [99, 112, 121, 51, 49, 51, 46, 116, 111, 107, 101, 110]) 364) (.ref 74) .none with defaults := .none }), #[]⟩,
  ⟨(.type "tuple"), none, (.seq #[] 0), #[]⟩,
  ⟨.none, none, (.fields #[]), #[]⟩,
  ⟨(.type "tuple"), none, (.seq #[(.str (zs [120]) 573)] 0), #[]⟩,
  ⟨(.type "tuple"), none, (.seq #[] 0), #[]⟩,
  ⟨.none, none, (.func { docDef (zs [73, 83, 78, 79, 78, 84, 69, 82, 77, 73, 78, 65, 76]) (paramsOf 5) (bodyOf 5) (scopeOf 5) .none .none .none with defaults := .none, globals := 0 }), #[]⟩,
  ⟨(.type "code"), none, (.fields #[(.str (zs [73, 83, 78, 79, 78, 84, 69, 82, 77, 73, 78, 65, 76]) 570), (.str (zs [73, 83, 78, 79, 78, 84, 69, 82, 77, 73, 78, 65, 76]) 571), (.str (zs [47, 99, 108, 97, 105, 109, 47, 99, 117, 116, 46, 112, 121]) 572), (.int (76) 0), (.int (1) 0), (.int (0) 0), (.int (0) 0), (.int (3) 0), (.ref 76), (.bool true), (.int (276) 0), (.ref 77), .none, (.ref 78), (.ref 79), (.ref 80), (.int (574) 0), (.int (76) 0), (.str (zs [47, 99, 108, 97, 105, 109, 47, 99, 117, 116, 46, 112, 121]) 575)]), #[]⟩,
  ⟨(.type "function"), none, (.func { docDef (zs [73, 83, 78, 79, 78, 84, 69, 82, 77, 73, 78, 65, 76]) (paramsOf 5) (bodyOf 5) (scopeOf 5) (.str (zs [99, 112, 121, 51, 49, 51, 46, 116, 111, 107, 101, 110]) 364) (.ref 81) .none with defaults := .none }), #[]⟩,
  ⟨(.type "tuple"), none, (.seq #[] 0), #[]⟩,
  ⟨.none, none, (.fields #[]), #[]⟩,
  ⟨(.type "tuple"), none, (.seq #[(.str (zs [120]) 580)] 0), #[]⟩,
  ⟨(.type "tuple"), none, (.seq #[] 0), #[]⟩,
  ⟨.none, none, (.func { docDef (zs [73, 83, 69, 79, 70]) (paramsOf 6) (bodyOf 6) (scopeOf 6) .none .none .none with defaults := .none, globals := 0 }), #[]⟩,
  ⟨(.type "code"), none, (.fields #[(.str (zs [73, 83, 69, 79, 70]) 577), (.str (zs [73, 83, 69, 79, 70]) 578), (.str (zs [47, 99, 108, 97, 105, 109, 47, 99, 117, 116, 46, 112, 121]) 579), (.int (78) 0), (.int (1) 0), (.int (0) 0), (.int (0) 0), (.int (3) 0), (.ref 83), (.bool true), (.int (276) 0), (.ref 84), .none, (.ref 85), (.ref 86), (.ref 87), (.int (581) 0), (.int (78) 0), (.str (zs [47, 99, 108, 97, 105, 109, 47, 99, 117, 116, 46, 112, 121]) 582)]), #[]⟩,
  ⟨(.type "function"), none, (.func { docDef (zs [73, 83, 69, 79, 70]) (paramsOf 6) (bodyOf 6) (scopeOf 6) (.str (zs [99, 112, 121, 51, 49, 51, 46, 116, 111, 107, 101, 110]) 364) (.ref 88) .none with defaults := .none }), #[]⟩,
  ⟨(.type "tuple"), none, (.seq #[] 0), #[]⟩,
  ⟨.none, none, (.fields #[]), #[]⟩,
  ⟨(.type "tuple"), none, (.seq #[(.str (zs [108, 105, 110, 101]) 589), (.str (zs [98, 101, 108, 111, 119]) 590), (.str (zs [110, 97, 109, 101]) 591)] 0), #[]⟩,
  ⟨(.type "tuple"), none, (.seq #[] 0), #[]⟩,
  ⟨.none, none, (.func { docDef (zs [95, 108, 97, 119, 95, 116, 101, 120, 116]) (paramsOf 7) (bodyOf 7) (scopeOf 7) .none .none .none with defaults := .none, globals := 0 }), #[]⟩,
  ⟨(.type "code"), none, (.fields #[(.str (zs [95, 108, 97, 119, 95, 116, 101, 120, 116]) 586), (.str (zs [95, 108, 97, 119, 95, 116, 101, 120, 116]) 587), (.str (zs [47, 99, 108, 97, 105, 109, 47, 99, 117, 116, 46, 112, 121]) 588), (.int (81) 0), (.int (2) 0), (.int (0) 0), (.int (0) 0), (.int (3) 0), (.ref 90), (.bool true), (.int (276) 0), (.ref 91), .none, (.ref 92), (.ref 93), (.ref 94), (.int (592) 0), (.int (81) 0), (.str (zs [47, 99, 108, 97, 105, 109, 47, 99, 117, 116, 46, 112, 121]) 593)]), #[]⟩,
  ⟨(.type "function"), none, (.func { docDef (zs [95, 108, 97, 119, 95, 116, 101, 120, 116]) (paramsOf 7) (bodyOf 7) (scopeOf 7) (.str (zs [108, 97, 119, 95, 121, 102, 48, 48, 49, 54, 95, 48, 49]) 584) (.ref 95) .none with defaults := .none }), #[]⟩,
  ⟨(.type "tuple"), none, (.seq #[] 0), #[]⟩,
  ⟨.none, none, (.fields #[]), #[]⟩,
  ⟨(.type "tuple"), none, (.seq #[(.str (zs [116, 97, 98, 108, 101]) 598), (.str (zs [98, 101, 103, 105, 110]) 599), (.str (zs [100, 101, 112, 116, 104]) 600), (.str (zs [115, 108, 97, 99, 107, 115]) 601), (.str (zs [107]) 602)] 0), #[]⟩,
  ⟨(.type "tuple"), none, (.seq #[] 0), #[]⟩,
  ⟨.none, none, (.func { docDef (zs [95, 108, 97, 119, 95, 115, 108, 97, 99, 107, 115]) (paramsOf 8) (bodyOf 8) (scopeOf 8) .none .none .none with defaults := .none, globals := 0 }), #[]⟩,
  ⟨(.type "code"), none, (.fields #[(.str (zs [95, 108, 97, 119, 95, 115, 108, 97, 99, 107, 115]) 595), (.str (zs [95, 108, 97, 119, 95, 115, 108, 97, 99, 107, 115]) 596), (.str (zs [47, 99, 108, 97, 105, 109, 47, 99, 117, 116, 46, 112, 121]) 597), (.int (84) 0), (.int (2) 0), (.int (0) 0), (.int (0) 0), (.int (3) 0), (.ref 97), (.bool true), (.int (276) 0), (.ref 98), .none, (.ref 99), (.ref 100), (.ref 101), (.int (603) 0), (.int (84) 0), (.str (zs [47, 99, 108, 97, 105, 109, 47, 99, 117, 116, 46, 112, 121]) 604)]), #[]⟩,
  ⟨(.type "function"), none, (.func { docDef (zs [95, 108, 97, 119, 95, 115, 108, 97, 99, 107, 115]) (paramsOf 8) (bodyOf 8) (scopeOf 8) (.str (zs [108, 97, 119, 95, 121, 102, 48, 48, 49, 54, 95, 48, 49]) 584) (.ref 102) .none with defaults := .none }), #[]⟩,
  ⟨(.type "tuple"), none, (.seq #[] 0), #[]⟩,
  ⟨.none, none, (.fields #[]), #[]⟩,
  ⟨.none, none, (.func { docDef (zs [95, 108, 97, 119, 95, 99, 104, 97, 105, 110, 115]) (paramsOf 9) (bodyOf 9) (scopeOf 9) .none .none .none with defaults := .none, globals := 0 }), #[]⟩,
  ⟨(.type "code"), none, (.fields #[(.str (zs [95, 108, 97, 119, 95, 99, 104, 97, 105, 110, 115]) 606), (.str (zs [95, 108, 97, 119, 95, 99, 104, 97, 105, 110, 115]) 607), (.str (zs [47, 99, 108, 97, 105, 109, 47, 99, 117, 116, 46, 112, 121]) 608), (.int (91) 0), (.int (1) 0), (.int (0) 0), (.int (0) 0), (.int (3) 0), (.ref 104), (.bool true), (.int (276) 0), (.ref 105), .none, .none, .none, (.ref 106), (.int (609) 0), (.int (91) 0), (.str (zs [47, 99, 108, 97, 105, 109, 47, 99, 117, 116, 46, 112, 121]) 610)]), #[]⟩,
  ⟨(.type "function"), none, (.func { docDef (zs [95, 108, 97, 119, 95, 99, 104, 97, 105, 110, 115]) (paramsOf 9) (bodyOf 9) (scopeOf 9) (.str (zs [108, 97, 119, 95, 121, 102, 48, 48, 49, 54, 95, 48, 49]) 584) (.ref 107) .none with defaults := .none }), #[]⟩,
  ⟨(.type "tuple"), none, (.seq #[] 0), #[]⟩,
  ⟨.none, none, (.fields #[]), #[]⟩,
  ⟨.none, none, (.func { docDef (zs [95, 108, 97, 119, 95, 100, 101, 97, 108, 116]) (paramsOf 10) (bodyOf 10) (scopeOf 10) .none .none .none with defaults := .none, globals := 0 }), #[]⟩,
  ⟨(.type "code"), none, (.fields #[(.str (zs [95, 108, 97, 119, 95, 100, 101, 97, 108, 116]) 612), (.str (zs [95, 108, 97, 119, 95, 100, 101, 97, 108, 116]) 613), (.str (zs [47, 99, 108, 97, 105, 109, 47, 99, 117, 116, 46, 112, 121]) 614), (.int (99) 0), (.int (1) 0), (.int (0) 0), (.int (0) 0), (.int (3) 0), (.ref 109), (.bool true), (.int (276) 0), (.ref 110), .none, .none, .none, (.ref 111), (.int (615) 0), (.int (99) 0), (.str (zs [47, 99, 108, 97, 105, 109, 47, 99, 117, 116, 46, 112, 121]) 616)]), #[]⟩,
  ⟨(.type "function"), none, (.func { docDef (zs [95, 108, 97, 119, 95, 100, 101, 97, 108, 116]) (paramsOf 10) (bodyOf 10) (scopeOf 10) (.str (zs [108, 97, 119, 95, 121, 102, 48, 48, 49, 54, 95, 48, 49]) 584) (.ref 112) .none with defaults := .none }), #[]⟩,
  ⟨(.type "tuple"), none, (.seq #[] 0), #[]⟩,
  ⟨.none, none, (.fields #[]), #[]⟩,
  ⟨.none, none, (.func { docDef (zs [108, 97, 119]) (paramsOf 11) (bodyOf 11) (scopeOf 11) .none .none .none with defaults := .none, globals := 0 }), #[]⟩,
  ⟨(.type "code"), none, (.fields #[(.str (zs [108, 97, 119]) 618), (.str (zs [108, 97, 119]) 619), (.str (zs [47, 99, 108, 97, 105, 109, 47, 99, 117, 116, 46, 112, 121]) 620), (.int (109) 0), (.int (1) 0), (.int (0) 0), (.int (0) 0), (.int (3) 0), (.ref 114), (.bool true), (.int (276) 0), (.ref 115), .none, .none, .none, (.ref 116), (.int (621) 0), (.int (109) 0), (.str (zs [47, 99, 108, 97, 105, 109, 47, 99, 117, 116, 46, 112, 121]) 622)]), #[]⟩,
  ⟨(.type "function"), none, (.func { docDef (zs [108, 97, 119]) (paramsOf 11) (bodyOf 11) (scopeOf 11) (.str (zs [108, 97, 119, 95, 121, 102, 48, 48, 49, 54, 95, 48, 49]) 584) (.ref 117) .none with defaults := .none }), #[]⟩], {}⟩
theorem hsize : ∀ w : World, ((heapA w.params).isNs mainGlobals && (#[] : Array GenState).size == 0, (heapA w.params).objs.size, (heapA w.params).nsMap mainGlobals "__annotations__") = (true, 28, some (Value.ref 6)) := by
  intro w
  kernel_rfl
end Mine
end
section
set_option maxRecDepth 1000000
namespace Mine
noncomputable abbrev hookL : PySem.W.Hook := kmHook fragK fragAs (fun _ => by kernel_rfl) [115]
noncomputable abbrev xtL : Shared → Bool := fun s => xlAt viewL [] s && recOk (RowW.records PySem.Challenge.rw_yf0016_01.row.toRowW) s
noncomputable abbrev looseL : List Str := ["_quoted", "_paren_depth", "EXACT_TOKEN_TYPES"]
theorem hopen : ∀ w : World, (fencedOpening treeTable progL w 3932).map (fun s => (s.heap, s.gens, s.drawn, s.toks)) = some (heapA w.params, #[], {}, 276) := by
  intro w
  unfold fencedOpening
  rw [Fast.te14364793385576792824, Fast.te10274390034422433532, Fast.te1435165496053646825, Fast.te14289696077712309145]
  kernel_rfl
noncomputable abbrev RunP (w : World) : Prop := ∀ os : OsState, topRun treeTable progL w 28 (some (.ref 6)) 1922 ⟨heapA w.params, #[], {}, 276, os⟩ (topStub progL) = some ⟨heapB w.params, #[], {}, 624, os⟩
theorem hrun0 : ∀ w : World, RunP (w.withFollow "special-get-raises" false) := by
  intro w os
  rw [Fast.te14364793385576792824, Fast.te14082659384304107361]
  kernel_rfl
theorem hrun1 : ∀ w : World, RunP (w.withFollow "special-get-raises" true) := by
  intro w os
  rw [Fast.te14364793385576792824, Fast.te14082659384304107361]
  kernel_rfl
theorem hlooks : ∀ w : World, (fun os => ((staticsOk (importedModules progL.main.body) (heapA w.params) (heapB w.params) && namesBound progL (heapB w.params) && gensDone ⟨heapB w.params, #[], {}, 624, os⟩ && laidKept (heapA w.params) (heapB w.params)),
        openSeen viewL looseL (importedModules progL.main.body) xtL true ⟨heapB w.params, #[], {}, 624, os⟩, hookL.obs ⟨heapB w.params, #[], {}, 624, os⟩)) = fun _ => (true, openGood viewL looseL, hookL.val w) := by
  intro w
  rw [Fast.te4187177175401517315, Fast.te5923862056798008813]
  kernel_rfl
theorem hleft : LeftO progL viewL looseL xtL hookL.obs hookL.val 3932 :=
  LeftO.of_pieces hopen hsize (byRow2 "special-get-raises" hrun0 hrun1) rfl hlooks
end Mine
end
section
namespace Mine

/-! ## Data in a heap -/
mutual
inductive Den (h : Heap) : Value → Dat → List Addr → Prop
  | none : Den h .none .none []
  | bool (b : Bool) : Den h (.bool b) (.bool b) []
  | int (i : Int) (t : Tok) : Den h (.int i t) (.int i) []
  | str (x : Str) (t : Tok) : Den h (.str x t) (.str x) []
  | bytes (b : Array UInt8) (t : Tok) : Den h (.bytes b t) (.bytes b) []
  | list {a : Addr} {vs : List Value} {n : Nat} {ds : List Dat} {F : List Addr} :
      h.get? a = some (listOf vs.toArray n) → DenAll h vs ds F → Den h (.ref a) (.list ds) (a :: F)
inductive DenAll (h : Heap) : List Value → List Dat → List Addr → Prop
  | nil : DenAll h [] [] []
  | cons {v : Value} {d : Dat} {F : List Addr} {vs : List Value} {ds : List Dat} {G : List Addr} :
      Den h v d F → DenAll h vs ds G → DenAll h (v :: vs) (d :: ds) (F ++ G)
end

theorem Den.both {h : Heap} {M : Value → Dat → List Addr → Prop} {N : List Value → List Dat → List Addr → Prop} (h1 : M .none .none []) (h2 : ∀ b, M (.bool b) (.bool b) []) (h3 : ∀ i t, M (.int i t) (.int i) []) (h4 : ∀ x t, M (.str x t) (.str x) []) (h5 : ∀ b t, M (.bytes b t) (.bytes b) [])
    (h6 : ∀ a vs n ds F, h.get? a = some (listOf vs.toArray n) → DenAll h vs ds F → N vs ds F → M (.ref a) (.list ds) (a :: F)) (h7 : N [] [] []) (h8 : ∀ v d F vs ds G, Den h v d F → DenAll h vs ds G → M v d F → N vs ds G → N (v :: vs) (d :: ds) (F ++ G)) :
    (∀ v d F, Den h v d F → M v d F) ∧ (∀ vs ds F, DenAll h vs ds F → N vs ds F) :=
  ⟨fun _ _ _ x => Den.rec (motive_1 := fun v d F _ => M v d F) (motive_2 := fun vs ds F _ => N vs ds F) h1 h2 h3 h4 h5 (fun ho r ih => h6 _ _ _ _ _ ho r ih) h7 (fun x r a b => h8 _ _ _ _ _ _ x r a b) x,
    fun _ _ _ x => DenAll.rec (motive_1 := fun v d F _ => M v d F) (motive_2 := fun vs ds F _ => N vs ds F) h1 h2 h3 h4 h5 (fun ho r ih => h6 _ _ _ _ _ ho r ih) h7 (fun x r a b => h8 _ _ _ _ _ _ x r a b) x⟩
theorem DenAll.ind {h : Heap} {N : List Value → List Dat → List Addr → Prop} (h7 : N [] [] []) (h8 : ∀ v d F vs ds G, Den h v d F → DenAll h vs ds G → N vs ds G → N (v :: vs) (d :: ds) (F ++ G)) {vs : List Value} {ds : List Dat} {F : List Addr} (x : DenAll h vs ds F) : N vs ds F :=
  (Den.both (M := fun _ _ _ => True) (N := N) trivial (fun _ => trivial) (fun _ _ => trivial) (fun _ _ => trivial) (fun _ _ => trivial) (fun _ _ _ _ _ _ _ _ => trivial) h7 (fun v d F vs ds G x r _ ih => h8 v d F vs ds G x r ih)).2 _ _ _ x
theorem Den.monos {h h' : Heap} : (∀ v d F, Den h v d F → (∀ a ∈ F, ∀ o, h.get? a = some o → h'.get? a = some o) → Den h' v d F) ∧ (∀ vs ds F, DenAll h vs ds F → (∀ a ∈ F, ∀ o, h.get? a = some o → h'.get? a = some o) → DenAll h' vs ds F) :=
  Den.both (fun _ => .none) (fun b _ => .bool b) (fun i t _ => .int i t) (fun x t _ => .str x t) (fun b t _ => .bytes b t) (fun a _ _ _ _ ho _ ih k => .list (k a (.head _) _ ho) (ih fun b hb => k b (.tail _ hb))) (fun _ => .nil)
    (fun _ _ _ _ _ _ _ _ ihx ihr k => .cons (ihx fun a ha => k a (List.mem_append_left _ ha)) (ihr fun a ha => k a (List.mem_append_right _ ha)))
theorem Den.mono {h h' : Heap} {v : Value} {d : Dat} {F : List Addr} (x : Den h v d F) (k : ∀ a ∈ F, ∀ o, h.get? a = some o → h'.get? a = some o) : Den h' v d F := Den.monos.1 _ _ _ x k
theorem DenAll.mono {h h' : Heap} {vs : List Value} {ds : List Dat} {F : List Addr} (x : DenAll h vs ds F) (k : ∀ a ∈ F, ∀ o, h.get? a = some o → h'.get? a = some o) : DenAll h' vs ds F := Den.monos.2 _ _ _ x k

noncomputable def IsSeqObj (o : Obj) : Prop := ∃ vs n, o = listOf vs n

theorem Den.lives {h : Heap} : (∀ v d F, Den h v d F → ∀ a ∈ F, ∃ o, h.get? a = some o ∧ IsSeqObj o) ∧ (∀ vs ds F, DenAll h vs ds F → ∀ a ∈ F, ∃ o, h.get? a = some o ∧ IsSeqObj o) :=
  have no : ∀ a ∈ ([] : List Addr), ∃ o, h.get? a = some o ∧ IsSeqObj o := fun _ ha => (List.not_mem_nil ha).elim
  Den.both no (fun _ => no) (fun _ _ => no) (fun _ _ => no) (fun _ _ => no) (fun a vs n ds F ho _ ih b hb => by
    rcases List.mem_cons.mp hb with e | hb
    · rw [e]; exact ⟨_, ho, _, _, rfl⟩
    · exact ih b hb) no (fun _ _ _ _ _ _ _ _ ihx ihr a ha => (List.mem_append.mp ha).elim (ihx a) (ihr a))
theorem Den.live {h : Heap} {v : Value} {d : Dat} {F : List Addr} (x : Den h v d F) : ∀ a ∈ F, ∃ o, h.get? a = some o ∧ IsSeqObj o := Den.lives.1 _ _ _ x
theorem DenAll.live {h : Heap} {vs : List Value} {ds : List Dat} {F : List Addr} (x : DenAll h vs ds F) : ∀ a ∈ F, ∃ o, h.get? a = some o ∧ IsSeqObj o := Den.lives.2 _ _ _ x

noncomputable def Kp (s s' : Shared) : Prop := Keeps s s'
theorem Kp.den {s s' : Shared} (k : Kp s s') {v : Value} {d : Dat} {F : List Addr} (x : Den s.heap v d F) : Den s'.heap v d F := by
  obtain ⟨h', tk, rfl, k⟩ := k
  exact x.mono fun a _ o e => k a o e
theorem Kp.denAll {s s' : Shared} (k : Kp s s') {v : List Value} {d : List Dat} {F : List Addr} (x : DenAll s.heap v d F) : DenAll s'.heap v d F := by
  obtain ⟨h', tk, rfl, k⟩ := k
  exact x.mono fun a _ o e => k a o e
theorem Kp.refl (s : Shared) : Kp s s := ⟨s.heap, s.toks, rfl, fun _ _ e => e⟩
theorem Kp.trans {s s' s'' : Shared} (k : Kp s s') (k' : Kp s' s'') : Kp s s'' := by
  obtain ⟨h', tk, rfl, k⟩ := k
  obtain ⟨h'', tk', rfl, k'⟩ := k'
  exact ⟨h'', tk', rfl, fun b o e => k' b o (k b o e)⟩
theorem Kp.get {s s' : Shared} (k : Kp s s') {a : Addr} {o : Obj} (e : s.heap.get? a = some o) : s'.heap.get? a = some o := by
  obtain ⟨h', tk, rfl, k⟩ := k
  exact k a o e
theorem Kp.gone {s s' : Shared} (k : Kp s s') {a : Addr} (e : s'.heap.get? a = none) : s.heap.get? a = none := by
  cases q : s.heap.get? a with
  | none => rfl
  | some o => rw [k.get q] at e; cases e
theorem Kp.tok {s : Shared} (t : Nat) : Kp s { s with toks := t } := ⟨s.heap, t, rfl, fun _ _ e => e⟩
theorem Kp.push {s : Shared} (o : Obj) (t : Nat) : Kp s { s with heap := s.heap.push o, toks := t } := ⟨_, t, rfl, fun _ _ e => Heap.get?_push_of_some _ e⟩

/-- what an evaluation gives: all stays, the value denotes d, its footprint is new where asked -/
structure Fresh (s : Shared) (F : List Addr) : Prop where
  gone : ∀ a ∈ F, s.heap.get? a = none
  once : F.Nodup
theorem Fresh.nil {s : Shared} : Fresh s [] := ⟨(fun _ h => nomatch h), List.nodup_nil⟩
theorem Fresh.back {s s' : Shared} {F : List Addr} (k : Kp s s') (f : Fresh s' F) : Fresh s F := ⟨fun a ha => k.gone (f.gone a ha), f.once⟩
theorem Fresh.append {s : Shared} {F G : List Addr} (f : Fresh s F) (g : Fresh s G) (d : ∀ a ∈ F, a ∉ G) : Fresh s (F ++ G) :=
  ⟨fun a ha => (List.mem_append.mp ha).elim (f.gone a) (g.gone a), List.nodup_append.mpr ⟨f.once, g.once, fun a ha b hb e => d a ha (e ▸ hb)⟩⟩

noncomputable def Gives (s : Shared) (d : Dat) (v : Value) (s' : Shared) : Prop := Kp s s' ∧ ∃ F, Den s'.heap v d F ∧ Fresh s F
noncomputable def Reads (s : Shared) (d : Dat) (v : Value) (s' : Shared) : Prop := Kp s s' ∧ ∃ F, Den s'.heap v d F
theorem Gives.reads {s : Shared} {d : Dat} {v : Value} {s' : Shared} (g : Gives s d v s') : Reads s d v s' := ⟨g.1, let ⟨F, x, _⟩ := g.2; ⟨F, x⟩⟩

noncomputable abbrev No : Value → Shared → Prop := fun _ _ => False

theorem wpNo {α : Type} {M : Model} {A : Around} {t : Sem α} {Q : α → Shared → Prop} {E : Value → Shared → Prop} {s : Shared} (h : wpAny M A t Q No s) : wpAny M A t Q E s :=
  wpAny_mono h (fun _ _ q => q) fun _ _ f => f.elim
theorem wpThen {α : Type} {M : Model} {A : Around} {t : Sem α} {Q Q' : α → Shared → Prop} {E : Value → Shared → Prop} {s : Shared} (h : wpAny M A t Q' No s) (k : ∀ a s', Q' a s' → Q a s') : wpAny M A t Q E s :=
  wpAny_mono h k fun _ _ f => f.elim

section
variable {h : Heap} {v : Value} {F : List Addr}
theorem Den.int_inv {i : Int} (x : Den h v (.int i) F) : ∃ t, v = .int i t := by cases x; exact ⟨_, rfl⟩
theorem Den.str_inv {i : Str} (x : Den h v (.str i) F) : ∃ t, v = .str i t := by cases x; exact ⟨_, rfl⟩
theorem Den.bytes_inv {i : Array UInt8} (x : Den h v (.bytes i) F) : ∃ t, v = .bytes i t := by cases x; exact ⟨_, rfl⟩
theorem Den.int_elim {i : Int} {P : Value → Prop} (x : Den h v (.int i) F) (k : ∀ t, P (.int i t)) : P v := by
  obtain ⟨t, rfl⟩ := x.int_inv
  exact k t
theorem Den.str_elim {i : Str} {P : Value → Prop} (x : Den h v (.str i) F) (k : ∀ t, P (.str i t)) : P v := by
  obtain ⟨t, rfl⟩ := x.str_inv
  exact k t
theorem Den.bytes_elim {i : Array UInt8} {P : Value → Prop} (x : Den h v (.bytes i) F) (k : ∀ t, P (.bytes i t)) : P v := by
  obtain ⟨t, rfl⟩ := x.bytes_inv
  exact k t
theorem Den.bool_inv {i : Bool} (x : Den h v (.bool i) F) : v = .bool i := by cases x; rfl
theorem Den.none_inv (x : Den h v .none F) : v = .none := by cases x; rfl
theorem Den.list_inv {ds : List Dat} (x : Den h v (.list ds) F) : ∃ a vs n G, v = .ref a ∧ F = a :: G ∧ h.get? a = some (listOf vs.toArray n) ∧ DenAll h vs ds G := by
  cases x with
  | list ho r => exact ⟨_, _, _, _, rfl, rfl, ho, r⟩
end

theorem DenAll.length {h : Heap} {vs : List Value} {ds : List Dat} {F : List Addr} (x : DenAll h vs ds F) : vs.length = ds.length :=
  x.ind (N := fun vs ds _ => vs.length = ds.length) rfl (fun _ _ _ _ _ _ _ _ ih => congrArg (· + 1) ih)
theorem DenAll.get {h : Heap} {vs : List Value} {ds : List Dat} {F : List Addr} (x : DenAll h vs ds F) : ∀ {i : Nat} {d : Dat}, ds[i]? = some d → ∃ v G, vs[i]? = some v ∧ Den h v d G ∧ ∀ a ∈ G, a ∈ F :=
  x.ind (N := fun vs ds F => ∀ {i : Nat} {d : Dat}, ds[i]? = some d → ∃ v G, vs[i]? = some v ∧ Den h v d G ∧ ∀ a ∈ G, a ∈ F) (fun e => nomatch e) (fun v d F vs ds G x _ ih {i} {d'} e => by
    cases i with
    | zero => cases e; exact ⟨v, F, rfl, x, fun a ha => List.mem_append_left _ ha⟩
    | succ i =>
      obtain ⟨v', G', e1, y, k⟩ := ih (i := i) e
      exact ⟨v', G', e1, y, fun a ha => List.mem_append_right _ (k a ha)⟩)
theorem DenAll.append {h : Heap} {vs : List Value} {ds : List Dat} {F : List Addr} {ws : List Value} {es : List Dat} {G : List Addr} (x : DenAll h vs ds F) (y : DenAll h ws es G) : DenAll h (vs ++ ws) (ds ++ es) (F ++ G) :=
  x.ind (N := fun vs ds F => DenAll h (vs ++ ws) (ds ++ es) (F ++ G)) y (fun v d F vs ds G' x _ ih => by rw [List.append_assoc]; exact .cons x ih)
theorem Den.isList {h : Heap} {a : Addr} {vs : List Value} {n : Nat} (e : h.get? a = some (listOf vs.toArray n)) : h.IsList a vs.toArray := ⟨_, e, rfl, _, rfl⟩
end Mine
end
section
namespace Mine

/-! ## The evaluator on plain data -/
noncomputable def imm : Dat → Bool
  | .list _ => false
  | .tuple _ => false
  | _ => true

noncomputable def lineMax : Nat := 100000

theorem nn {α : Type} {d : α} {P : Prop} (h : none = some d) : P := nomatch h
noncomputable def addD : Dat → Dat → Option Dat
  | .int a, .int b => some (.int (a + b))
  | .str x, .str y => if x.length + y.length ≤ lineMax then some (.str (x ++ y)) else none
  | .bytes x, .bytes y => if x.size + y.size ≤ lineMax then some (.bytes (x ++ y)) else none
  | .list xs, .list ys => if xs.all imm = true ∧ ys.all imm = true ∧ xs.length + ys.length ≤ lineMax then some (.list (xs ++ ys)) else none
  | _, _ => none
noncomputable def subD : Dat → Dat → Option Dat
  | .int a, .int b => some (.int (a - b))
  | .bool a, .bool b => some (.int (b2i a - b2i b))
  | _, _ => none
noncomputable def mulD : Dat → Dat → Option Dat
  | .str x, .int n => if x.length ≤ 16 ∧ -100 ≤ n ∧ n ≤ 1000 then some (.str (Txt.mul x n)) else none
  | .int a, .int b => if a.natAbs < 2 ^ 62 ∧ b.natAbs < 2 ^ 62 then some (.int (a * b)) else none
  | .list xs, .int n => if xs.all imm = true ∧ xs.length ≤ 16 ∧ -100 ≤ n ∧ n ≤ 1000 then some (.list (List.replicate n.toNat xs).flatten) else none
  | _, _ => none
noncomputable def fdivD : Dat → Dat → Option Dat
  | .int a, .int b => if 0 < b ∧ b < 1073741824 then some (.int (a.fdiv b)) else none
  | _, _ => none
noncomputable def fmodD : Dat → Dat → Option Dat
  | .int a, .int b => if 0 < b ∧ b < 1073741824 then some (.int (a.fmod b)) else none
  | _, _ => none
noncomputable def powD : Dat → Dat → Option Dat
  | .int a, .int n => if a.natAbs < 2 ^ 60 ∧ 0 ≤ n ∧ n ≤ 1000 then some (.int (a ^ n.toNat)) else none
  | _, _ => none
noncomputable def binD : Operator → Dat → Dat → Option Dat
  | .Add => addD
  | .Sub => subD
  | .Mult => mulD
  | .FloorDiv => fdivD
  | .Mod => fmodD
  | .Pow => powD
  | _ => fun _ _ => none

mutual
noncomputable def toPy : Dat → PyData
  | .none => .none
  | .bool b => .bool b
  | .int i => .int i
  | .str x => .str x
  | .bytes _ => .none
  | .tuple ds => .tuple (toPys ds)
  | .list ds => .list (toPys ds)
noncomputable def toPys : List Dat → List PyData
  | [] => []
  | d :: ds => toPy d :: toPys ds
end
noncomputable def flatOk : Dat → Bool
  | .int _ => true
  | .bool _ => true
  | .none => true
  | .str x => PyData.strOk x
  | _ => false
noncomputable def eqOk : Dat → Bool
  | .list ds => ds.all flatOk
  | d => flatOk d

noncomputable def ltD : Dat → Dat → Option Dat
  | .int a, .int b => some (.bool (decide (a < b)))
  | .str x, .str y => some (.bool (decide (x.cps.toList < y.cps.toList)))
  | _, _ => none
noncomputable def leD : Dat → Dat → Option Dat
  | .int a, .int b => some (.bool (decide (a ≤ b)))
  | _, _ => none
noncomputable def gtD : Dat → Dat → Option Dat
  | .int a, .int b => some (.bool (decide (b < a)))
  | .str x, .str y => some (.bool (decide (y.cps.toList < x.cps.toList)))
  | _, _ => none
noncomputable def geD : Dat → Dat → Option Dat
  | .int a, .int b => some (.bool (decide (b ≤ a)))
  | _, _ => none
noncomputable def isD : Dat → Dat → Option Dat
  | .bool a, .bool b => some (.bool (a == b))
  | _, _ => none
noncomputable def cmpD : CmpOp → Dat → Dat → Option Dat
  | .Eq => fun a b => if eqOk a = true ∧ eqOk b = true then some (.bool (PyData.eqv (toPy a) (toPy b))) else none
  | .NotEq => fun a b => if eqOk a = true ∧ eqOk b = true then some (.bool (!PyData.eqv (toPy a) (toPy b))) else none
  | .Lt => ltD
  | .LtE => leD
  | .Gt => gtD
  | .GtE => geD
  | .Is => isD
  | _ => fun _ _ => none

noncomputable def truD : Dat → Option Bool
  | .bool b => some b
  | .int n => some (n != 0)
  | _ => none

noncomputable def unD : UnaryOp → Dat → Option Dat
  | .USub, .int a => some (.int (-a))
  | .Not, .bool a => some (.bool (!a))
  | _, _ => none

noncomputable def itemD : Dat → Dat → Option Dat
  | .list xs, .int i => if 0 ≤ i ∧ i < 2 ^ 62 then xs[i.toNat]? else none
  | .str x, .int i => if 0 ≤ i ∧ i < 2 ^ 62 then (x.cps[i.toNat]?).map fun c => .str ⟨#[c]⟩ else none
  | _, _ => none

noncomputable def partD : Option Dat → Option (Option Int)
  | none => some none
  | some (.int i) => some (some i)
  | some _ => none

noncomputable def pickD (ds : List Dat) (lo hi st : Option Int) : List Dat :=
  (sliceRange (sliceBounds lo hi st ds.length).1 (sliceBounds lo hi st ds.length).2.1 (sliceBounds lo hi st ds.length).2.2).filterMap (ds[·]?)

noncomputable def sliceD : Dat → Option Dat → Option Dat → Option Dat → Option Dat
  | .str x, lo, hi, none => match partD lo, partD hi with
    | some l, some u => if x.length ≤ lineMax then some (.str (Txt.slice x l u)) else none
    | _, _ => none
  | .list xs, lo, hi, st => match partD lo, partD hi, partD st with
    | some l, some u, some k => if xs.all imm = true ∧ xs.length ≤ lineMax ∧ (k == some 0) = false then some (.list (pickD xs l u k)) else none
    | _, _, _ => none
  | _, _, _, _ => none

section
variable {prog : Program} {w : World} {A : Around} {s : Shared} {va vb : Value} {a b d : Dat} {Fa Fb : List Addr}

theorem giveImm {v : Value} {k : Nat} (h : Den s.heap v d []) : Gives s d v { s with toks := k } := ⟨Kp.tok k, [], h, Fresh.nil⟩
theorem giveImm' {v : Value} (h : Den s.heap v d []) : Gives s d v s := ⟨Kp.refl s, [], h, Fresh.nil⟩
theorem wpOf {t : Sem Value} {E : Value → Shared → Prop} {Q : Value → Shared → Prop} (h : ∀ Q : Value → Shared → Prop, (∀ v s', Gives s d v s' → Q v s') → wpAny (model prog w) A t Q E s) (k : ∀ v s', Gives s d v s' → Q v s') : wpAny (model prog w) A t Q E s := h Q k

theorem Den.imm_nil {h : Heap} {v : Value} {d : Dat} {F : List Addr} (x : Den h v d F) (e : imm d = true) : F = [] := by
  cases x with
  | list => simp [imm] at e
  | _ => rfl
theorem DenAll.imm_nil {h : Heap} {vs : List Value} {ds : List Dat} {F : List Addr} (x : DenAll h vs ds F) : ds.all imm = true → F = [] :=
  x.ind (N := fun _ ds F => ds.all imm = true → F = []) (fun _ => rfl) (fun v d F vs ds G x _ ih e => by
    rw [List.all_cons, Bool.and_eq_true] at e
    rw [Den.imm_nil x e.1, ih e.2]; rfl)

theorem DenAll.replicate {h : Heap} {vs : List Value} {ds : List Dat} (x : DenAll h vs ds []) : ∀ n : Nat, DenAll h (List.replicate n vs).flatten (List.replicate n ds).flatten []
  | 0 => .nil
  | n + 1 => by
    rw [List.replicate_succ, List.replicate_succ, List.flatten_cons, List.flatten_cons]
    exact x.append (DenAll.replicate x n)

theorem foldl_append {α : Type} : ∀ (l : List (Array α)) (acc : Array α), (l.foldl (fun x y => x ++ y) acc).toList = acc.toList ++ (l.map Array.toList).flatten
  | [], acc => by simp
  | x :: l, acc => by simp [foldl_append l, List.append_assoc]

theorem newList_gives {vs : List Value} {F : List Addr} {ds : List Dat} {t : Nat} (hs : DenAll s.heap vs ds F) (f : Fresh s F) {s₁ : Shared} (e : s₁ = { s with heap := s.heap.push (listOf vs.toArray 0), toks := t }) :
    Gives s (.list ds) (.ref s.heap.objs.size) s₁ := by
  subst e
  refine ⟨Kp.push _ _, s.heap.objs.size :: F, .list (Heap.get?_push_size _ rfl) (hs.mono fun a _ o e => Heap.get?_push_of_some _ e), ?_⟩
  have h0 : s.heap.get? s.heap.objs.size = none := by
    cases q : s.heap.get? s.heap.objs.size with
    | none => rfl
    | some o => exact absurd (Heap.lt_size q) (Nat.lt_irrefl _)
  refine ⟨fun a ha => ?_, List.nodup_cons.mpr ⟨fun hm => ?_, f.once⟩⟩
  · rcases List.mem_cons.mp ha with rfl | ha
    · exact h0
    · exact f.gone a ha
  · obtain ⟨o, e, _⟩ := hs.live _ hm
    rw [h0] at e; cases e

theorem listMul_get (xs : List Value) (n : Int) : (List.foldl (fun x1 x2 => x1 ++ x2) #[] (List.replicate (if xs.toArray.isEmpty = true then 0 else n.toNat) xs.toArray)) = ((List.replicate n.toNat xs).flatten).toArray := by
  apply Array.toList_inj.mp
  rw [foldl_append]
  cases xs with
  | nil => simp
  | cons x xs => simp

theorem mul_list_raw {l : Addr} {items : Array Value} {k : Nat} {x : Int} {u : Tok} {Q : Value → Shared → Prop} {E : Value → Shared → Prop}
    (hl : s.heap.get? l = some (listOf items k)) (hlo : -(2 ^ 63 : Int) ≤ x) (hhi : x < 2 ^ 63) (hsz : items.size * x.toNat ≤ 2 ^ 24)
    (h : Q (.ref s.heap.objs.size) { s with heap := s.heap.push (listOf (List.foldl (fun x1 x2 => x1 ++ x2) #[] (List.replicate (if items.isEmpty = true then 0 else x.toNat) items)) 0) }) :
    wpAny (model prog w) A (binaryOp .Mult (.ref l) (.int x u)) Q E s :=
  wpAny_binaryOp_repeat_ref (T := "list") (U := "int") (by decide) ⟨_, hl, rfl⟩ (fun s' => typeIs_int s' x u) noFill_list_mul F.fills_int_mul F.slot_int_rmul repeat_list F.slot_int_index.lookup
    (call_meets F.slot_int_rmul (typeIs_int s x u) F.entry_int_rmul (F.args_int_rmul_2 _ _) (int___rmul___int_list x u l items k)
      ⟨hl, rfl, ⟨_, hl, rfl⟩, call_meets F.slot_list_mul ⟨_, hl, rfl⟩ F.entry_list_mul (F.args_list_mul_2 _ _)
        (AutoListH.list___mul___list_int_3 l items k x u (by simp [Builtin.List.listFitsIndex]; (first | decide | lia | omega)) (by (first | decide | lia | omega)) (by simp [Builtin.List.listTooLong, sizeLine]; (first | decide | lia | omega))) ⟨hl, h⟩⟩)

theorem binD_sound {op : Operator} (e : binD op a b = some d) (ha : Den s.heap va a Fa) (hb : Den s.heap vb b Fb) : wpAny (model prog w) A (binaryOp op va vb) (Gives s d) No s := by
  cases op with
  | Add =>
    replace e : addD a b = some d := e
    unfold addD at e
    split at e
    · refine Den.int_elim (P := fun z => wpAny (model prog w) A (binaryOp _ z _) _ _ _) ha fun t => ?_; refine Den.int_elim (P := fun z => wpAny (model prog w) A (binaryOp _ _ z) _ _ _) hb fun u => ?_
      cases e
      exact PyProof.Rows.add_int (giveImm (.int _ _))
    · refine Den.str_elim (P := fun z => wpAny (model prog w) A (binaryOp _ z _) _ _ _) ha fun t => ?_; refine Den.str_elim (P := fun z => wpAny (model prog w) A (binaryOp _ _ z) _ _ _) hb fun u => ?_
      split at e
      · rename_i hl
        cases e
        exact PyProof.Rows.add_str (fun t' tk => giveImm (.str _ _)) (by rw [sizeLine_eq]; unfold lineMax at hl; (first | decide | lia | omega))
      · cases e
    · refine Den.bytes_elim (P := fun z => wpAny (model prog w) A (binaryOp _ z _) _ _ _) ha fun t => ?_; refine Den.bytes_elim (P := fun z => wpAny (model prog w) A (binaryOp _ _ z) _ _ _) hb fun u => ?_
      split at e
      · rename_i hl
        cases e
        exact KBy.add_bytes (by unfold lineMax at hl; (first | decide | lia | omega)) (fun t' k => giveImm (.bytes _ _))
      · cases e
    · obtain ⟨l, vs, n, G, rfl, rfl, hl, r⟩ := ha.list_inv
      obtain ⟨l', vs', n', G', rfl, rfl, hl', r'⟩ := hb.list_inv
      split at e
      · rename_i hc
        obtain ⟨i1, i2, hsz⟩ := hc
        cases e
        have z1 := r.imm_nil i1
        have z2 := r'.imm_nil i2
        subst z1; subst z2
        refine P.add_list hl hl' ?_ (by
          have := r.length; have := r'.length
          simp only [List.size_toArray]; rw [sizeLine_eq]; unfold lineMax at hsz; (first | decide | lia | omega))
        refine newList_gives (t := s.toks) (r.append r') Fresh.nil ?_
        simp
      · cases e
    · exact nn e
  | Sub =>
    replace e : subD a b = some d := e
    unfold subD at e
    split at e
    · refine Den.int_elim (P := fun z => wpAny (model prog w) A (binaryOp _ z _) _ _ _) ha fun t => ?_; refine Den.int_elim (P := fun z => wpAny (model prog w) A (binaryOp _ _ z) _ _ _) hb fun u => ?_
      cases e
      exact PyProof.Rows.sub_int (giveImm (.int _ _))
    · have e1 := ha.bool_inv; have e2 := hb.bool_inv
      subst e1; subst e2
      cases e
      exact PyProof.Rows.sub_bool (giveImm (.int _ _))
    · exact nn e
  | Mult =>
    replace e : mulD a b = some d := e
    unfold mulD at e
    split at e
    · refine Den.str_elim (P := fun z => wpAny (model prog w) A (binaryOp _ z _) _ _ _) ha fun t => ?_; refine Den.int_elim (P := fun z => wpAny (model prog w) A (binaryOp _ _ z) _ _ _) hb fun u => ?_
      split at e
      · rename_i hl
        cases e
        exact SB.mul (mulOk_of 16 1000 hl.1 hl.2.2 (by (first | decide | lia | omega)) (by (first | decide | lia | omega)) (by (first | decide | lia | omega))) (fun t' k => giveImm (.str _ _))
      · cases e
    · refine Den.int_elim (P := fun z => wpAny (model prog w) A (binaryOp _ z _) _ _ _) ha fun t => ?_; refine Den.int_elim (P := fun z => wpAny (model prog w) A (binaryOp _ _ z) _ _ _) hb fun u => ?_
      split at e
      · rename_i hl
        cases e
        refine PyProof.Rows.mul_int (giveImm (.int _ _)) ?_
        exact mulOk_of_bits (m := 64) (n := 64) (intBits_le_64 (by (first | decide | lia | omega)) (by (first | decide | lia | omega))) (intBits_le_64 (by (first | decide | lia | omega)) (by (first | decide | lia | omega))) (by (first | decide | lia | omega))
      · cases e
    · rename_i xs n
      obtain ⟨l, vs, k, G, rfl, rfl, hl, r⟩ := ha.list_inv
      refine Den.int_elim (P := fun z => wpAny (model prog w) A (binaryOp _ _ z) _ _ _) hb fun u => ?_
      split at e
      · rename_i hc
        obtain ⟨i1, i2, i3, i4⟩ := hc
        cases e
        have z1 := r.imm_nil i1
        subst z1
        refine mul_list_raw hl (by (first | decide | lia | omega)) (by (first | decide | lia | omega)) ?_ ?_
        · simp only [List.size_toArray, r.length]
          have : n.toNat ≤ 1000 := by (first | decide | lia | omega)
          exact Nat.le_trans (Nat.mul_le_mul i2 this) (by decide)
        · refine newList_gives (t := s.toks) (r.replicate n.toNat) Fresh.nil ?_
          rw [listMul_get]
      · cases e
    · exact nn e
  | FloorDiv =>
    replace e : fdivD a b = some d := e
    unfold fdivD at e
    split at e
    · refine Den.int_elim (P := fun z => wpAny (model prog w) A (binaryOp _ z _) _ _ _) ha fun t => ?_; refine Den.int_elim (P := fun z => wpAny (model prog w) A (binaryOp _ _ z) _ _ _) hb fun u => ?_
      split at e
      · rename_i hl
        cases e
        refine PyProof.Rows.floordiv_int (by (first | decide | lia | omega)) (giveImm (.int _ _)) (.inl (PyProof.noPylong_small (by (first | decide | lia | omega))))
      · cases e
    · exact nn e
  | Mod =>
    replace e : fmodD a b = some d := e
    unfold fmodD at e
    split at e
    · refine Den.int_elim (P := fun z => wpAny (model prog w) A (binaryOp _ z _) _ _ _) ha fun t => ?_; refine Den.int_elim (P := fun z => wpAny (model prog w) A (binaryOp _ _ z) _ _ _) hb fun u => ?_
      split at e
      · rename_i hl
        cases e
        exact PyProof.Rows.mod_int' (by (first | decide | lia | omega)) (giveImm (.int _ _))
      · cases e
    · exact nn e
  | Pow =>
    replace e : powD a b = some d := e
    unfold powD at e
    split at e
    · refine Den.int_elim (P := fun z => wpAny (model prog w) A (binaryOp _ z _) _ _ _) ha fun t => ?_; refine Den.int_elim (P := fun z => wpAny (model prog w) A (binaryOp _ _ z) _ _ _) hb fun u => ?_
      split at e
      · rename_i hl
        cases e
        exact PyProof.Rows.pow_int_small hl.2.1 (by (first | decide | lia | omega)) (by (first | decide | lia | omega)) (giveImm (.int _ _))
      · cases e
    · exact nn e
  | _ => exact nn e
end
end Mine
end
section
namespace Mine

/-- room around: nothing is handled, k more levels fit -/
structure Rm (A : Around) (k : Nat) : Prop where
  handled : A.handled = none
  depth : A.depth + 4 * k ≤ 900
  units : A.units + 40 * k ≤ 9000
theorem Rm.le {A : Around} {k j : Nat} (r : Rm A k) (h : j ≤ k) : Rm A j := ⟨r.handled, by have := r.depth; (first | decide | lia | omega), by have := r.units; (first | decide | lia | omega)⟩
theorem Rm.room {A : Around} {k : Nat} (r : Rm A k) : A.units + 64 < cLine := by have := r.units; show _ < 9900; (first | decide | lia | omega)

theorem flat_reads {h : Heap} {v : Value} {d : Dat} {F : List Addr} (x : Den h v d F) (f : flatOk d = true) : PySem.Reads h v (toPy d) [] := by
  cases x with
  | none => rw [toPy]; exact .none
  | bool b => rw [toPy]; exact .bool b
  | int i t => rw [toPy]; exact .int i t
  | str s t => rw [toPy]; exact .str s t
  | bytes => simp [flatOk] at f
  | list => simp [flatOk] at f
theorem flats_read {h : Heap} : ∀ {vs : List Value} {ds : List Dat} {F : List Addr}, DenAll h vs ds F → ds.all flatOk = true → PySem.ReadsAll h vs (toPys ds) []
  | _, _, _, .nil, _ => by rw [toPys]; exact .nil
  | _, _, _, .cons x r, f => by
    rw [List.all_cons, Bool.and_eq_true] at f
    rw [toPys]
    exact ReadsAll.cons (flat_reads x f.1) (flats_read r f.2)
theorem eq_reads {h : Heap} {v : Value} {d : Dat} {F : List Addr} (x : Den h v d F) (f : eqOk d = true) : ∃ as, PySem.Reads h v (toPy d) as := by
  cases x with
  | list ho r =>
    rw [toPy]
    exact ⟨_, reads_list_at ho rfl rfl (by simpa [W.listOf] using flats_read r f)⟩
  | none => exact ⟨_, flat_reads .none f⟩
  | bool b => exact ⟨_, flat_reads (.bool b) f⟩
  | int i t => exact ⟨_, flat_reads (.int i t) f⟩
  | str s t => exact ⟨_, flat_reads (.str s t) f⟩
  | bytes b t => exact ⟨_, flat_reads (.bytes b t) f⟩
theorem flat_lay {d : Dat} (f : flatOk d = true) : (toPy d).canLay0 = true ∧ (toPy d).depth ≤ 1 := by
  cases d <;> simp_all [flatOk, toPy, PyData.canLay0, PyData.depth]
theorem flats_lay : ∀ {ds : List Dat}, ds.all flatOk = true → PyData.canLayAll0 (toPys ds) = true ∧ PyData.depthAll (toPys ds) ≤ 1
  | [], _ => by simp [toPys, PyData.canLayAll0, PyData.depthAll]
  | d :: ds, f => by
    rw [List.all_cons, Bool.and_eq_true] at f
    have h1 := flat_lay f.1
    have h2 := flats_lay f.2
    simp only [toPys, PyData.canLayAll0, PyData.depthAll, h1.1, h2.1, Bool.and_self, true_and]
    (first | decide | lia | omega)
theorem flat_shaped {d : Dat} (f : flatOk d = true) : SeqAt.shaped (toPy d) = true := by
  have h := flat_lay f
  have h2 := h.2
  unfold SeqAt.shaped
  rw [h.1, Bool.true_and]
  exact decide_eq_true (by (first | decide | lia | omega))
theorem eq_shaped {d : Dat} (f : eqOk d = true) : SeqAt.shaped (toPy d) = true := by
  unfold SeqAt.shaped
  cases d with
  | list ds =>
    have h := flats_lay (ds := ds) f
    rw [toPy]
    have h2 := h.2
    simp only [PyData.canLay0, PyData.depth, h.1, Bool.true_and]
    exact decide_eq_true (by (first | decide | lia | omega))
  | none => exact flat_shaped (d := .none) f
  | bool x => exact flat_shaped (d := .bool x) f
  | int x => exact flat_shaped (d := .int x) f
  | str x => exact flat_shaped (d := .str x) f
  | bytes x => exact flat_shaped (d := .bytes x) f
  | tuple x => exact flat_shaped (d := .tuple x) f

section
variable {prog : Program} {w : World} {A : Around} {s : Shared} {va vb : Value} {a b d : Dat} {Fa Fb : List Addr}

theorem cmpD_sound {op : CmpOp} {k : Nat} (R : Rm A k) (e : cmpD op a b = some d) (ha : Den s.heap va a Fa) (hb : Den s.heap vb b Fb) : wpAny (model prog w) A (compareOp op va vb) (Gives s d) No s := by
  cases op with
  | Eq =>
    replace e : (if eqOk a = true ∧ eqOk b = true then some _ else none) = some d := e
    split at e
    · rename_i hc
      cases e
      obtain ⟨as, ra⟩ := eq_reads ha hc.1
      obtain ⟨bs, rb⟩ := eq_reads hb hc.2
      exact eq_dataH ra rb (eq_shaped hc.1) (eq_shaped hc.2) R.room (giveImm' (.bool _))
    · cases e
  | NotEq =>
    replace e : (if eqOk a = true ∧ eqOk b = true then some _ else none) = some d := e
    split at e
    · rename_i hc
      cases e
      obtain ⟨as, ra⟩ := eq_reads ha hc.1
      obtain ⟨bs, rb⟩ := eq_reads hb hc.2
      exact ne_dataH ra rb (eq_shaped hc.1) (eq_shaped hc.2) R.room (giveImm' (.bool _))
    · cases e
  | Lt =>
    replace e : ltD a b = some d := e
    unfold ltD at e
    split at e
    · refine Den.int_elim (P := fun z => wpAny (model prog w) A (compareOp _ z _) _ _ _) ha fun t => ?_; refine Den.int_elim (P := fun z => wpAny (model prog w) A (compareOp _ _ z) _ _ _) hb fun u => ?_
      cases e
      exact PyProof.Rows.lt_int (giveImm' (.bool _))
    · refine Den.str_elim (P := fun z => wpAny (model prog w) A (compareOp _ z _) _ _ _) ha fun t => ?_; refine Den.str_elim (P := fun z => wpAny (model prog w) A (compareOp _ _ z) _ _ _) hb fun u => ?_
      cases e
      exact PyProof.Rows.lt_str (giveImm' (.bool _))
    · exact nn e
  | LtE =>
    replace e : leD a b = some d := e
    unfold leD at e
    split at e
    · refine Den.int_elim (P := fun z => wpAny (model prog w) A (compareOp _ z _) _ _ _) ha fun t => ?_; refine Den.int_elim (P := fun z => wpAny (model prog w) A (compareOp _ _ z) _ _ _) hb fun u => ?_
      cases e
      exact PyProof.Rows.le_int (giveImm' (.bool _))
    · exact nn e
  | Gt =>
    replace e : gtD a b = some d := e
    unfold gtD at e
    split at e
    · refine Den.int_elim (P := fun z => wpAny (model prog w) A (compareOp _ z _) _ _ _) ha fun t => ?_; refine Den.int_elim (P := fun z => wpAny (model prog w) A (compareOp _ _ z) _ _ _) hb fun u => ?_
      cases e
      exact PyProof.Rows.gt_int (giveImm' (.bool _))
    · refine Den.str_elim (P := fun z => wpAny (model prog w) A (compareOp _ z _) _ _ _) ha fun t => ?_; refine Den.str_elim (P := fun z => wpAny (model prog w) A (compareOp _ _ z) _ _ _) hb fun u => ?_
      cases e
      exact P.gt_str (giveImm' (.bool _))
    · exact nn e
  | GtE =>
    replace e : geD a b = some d := e
    unfold geD at e
    split at e
    · refine Den.int_elim (P := fun z => wpAny (model prog w) A (compareOp _ z _) _ _ _) ha fun t => ?_; refine Den.int_elim (P := fun z => wpAny (model prog w) A (compareOp _ _ z) _ _ _) hb fun u => ?_
      cases e
      exact PyProof.Rows.ge_int (giveImm' (.bool _))
    · exact nn e
  | Is =>
    replace e : isD a b = some d := e
    unfold isD at e
    split at e
    · have e1 := ha.bool_inv; have e2 := hb.bool_inv
      subst e1; subst e2
      cases e
      refine wpAny_is_plain rfl (giveImm' ?_)
      rename_i x y
      have : (Value.bool x == Value.bool y) = (x == y) := by cases x <;> cases y <;> rfl
      rw [this]
      exact .bool _
    · exact nn e
  | _ => exact nn e

theorem truD_sound {t : Bool} {Q : Bool → Shared → Prop} {E : Value → Shared → Prop} (e : truD a = some t) (ha : Den s.heap va a Fa) (h : Q t s) : wpAny (model prog w) A (truthy va) Q E s := by
  unfold truD at e
  split at e
  · have e1 := ha.bool_inv
    subst e1
    cases e
    exact wpAny_truthy_bool h
  · obtain ⟨t, rfl⟩ := ha.int_inv
    cases e
    exact PyProof.Rows.truthy_int h
  · cases e

theorem unD_sound {op : UnaryOp} (e : unD op a = some d) (ha : Den s.heap va a Fa) : wpAny (model prog w) A (unaryOp op va) (Gives s d) No s := by
  unfold unD at e
  split at e
  · obtain ⟨t, rfl⟩ := ha.int_inv
    cases e
    exact PyProof.Rows.neg_int (giveImm (.int _ _))
  · have e1 := ha.bool_inv
    subst e1
    cases e
    exact not_value (wpAny_truthy_bool (giveImm' (.bool _)))
  · cases e
end
end Mine
end
section
namespace Mine

/-! ## The evaluator of expressions -/
structure Funs where
  fn : Str → List Dat → Option Dat
  dct : Str → Dat → Option Dat
  sub : Array UInt8 → Option (Array UInt8)
  cst : Str → Option Dat

noncomputable def constD : Const → Option Dat
  | .none => some .none
  | .bool b => some (.bool b)
  | .int i => some (.int i)
  | .str x => some (.str x)
  | .bytes l => some (.bytes l.toArray)
  | _ => none

noncomputable def intsOf : List Dat → Option (List Int)
  | [] => some []
  | .int i :: r => (intsOf r).map (i :: ·)
  | _ :: _ => none
noncomputable def bytesOf : List Dat → Option (List (Array UInt8))
  | [] => some []
  | .bytes i :: r => (bytesOf r).map (i :: ·)
  | _ :: _ => none
noncomputable def strsOf : List Dat → Option (List Str)
  | [] => some []
  | .str i :: r => (strsOf r).map (i :: ·)
  | _ :: _ => none

noncomputable def rangeD : List Dat → Option (List Dat)
  | [.int n] => if n.natAbs ≤ 1000 then some ((List.range n.toNat).map fun (i : Nat) => .int (i : Int)) else none
  | [.int a, .int b] => if a.natAbs ≤ 1000 ∧ b.natAbs ≤ 1000 then some ((List.range (b - a).toNat).map fun (i : Nat) => .int (a + (i : Int))) else none
  | _ => none

noncomputable def asciiD (x : Str) : Bool := x.cps.toList.all fun c => c < 128

noncomputable def sumB : List Dat → Option Dat
  | [.list ds] => if ds.length ≤ lineMax then (intsOf ds).map fun ns => .int ns.sum else none
  | _ => none
noncomputable def lenB : List Dat → Option Dat
  | [.list ds] => if ds.length ≤ lineMax then some (.int ds.length) else none
  | [.str x] => if x.length ≤ lineMax then some (.int x.length) else none
  | _ => none
noncomputable def listB : List Dat → Option Dat
  | [.list ds] => if ds.all imm = true ∧ ds.length ≤ lineMax then some (.list ds) else none
  | _ => none
noncomputable def maxB : List Dat → Option Dat
  | [.int a, .int b] => some (.int (if a < b then b else a))
  | _ => none
/-- the built-in functions that we serve -/
noncomputable def builtD (f : Str) (vals : List Dat) : Option Dat :=
  if f = ("sum" : Str) then sumB vals else if f = ("len" : Str) then lenB vals else if f = ("list" : Str) then listB vals else if f = ("max" : Str) then maxB vals else none
noncomputable def builtNames : List Str := ["sum", "len", "list", "max", "isinstance", "range", "sorted", "bool"]

noncomputable def countB (b : Array UInt8) (c : UInt8) : Nat := (b.toList.filter (· == c)).length

noncomputable def encM (x : Str) : Option Dat := if asciiD x = true ∧ x.length ≤ lineMax then some (.bytes (x.cps.map (·.toUInt8))) else none
noncomputable def lstM (x y : Str) : Option Dat := if x.length ≤ lineMax then some (.str (Txt.lstripChars x y)) else none
noncomputable def cntM (b c : Array UInt8) : Option Dat := match c.toList with
  | [u] => if b.size ≤ lineMax then some (.int (countB b u)) else none
  | _ => none
noncomputable def jonM (b : Array UInt8) (ds : List Dat) : Option Dat := if b.size = 0 then (match bytesOf ds with
  | some bs => if (bs.map (·.size)).sum ≤ lineMax ∧ 2 ≤ ds.length ∧ ds.length ≤ 100 then some (.bytes (bs.foldl (· ++ ·) #[])) else none
  | none => none) else none
noncomputable def methD (m : Str) (o : Dat) (vals : List Dat) : Option Dat :=
  match o, vals with
  | .str x, [] => if m = ("encode" : Str) then encM x else none
  | .str x, [.str y] => if m = ("lstrip" : Str) then lstM x y else none
  | .bytes b, [.bytes c] => if m = ("count" : Str) then cntM b c else none
  | .bytes b, [.list ds] => if m = ("join" : Str) then jonM b ds else none
  | _, _ => none

noncomputable abbrev Kd := Str → Option NameKind
noncomputable abbrev Vs := Str → Option Dat

noncomputable def allSome {α β : Type} (f : α → Option β) : List α → Option (List β)
  | [] => some []
  | x :: r => match f x with
    | some y => match allSome f r with
      | some ys => some (y :: ys)
      | none => none
    | none => none

noncomputable def isVar (κ : Kd) (x : Str) : Bool := κ x == some .local || κ x == some .cell || κ x == some .free
noncomputable def isGlob (κ : Kd) (x : Str) : Bool := κ x == some .globalImplicit

noncomputable def freshE : Expr → Bool
  | .Name .. => false
  | .Subscript _ (.Slice ..) _ => true
  | .Subscript .. => false
  | _ => true

noncomputable def itemsD : Option Dat → Option (List Dat)
  | some (.list ds) => some ds
  | _ => none

/-! small views -/
noncomputable def two (f : Dat → Dat → Option Dat) (x y : Option Dat) : Option Dat := x.bind fun a => y.bind (f a)
theorem bind_inv {α β : Type} {x : Option α} {f : α → Option β} {d : β} (h : x.bind f = some d) : ∃ a, x = some a ∧ f a = some d := by
  cases x with
  | none => exact nn h
  | some a => exact ⟨a, rfl, h⟩
theorem bind_elim {α β : Type} {x : Option α} {f : α → Option β} {d : β} {P : Prop} (h : x.bind f = some d) (k : ∀ a, x = some a → f a = some d → P) : P := by
  cases x with
  | none => exact nn h
  | some a => exact k a rfl h
theorem if_elim {α : Type} {c : Prop} [Decidable c] {x : Option α} {d : α} {P : Prop} (h : (if c then x else none) = some d) (k : c → x = some d → P) : P := by
  by_cases hc : c
  · rw [if_pos hc] at h; exact k hc h
  · rw [if_neg hc] at h; exact nn h
theorem two_inv {f : Dat → Dat → Option Dat} {x y : Option Dat} {d : Dat} (h : two f x y = some d) : ∃ a b, x = some a ∧ y = some b ∧ f a b = some d := by
  obtain ⟨a, e1, h⟩ := bind_inv h
  obtain ⟨b, e2, h⟩ := bind_inv h
  exact ⟨a, b, e1, e2, h⟩
theorem if_inv {α : Type} {c : Prop} [Decidable c] {x : Option α} {d : α} (h : (if c then x else none) = some d) : c ∧ x = some d := by
  by_cases hc : c
  · rw [if_pos hc] at h; exact ⟨hc, h⟩
  · rw [if_neg hc] at h; exact nn h
theorem ifn_inv {α : Type} {c : Prop} [Decidable c] {x : Option α} {d : α} (h : (if c then none else x) = some d) : ¬ c ∧ x = some d := by
  by_cases hc : c
  · rw [if_pos hc] at h; exact nn h
  · rw [if_neg hc] at h; exact ⟨hc, h⟩
theorem ite_inv {α : Type} {c : Prop} [Decidable c] {x y : Option α} {d : α} (h : (if c then x else y) = some d) : (c ∧ x = some d) ∨ (¬ c ∧ y = some d) := by
  by_cases hc : c
  · rw [if_pos hc] at h; exact .inl ⟨hc, h⟩
  · rw [if_neg hc] at h; exact .inr ⟨hc, h⟩
noncomputable def onE {α : Type} (nm : Str → Option α) (ct : Const → Option α) (at' : Expr → Str → Pos → Option α) (sl : Option Expr → Option Expr → Option Expr → Option α) (sb : Expr → Expr → Option α) (cl : Expr → List Expr → List Keyword → Pos → Option α) (ls : List Expr → Option α) : Expr → Option α
  | .Name x _ => nm x
  | .Constant c _ _ => ct c
  | .Attribute o m p => at' o m p
  | .Slice lo hi st _ => sl lo hi st
  | .Subscript o i _ => sb o i
  | .Call f a k p => cl f a k p
  | .List es _ => ls es
  | _ => none
theorem onE_inv {α : Type} {nm : Str → Option α} {ct : Const → Option α} {at' : Expr → Str → Pos → Option α} {sl : Option Expr → Option Expr → Option Expr → Option α} {sb : Expr → Expr → Option α} {cl : Expr → List Expr → List Keyword → Pos → Option α} {ls : List Expr → Option α} {d : α} {P : Expr → Prop} {e : Expr}
    (h : onE nm ct at' sl sb cl ls e = some d) (h1 : ∀ x p, nm x = some d → P (.Name x p)) (h2 : ∀ c k p, ct c = some d → P (.Constant c k p)) (h3 : ∀ o m p, at' o m p = some d → P (.Attribute o m p)) (h4 : ∀ lo hi st p, sl lo hi st = some d → P (.Slice lo hi st p))
    (h5 : ∀ o i p, sb o i = some d → P (.Subscript o i p)) (h6 : ∀ f a k p, cl f a k p = some d → P (.Call f a k p)) (h7 : ∀ es p, ls es = some d → P (.List es p)) : P e := by
  cases e <;> first | exact nn h | exact h1 _ _ h | exact h2 _ _ _ h | exact h3 _ _ _ h | exact h4 _ _ _ _ h | exact h5 _ _ _ h | exact h6 _ _ _ _ h | exact h7 _ _ h
noncomputable def nameE : Expr → Option Str := onE some (fun _ => none) (fun _ _ _ => none) (fun _ _ _ => none) (fun _ _ => none) (fun _ _ _ _ => none) (fun _ => none)
theorem nameE_inv {e : Expr} {x : Str} (h : nameE e = some x) : ∃ p, e = .Name x p :=
  onE_inv (P := fun e => ∃ p, e = .Name x p) h (fun _ p h => ⟨p, Option.some.inj h ▸ rfl⟩) (fun _ _ _ h => nn h) (fun _ _ _ h => nn h) (fun _ _ _ _ h => nn h) (fun _ _ _ h => nn h) (fun _ _ _ _ h => nn h) (fun _ _ h => nn h)
noncomputable def slE : Expr → Option (Option Expr × Option Expr × Option Expr) := onE (fun _ => none) (fun _ => none) (fun _ _ _ => none) (fun a b c => some (a, b, c)) (fun _ _ => none) (fun _ _ _ _ => none) (fun _ => none)
theorem slE_inv {e : Expr} {l h k : Option Expr} (q : slE e = some (l, h, k)) : ∃ p, e = .Slice l h k p :=
  onE_inv (P := fun e => ∃ p, e = .Slice l h k p) q (fun _ _ h => nn h) (fun _ _ _ h => nn h) (fun _ _ _ h => nn h) (fun _ _ _ p h => ⟨p, by cases h; rfl⟩) (fun _ _ _ h => nn h) (fun _ _ _ _ h => nn h) (fun _ _ h => nn h)
theorem slE_none {e : Expr} (q : slE e = none) : ∀ o p, freshE (.Subscript o e p) = false := fun _ _ => by
  cases e <;> first | rfl | exact nn q.symm
noncomputable def attrE : Expr → Option (Expr × Str × Pos) := onE (fun _ => none) (fun _ => none) (fun o m p => some (o, m, p)) (fun _ _ _ => none) (fun _ _ => none) (fun _ _ _ _ => none) (fun _ => none)
theorem attrE_inv {e o : Expr} {m : Str} {p : Pos} (q : attrE e = some (o, m, p)) : e = .Attribute o m p :=
  onE_inv (P := fun e => e = .Attribute o m p) q (fun _ _ h => nn h) (fun _ _ _ h => nn h) (fun _ _ _ h => by cases h; rfl) (fun _ _ _ _ h => nn h) (fun _ _ _ h => nn h) (fun _ _ _ _ h => nn h) (fun _ _ h => nn h)
noncomputable def constE {α : Type} (f : Const → Option α) : Expr → Option α := onE (fun _ => none) f (fun _ _ _ => none) (fun _ _ _ => none) (fun _ _ => none) (fun _ _ _ _ => none) (fun _ => none)
theorem constE_inv {α : Type} {f : Const → Option α} {e : Expr} {d : α} (q : constE f e = some d) : ∃ c k p, e = .Constant c k p ∧ f c = some d :=
  onE_inv (P := fun e => ∃ c k p, e = .Constant c k p ∧ f c = some d) q (fun _ _ h => nn h) (fun c k p h => ⟨c, k, p, rfl, h⟩) (fun _ _ _ h => nn h) (fun _ _ _ _ h => nn h) (fun _ _ _ h => nn h) (fun _ _ _ _ h => nn h) (fun _ _ h => nn h)
noncomputable def strC : Const → Option Str
  | .str y => some y
  | _ => none
noncomputable def strE : Expr → Option Str := constE strC
theorem strE_inv {e : Expr} {y : Str} (q : strE e = some y) : ∃ k p, e = .Constant (.str y) k p := by
  obtain ⟨c, k, p, rfl, h⟩ := constE_inv q
  cases c <;> first | exact nn h | (cases h; exact ⟨_, _, rfl⟩)
noncomputable def nobC : Const → Option Unit
  | .bytes [] => some ()
  | _ => none
noncomputable def nobE : Expr → Option Unit := constE nobC
theorem nobE_inv {e : Expr} {u : Unit} (q : nobE e = some u) : ∃ k p, e = .Constant (.bytes []) k p := by
  obtain ⟨c, k, p, rfl, h⟩ := constE_inv q
  cases c <;> first | exact nn h | (rename_i l; cases l <;> first | exact ⟨_, _, rfl⟩ | exact nn h)
noncomputable def subE : Expr → Option (Expr × Expr) := onE (fun _ => none) (fun _ => none) (fun _ _ _ => none) (fun _ _ _ => none) (fun o i => some (o, i)) (fun _ _ _ _ => none) (fun _ => none)
theorem subE_inv {e o i : Expr} (q : subE e = some (o, i)) : ∃ p, e = .Subscript o i p :=
  onE_inv (P := fun e => ∃ p, e = .Subscript o i p) q (fun _ _ h => nn h) (fun _ _ _ h => nn h) (fun _ _ _ h => nn h) (fun _ _ _ _ h => nn h) (fun _ _ p h => ⟨p, by cases h; rfl⟩) (fun _ _ _ _ h => nn h) (fun _ _ h => nn h)
noncomputable def callE : Expr → Option (Expr × List Expr × List Keyword × Pos) := onE (fun _ => none) (fun _ => none) (fun _ _ _ => none) (fun _ _ _ => none) (fun _ _ => none) (fun f a k p => some (f, a, k, p)) (fun _ => none)
theorem callE_inv {e f : Expr} {args : List Expr} {kws : List Keyword} {p : Pos} (q : callE e = some (f, args, kws, p)) : e = .Call f args kws p :=
  onE_inv (P := fun e => e = .Call f args kws p) q (fun _ _ h => nn h) (fun _ _ _ h => nn h) (fun _ _ _ h => nn h) (fun _ _ _ _ h => nn h) (fun _ _ _ h => nn h) (fun _ _ _ _ h => by cases h; rfl) (fun _ _ h => nn h)
noncomputable def lstE : Expr → Option (List Expr) := onE (fun _ => none) (fun _ => none) (fun _ _ _ => none) (fun _ _ _ => none) (fun _ _ => none) (fun _ _ _ _ => none) some
theorem lstE_inv {e : Expr} {es : List Expr} (q : lstE e = some es) : ∃ p, e = .List es p :=
  onE_inv (P := fun e => ∃ p, e = .List es p) q (fun _ _ h => nn h) (fun _ _ _ h => nn h) (fun _ _ _ h => nn h) (fun _ _ _ _ h => nn h) (fun _ _ _ h => nn h) (fun _ _ _ _ h => nn h) (fun _ p h => ⟨p, Option.some.inj h ▸ rfl⟩)
noncomputable def relab (scope : Scope) (κ : Kd) : Kd := fun x => (scope.names.map fun (n, k) => if (k == .free && κ n == some .cell) then (n, .cell) else (n, k)).lookup x
noncomputable def inComp (κ' : Kd) (ρ : Vs) (b : Str → Option Dat) : Vs := fun y => match κ' y with
  | some .local => b y
  | some .cell => ρ y
  | some .free => ρ y
  | _ => none
noncomputable def bind1 (x : Str) (v : Dat) (b : Str → Option Dat) : Str → Option Dat := fun y => if y = x then some v else b y
noncomputable def nob : Str → Option Dat := fun _ => none

noncomputable def plainName (x : Str) : Bool := !(x == ("__debug__" : Str)) && !(x == ("__classdict__" : Str))
/-- conditions on a comprehension's block that its rule asks -/
noncomputable def compOk (κ : Kd) (scope : Scope) (xs : List Str) : Bool :=
  decide (scope.kind = .function) && scope.names.all (fun y => y.2 != .cell) &&
  scope.names.all (fun y => y.2 != .local || scope.names.lookup y.1 == some .local) &&
  scope.names.all (fun y => y.2 != .free || κ y.1 == some .cell || κ y.1 == some .free) &&
  xs.all (fun x => scope.names.lookup x == some .local && plainName x)

noncomputable def tcF (rec : Kd → Vs → Expr → Option Dat) (κ : Kd) (ρ : Vs) (l : Expr) : List CmpOp → List Expr → Option Bool
  | [op], [r] => (rec κ ρ l).bind fun a => (rec κ ρ r).bind fun b => (cmpD op a b).bind truD
  | _, _ => none
noncomputable def truE (rec : Kd → Vs → Expr → Option Dat) (κ : Kd) (ρ : Vs) (e : Expr) : Option Bool :=
  match e with
  | .BoolOp .. => none
  | .UnaryOp .. => none
  | .IfExp .. => none
  | .Compare l ops rs _ => tcF rec κ ρ l ops rs
  | e => (rec κ ρ e).bind truD

noncomputable def allE (rec : Kd → Vs → Expr → Option Dat) (κ : Kd) (ρ : Vs) : List Expr → Option Bool
  | [] => some true
  | e :: r => match truE rec κ ρ e with
    | some true => allE rec κ ρ r
    | some false => some false
    | none => none
noncomputable def anyE (rec : Kd → Vs → Expr → Option Dat) (κ : Kd) (ρ : Vs) : List Expr → Option Bool
  | [] => some false
  | e :: r => match truE rec κ ρ e with
    | some true => some true
    | some false => anyE rec κ ρ r
    | none => none
noncomputable def tst (rec : Kd → Vs → Expr → Option Dat) (κ : Kd) (ρ : Vs) : Expr → Option Bool
  | .BoolOp .And es _ => allE rec κ ρ es
  | .BoolOp .Or es _ => anyE rec κ ρ es
  | e => truE rec κ ρ e

noncomputable def rngE (e : Expr) : Option (List Expr) := (callE e).bind fun c => (nameE c.1).bind fun f => if f = ("range" : Str) ∧ c.2.2.1.isEmpty = true then some c.2.1 else none
theorem rngE_inv {e : Expr} {args : List Expr} (q : rngE e = some args) : ∃ pf p, e = .Call (.Name "range" pf) args [] p := by
  obtain ⟨⟨f, a, k, p⟩, h1, q1⟩ := bind_inv q
  clear q
  cases callE_inv h1
  obtain ⟨x, h2, q2⟩ := bind_inv q1
  clear q1
  obtain ⟨pf, rfl⟩ := nameE_inv h2
  obtain ⟨⟨h3, h4⟩, q3⟩ := if_inv q2
  clear q2
  cases h3
  cases q3
  cases List.isEmpty_iff.mp h4
  exact ⟨_, _, rfl⟩
theorem rngE_rg {args : List Expr} {pf p : Pos} : rngE (.Call (.Name "range" pf) args [] p) = some args := by
  show (if ("range" : Str) = ("range" : Str) ∧ ([] : List Keyword).isEmpty = true then some args else none) = _
  exact if_pos ⟨rfl, rfl⟩
noncomputable def iterE (rec : Kd → Vs → Expr → Option Dat) (κ : Kd) (ρ : Vs) (e : Expr) : Option (List Dat) :=
  (rngE e).elim (itemsD (rec κ ρ e)) fun args => if isGlob κ ("range" : Str) = true then (allSome (rec κ ρ) args).bind rangeD else none

noncomputable def compTest (rec : Kd → Vs → Expr → Option Dat) (κ : Kd) (ρ : Vs) : List Expr → Option Bool
  | [] => some true
  | [c] => truE rec κ ρ c
  | _ => none

/-- the items of one clause's loop -/
noncomputable def compRun (rec : Kd → Vs → Expr → Option Dat) (κ' : Kd) (ρ : Vs) (x : Str) (elt : Expr) (ifs : List Expr) : List Dat → Option (List Dat)
  | [] => some []
  | v :: r => match compTest rec κ' (inComp κ' ρ (bind1 x v nob)) ifs with
    | some true => match rec κ' (inComp κ' ρ (bind1 x v nob)) elt with
      | some d => if (freshE elt || imm d) = true then (match compRun rec κ' ρ x elt ifs r with
          | some ds => some (d :: ds)
          | none => none) else none
      | none => none
    | some false => compRun rec κ' ρ x elt ifs r
    | none => none
noncomputable def compRun2b (rec : Kd → Vs → Expr → Option Dat) (κ' : Kd) (ρ : Vs) (x : Str) (v : Dat) (y : Str) (elt : Expr) : List Dat → Option (List Dat)
  | [] => some []
  | u :: r => match rec κ' (inComp κ' ρ (bind1 y u (bind1 x v nob))) elt with
    | some d => if imm d = true then (match compRun2b rec κ' ρ x v y elt r with
        | some ds => some (d :: ds)
        | none => none) else none
    | none => none
noncomputable def compRun2 (rec : Kd → Vs → Expr → Option Dat) (κ' : Kd) (ρ : Vs) (x y : Str) (iter2 elt : Expr) : List Dat → Option (List Dat)
  | [] => some []
  | v :: r => match itemsD (rec κ' (inComp κ' ρ (bind1 x v nob)) iter2) with
    | some us => if us.all imm = true ∧ freshE iter2 = true ∧ imm v = true then (match compRun2b rec κ' ρ x v y elt us with
      | some ds => match compRun2 rec κ' ρ x y iter2 elt r with
        | some es => some (ds ++ es)
        | none => none
      | none => none) else none
    | none => none

noncomputable def partE (rec : Kd → Vs → Expr → Option Dat) (κ : Kd) (ρ : Vs) : Option Expr → Option (Option Dat)
  | none => some none
  | some e => match rec κ ρ e with
    | some d => if imm d = true then some (some d) else none
    | none => none

noncomputable def genE (g : Comprehension) : Option (Str × Expr × List Expr) := if g.is_async = 0 then (nameE g.target).map fun x => (x, g.iter, g.ifs) else none
theorem genE_inv {g : Comprehension} {x : Str} {it : Expr} {ifs : List Expr} (q : genE g = some (x, it, ifs)) : ∃ p, g = ⟨.Name x p, it, ifs, 0⟩ := by
  obtain ⟨t, i, f, a⟩ := g
  obtain ⟨rfl, q⟩ := if_inv q
  cases hn : nameE t with
  | none => rw [show (⟨t, i, f, 0⟩ : Comprehension).target = t from rfl, hn] at q; exact nn q
  | some y =>
    rw [show (⟨t, i, f, 0⟩ : Comprehension).target = t from rfl, hn] at q
    obtain ⟨p, rfl⟩ := nameE_inv hn
    cases q
    exact ⟨p, rfl⟩
noncomputable def boolOf : Dat → Option Bool
  | .bool b => some b
  | _ => none
noncomputable def strOf : Dat → Option Str
  | .str b => some b
  | _ => none
noncomputable def byteOf : Dat → Option (Array UInt8)
  | .bytes b => some b
  | _ => none
noncomputable def isiD : Dat → Option Dat
  | .bool _ => some (.bool true)
  | .int _ => some (.bool false)
  | _ => none
theorem boolOf_inv {d : Dat} {b : Bool} (h : boolOf d = some b) : d = .bool b := by cases d <;> first | exact nn h | (cases h; rfl)
theorem strOf_inv {d : Dat} {b : Str} (h : strOf d = some b) : d = .str b := by cases d <;> first | exact nn h | (cases h; rfl)
theorem byteOf_inv {d : Dat} {b : Array UInt8} (h : byteOf d = some b) : d = .bytes b := by cases d <;> first | exact nn h | (cases h; rfl)
noncomputable def immF (d : Dat) : Option Dat := if imm d then some d else none
noncomputable def listF (ds : List Dat) : Option Dat := if ds.all imm = true ∧ ds.length ≤ lineMax then some (.list ds) else none
noncomputable def lineF (ds : List Dat) : Option Dat := if ds.length ≤ lineMax then some (.list ds) else none

section
variable (Φ : Funs) (rec : Kd → Vs → Expr → Option Dat) (κ : Kd) (ρ : Vs)
noncomputable def cmpF (l : Expr) : List CmpOp → List Expr → Option Dat
  | [op], [r] => two (cmpD op) (rec κ ρ l) (rec κ ρ r)
  | _, _ => none
noncomputable def andF : List Expr → Option Dat
  | [x, y] => ((rec κ ρ x).bind boolOf).bind fun b => if b = true then (rec κ ρ y).bind immF else some (.bool false)
  | _ => none
noncomputable def boolF (op : BoolOp) (xs : List Expr) : Option Dat := match op with
  | .And => andF rec κ ρ xs
  | .Or => none
noncomputable def sliceF (o : Expr) (s : Option Expr × Option Expr × Option Expr) : Option Dat :=
  (nameE o).bind fun x => if isVar κ x = true then (ρ x).bind fun a => (partE rec κ ρ s.1).bind fun l => (partE rec κ ρ s.2.1).bind fun h => (partE rec κ ρ s.2.2).bind fun k => sliceD a l h k else none
noncomputable def nitF (i : Expr) (x : Str) : Option Dat :=
  if isGlob κ x = true then (rec κ ρ i).bind (Φ.dct x) else if isVar κ x = true then two itemD (ρ x) (rec κ ρ i) else none
noncomputable def itemF (o i : Expr) : Option Dat := (nameE o).elim (two itemD (rec κ ρ o) (rec κ ρ i)) (nitF Φ rec κ ρ i)
noncomputable def subF (o i : Expr) : Option Dat := (slE i).elim (itemF Φ rec κ ρ o i) (sliceF rec κ ρ o)
noncomputable def isiF : List Expr → Option Dat
  | [e, b] => (nameE b).bind fun b => if b = ("bool" : Str) ∧ isGlob κ b = true then (rec κ ρ e).bind isiD else none
  | _ => none
noncomputable def fnF (args : List Expr) (f : Str) : Option Dat :=
  if isGlob κ f = false then none else if f = ("isinstance" : Str) then isiF rec κ ρ args else if args.isEmpty = true then none
  else (allSome (rec κ ρ) args).bind fun vals => if builtNames.contains f then builtD f vals else Φ.fn f vals
noncomputable def repF (o : Expr) : List Expr → Option Dat
  | [y, z] => (strE y).bind fun y => (strE z).bind fun z => ((rec κ ρ o).bind strOf).bind fun x => if (y == z) = false ∧ x.length ≤ 1000 ∧ z.length ≤ 14 then some (.str (Txt.replace x y z)) else none
  | _ => none
noncomputable def psubF (o : Expr) : List Expr → Option Dat
  | [b, e] => (nobE b).bind fun _ => (nameE o).bind fun q => if q = ("_quoted" : Str) ∧ isGlob κ q = true then ((rec κ ρ e).bind byteOf).bind fun b => (Φ.sub b).map .bytes else none
  | _ => none
noncomputable def metF (args : List Expr) (pos : Pos) (a : Expr × Str × Pos) : Option Dat :=
  if (a.2.2.endLine == pos.line) = false then none else if a.2.1 = ("replace" : Str) then repF rec κ ρ a.1 args else if a.2.1 = ("sub" : Str) then psubF Φ rec κ ρ a.1 args
  else (rec κ ρ a.1).bind fun o => (allSome (rec κ ρ) args).bind fun vals => methD a.2.1 o vals
noncomputable def callF (f : Expr) (args : List Expr) (kws : List Keyword) (pos : Pos) : Option Dat := match kws with
  | [] => (nameE f).elim ((attrE f).bind (metF Φ rec κ ρ args pos)) (fnF Φ rec κ ρ args)
  | _ :: _ => none
noncomputable def com1F (elt : Expr) (scope : Scope) (g : Str × Expr × List Expr) : Option Dat :=
  if compOk κ scope [g.1] = true then (iterE rec κ ρ g.2.1).bind fun items => (compRun rec (relab scope κ) ρ g.1 elt g.2.2 items).bind lineF else none
noncomputable def com2F (elt : Expr) (scope : Scope) (g h : Str × Expr × List Expr) : Option Dat :=
  if (compOk κ scope [g.1, h.1] && !(g.1 == h.1)) = true ∧ g.2.2.isEmpty = true ∧ h.2.2.isEmpty = true then (itemsD (rec κ ρ g.2.1)).bind fun items => (compRun2 rec (relab scope κ) ρ g.1 h.1 h.2.1 elt items).bind lineF else none
noncomputable def compF (elt : Expr) (scope : Scope) : List Comprehension → Option Dat
  | [g] => (genE g).bind (com1F rec κ ρ elt scope)
  | [g, h] => (genE g).bind fun g => (genE h).bind (com2F rec κ ρ elt scope g)
  | _ => none
noncomputable def evF : Expr → Option Dat
  | .Constant c _ _ => constD c
  | .Name x _ => if isVar κ x = true then ρ x else if isGlob κ x = true then Φ.cst x else none
  | .BinOp l op r _ => two (binD op) (rec κ ρ l) (rec κ ρ r)
  | .UnaryOp op x _ => (rec κ ρ x).bind (unD op)
  | .Compare l ops rs _ => cmpF rec κ ρ l ops rs
  | .BoolOp op xs _ => boolF rec κ ρ op xs
  | .List es _ => (allSome (rec κ ρ) es).bind listF
  | .Subscript o i _ => subF Φ rec κ ρ o i
  | .Call f args kws pos => callF Φ rec κ ρ f args kws pos
  | .ListComp elt gens scope _ => compF rec κ ρ elt scope gens
  | _ => none
end

noncomputable def ev (Φ : Funs) : Nat → Kd → Vs → Expr → Option Dat
  | 0 => fun _ _ _ => none
  | n + 1 => evF Φ (ev Φ n)
end Mine
end
section
namespace Mine

/-! ## Soundness: names, arguments, built-in functions -/
structure EOk (env : Env) : Prop where
  kind : env.scope.kind = .function
  globals : env.globals = mainGlobals
  builtins : env.builtins = builtinsNs
  cells : ∀ x, env.kindOf x = some .cell ∨ env.kindOf x = some .free → ∃ c, env.cells.lookup x = some c

noncomputable def VarIs (env : Env) (h : Heap) (x : Str) (v : Value) : Prop :=
  (env.kindOf x = some .local ∧ ∃ m, h.Ns env.locals m ∧ m x = some v) ∨
  ((env.kindOf x = some .cell ∨ env.kindOf x = some .free) ∧ ∃ c, env.cells.lookup x = some c ∧ h.IsCell c (some v))
noncomputable def VarsOk (env : Env) (h : Heap) (ρ : Vs) : Prop := ∀ x d, ρ x = some d → plainName x = true ∧ ∃ v F, VarIs env h x v ∧ Den h v d F

theorem VarIs.kp {env : Env} {s s' : Shared} {x : Str} {v : Value} (k : Kp s s') (h : VarIs env s.heap x v) : VarIs env s'.heap x v := by
  obtain ⟨h', tk, rfl, k⟩ := k
  rcases h with ⟨a, m, n, e⟩ | ⟨a, c, e, i⟩
  · exact .inl ⟨a, m, n.keeps k, e⟩
  · exact .inr ⟨a, c, e, i.keeps k⟩
theorem VarsOk.kp {env : Env} {s s' : Shared} {ρ : Vs} (k : Kp s s') (h : VarsOk env s.heap ρ) : VarsOk env s'.heap ρ := fun x d e =>
  let ⟨p, v, F, a, b⟩ := h x d e; ⟨p, v, F, a.kp k, k.den b⟩

noncomputable def GIs (h : Heap) (x : Str) (v : Value) : Prop := ∃ mg mb, h.Ns mainGlobals mg ∧ h.Ns builtinsNs mb ∧ (mg x = some v ∨ (mg x = none ∧ mb x = some v))
structure St (H0 : Heap) (s : Shared) : Prop where
  keep : ∀ b o, H0.get? b = some o → s.heap.get? b = some o
  tok : 0 < s.toks
theorem St.kp {H0 : Heap} {s s' : Shared} (S : St H0 s) (k : Kp s s') (t : s.toks ≤ s'.toks) : St H0 s' := ⟨fun b o e => k.get (S.keep b o e), Nat.lt_of_lt_of_le S.tok t⟩

theorem wpSeq {α : Type} {M : Model} {A : Around} {t : Sem α} {P Q : α → Shared → Prop} {E : Value → Shared → Prop} {s : Shared} (h : wpAny M A t P No s) (k : ∀ a s', P a s' → s.toks ≤ s'.toks → Q a s') : wpAny M A t Q E s :=
  wpAny_mono (wpAny_toks_of (Nat.le_refl _) h) (fun a s' x => k a s' x.2 x.1) fun _ _ f => f.2.elim

noncomputable def Out (s : Shared) (d : Dat) (f : Bool) (v : Value) (s' : Shared) : Prop := Kp s s' ∧ ∃ F, Den s'.heap v d F ∧ (f = true → Fresh s F)
theorem Out.elim {s : Shared} {d : Dat} {f : Bool} {v : Value} {s' : Shared} {P : Prop} (g : Out s d f v s') (k : Kp s s' → ∀ F, Den s'.heap v d F → P) : P := by
  obtain ⟨k1, F, h, _⟩ := g
  exact k k1 F h
theorem Gives.elim {s : Shared} {d : Dat} {v : Value} {s' : Shared} {P : Prop} (g : Gives s d v s') (k : Kp s s' → ∀ F, Den s'.heap v d F → P) : P := by
  obtain ⟨k1, F, h, _⟩ := g
  exact k k1 F h
theorem Gives.out {s : Shared} {d : Dat} {f : Bool} {v : Value} {s' : Shared} (g : Gives s d v s') : Out s d f v s' := ⟨g.1, let ⟨F, x, y⟩ := g.2; ⟨F, x, fun _ => y⟩⟩
theorem Out.after {s s₁ : Shared} {d : Dat} {f : Bool} {v : Value} {s' : Shared} (k : Kp s s₁) (g : Out s₁ d f v s') : Out s d f v s' := ⟨k.trans g.1, let ⟨F, x, y⟩ := g.2; ⟨F, x, fun q => (y q).back k⟩⟩
theorem Gives.after {s s₁ : Shared} {d : Dat} {v : Value} {s' : Shared} (k : Kp s s₁) (g : Gives s₁ d v s') : Gives s d v s' := ⟨k.trans g.1, let ⟨F, x, y⟩ := g.2; ⟨F, x, y.back k⟩⟩
theorem Out.imm {s : Shared} {d : Dat} {f : Bool} {v : Value} {s' : Shared} (g : Out s d f v s') (i : imm d = true) : Gives s d v s' := by
  obtain ⟨k, F, x, _⟩ := g
  have := x.imm_nil i
  subst this
  exact ⟨k, [], x, Fresh.nil⟩
theorem Out.gives {s : Shared} {d : Dat} {v : Value} {s' : Shared} (g : Out s d true v s') : Gives s d v s' := ⟨g.1, let ⟨F, x, y⟩ := g.2; ⟨F, x, y rfl⟩⟩

section
variable {M : Model} {A : Around} {E : Value → Shared → Prop} {s : Shared} {env : Env} {H0 : Heap} {x : Str} {v : Value} {pos : Pos} {Q : Value → Shared → Prop}
theorem glob_name (G : GIs H0 x v) (S : St H0 s) (O : EOk env) (hk : env.kindOf x = some .globalImplicit) (hd : plainName x = true) (h : Q v s) : wpAny M A (eval (.Name x pos) env) Q E s := by
  obtain ⟨mg, mb, n1, n2, e⟩ := G
  have hd' : (x == ("__debug__" : Str)) = false := by
    unfold plainName at hd; simp at hd; simpa using hd.1
  refine Name_function_global O.kind hk ?_ hd'
  rcases e with e | ⟨e1, e2⟩
  · exact loadGlobal_global (by rw [O.globals]; exact n1.keeps S.keep) e h
  · exact loadGlobal_builtin (by rw [O.globals]; exact n1.keeps S.keep) e1 (by rw [O.builtins]; exact n2.keeps S.keep) e2 h
theorem var_name (O : EOk env) (V : VarIs env s.heap x v) (hd : plainName x = true) (h : Q v s) : wpAny M A (eval (.Name x pos) env) Q E s := by
  have hd' : (x == ("__debug__" : Str)) = false := by
    unfold plainName at hd; simp at hd; simpa using hd.1
  have hc' : (x == ("__classdict__" : Str)) = false := by
    unfold plainName at hd; simp at hd; simpa using hd.2
  refine wpAny_Name ?_ hd'
  rcases V with ⟨a, m, n, e⟩ | ⟨a | a, c, e, i⟩
  · exact wpAny_loadName_local O.kind a n e h
  · exact wpAny_loadName_cell O.kind a e i h
  · exact wpAny_loadName_free O.kind a e i h hc'
end

theorem starEach_cons {env : Env} {e : Expr} {rest : List Expr} (h : ∀ x p, e ≠ .Starred x p) : starEach (e :: rest) env = (false, eval e env) :: starEach rest env := by
  cases e <;> first | rfl | exact absurd rfl (h _ _)

section
variable {prog : Program} {w : World} {A : Around} {s : Shared}
theorem intsOf_are : ∀ {ds : List Dat} {ns : List Int} {vs : List Value} {F : List Addr} {h : Heap}, intsOf ds = some ns → DenAll h vs ds F → IntsAre vs ns
  | [], ns, _, _, _, e, .nil => by cases e; exact .nil
  | d :: ds, ns, _, _, _, e, .cons x r => by
    cases d with
    | int i =>
      rw [intsOf] at e
      cases q : intsOf ds with
      | none => rw [q] at e; cases e
      | some ms =>
        rw [q] at e; cases e
        obtain ⟨t, rfl⟩ := x.int_inv
        exact .cons i t (intsOf_are q r)
    | _ => simp [intsOf] at e

theorem sum_raw {l : Addr} {vs : List Value} {ns : List Int} {Q : Value → Shared → Prop} {E : Value → Shared → Prop} (hh : A.handled = none) (hl : s.heap.IsList l vs.toArray) (hi : IntsAre vs ns)
    (h : ∀ h' tk t', (∀ b o, s.heap.get? b = some o → h'.get? b = some o) → Q (.int ns.sum t') { s with heap := h', toks := tk }) : wpAny (model prog w) A (call (.builtin "sum") [.ref l]) Q E s := by
  have hall := hi.allInts
  obtain ⟨xs, hx⟩ := hall.items
  rw [hx] at hl
  refine sum_intListG hh hl fun h' tk t' hk => ?_
  have z := h h' tk t' hk
  have e : preSum (numAt xs) xs.size = ns.sum := by
    rw [preSum_eq, List.take_of_length_le (by simp), ← nums_intItems, ← hx]
    rw [show vs.toArray.toList = vs from rfl, hi.numsOf]
  rw [e]; exact z

theorem builtD_sound {k : Nat} (R : Rm A k) {f : Str} {vals : List Dat} {d : Dat} {vs : List Value} {F : List Addr} (e : builtD f vals = some d) (hv : DenAll s.heap vs vals F) :
    ∃ fv, ((∃ i, fv = .builtin i) ∨ (∃ i, fv = .type i)) ∧ ((f = ("sum" : Str) ∧ fv = .builtin "sum") ∨ (f = ("len" : Str) ∧ fv = .builtin "len") ∨ (f = ("list" : Str) ∧ fv = .type "list") ∨ (f = ("max" : Str) ∧ fv = .builtin "max")) ∧
      wpAny (model prog w) A (call fv vs) (Gives s d) No s := by
  unfold builtD at e
  split at e
  · rename_i hf
    refine ⟨_, .inl ⟨"sum", rfl⟩, .inl ⟨hf, rfl⟩, ?_⟩
    unfold sumB at e
    split at e
    · split at e
      · rename_i ds hz
        cases q : intsOf ds with
        | none => rw [q] at e; cases e
        | some ns =>
          rw [q] at e; cases e
          cases hv with
          | cons x r =>
            cases r
            obtain ⟨l, ws, n, G, rfl, rfl, hl, r⟩ := x.list_inv
            exact sum_raw R.handled (Den.isList hl) (intsOf_are q r) fun h' tk t' hk => ⟨⟨h', tk, rfl, hk⟩, [], .int _ _, Fresh.nil⟩
      · cases e
    · cases e
  · split at e
    · rename_i hf
      refine ⟨_, .inl ⟨"len", rfl⟩, .inr (.inl ⟨hf, rfl⟩), ?_⟩
      unfold lenB at e
      split at e
      · split at e
        · rename_i ds hz
          cases e
          cases hv with
          | cons x r =>
            cases r
            obtain ⟨l, ws, n, G, rfl, rfl, hl, r⟩ := x.list_inv
            have hlen := r.length
            refine call_len_list (Den.isList hl) (by simp only [List.size_toArray]; unfold lineMax at hz; (first | decide | lia | omega)) ?_
            simp only [List.size_toArray]
            rw [hlen]
            exact giveImm (.int _ _)
        · cases e
      · split at e
        · rename_i x hz
          cases e
          cases hv with
          | cons x r =>
            cases r
            obtain ⟨t, rfl⟩ := x.str_inv
            exact P.len_str (by unfold lineMax at hz; (first | decide | lia | omega)) (giveImm (.int _ _))
        · cases e
      · cases e
    · split at e
      · rename_i hf
        refine ⟨_, .inr ⟨"list", rfl⟩, .inr (.inr (.inl ⟨hf, rfl⟩)), ?_⟩
        unfold listB at e
        split at e
        · split at e
          · rename_i ds hz
            cases e
            cases hv with
            | cons x r =>
              cases r
              obtain ⟨l, ws, n, G, rfl, rfl, hl, r⟩ := x.list_inv
              have hlen := r.length
              have z := r.imm_nil hz.1
              subst z
              refine call_list_seq (hsz := by simp only [List.size_toArray]; rw [sizeLine_eq]; have := hz.2; unfold lineMax at this; (first | decide | lia | omega)) l (.inl rfl) hl rfl rfl fun h' c' hk hn => ?_
              refine ⟨⟨h', s.toks, rfl, hk⟩, s.heap.objs.size :: [], .list hn (r.mono fun a ha => nomatch ha), ?_⟩
              refine ⟨fun a ha => ?_, List.nodup_cons.mpr ⟨by simp, List.nodup_nil⟩⟩
              rw [List.mem_singleton.mp ha]
              cases q : s.heap.get? s.heap.objs.size with
              | none => rfl
              | some o => exact absurd (Heap.lt_size q) (Nat.lt_irrefl _)
          · cases e
        · cases e
      · split at e
        · rename_i hf
          refine ⟨_, .inl ⟨"max", rfl⟩, .inr (.inr (.inr ⟨hf, rfl⟩)), ?_⟩
          unfold maxB at e
          split at e
          · rename_i a b
            cases e
            cases hv with
            | cons x r =>
              cases r with
              | cons y r =>
                cases r
                obtain ⟨t, rfl⟩ := x.int_inv
                obtain ⟨u, rfl⟩ := y.int_inv
                refine max_two_ints R.handled fun h' tk hk => ⟨⟨h', tk, rfl, hk⟩, [], ?_, Fresh.nil⟩
                by_cases hab : a < b
                · rw [if_pos hab, if_pos hab]; exact .int _ _
                · rw [if_neg hab, if_neg hab]; exact .int _ _
          · cases e
        · cases e

theorem isinst_sound {d : Dat} {v : Value} {F : List Addr} {b : Bool} (x : Den s.heap v d F) (e : (match d with | .bool _ => some true | .int _ => some false | _ => none) = some b) :
    wpAny (model prog w) A (call (.builtin "isinstance") [v, .type "bool"]) (Gives s (.bool b)) No s := by
  cases x with
  | bool c =>
    cases e
    exact call_isinstance (isinstance_true (Tx := "bool") (T := "bool") (by kernel_rfl) (by rw [isSubtype_type]; kernel_rfl)) ⟨rfl, by
      exact giveImm' (.bool _)⟩
  | int i t =>
    cases e
    exact call_isinstance (isinstance_false_int (T := "bool") (by decide) (by kernel_rfl) (by rw [isSubtype_type]; kernel_rfl)) (giveImm (.bool _))
  | _ => cases e
end
end Mine
end
section
namespace Mine
open Builtin

/-! ## bytes.count -/
namespace FM
theorem slot_count : Slot "bytes" "count" "bytes.count" :=
  .of (owner := "bytes") (n := "count") (by rw [typeLookup_type, builtinLookup_eq_fast]; kernel_rfl) (by decide +kernel) (by decide +kernel) (by decide +kernel)
    (by first | exact .inl (by decide +kernel) | exact .inr (by decide +kernel)) (by rw [isSubtype_type]; kernel_rfl)
theorem type_count : typeOf (.builtin "bytes.count") = pure (.type "method_descriptor") := by show builtinType _ = _; rw [builtinType_eq_fast]; kernel_rfl
theorem entry_count : entryFor table "bytes.count" = some Builtin.«bytes.count» := entryFor_of_tree (by kernel_rfl)
theorem args_count (a b : Value) : argsOk "bytes.count" ⟨[a, b], []⟩ := by
  unfold argsOk; rw [signature?_of (id := "bytes.count") (n := ['t', 'n', 'u', 'o', 'c']) (o := ['s', 'e', 't', 'y', 'b']) (by kernel_rfl) FB.owner_bytes]; kernel_rfl
theorem slot_join : Slot "bytes" "join" "bytes.join" :=
  .of (owner := "bytes") (n := "join") (by rw [typeLookup_type, builtinLookup_eq_fast]; kernel_rfl) (by decide +kernel) (by decide +kernel) (by decide +kernel)
    (by first | exact .inl (by decide +kernel) | exact .inr (by decide +kernel)) (by rw [isSubtype_type]; kernel_rfl)
theorem type_join : typeOf (.builtin "bytes.join") = pure (.type "method_descriptor") := by show builtinType _ = _; rw [builtinType_eq_fast]; kernel_rfl
theorem entry_join : entryFor table "bytes.join" = some Builtin.«bytes.join» := entryFor_of_tree (by kernel_rfl)
theorem args_join (a b : Value) : argsOk "bytes.join" ⟨[a, b], []⟩ := by
  unfold argsOk; rw [signature?_of (id := "bytes.join") (n := ['n', 'i', 'o', 'j']) (o := ['s', 'e', 't', 'y', 'b']) (by kernel_rfl) FB.owner_bytes]; kernel_rfl
end FM

noncomputable def occStep (b : Array UInt8) (x : UInt8) (acc : List Nat × Nat) (i : Nat) : List Nat × Nat :=
  if (decide (i ≥ acc.2) && b.extract i (i + 1) == #[x]) = true then (i :: acc.1, i + 1) else acc

theorem extract_one (b : Array UInt8) (x : UInt8) (i : Nat) (hi : i < b.size) : (b.extract i (i + 1) == #[x]) = (b[i] == x) := by
  have e : b.extract i (i + 1) = #[b[i]] := by
    apply Array.ext
    · simp; (first | decide | lia | omega)
    · intro j h1 h2
      have : j = 0 := by simp at h2; (first | decide | lia | omega)
      subst this
      simp
  rw [e]
  simp

theorem occ_fold (b : Array UInt8) (x : UInt8) : ∀ (n : Nat) (k : Nat) (acc : List Nat × Nat), acc.2 ≤ k → k + n ≤ b.size →
    (((List.range' k n).foldl (occStep b x) acc).1.length = acc.1.length + ((b.toList.drop k).take n |>.filter (· == x)).length)
  | 0, k, acc, _, _ => by simp
  | n + 1, k, acc, h, hk => by
    have hlt : k < b.size := by (first | decide | lia | omega)
    have hl : k < b.toList.length := by simpa using hlt
    rw [List.range'_succ, List.foldl_cons]
    have hd : (b.toList.drop k).take (n + 1) = b[k] :: ((b.toList.drop (k + 1)).take n) := by
      rw [List.drop_eq_getElem_cons hl, List.take_succ_cons]; simp
    rw [hd]
    have hdec : decide (k ≥ acc.2) = true := decide_eq_true h
    unfold occStep
    rw [hdec, Bool.true_and, extract_one b x k hlt]
    by_cases hx : (b[k] == x) = true
    · rw [if_pos hx]
      have := occ_fold b x n (k + 1) (k :: acc.1, k + 1) (Nat.le_refl _) (by (first | decide | lia | omega))
      unfold occStep at this
      rw [this, List.filter_cons, if_pos hx]
      simp only [List.length_cons]; (first | decide | lia | omega)
    · rw [if_neg hx]
      have := occ_fold b x n (k + 1) acc (by (first | decide | lia | omega)) (by (first | decide | lia | omega))
      unfold occStep at this
      rw [this, List.filter_cons, if_neg hx]

theorem occ_count (b : Array UInt8) (x : UInt8) : (Bytes.occurrences b #[x] 0 b.size).length = countB b x := by
  have e : Bytes.occurrences b #[x] 0 b.size = ((List.range' 0 b.size).foldl (occStep b x) ([], 0)).1.reverse := by
    unfold Bytes.occurrences
    have e1 : (List.range (b.size + 1 - (0 + (#[x] : Array UInt8).size))).map (· + 0) = List.range' 0 b.size := by
      rw [show b.size + 1 - (0 + (#[x] : Array UInt8).size) = b.size by simp]
      rw [List.range_eq_range']
      simp
    rw [e1]
    rfl
  rw [e, List.length_reverse, occ_fold b x b.size 0 ([], 0) (Nat.le_refl _) (by (first | decide | lia | omega))]
  unfold countB
  simp [List.take_of_length_le]

section
variable {prog : Program} {w : World} {A : Around} {s : Shared}

theorem gives_count (b : Array UInt8) (x : UInt8) (t u : Tok) (hz : b.size ≤ 100000) : PySem.Gives («bytes.count» ⟨[.bytes b t, .bytes #[x] u], []⟩) (.int (countB b x)) := by
  refine .of_wp fun M A E s Q hq => ?_
  unfold «bytes.count» Bytes.countM Bytes.searchArgs
  simp only [bind_assoc]
  refine wpAny_bind (wpAny_of_eq (show selfAndSome _ _ 1 3 _ = pure (Value.bytes b t, [Value.bytes #[x] u]) from rfl) ?_)
  refine wpAny_bind (wpAny_of_eq (show Bytes.bound? _ = pure none from rfl) ?_)
  refine wpAny_bind (wpAny_of_eq (show Bytes.bound? _ = pure none from rfl) ?_)
  refine wpAny_bind (wpAny_of_eq KBy.buffer_eq ?_)
  refine wpAny_bind (wpAny_bind (wpAny_pure (wpAny_bind (wpAny_of_eq (show Bytes.payload _ = pure b from rfl) (wpAny_pure ?_)))))
  have e1 : (Bytes.window b.size none none) = (0, (b.size : Int)) := by
    unfold Bytes.window
    simp
    (first | decide | lia | omega)
  have hq' : Q (.int (countB b x) s.toks) { s with toks := s.toks + 1 } := hq
  simp only [e1]
  by_cases h0 : b.size = 0
  · have hb : countB b x = 0 := by
      unfold countB
      have : b.toList = [] := by
        apply List.eq_nil_of_length_eq_zero; simpa using h0
      rw [this]; rfl
    rw [hb] at hq'
    rw [if_pos (by simp [h0])]
    exact wpAny_bind (wpAny_mkInt (wpAny_pure ⟨_, rfl, hq'⟩))
  · rw [if_neg (by simp; (first | decide | lia | omega))]
    show wpAny M A (retInt ((Bytes.occurrences b #[x] (0 : Int).toNat (b.size : Int).toNat).length : Int)) _ E s
    rw [show (0 : Int).toNat = 0 from rfl, show (b.size : Int).toNat = b.size by (first | decide | lia | omega), occ_count]
    exact wpAny_bind (wpAny_mkInt (wpAny_pure ⟨_, rfl, hq'⟩))

theorem count_call {b : Array UInt8} {x : UInt8} {t u : Tok} (hz : b.size ≤ 100000) : wpAny (model prog w) A (call (.builtin "bytes.count") [.bytes b t, .bytes #[x] u]) (Gives s (.int (countB b x))) No s :=
  call_gives FM.slot_count (typeIs_bytes _ _ _) FM.entry_count (FM.args_count _ _) (gives_count b x t u hz) (giveImm (.int _ _))

/-! ## str.encode -/
theorem utf8_small {c : Nat} (h : c < 128) : Str.utf8Of c = [c.toUInt8] := by
  unfold Str.utf8Of
  rw [if_pos (by (first | decide | lia | omega))]
theorem bad_small {c : Nat} (h : c < 128) : _codecs.utf8Codec.bad c = false := by
  show Str.isSurrogate c = false
  unfold Str.isSurrogate
  simp; (first | decide | lia | omega)

theorem fold_bytes : ∀ (l : List Nat) (acc : Array UInt8), (∀ c ∈ l, c < 128) → l.foldl (fun acc y => acc ++ (_codecs.utf8Codec.bytesOf y).toArray) acc = acc ++ (l.map (·.toUInt8)).toArray
  | [], acc, _ => by simp
  | c :: l, acc, h => by
    rw [List.foldl_cons, fold_bytes l _ fun d hd => h d (.tail _ hd)]
    have : _codecs.utf8Codec.bytesOf c = [c.toUInt8] := utf8_small (h c (.head _))
    rw [this]
    simp
theorem loop2 {M : Model} {E : Value → Shared → Prop} {σ : Type} {g : Nat → σ → Sem (ForInStep σ)} {a b : σ} {n : Nat} (h0 : ∀ i, g i a = pure (.yield b)) (h1 : ∀ i, g i b = pure (.done b)) {Q : σ → Shared → Prop} (h : Q b s) :
    wpAny M A (forIn (List.range' 0 (n + 1) 1) a g) Q E s := by
  rw [List.range'_succ, List.forIn_cons, h0]
  refine wpAny_bind (wpAny_pure ?_)
  cases n with
  | zero => exact wpAny_pure h
  | succ n =>
    show wpAny M A (forIn (List.range' (0 + 1) (n + 1) 1) b g) Q E s
    rw [List.range'_succ, List.forIn_cons, h1]
    exact wpAny_bind (wpAny_pure (wpAny_pure h))
theorem encode_narrow {M : Model} {E : Value → Shared → Prop} (id : String) (self : Value) (x : Str) (hx : asciiD x = true) (hz : x.length ≤ 100000) {Q : Array UInt8 → Shared → Prop} (h : Q (x.cps.map (·.toUInt8)) s) :
    wpAny M A (_codecs.encodeNarrow id _codecs.utf8Codec none self x) Q E s := by
  have hall : ∀ c ∈ x.cps.toList, c < 128 := fun c hc => by
    have := List.all_eq_true.mp hx c hc
    simpa using this
  unfold _codecs.encodeNarrow
  refine wpAny_bind ?_
  rw [Std.Legacy.Range.forIn_eq_forIn_range']
  have hsz : ([:x.length] : Std.Legacy.Range).size = x.length := by simp [Std.Legacy.Range.size]
  show wpAny M A (forIn (List.range' 0 ([:x.length] : Std.Legacy.Range).size 1) _ _) _ E s
  rw [hsz]
  have hlen : x.length = x.cps.size := rfl
  cases hn : x.length with
  | zero =>
    have hc : x.cps = #[] := Array.eq_empty_of_size_eq_zero (by rw [← hlen]; exact hn)
    rw [hc] at h
    have h' : Q #[] s := by simpa using h
    exact wpAny_pure (wpAny_pure h')
  | succ n =>
    have h0 : x.cps[0]? = some (x.cps[0]'(by (first | decide | lia | omega))) := by simp
    have hb : _codecs.utf8Codec.bad (x.cps[0]'(by (first | decide | lia | omega))) = false := bad_small (hall _ (by simp))
    have e1 : x.cps.extract 0 = x.cps := by simp
    have e2 : Array.findIdx? _codecs.utf8Codec.bad x.cps = none := by
      rw [Array.findIdx?_eq_none_iff]
      intro c hc
      exact bad_small (hall c (by simpa using hc))
    have e3 : Array.foldl (fun acc y => acc ++ (_codecs.utf8Codec.bytesOf y).toArray) #[] x.cps = x.cps.map (·.toUInt8) := by
      rw [← Array.foldl_toList, fold_bytes _ _ hall]
      apply Array.toList_inj.mp
      simp
    have g0 : ¬ (#[] : Array UInt8).size > sizeLine := Nat.not_lt_zero _
    have g1 : ¬ (x.cps.map (·.toUInt8)).size > sizeLine := by simp only [Array.size_map]; rw [sizeLine_eq]; (first | decide | lia | omega)
    have e4 : x.cps[0 + x.cps.size]? = none := by simp
    refine loop2 (b := (0 + x.cps.size, x.cps.map (·.toUInt8), {})) (fun a => ?_) (fun a => ?_) (wpAny_pure h)
    · simp only [g0, if_false, h0, hb, Bool.not_false, if_true, e1, e2, Option.getD_none, e3]
    · simp only [g1, if_false, e4]

theorem gives_encode (x : Str) (t : Tok) (hx : asciiD x = true) (hz : x.length ≤ 100000) : PySem.Gives («str.encode» ⟨[.str x t], []⟩) (.bytes (x.cps.map (·.toUInt8))) := by
  refine .of_wp fun M A E s Q hq => ?_
  rw [encode_tree, encodeRoad_utf8]
  refine wpAny_bind (wpAny_bind (encode_narrow _ _ x hx hz ?_))
  exact wpAny_mkBytes (wpAny_pure ⟨_, rfl, hq.2⟩) hq.1

theorem encode_call {x : Str} {t : Tok} (hx : asciiD x = true) (hz : x.length ≤ 100000) : wpAny (model prog w) A (call (.builtin "str.encode") [.str x t]) (Gives s (.bytes (x.cps.map (·.toUInt8)))) No s :=
  call_gives F.slot_str_encode (typeIs_str _ _ _) F.entry_str_encode (F.args_str_encode_1 _) (gives_encode x t hx hz) ⟨by
    show (x.cps.map (·.toUInt8)).size ≤ sizeLine
    rw [Array.size_map, sizeLine_eq]; show x.length ≤ _; (first | decide | lia | omega), giveImm (.bytes _ _)⟩

/-! ## bytes.join -/
theorem wpIfT {α : Type} {M : Model} {c : Prop} [Decidable c] {a b : Sem α} {Q : α → Shared → Prop} {E : Value → Shared → Prop} (hc : c) (h : wpAny M A a Q E s) : wpAny M A (if c then a else b) Q E s := by rw [if_pos hc]; exact h
theorem wpIfF {α : Type} {M : Model} {c : Prop} [Decidable c] {a b : Sem α} {Q : α → Shared → Prop} {E : Value → Shared → Prop} (hc : ¬ c) (h : wpAny M A b Q E s) : wpAny M A (if c then a else b) Q E s := by rw [if_neg hc]; exact h
theorem wpForNil {α β : Type} {M : Model} {f : α → β → Sem (ForInStep β)} {b : β} {Q : β → Shared → Prop} {E : Value → Shared → Prop} (h : Q b s) : wpAny M A (forIn ([] : List α) b f) Q E s := wpAny_pure h
theorem wpForCons {α β : Type} {M : Model} {f : α → β → Sem (ForInStep β)} {x : α} {l : List α} {b : β} {Q : β → Shared → Prop} {E : Value → Shared → Prop}
    (h : wpAny M A (f x b) (fun r s' => match r with | .done b' => Q b' s' | .yield b' => wpAny M A (forIn l b' f) Q E s') E s) : wpAny M A (forIn (x :: l) b f) Q E s := by
  rw [List.forIn_cons]
  refine wpAny_bind (wpAny_mono h (fun r s' hr => ?_) fun _ _ e => e)
  cases r with
  | done b' => exact wpAny_pure hr
  | yield b' => exact hr
theorem wpForRange {β : Type} {M : Model} {f : Nat → β → Sem (ForInStep β)} {Q : β → Shared → Prop} {E : Value → Shared → Prop} (I : Nat → β → Prop) (k : Nat) : ∀ (i : Nat) (b : β), I i b →
    (∀ j b, i ≤ j → j < i + k → I j b → wpAny M A (f j b) (fun r s' => s' = s ∧ ∃ b', r = .yield b' ∧ I (j + 1) b') E s) → (∀ b, I (i + k) b → Q b s) → wpAny M A (forIn (List.range' i k 1) b f) Q E s := by
  induction k with
  | zero => intro i b h _ d; exact wpForNil (d b h)
  | succ k ih =>
    intro i b h t d
    rw [List.range'_succ]
    refine wpForCons (wpAny_mono (t i b (Nat.le_refl _) (by (first | decide | lia | omega)) h) (fun r s' hr => ?_) fun _ _ e => e)
    obtain ⟨rfl, b', rfl, h'⟩ := hr
    exact ih (i + 1) b' h' (fun j b h1 h2 h3 => t j b (by (first | decide | lia | omega)) (by (first | decide | lia | omega)) h3) fun b hb => d b (by rw [show i + (k + 1) = i + 1 + k by (first | decide | lia | omega)]; exact hb)
theorem take_eq {id : String} {b : Array UInt8} {t : Tok} : Bytes.takeBufferQuiet? id (.bytes b t) 0 = pure (some (b, none)) := by
  unfold Bytes.takeBufferQuiet? Bytes.takeBuffer?
  rw [KBy.special_eq KBy.look_buffer, KBy.own_buffer]
  have hf : ((0 : Int) == Bytes.fullReadOnly) = false := by decide
  simp only [hf, KBy.buffer_eq]
  kernel_rfl

theorem joined_nil (l : List (Array UInt8)) : Bytes.joined #[] l = l.foldl (· ++ ·) #[] := by
  unfold Bytes.joined
  have key : ∀ (l : List (Array UInt8)) (k : Nat) (acc : Array UInt8), (l.zipIdx k).foldl (fun out (p : Array UInt8 × Nat) => (if p.2 > 0 then out ++ #[] else out) ++ p.1) acc = l.foldl (· ++ ·) acc := by
    intro l
    induction l with
    | nil => intro k acc; rfl
    | cons x l ih =>
      intro k acc
      rw [List.zipIdx_cons, List.foldl_cons, List.foldl_cons, ih]
      congr 1
      split <;> simp
  exact key l 0 #[]

noncomputable def bvals : List (Array UInt8 × Tok) → List Value := fun l => l.map fun p => .bytes p.1 p.2
theorem bytesOf_vals {h : Heap} : ∀ {ds : List Dat} {bs : List (Array UInt8)} {vs : List Value} {F : List Addr}, bytesOf ds = some bs → DenAll h vs ds F → ∃ l, vs = bvals l ∧ bs = l.map (·.1)
  | [], bs, _, _, e, .nil => by cases e; exact ⟨[], rfl, rfl⟩
  | d :: ds, bs, _, _, e, .cons x r => by
    cases d with
    | bytes i =>
      rw [bytesOf] at e
      cases q : bytesOf ds with
      | none => rw [q] at e; cases e
      | some ms =>
        rw [q] at e; cases e
        obtain ⟨t, rfl⟩ := x.bytes_inv
        obtain ⟨l, rfl, rfl⟩ := bytesOf_vals q r
        exact ⟨(i, t) :: l, rfl, rfl⟩
    | _ => simp [bytesOf] at e

theorem join_call {l : Addr} {n : Nat} {bl : List (Array UInt8 × Tok)} {t : Tok} (hl : s.heap.get? l = some (W.listOf (bvals bl).toArray n)) (h1 : 1 ≤ bl.length) (hz : ((bl.map (·.1)).map (·.size)).sum ≤ 100000) :
    wpAny (model prog w) A (call (.builtin "bytes.join") [.bytes #[] t, .ref l]) (Gives s (.bytes ((bl.map (·.1)).foldl (· ++ ·) #[]))) No s := by
  refine wpAny_call_entry FM.slot_join (typeIs_bytes _ _ _) FM.entry_join ?_ (FM.args_join _ _)
  have hT : s.TypeIs (.ref l) "list" := (Den.isList hl).typeIs
  unfold «bytes.join» Bytes.joinM
  refine wpAny_bind (wpAny_of_eq (show selfAndOne _ _ = pure (Value.bytes #[] t, Value.ref l) from rfl) ?_)
  refine wpIfT rfl ?_
  refine wpAny_bind ?_
  unfold Bytes.joinItems
  refine wpAny_bind (wpAny_typeOf hT ?_)
  refine wpIfT rfl ?_
  refine wpAny_pure ?_
  refine wpAny_bind (wpAny_seqItems hl rfl ?_)
  refine wpIfT rfl ?_
  match bl, h1 with
  | [p], _ =>
    refine wpAny_bind (wpAny_typeOf (typeIs_bytes s p.1 p.2) ?_)
    refine wpIfT rfl ?_
    refine wpAny_bind (wpAny_rule (wpAny_pure ⟨_, rfl, ?_⟩))
    refine giveImm' ?_
    simp only [List.map_cons, List.map_nil, List.foldl_cons, List.foldl_nil, Array.empty_append]
    exact .bytes _ _
  | p :: q :: r, _ =>
    have hL : 2 ≤ (p :: q :: r).length := by simp
    refine wpAny_bind ?_
    rw [Std.Legacy.Range.forIn_eq_forIn_range']
    generalize hbl : p :: q :: r = L at hl hz hL ⊢
    have hsz : ([:(bvals L).toArray.size] : Std.Legacy.Range).size = L.length := by simp [Std.Legacy.Range.size, bvals]
    show wpAny _ _ (forIn (List.range' 0 ([:(bvals L).toArray.size] : Std.Legacy.Range).size 1) _ _) _ _ _
    rw [hsz]
    refine wpForRange (fun i st => st.1.toList = (L.take i).map (·.1) ∧ st.2 = (L.take i).map fun p => (Value.bytes p.1 p.2, none)) L.length 0 _ ⟨by simp, by simp⟩ ?_ ?_
    · rintro j ⟨parts, taken⟩ - hj ⟨h1, h2⟩
      dsimp only at h1 h2
      have hj' : j < L.length := by (first | decide | lia | omega)
      have hget : (bvals L).toArray.getD j Value.none = .bytes (L[j]'hj').1 (L[j]'hj').2 := by
        simp [bvals, Array.getD, hj']
      refine wpAny_bind (wpAny_seqItems hl rfl ?_)
      refine wpIfF ?_ ?_
      · have : (taken.any fun x => x.1.onHeap) = false := by
          rw [h2]
          apply List.any_eq_false.mpr
          intro y hy
          obtain ⟨z, _, rfl⟩ := List.mem_map.mp hy
          simp [Value.onHeap]
        show ¬ (((Bytes.Kind.bytes == Bytes.Kind.bytearray) || (taken.any fun x => x.1.onHeap)) = true)
        rw [this]; decide
      rw [hget]
      refine wpAny_bind (wpAny_holding (wpAny_of_eq take_eq ?_))
      refine wpAny_bind (wpAny_seqItems hl rfl ?_)
      refine wpIfF (by simp) ?_
      refine wpAny_pure ⟨rfl, _, rfl, ?_, ?_⟩
      · show (parts.push _).toList = _
        rw [Array.toList_push, h1, List.take_succ_eq_append_getElem hj', List.map_append]; rfl
      · show taken ++ _ = _
        rw [h2, List.take_succ_eq_append_getElem hj', List.map_append]; rfl
    · rintro ⟨parts, taken⟩ ⟨h1, h2⟩
      dsimp only at h1 h2
      rw [Nat.zero_add, List.take_length] at h1 h2
      refine wpAny_bind (wpAny_of_eq (show Bytes.payload _ = pure #[] from rfl) ?_)
      have hfit : Array.foldl (fun x1 x2 => x1 + x2.size) ((#[] : Array UInt8).size * (parts.size - 1)) parts = ((L.map (·.1)).map (·.size)).sum := by
        rw [← Array.foldl_toList, h1]
        have key : ∀ (l : List (Array UInt8)) (k : Nat), l.foldl (fun x1 x2 => x1 + x2.size) k = k + (l.map (·.size)).sum := by
          intro l
          induction l with
          | nil => intro k; simp
          | cons x l ih => intro k; rw [List.foldl_cons, ih]; simp; (first | decide | lia | omega)
        rw [key]; simp
      refine wpIfF ?_ ?_
      · rw [hfit]
        have : Bytes.tooLong ((L.map (·.1)).map (·.size)).sum = false := KBy.tooLong_not (by (first | decide | lia | omega))
        rw [this]; decide
      have hjoin : Bytes.joined #[] parts.toList = (L.map (·.1)).foldl (· ++ ·) #[] := by rw [joined_nil, h1]
      rw [hjoin]
      have hsize : ((L.map (·.1)).foldl (· ++ ·) #[]).size = ((L.map (·.1)).map (·.size)).sum := by
        have key : ∀ (l : List (Array UInt8)) (acc : Array UInt8), (l.foldl (· ++ ·) acc).size = acc.size + (l.map (·.size)).sum := by
          intro l
          induction l with
          | nil => intro k; simp
          | cons x l ih => intro k; rw [List.foldl_cons, ih]; simp; (first | decide | lia | omega)
        rw [key]; simp
      refine wpAny_bind (wpAny_mkBytes ?_ (by rw [hsize, sizeLine_eq]; (first | decide | lia | omega)))
      refine wpAny_bind (wpAny_holding (wpAny_point ?_))
      have hgo : ∀ (tk : List (Value × Option Value)) (keep : List Value) {Q : Unit → Shared → Prop} {s₁ : Shared}, (∀ p ∈ tk, p.2 = none) → Q () s₁ → wpAny (model prog w) A.in1 (Bytes.joinLetGo tk keep) Q No s₁ := by
        intro tk
        induction tk with
        | nil => intro keep Q s₁ _ h; exact wpAny_pure h
        | cons x tk ih =>
          intro keep Q s₁ hn h
          obtain ⟨x, w'⟩ := x
          have : w' = none := hn _ (.head _)
          subst this
          unfold Bytes.joinLetGo
          exact wpAny_bind (wpAny_letGo (ih _ (fun p hp => hn p (.tail _ hp)) h))
      refine wpAny_bind (hgo _ _ (fun p hp => ?_) (wpAny_pure ⟨_, rfl, giveImm (.bytes _ _)⟩))
      rw [h2] at hp
      obtain ⟨y, _, rfl⟩ := List.mem_map.mp hp
      rfl
end
end Mine
end
section
namespace Mine

/-! ## Soundness of the evaluator: the frame of the induction -/
structure SoundE (prog : Program) (w : World) (H0 : Heap) (K : Nat) (rec : Kd → Vs → Expr → Option Dat) : Prop where
  star : ∀ κ ρ x p, rec κ ρ (.Starred x p) = none
  noset : ∀ κ ρ es k p, rec κ ρ (.Set es k p) = none
  noargs : ∀ κ ρ f p pos, rec κ ρ (.Call (.Name f p) [] [] pos) = none
  ok : ∀ (env : Env) (A : Around) (s : Shared) (ρ : Vs) (e : Expr) (d : Dat), EOk env → Rm A K → St H0 s → VarsOk env s.heap ρ → rec env.kindOf ρ e = some d →
    wpAny (model prog w) A (eval e env) (Out s d (freshE e)) No s

theorem SoundE.go {prog : Program} {w : World} {H0 : Heap} {K : Nat} {rec : Kd → Vs → Expr → Option Dat} {env : Env} {A : Around} {s : Shared} {ρ : Vs} {e : Expr} {d : Dat} {E : Value → Shared → Prop} {Q : Value → Shared → Prop}
    (S : SoundE prog w H0 K rec) (O : EOk env) (R : Rm A K) (T : St H0 s) (V : VarsOk env s.heap ρ) (q : rec env.kindOf ρ e = some d) (k : ∀ v s' F, Kp s s' → s.toks ≤ s'.toks → Den s'.heap v d F → Q v s') : wpAny (model prog w) A (eval e env) Q E s :=
  wpSeq (S.ok env A s ρ e d O R T V q) fun v s' g ht => Out.elim g fun k1 F hd => k v s' F k1 ht hd

theorem Den.imm_any {h h' : Heap} {v : Value} {d : Dat} {F : List Addr} (x : Den h v d F) (i : imm d = true) : Den h' v d [] := by
  cases x with
  | list => simp [imm] at i
  | none => exact .none
  | bool b => exact .bool b
  | int j t => exact .int j t
  | str x t => exact .str x t
  | bytes b t => exact .bytes b t

section
variable {prog : Program} {w : World} {H0 : Heap} {K : Nat} {rec : Kd → Vs → Expr → Option Dat} {env : Env} {A : Around} {s : Shared} {ρ : Vs}

theorem args_sound (S : SoundE prog w H0 K rec) (O : EOk env) (R : Rm A K) {pos : Pos} : ∀ {es : List Expr} {ds : List Dat} {s : Shared}, St H0 s → VarsOk env s.heap ρ → allSome (rec env.kindOf ρ) es = some ds →
    wpAny (model prog w) A (spliced (backTo pos (starEach es env))) (fun vs s' => Kp s s' ∧ ∃ F, DenAll s'.heap vs ds F) No s
  | [], ds, s, _, _, e => by
    cases e
    exact args_nil ⟨Kp.refl s, [], .nil⟩
  | x :: es, ds, s, T, V, e => by
    rw [allSome] at e
    cases q : rec env.kindOf ρ x with
    | none => rw [q] at e; cases e
    | some d =>
      rw [q] at e
      cases q2 : allSome (rec env.kindOf ρ) es with
      | none => rw [q2] at e; cases e
      | some es' =>
        rw [q2] at e; cases e
        refine args_cons (wpSeq (S.ok env A s ρ x d O R T V q) fun v s₁ h₁ ht => ?_) (starEach_cons fun y p hy => ?_)
        · first | refine Out.elim h₁ fun k F hd => ?_ | refine Gives.elim h₁ fun k F hd => ?_ | obtain ⟨k, F, hd, _⟩ := h₁
          refine wpThen (args_sound S O R (T.kp k ht) (V.kp k) q2) fun vs s₂ h₂ => ?_
          obtain ⟨k2, G, hds⟩ := h₂
          exact ⟨k.trans k2, F ++ G, .cons (k2.den hd) hds⟩
        · rw [hy, S.star] at q; cases q

theorem sub_item {value i : Expr} {pos : Pos} {T id : String} {Q : Value → Shared → Prop} {E : Value → Shared → Prop}
    (hl : typeLookup (.type T) "__getitem__" = pure (some (.builtin id)))
    (h : wpAny (model prog w) A (eval value env) (fun o s₁ => wpAny (model prog w) A (eval i env) (fun iv s₂ => s₂.TypeIs o T ∧ wpAny (model prog w) A (getItem o iv) Q E s₂) E s₁) E s) :
    wpAny (model prog w) A (eval (.Subscript value i pos) env) Q E s := by
  rw [eval_Subscript]
  refine wpAny_bind (wpAny_mono h (fun o s₁ h₁ => wpAny_bind (wpAny_holding (wpAny_mono h₁ (fun iv s₂ h₂ => wpAny_bind (wpAny_standAt ?_)) fun _ _ x => x))) fun _ _ x => x)
  refine wpAny_bind ?_
  rw [getitemInPython_of_ne h₂.1.not_modules]
  refine wpAny_bind (wpAny_specialOf h₂.1 hl ?_)
  have e : ∃ vs, subscripted i false o iv = operate vs (getItem o iv) := by
    cases i with
    | Slice l u st p => cases st <;> exact ⟨_, rfl⟩
    | _ => exact ⟨_, rfl⟩
  obtain ⟨vs, e⟩ := e
  refine wpAny_pure (wpAny_bind ?_)
  rw [e]
  exact wpAny_operating (wpAny_mono h₂.2 (fun r s₃ h₃ => wpAny_bind (wpAny_letTemporaryGo (wpAny_pure h₃))) fun _ _ x => x)

theorem itemD_sound {va vb : Value} {a b d : Dat} {Fa Fb : List Addr} (e : itemD a b = some d) (ha : Den s.heap va a Fa) (hb : Den s.heap vb b Fb) :
    wpAny (model prog w) A (getItem va vb) (Out s d false) No s := by
  unfold itemD at e
  split at e
  · obtain ⟨l, vs, n, G, rfl, rfl, hl, r⟩ := ha.list_inv
    obtain ⟨u, rfl⟩ := hb.int_inv
    split at e
    · rename_i hc
      obtain ⟨v, G', e1, hv, hsub⟩ := r.get e
      exact wpAny_getItem_list (Den.isList hl) hc.1 (by have := hc.2; (first | decide | lia | omega)) (by simpa using e1) ⟨Kp.refl s, G', hv, fun h => nomatch h⟩
    · cases e
  · obtain ⟨t, rfl⟩ := ha.str_inv
    obtain ⟨u, rfl⟩ := hb.int_inv
    rename_i x i
    split at e
    · rename_i hc
      cases q : x.cps[i.toNat]? with
      | none => rw [q] at e; cases e
      | some c =>
        rw [q] at e; cases e
        obtain ⟨j, rfl⟩ := Int.eq_ofNat_of_zero_le hc.1
        refine P.getItem_str (c := c) (by simp; (first | decide | lia | omega)) ?_ (Gives.out (giveImm (.str _ _)))
        have hj : j < x.cps.size := by
          have := (Array.getElem?_eq_some_iff.mp q).1
          simpa using this
        have : seqIndex? (j : Int) x.length = some j := by
          unfold seqIndex?
          have : j < x.length := hj
          simp; (first | decide | lia | omega)
        rw [this]
        simpa using q
    · cases e
  · cases e

theorem itemD_type {va : Value} {a b d : Dat} {Fa : List Addr} (e : itemD a b = some d) (ha : Den s.heap va a Fa) : ∃ T id, typeLookup (.type T) "__getitem__" = pure (some (.builtin id)) ∧ ∀ s', Kp s s' → s'.TypeIs va T := by
  unfold itemD at e
  split at e
  · obtain ⟨l, vs, n, G, rfl, rfl, hl, r⟩ := ha.list_inv
    exact ⟨_, _, list_getitem_lookup, fun s' k => (Den.isList (k.get hl)).typeIs⟩
  · obtain ⟨t, rfl⟩ := ha.str_inv
    exact ⟨_, _, F.slot_str_getitem.lookup, fun s' k => typeIs_str _ _ _⟩
  · cases e

theorem picks {h : Heap} {vs : List Value} {ds : List Dat} (x : DenAll h vs ds []) : ∀ idx : List Nat, DenAll h (idx.filterMap (vs[·]?)) (idx.filterMap (ds[·]?)) []
  | [] => .nil
  | i :: idx => by
    have ih := picks x idx
    cases q : ds[i]? with
    | none =>
      have : vs[i]? = none := by
        rw [List.getElem?_eq_none_iff] at q ⊢
        rw [x.length]; exact q
      rw [List.filterMap_cons, List.filterMap_cons, q, this]; exact ih
    | some d =>
      obtain ⟨v, G, e1, hv, hsub⟩ := x.get q
      have hG : G = [] := List.eq_nil_iff_forall_not_mem.mpr fun a ha => by simpa using hsub a ha
      subst hG
      rw [List.filterMap_cons, List.filterMap_cons, q, e1]
      exact DenAll.cons (F := []) hv ih

noncomputable def PartIs (h : Heap) (v : Value) (o : Option Dat) : Prop := match o with | none => v = .none | some d => Den h v d []
theorem partD_is {h : Heap} {v : Value} {o : Option Dat} {k : Option Int} (e : partD o = some k) (hv : PartIs h v o) : IsPart v k := by
  cases o with
  | none => cases e; have hv' : v = .none := hv; subst hv'; exact .none
  | some d =>
    cases d with
    | int i =>
      cases e
      obtain ⟨t, rfl⟩ := Den.int_inv hv
      exact .int i t
    | _ => cases e
noncomputable def asTok : Value → Option (Int × Tok)
  | .int i t => some (i, t)
  | _ => none
theorem part_tok {v : Value} {k : Option Int} (p : IsPart v k) : v = partValue (asTok v) ∧ (asTok v).map (·.1) = k := by
  cases p <;> exact ⟨rfl, rfl⟩

theorem part_sound (S : SoundE prog w H0 K rec) (O : EOk env) (R : Rm A K) (T : St H0 s) (V : VarsOk env s.heap ρ) {x : Option Expr} {o : Option Dat} (e : partE rec env.kindOf ρ x = some o) :
    wpAny (model prog w) A (evalPart x env) (fun v s' => Kp s s' ∧ ∀ h, PartIs h v o) No s := by
  cases x with
  | none => cases e; exact wpAny_pure ⟨Kp.refl s, fun _ => rfl⟩
  | some x =>
    rw [partE] at e
    cases q : rec env.kindOf ρ x with
    | none => rw [q] at e; cases e
    | some d =>
      rw [q] at e
      dsimp only at e
      split at e
      · rename_i hi
        cases e
        refine wpThen (S.ok env A s ρ x d O R T V q) fun v s₁ h₁ => ?_
        first | refine Out.elim h₁ fun k F hd => ?_ | refine Gives.elim h₁ fun k F hd => ?_ | obtain ⟨k, F, hd, _⟩ := h₁
        exact ⟨k, fun h => Den.imm_any hd hi⟩
      · cases e

noncomputable def seqT : Dat → String
  | .str _ => "str"
  | _ => "list"
theorem slice_look {o d : Dat} {lo hi st : Option Dat} (e : sliceD o lo hi st = some d) : ∃ id, typeLookup (.type (seqT o)) "__getitem__" = pure (some (.builtin id)) := by
  cases o with
  | str x => exact ⟨_, PySem.F.slot_str_getitem.lookup⟩
  | _ => exact ⟨_, list_getitem_lookup⟩
theorem sliceD_sound {vo vl vu vk : Value} {o d : Dat} {lo hi st : Option Dat} {F' : List Addr} (e : sliceD o lo hi st = some d) (ho : Den s.heap vo o F') (hl : ∀ h, PartIs h vl lo) (hu : ∀ h, PartIs h vu hi) (hk : ∀ h, PartIs h vk st) {s₁ : Shared} (es : s₁ = { s with heap := s.heap.push { cls := .type "slice", data := .fields #[vl, vu, vk] } }) :
    s₁.TypeIs vo (seqT o) ∧ wpAny (model prog w) A (getItem vo (.ref s.heap.objs.size)) (Out s d true) No s₁ := by
  subst es
  have kk : Kp s { s with heap := s.heap.push { cls := .type "slice", data := .fields #[vl, vu, vk] } } := Kp.push _ _
  unfold sliceD at e
  split at e
  · obtain ⟨t, rfl⟩ := ho.str_inv
    split at e
    · rename_i l u e1 e2
      split at e
      · rename_i hz
        cases e
        have p1 := partD_is e1 (hl s.heap)
        have p2 := partD_is e2 (hu s.heap)
        have p3 : vk = .none := hk s.heap
        subst p3
        refine ⟨typeIs_str _ _ _, ?_⟩
        refine wpAny_getItem_str_slice (l := asTok vl) (u := asTok vu) (st := none) ⟨_, Heap.get?_push_size _ rfl, rfl, ?_⟩ rfl ?_
        · rw [← (part_tok p1).1, ← (part_tok p2).1]; rfl
        · unfold sliceMade
          rw [show slicePicked _ (asTok vl) (asTok vu) none = Builtin.Str.strSliceIndices ((asTok vl).map (·.1)) ((asTok vu).map (·.1)) 1 _ from rfl, (part_tok p1).2, (part_tok p2).2]
          refine post_val_or_str ⟨Nat.le_trans (Txt.slice_le _ l u) (by rw [sizeLine_eq]; unfold lineMax at hz; (first | decide | lia | omega)), fun t' k => ?_⟩
          exact Gives.out ⟨Kp.push _ _, [], .str _ _, Fresh.nil⟩
      · cases e
    · cases e
  · obtain ⟨l, vs, n, G, rfl, rfl, hl', r⟩ := ho.list_inv
    rename_i ds
    split at e
    · rename_i l u k e1 e2 e3
      split at e
      · rename_i hz
        cases e
        have p1 := partD_is e1 (hl s.heap)
        have p2 := partD_is e2 (hu s.heap)
        have p3 := partD_is e3 (hk s.heap)
        have z := r.imm_nil hz.1
        subst z
        refine ⟨(Den.isList (kk.get hl')).typeIs, ?_⟩
        refine wpAny_getItem_list_slice (Den.isList (kk.get hl')) (vl := vl) (vu := vu) (vs := vk) ⟨_, Heap.get?_push_size _ rfl, rfl, rfl⟩ p1 p2 p3 ?_ ?_ ?_
        · intro h; have := hz.2.2; rw [h] at this; simp at this
        · refine Gives.out (Gives.after kk ?_)
          refine newList_gives (t := s.toks) (vs := (slicePick vs.toArray l u k).toList) (F := []) ?_ Fresh.nil ?_
          · have hlen := r.length
            unfold pickD slicePick
            simp only [List.size_toArray]
            rw [hlen]
            have := picks (kk.denAll r) (sliceRange (sliceBounds l u k ds.length).1 (sliceBounds l u k ds.length).2.1 (sliceBounds l u k ds.length).2.2)
            simpa using this
          · simp [W.listOf]
        · have := r.length
          have h2 := hz.2.1
          unfold lineMax at h2
          simp only [List.size_toArray]; rw [sizeLine_eq]; (first | decide | lia | omega)
      · cases e
    · cases e
  · cases e
end
end Mine
end
section
namespace Mine

section
variable {prog : Program} {w : World} {H0 : Heap} {K : Nat} {rec : Kd → Vs → Expr → Option Dat} {env : Env} {A : Around} {s : Shared} {ρ : Vs}

theorem base_eq (S : SoundE prog w H0 K rec) {o : Expr} {m : Str} {d : Dat} {κ : Kd} (q : rec κ ρ o = some d) : attributeBase o m env (eval o env) = eval o env := by
  unfold attributeBase
  split
  · rw [S.noargs] at q; cases q
  · rfl

theorem call0 {id : String} {ov : Value} {pos : Pos} {Q : Value → Shared → Prop} {E : Value → Shared → Prop} (h : wpAny (model prog w) A (call (.builtin id) [ov]) Q E s) :
    wpAny (model prog w) A (callWith pos (.builtin id) [ov] (backTo pos (starEach [] env)) []) Q E s :=
  callWith_builtin rfl (PyProof.Rows.evalArgs_none h)
theorem call1 (S : SoundE prog w H0 K rec) {κ : Kd} {d : Dat} {x : Expr} (q : rec κ ρ x = some d) {id : String} {first : List Value} {pos : Pos} {Q : Value → Shared → Prop} {E : Value → Shared → Prop}
    (h : wpAny (model prog w) A (eval x env) (fun v s₁ => wpAny (model prog w) A (call (.builtin id) (first ++ [v])) Q E s₁) E s) :
    wpAny (model prog w) A (callWith pos (.builtin id) first (backTo pos (starEach [x] env)) []) Q E s := by
  have hs : starEach [x] env = [(false, eval x env)] := starEach_cons fun y p hy => by rw [hy, S.star] at q; cases q
  rw [hs]
  exact callWith_builtin rfl (evalArgs_plain (spliced_cons (wpAny_mono h (fun _ _ h₁ => spliced_nil h₁) fun _ _ e => e)))

theorem allSome_nil {α β : Type} {f : α → Option β} {l : List α} (e : allSome f l = some []) : l = [] := by
  cases l with
  | nil => rfl
  | cons x r =>
    rw [allSome] at e
    cases q : f x with
    | none => rw [q] at e; cases e
    | some y =>
      rw [q] at e
      cases q2 : allSome f r with
      | none => rw [q2] at e; cases e
      | some ys => rw [q2] at e; cases e
theorem allSome_one {α β : Type} {f : α → Option β} {l : List α} {y : β} (e : allSome f l = some [y]) : ∃ x, l = [x] ∧ f x = some y := by
  cases l with
  | nil => cases e
  | cons x r =>
    rw [allSome] at e
    cases q : f x with
    | none => rw [q] at e; cases e
    | some z =>
      rw [q] at e
      cases q2 : allSome f r with
      | none => rw [q2] at e; cases e
      | some ys =>
        rw [q2] at e; cases e
        exact ⟨x, by rw [allSome_nil q2], q⟩

theorem meth_sound (S : SoundE prog w H0 K rec) (O : EOk env) (R : Rm A K) (T : St H0 s) (V : VarsOk env s.heap ρ) {o : Expr} {m : Str} {args : List Expr} {ap pos : Pos} {a d : Dat} {vals : List Dat}
    (hline : (ap.endLine == pos.line) = true) (q : rec env.kindOf ρ o = some a) (q2 : allSome (rec env.kindOf ρ) args = some vals) (e : methD m a vals = some d) :
    wpAny (model prog w) A (eval (.Call (.Attribute o m ap) args [] pos) env) (Gives s d) No s := by
  unfold methD at e
  split at e
  · have := allSome_nil q2
    subst this
    split at e
    · rename_i hm
      subst hm
      unfold encM at e
      split at e
      · rename_i hx
        cases e
        refine wpAny_Call_method_lateS (base_eq S q) rfl hline (S.go O R T V q fun ov s₁ F1 k ht hd => ?_)
        obtain ⟨t, rfl⟩ := hd.str_inv
        refine ⟨"str", "str.encode", F.plainAttrs_str, F.slot_str_encode, F.type_str_encode, typeIs_str _ _ _, (fun _ e => nomatch e), call0 ?_⟩
        exact wpThen (encode_call hx.1 hx.2) fun v s' g => Gives.after k g
      · cases e
    · cases e
  · obtain ⟨x, rfl, q3⟩ := allSome_one q2
    split at e
    · rename_i hm
      subst hm
      unfold lstM at e
      split at e
      · rename_i hx
        cases e
        have hs : starEach [x] env = [(false, eval x env)] := starEach_cons fun y p hy => by rw [hy, S.star] at q3; cases q3
        refine wpAny_Call_method_lateS (base_eq S q) (by rw [hs]; rfl) hline (S.go O R T V q fun ov s₁ F1 k ht hd => ?_)
        obtain ⟨t, rfl⟩ := hd.str_inv
        refine ⟨"str", "str.lstrip", F.plainAttrs_str, F.slot_str_lstrip, F.type_str_lstrip, typeIs_str _ _ _, (fun _ e => nomatch e), call1 S q3 ?_⟩
        refine S.go O R (T.kp k ht) (V.kp k) q3 fun v s₂ F2 k2 ht2 hd2 => ?_
        obtain ⟨u, rfl⟩ := hd2.str_inv
        refine SC.lstripChars (fun t' n => ?_) (by rw [sizeLine_eq]; unfold lineMax at hx; (first | decide | lia | omega))
        exact ⟨k.trans (k2.trans (Kp.tok _)), [], .str _ _, Fresh.nil⟩
      · cases e
    · cases e
  · obtain ⟨x, rfl, q3⟩ := allSome_one q2
    split at e
    · rename_i hm
      subst hm
      rename_i b c
      unfold cntM at e
      split at e
      · rename_i u hc
        split at e
        · rename_i hx
          cases e
          have hs : starEach [x] env = [(false, eval x env)] := starEach_cons fun y p hy => by rw [hy, S.star] at q3; cases q3
          refine wpAny_Call_method_lateS (base_eq S q) (by rw [hs]; rfl) hline (S.go O R T V q fun ov s₁ F1 k ht hd => ?_)
          obtain ⟨t, rfl⟩ := hd.bytes_inv
          refine ⟨"bytes", "bytes.count", FB.plainAttrs_bytes, FM.slot_count, FM.type_count, typeIs_bytes _ _ _, (fun _ e => nomatch e), call1 S q3 ?_⟩
          refine S.go O R (T.kp k ht) (V.kp k) q3 fun v s₂ F2 k2 ht2 hd2 => ?_
          obtain ⟨t2, rfl⟩ := hd2.bytes_inv
          have hc' : c = #[u] := Array.toList_inj.mp hc
          subst hc'
          exact wpThen (count_call hx) fun v s' g => Gives.after (k.trans k2) g
        · cases e
      · cases e
    · cases e
  · obtain ⟨x, rfl, q3⟩ := allSome_one q2
    split at e
    · rename_i hm
      subst hm
      unfold jonM at e
      split at e
      · rename_i hb0
        split at e
        · rename_i bs hbs
          split at e
          · rename_i hx
            cases e
            have hs : starEach [x] env = [(false, eval x env)] := starEach_cons fun y p hy => by rw [hy, S.star] at q3; cases q3
            refine wpAny_Call_method_lateS (base_eq S q) (by rw [hs]; rfl) hline (S.go O R T V q fun ov s₁ F1 k ht hd => ?_)
            obtain ⟨t, rfl⟩ := hd.bytes_inv
            refine ⟨"bytes", "bytes.join", FB.plainAttrs_bytes, FM.slot_join, FM.type_join, typeIs_bytes _ _ _, (fun _ e => nomatch e), call1 S q3 ?_⟩
            refine S.go O R (T.kp k ht) (V.kp k) q3 fun v s₂ F2 k2 ht2 hd2 => ?_
            obtain ⟨l, vs, n, G, rfl, rfl, hl, r⟩ := hd2.list_inv
            have hb : ∀ b : Array UInt8, b.size = 0 → b = #[] := fun b h => Array.eq_empty_of_size_eq_zero h
            have hb' := hb _ hb0
            subst hb'
            obtain ⟨bl, rfl, rfl⟩ := bytesOf_vals hbs r
            have hlen := r.length
            refine wpThen (join_call hl (by have := hx.2.1; unfold bvals at hlen; simp only [List.length_map] at hlen; (first | decide | lia | omega)) hx.1) fun v s' g => Gives.after (k.trans k2) g
          · cases e
        · cases e
      · cases e
    · cases e
  · cases e

theorem replace_sound (S : SoundE prog w H0 K rec) (O : EOk env) (R : Rm A K) (T : St H0 s) (V : VarsOk env s.heap ρ) {o : Expr} {ap pos py pz : Pos} {x y z : Str} {ky kz : Nat}
    (hline : (ap.endLine == pos.line) = true) (q : rec env.kindOf ρ o = some (.str x)) (hyz : (y == z) = false) (hx : x.length ≤ 1000) (hz : z.length ≤ 14) :
    wpAny (model prog w) A (eval (.Call (.Attribute o "replace" ap) [.Constant (.str y) ky py, .Constant (.str z) kz pz] [] pos) env) (Gives s (.str (Txt.replace x y z))) No s := by
  refine wpAny_Call_method_lateS (base_eq S q) rfl hline (S.go O R T V q fun ov s₁ F1 k ht hd => ?_)
  obtain ⟨t, rfl⟩ := hd.str_inv
  refine ⟨"str", "str.replace", F.plainAttrs_str, F.slot_str_replace, F.type_str_replace, typeIs_str _ _ _, (fun _ e => nomatch e), ?_⟩
  show wpAny (model prog w) A (callWith pos (.builtin "str.replace") [.str x t] [(false, eval (.Constant (.str y) ky py) env), (false, eval (.Constant (.str z) kz pz) env)] []) _ _ _
  refine callWith_builtin rfl (evalArgs_plain ?_)
  refine spliced_cons (wpAny_Constant_str ?_)
  refine spliced_cons (wpAny_Constant_str ?_)
  refine spliced_nil ?_
  have h0 := (T.kp k ht).tok
  refine SC.replaceW (by show s₁.toks ≠ 0; (first | decide | lia | omega)) (by show s₁.toks + 1 ≠ 0; (first | decide | lia | omega)) (by show s₁.toks ≠ s₁.toks + 1; (first | decide | lia | omega)) hyz (by (first | decide | lia | omega)) hz fun t' n => ?_
  exact ⟨k.trans (Kp.tok _), [], .str _ _, Fresh.nil⟩
end
end Mine
end
section
namespace Mine

noncomputable def Has (h h' : Heap) : Prop := ∀ b o, h.get? b = some o → h'.get? b = some o
theorem Has.den {h h' : Heap} (k : Has h h') {v : Value} {d : Dat} {F : List Addr} (x : Den h v d F) : Den h' v d F := x.mono fun a _ o e => k a o e
theorem Has.denAll {h h' : Heap} (k : Has h h') {v : List Value} {d : List Dat} {F : List Addr} (x : DenAll h v d F) : DenAll h' v d F := x.mono fun a _ o e => k a o e
theorem Has.trans {h h' h'' : Heap} (k : Has h h') (k' : Has h' h'') : Has h h'' := fun b o e => k' b o (k b o e)
theorem Kp.has {s s' : Shared} (k : Kp s s') : Has s.heap s'.heap := fun _ _ e => k.get e

/-- the names that resolve in the module's and the built-in tables -/
structure Gl (H0 : Heap) : Prop where
  sum : GIs H0 "sum" (.builtin "sum")
  len : GIs H0 "len" (.builtin "len")
  list : GIs H0 "list" (.type "list")
  max : GIs H0 "max" (.builtin "max")
  isinstance : GIs H0 "isinstance" (.builtin "isinstance")
  bool : GIs H0 "bool" (.type "bool")
  range : GIs H0 "range" (.type "range")

/-- the environment of a comprehension's block -/
theorem compEnv_kindOf {scope : Scope} {env : Env} {cl : List (Str × Addr)} {C : Addr} (O : EOk env) : (compEnvC scope cl C env).kindOf = relab scope env.kindOf := by
  funext x
  unfold Env.kindOf compEnvC relabel relab
  simp only [O.kind, show (ScopeKind.function == ScopeKind.function) = true from rfl, Bool.and_true]
  rfl

theorem closure_ex {env : Env} : ∀ (names : List (Str × NameKind)) (cs : List (Str × Addr)), (∀ y ∈ names, y.2 = .free → ∃ c, env.cells.lookup y.1 = some c) → (∀ y c, cs.lookup y = some c → env.cells.lookup y = some c) →
    ∃ cl, (forIn names cs fun x r => if (x.2 == NameKind.free) = true then do let a ← cellOf env x.1; pure (ForInStep.yield ((x.1, a) :: r)) else pure (ForInStep.yield r) : Sem (List (Str × Addr))) = pure cl ∧
      (∀ y c, cl.lookup y = some c → env.cells.lookup y = some c) ∧ (∀ y, (y, NameKind.free) ∈ names → (cl.lookup y).isSome = true) ∧ (∀ y, (cs.lookup y).isSome = true → (cl.lookup y).isSome = true)
  | [], cs, _, h => ⟨cs, rfl, h, fun y hy => (nomatch hy), fun _ h => h⟩
  | (n, k) :: names, cs, hf, h => by
    by_cases hk : k = .free
    · subst hk
      obtain ⟨c, hc⟩ := hf (n, .free) (.head _) rfl
      obtain ⟨cl, e, h1, h2, h3⟩ := closure_ex names ((n, c) :: cs) (fun y hy => hf y (.tail _ hy)) (fun y c' hy => by
        rw [List.lookup_cons] at hy
        cases q : y == n with
        | true => rw [q] at hy; cases hy; rw [show y = n from by simpa using q]; exact hc
        | false => rw [q] at hy; exact h y c' hy)
      refine ⟨cl, ?_, h1, ?_, ?_⟩
      · rw [List.forIn_cons]
        have : cellOf env n = pure c := by unfold cellOf; rw [hc]
        simp only [this]
        exact e
      · intro y hy
        rcases List.mem_cons.mp hy with hy | hy
        · cases hy
          exact h3 n (by simp)
        · exact h2 y hy
      · intro y hy
        refine h3 y ?_
        rw [List.lookup_cons]
        cases q : y == n with
        | true => rfl
        | false => exact hy
    · obtain ⟨cl, e, h1, h2, h3⟩ := closure_ex names cs (fun y hy => hf y (.tail _ hy)) h
      have hk' : (k == NameKind.free) = false := by simpa using hk
      refine ⟨cl, ?_, h1, ?_, h3⟩
      · rw [List.forIn_cons]
        simp only [hk']
        exact e
      · intro y hy
        rcases List.mem_cons.mp hy with hy | hy
        · cases hy; exact absurd rfl hk
        · exact h2 y hy

theorem closure_for {env : Env} {scope : Scope} (hf : ∀ y ∈ scope.names, y.2 = .free → ∃ c, env.cells.lookup y.1 = some c) :
    ∃ cl, closureFor scope env = pure cl ∧ (∀ y c, cl.lookup y = some c → env.cells.lookup y = some c) ∧ (∀ y, (y, NameKind.free) ∈ scope.names → (cl.lookup y).isSome = true) := by
  obtain ⟨cl, e, h1, h2, _⟩ := closure_ex scope.names [] hf (fun y c hy => by cases hy)
  refine ⟨cl, ?_, h1, h2⟩
  unfold closureFor
  have : (forIn scope.names [] fun x r => if (x.2 == NameKind.free) = true then do let a ← cellOf env x.1; pure (ForInStep.yield ((x.1, a) :: r)) else pure (ForInStep.yield r) : Sem (List (Str × Addr))) = _ := e
  have e2 : ∀ (m : Sem (List (Str × Addr))), m = pure cl → (m >>= fun r => pure r) = pure cl := fun m h => by rw [h]; rfl
  exact e2 _ e
theorem relab_eq (scope : Scope) (κ : Kd) (y : Str) : relab scope κ y = (scope.names.lookup y).map fun k => if (k == .free && κ y == some .cell) = true then .cell else k := by
  unfold relab
  generalize scope.names = names
  induction names with
  | nil => rfl
  | cons p r ih =>
    obtain ⟨n, k⟩ := p
    rw [List.map_cons]
    cases q : y == n with
    | true =>
      have hy : y = n := by simpa using q
      subst hy
      dsimp only
      split
      · rw [List.lookup_cons, q, List.lookup_cons, q]; simp_all
      · rw [List.lookup_cons, q, List.lookup_cons, q]; simp_all
    | false =>
      dsimp only
      split
      · rw [List.lookup_cons, q, List.lookup_cons, q]; exact ih
      · rw [List.lookup_cons, q, List.lookup_cons, q]; exact ih

theorem lookup_mem {α β : Type} [BEq α] [LawfulBEq α] : ∀ {l : List (α × β)} {x : α} {y : β}, l.lookup x = some y → (x, y) ∈ l
  | (a, b) :: l, x, y, h => by
    rw [List.lookup_cons] at h
    cases q : x == a with
    | true => rw [q] at h; cases h; rw [show x = a from by simpa using q]; exact .head _
    | false => rw [q] at h; exact .tail _ (lookup_mem h)

structure CompOk (κ : Kd) (scope : Scope) (xs : List Str) : Prop where
  kind : scope.kind = .function
  cell : ∀ y ∈ scope.names, y.2 ≠ .cell
  locals : ∀ y ∈ scope.names, y.2 = .local → scope.names.lookup y.1 = some .local
  free : ∀ y ∈ scope.names, y.2 = .free → κ y.1 = some .cell ∨ κ y.1 = some .free
  xs : ∀ x ∈ xs, scope.names.lookup x = some .local ∧ plainName x = true
theorem compOk_is {κ : Kd} {scope : Scope} {xs : List Str} (h : compOk κ scope xs = true) : CompOk κ scope xs := by
  unfold compOk at h
  simp only [Bool.and_eq_true, List.all_eq_true, decide_eq_true_eq] at h
  obtain ⟨⟨⟨⟨h1, h2⟩, h3⟩, h4⟩, h5⟩ := h
  refine ⟨h1, fun y hy => by simpa using h2 y hy, fun y hy e => ?_, fun y hy e => ?_, fun x hx => ?_⟩
  · have := h3 y hy
    rw [e] at this
    simpa using this
  · have := h4 y hy
    rw [e] at this
    simpa using this
  · have := h5 x hx
    simpa using this

theorem comp_vars {env : Env} {scope : Scope} {xs : List Str} (O : EOk env) (c : CompOk env.kindOf scope xs) {cl : List (Str × Addr)} (h1 : ∀ y c, cl.lookup y = some c → env.cells.lookup y = some c) (h2 : ∀ y, (y, NameKind.free) ∈ scope.names → (cl.lookup y).isSome = true)
    {h : Heap} {ρ : Vs} (V : VarsOk env h ρ) {C : Addr} {m : Str → Option Value} (hn : h.Ns C m) {b : Str → Option Dat} (hb : ∀ y d, b y = some d → plainName y = true ∧ ∃ v F, m y = some v ∧ Den h v d F) :
    VarsOk (compEnvC scope cl C env) h (inComp (relab scope env.kindOf) ρ b) := by
  intro y d e
  have hk := congrFun (compEnv_kindOf (scope := scope) (cl := cl) (C := C) O) y
  unfold inComp at e
  rw [relab_eq] at e hk
  cases q : scope.names.lookup y with
  | none => rw [q] at e; simp at e
  | some k =>
    rw [q] at e hk
    have hm := lookup_mem q
    have hck := c.cell _ hm
    simp only [Option.map_some] at e hk
    cases k with
    | «local» =>
      simp at e hk
      obtain ⟨p, v, F, h3, h4⟩ := hb y d e
      exact ⟨p, v, F, .inl ⟨hk, m, hn, h3⟩, h4⟩
    | free =>
      have e' : ρ y = some d := by
        by_cases hc : (env.kindOf y == some .cell) = true
        · simp [hc] at e; exact e
        · simp [hc] at e; exact e
      obtain ⟨p, v, F, h3, h4⟩ := V y d e'
      refine ⟨p, v, F, .inr ⟨?_, ?_⟩, h4⟩
      · by_cases hc : (env.kindOf y == some .cell) = true
        · simp [hc] at hk; exact .inl hk
        · simp [hc] at hk; exact .inr hk
      · rcases h3 with ⟨a, _⟩ | ⟨_, a, b', i⟩
        · rcases c.free _ hm rfl with z | z <;> (rw [show env.kindOf y = some .local from a] at z; cases z)
        · have := h2 y hm
          cases q2 : cl.lookup y with
          | none => rw [q2] at this; cases this
          | some a' =>
            have h5 := h1 y a' q2
            rw [b'] at h5; cases h5
            exact ⟨a, q2, i⟩
    | cell => exact absurd rfl hck
    | _ => simp at e

theorem comp_env {env : Env} {scope : Scope} {xs : List Str} (O : EOk env) (c : CompOk env.kindOf scope xs) {cl : List (Str × Addr)} (h2 : ∀ y, (y, NameKind.free) ∈ scope.names → (cl.lookup y).isSome = true) {C : Addr} : EOk (compEnvC scope cl C env) where
  kind := c.kind
  globals := O.globals
  builtins := O.builtins
  cells := fun x hx => by
    have hk := congrFun (compEnv_kindOf (scope := scope) (cl := cl) (C := C) O) x
    rw [relab_eq] at hk
    rw [hk] at hx
    have hm : (x, NameKind.free) ∈ scope.names := by
      cases q : scope.names.lookup x with
      | none => rw [q] at hx; simp at hx
      | some k =>
        have hm := lookup_mem q
        rw [q] at hx
        cases k with
        | free => exact hm
        | cell => exact absurd rfl (c.cell _ hm)
        | _ => simp at hx
    have := h2 x hm
    cases q2 : cl.lookup x with
    | none => rw [q2] at this; cases this
    | some a' => exact ⟨a', q2⟩

theorem comp_free {env : Env} {scope : Scope} {xs : List Str} (O : EOk env) (c : CompOk env.kindOf scope xs) : ∀ y ∈ scope.names, y.2 = .free → ∃ c, env.cells.lookup y.1 = some c :=
  fun y hy e => O.cells y.1 (c.free y hy e)
end Mine
end
section
namespace Mine

section
variable {prog : Program} {w : World} {H0 : Heap} {K : Nat} {rec : Kd → Vs → Expr → Option Dat} {env : Env} {A : Around} {s : Shared} {ρ : Vs}

theorem allSome_cons {α β : Type} {f : α → Option β} {x : α} {l : List α} {ys : List β} (e : allSome f (x :: l) = some ys) : ∃ y zs, f x = some y ∧ allSome f l = some zs ∧ ys = y :: zs := by
  rw [allSome] at e
  cases q : f x with
  | none => rw [q] at e; cases e
  | some z =>
    rw [q] at e
    cases q2 : allSome f l with
    | none => rw [q2] at e; cases e
    | some zs => rw [q2] at e; cases e; exact ⟨z, zs, rfl, rfl, rfl⟩

theorem star_ne (S : SoundE prog w H0 K rec) {κ : Kd} {x : Expr} {d : Dat} (q : rec κ ρ x = some d) : ∀ y p, x ≠ .Starred y p := fun y p hy => by rw [hy, S.star] at q; cases q

theorem trees_plain (S : SoundE prog w H0 K rec) {κ : Kd} {pos : Pos} : ∀ {es : List Expr} {ds : List Dat}, allSome (rec κ ρ) es = some ds → (backTo pos (starEach es env)).any (·.1) = false
  | [], _, _ => rfl
  | x :: es, ds, e => by
    obtain ⟨y, zs, q, q2, rfl⟩ := allSome_cons e
    rw [starEach_cons (star_ne S q)]
    show (false || (backTo pos (starEach es env)).any (·.1)) = false
    rw [trees_plain S q2]; rfl

theorem callB (S : SoundE prog w H0 K rec) {κ : Kd} {pos : Pos} {es : List Expr} {ds : List Dat} {fv : Value} {Q : Value → Shared → Prop} {E : Value → Shared → Prop} (hf : (∃ i, fv = .builtin i) ∨ (∃ i, fv = .type i))
    (q : allSome (rec κ ρ) es = some ds) (hne : es ≠ [])
    (h : wpAny (model prog w) A (spliced (backTo pos (starEach es env))) (fun vs s₁ => wpAny (model prog w) A (call fv vs) Q E s₁) E s) :
    wpAny (model prog w) A (callWith pos fv [] (backTo pos (starEach es env)) []) Q E s := by
  cases es with
  | nil => exact absurd rfl hne
  | cons x es =>
    have hp := trees_plain (env := env) (pos := pos) S q
    obtain ⟨y, zs, q1, q2, rfl⟩ := allSome_cons q
    rw [starEach_cons (star_ne S q1)] at h hp ⊢
    rcases hf with ⟨i, rfl⟩ | ⟨i, rfl⟩
    · exact callWith_builtin hp (evalArgs_plain h)
    · exact PySem.callWith_type hp (evalArgs_plain h)

noncomputable def IterOk (prog : Program) (w : World) (A : Around) (s₁ : Shared) (items : List Dat) (itv : Value) (Fx : List Addr) (s₂ : Shared) : Prop :=
  Kp s₁ s₂ ∧ ∃ I fp wr P St, itv = .ref I ∧ Walks prog w A I fp wr items.length P St ∧ (∀ i h, St i h → ∀ b ∈ wr, ∃ o, h.get? b = some o ∧ ¬ IsSeqObj o) ∧ St 0 s₂.heap ∧ (∀ b ∈ fp, b < s₂.heap.objs.size) ∧ (∀ b ∈ fp, b ∈ wr ∨ b ∈ Fx) ∧
    (∀ b ∈ wr, s₁.heap.get? b = none) ∧ (∀ i v, P i v → ∃ d F, items[i]? = some d ∧ Den s₁.heap v d F)

theorem size_fresh (h : Heap) : h.get? h.objs.size = none := by
  cases q : h.get? h.objs.size with
  | none => rfl
  | some o => exact absurd (Heap.lt_size q) (Nat.lt_irrefl _)

theorem iter_list {s₁ : Shared} {xv : Value} {items : List Dat} {F : List Addr} (R : Rm A K) (x : Den s₁.heap xv (.list items) F) : wpAny (model prog w) A (pyIter xv) (fun itv s₂ => IterOk prog w A s₁ items itv F s₂) No s₁ := by
  obtain ⟨l, vs, n, G, rfl, rfl, hl, r⟩ := x.list_inv
  have hlen := r.length
  have hlt := Heap.lt_size hl
  refine wpAny_pyIter_list (Den.isList hl) ⟨Kp.push _ _, s₁.heap.objs.size, [s₁.heap.objs.size, l], [s₁.heap.objs.size], (fun i v => vs.toArray[i]? = some v), (fun i h => h.IsListIter s₁.heap.objs.size l i ∧ h.IsList l vs.toArray), rfl, ?_, ?_, ?_, ?_, ?_, ?_, ?_⟩
  · rw [← hlen]
    have := Walks.list (prog := prog) (w := w) (A := A) R.handled s₁.heap.objs.size l (Nat.ne_of_lt hlt) vs.toArray
    simpa using this
  · rintro i h ⟨⟨o, ho, _, hd⟩, _⟩ b hb
    rw [List.mem_singleton.mp hb]
    exact ⟨o, ho, fun ⟨vs, n, q⟩ => by rw [q] at hd; cases hd⟩
  · exact ⟨⟨_, Heap.get?_push_size _ rfl, rfl, rfl⟩, (Den.isList hl).push _⟩
  · intro b hb
    rw [Heap.size_push]
    simp only [List.mem_cons, List.not_mem_nil, or_false] at hb
    rcases hb with rfl | rfl
    · exact Nat.lt_succ_self _
    · exact Nat.lt_succ_of_lt hlt
  · intro b hb
    simp only [List.mem_cons, List.not_mem_nil, or_false] at hb
    rcases hb with rfl | rfl
    · exact .inl (.head _)
    · exact .inr (.head _)
  · intro b hb
    rw [List.mem_singleton.mp hb]; exact size_fresh _
  · intro i v hv
    have hi : i < vs.length := by
      have := (Array.getElem?_eq_some_iff.mp hv).1
      simpa using this
    have hi' : i < items.length := by (first | decide | lia | omega)
    obtain ⟨v', G', e1, hd, _⟩ := r.get (i := i) (d := items[i]) (by simp [hi'])
    have : v' = v := by
      have hv' : vs[i]? = some v := by simpa using hv
      rw [hv'] at e1; cases e1; rfl
    subst this
    exact ⟨items[i], G', by simp [hi'], hd⟩

theorem iter_range {s₁ : Shared} {r : Addr} {a b : Int} {t u v : Tok} (R : Rm A K) (hr : IsRange s₁.heap r a b 1 t u v) (ha : a.natAbs ≤ 1000) (hb : b.natAbs ≤ 1000) :
    wpAny (model prog w) A (pyIter (.ref r)) (fun itv s₂ => IterOk prog w A s₁ ((List.range (b - a).toNat).map fun (i : Nat) => .int (a + (i : Int))) itv [] s₂) No s₁ := by
  refine wpAny_pyIter_range hr (small_one (by (first | decide | lia | omega)) (by (first | decide | lia | omega)) (by (first | decide | lia | omega)) (by (first | decide | lia | omega))) ⟨Kp.push _ _, s₁.heap.objs.size, [s₁.heap.objs.size], [s₁.heap.objs.size], (fun i v => (i < (b - a).toNat) ∧ ∃ t, v = .int (a + i * 1) t), (fun i h => i ≤ (b - a).toNat ∧ IsRangeIter h s₁.heap.objs.size (a + (i : Nat) * 1) (((b - a).toNat : Int) - (i : Nat)) 1), rfl, ?_, ?_, ?_, ?_, ?_, ?_, ?_⟩
  · have W := Walks.range (prog := prog) (w := w) (A := A) R.handled s₁.heap.objs.size a 1 (b - a).toNat
    rw [List.length_map, List.length_range]
    exact {
      sub := W.sub
      frame := fun i h h' st hk => ⟨st.1, W.frame i h h' st.2 hk⟩
      item := fun i s Q E hi st hQ => W.item i s Q E hi st.2 fun v h' tk hv st' hk => hQ v h' tk ⟨hi, hv⟩ ⟨hi, st'⟩ hk
      done := fun s Q E st hQ => W.done s Q E st.2 hQ
      self := fun i s Q E st hQ => W.self i s Q E st.2 hQ }
  · rintro i h ⟨_, st⟩ b hb
    rw [List.mem_singleton.mp hb]
    exact ⟨_, st, fun ⟨vs, n, q⟩ => by have := congrArg Obj.data q; cases this⟩
  · refine ⟨Nat.zero_le _, ?_⟩
    have : (Builtin.Range.rangeSize a b 1) = ((b - a).toNat : Int) - ((0 : Nat) : Int) := by
      rw [rangeSize_one]; split <;> (first | decide | lia | omega)
    have e0 : a + ((0 : Nat) : Int) * 1 = a := by simp
    rw [e0, ← this]
    exact Heap.get?_push_size _ rfl
  · intro b hb
    rw [List.mem_singleton.mp hb, Heap.size_push]; exact Nat.lt_succ_self _
  · exact fun b hb => .inl hb
  · intro b hb
    rw [List.mem_singleton.mp hb]; exact size_fresh _
  · rintro i v ⟨hi, t, rfl⟩
    refine ⟨.int (a + i), [], ?_, ?_⟩
    · simp [hi]
    · rw [Int.mul_one]; exact .int _ _

theorem range_sound (G : Gl H0) {rec : Kd → Vs → Expr → Option Dat} (S : SoundE prog w H0 K rec) (O : EOk env) (R : Rm A K) {ρ : Vs} (T : St H0 s) (V : VarsOk env s.heap ρ) {pf pa : Pos} {args : List Expr} {items : List Dat}
    (hg : isGlob env.kindOf ("range" : Str) = true) (e : (allSome (rec env.kindOf ρ) args).bind rangeD = some items) :
    wpAny (model prog w) A (eval (.Call (.Name "range" pf) args [] pa) env) (fun xv s₁ => Kp s s₁ ∧ s.toks ≤ s₁.toks ∧ wpAny (model prog w) A (pyIter xv) (fun itv s₂ => IterOk prog w A s₁ items itv [] s₂) No s₁) No s := by
  have hk : env.kindOf ("range" : Str) = some .globalImplicit := by unfold isGlob at hg; simpa using hg
  cases q : allSome (rec env.kindOf ρ) args with
  | none => rw [q] at e; cases e
  | some vals =>
    rw [q] at e
    have e' : rangeD vals = some items := e
    refine Call_ (glob_name G.range T O hk (by decide) ?_)
    have hne : args ≠ [] := by
      rintro rfl
      cases q; cases e'
    refine callB S (.inr ⟨_, rfl⟩) q hne (wpSeq (args_sound S O R T V q) fun vs s₁ h₁ ht => ?_)
    obtain ⟨k, F, hd⟩ := h₁
    unfold rangeD at e'
    split at e'
    · split at e'
      · rename_i n hn
        cases e'
        cases hd with
        | cons x r =>
          cases r
          obtain ⟨t, rfl⟩ := x.int_inv
          refine call_range_1 ⟨k.trans (Kp.push _ _), by show s.toks ≤ s₁.toks + 1 + 1; (first | decide | lia | omega), ?_⟩
          have := iter_range (prog := prog) (w := w) (A := A) (K := K) R (IsRange.new s₁.heap 0 n 1 s₁.toks t (s₁.toks + 1)) (by decide) hn (s₁ := { s₁ with heap := s₁.heap.push { cls := .type "range", data := .fields #[.int 0 s₁.toks, .int n t, .int 1 (s₁.toks + 1)] }, toks := s₁.toks + 1 + 1 })
          simpa using this
      · cases e'
    · split at e'
      · rename_i a b hn
        cases e'
        cases hd with
        | cons x r =>
          cases r with
          | cons y r =>
            cases r
            obtain ⟨t, rfl⟩ := x.int_inv
            obtain ⟨u, rfl⟩ := y.int_inv
            refine call_range_2 ⟨k.trans (Kp.push _ _), by show s.toks ≤ s₁.toks + 1; (first | decide | lia | omega), ?_⟩
            exact iter_range (prog := prog) (w := w) (A := A) (K := K) R (IsRange.new s₁.heap a b 1 t u s₁.toks) hn.1 hn.2 (s₁ := { s₁ with heap := s₁.heap.push { cls := .type "range", data := .fields #[.int a t, .int b u, .int 1 s₁.toks] }, toks := s₁.toks + 1 })
      · cases e'
    · cases e'
theorem iter_usual (S : SoundE prog w H0 K rec) (O : EOk env) (R : Rm A K) (T : St H0 s) (V : VarsOk env s.heap ρ) {it : Expr} {items : List Dat} (e : itemsD (rec env.kindOf ρ it) = some items) :
    wpAny (model prog w) A (eval it env) (fun xv s₁ => Kp s s₁ ∧ s.toks ≤ s₁.toks ∧ ∃ Fx, wpAny (model prog w) A (pyIter xv) (fun itv s₂ => IterOk prog w A s₁ items itv Fx s₂) No s₁) No s := by
  cases q : rec env.kindOf ρ it with
  | none => rw [q] at e; cases e
  | some d =>
    rw [q] at e
    cases d with
    | list ds =>
      cases e
      refine S.go O R T V q fun xv s₁ F k ht hd => ?_
      exact ⟨k, ht, _, iter_list R hd⟩
    | _ => cases e
theorem iter_sound (G : Gl H0) (S : SoundE prog w H0 K rec) (O : EOk env) (R : Rm A K) (T : St H0 s) (V : VarsOk env s.heap ρ) {it : Expr} {items : List Dat} (e : iterE rec env.kindOf ρ it = some items) :
    wpAny (model prog w) A (eval it env) (fun xv s₁ => Kp s s₁ ∧ s.toks ≤ s₁.toks ∧ ∃ Fx, wpAny (model prog w) A (pyIter xv) (fun itv s₂ => IterOk prog w A s₁ items itv Fx s₂) No s₁) No s := by
  unfold iterE at e
  cases hr : rngE it with
  | none => rw [hr] at e; exact iter_usual S O R T V e
  | some args =>
    rw [hr] at e
    obtain ⟨pf, p, rfl⟩ := rngE_inv hr
    obtain ⟨hg, e⟩ := if_inv (show (if isGlob env.kindOf ("range" : Str) = true then _ else none) = some items from e)
    exact wpThen (range_sound G S O R T V hg e) fun xv s₁ h => ⟨h.1, h.2.1, [], h.2.2⟩
end
end Mine
end
section
namespace Mine

/-- what one loop of a comprehension appends, item by item -/
noncomputable def runS (step : Dat → Option (List Dat)) : List Dat → Option (List Dat)
  | [] => some []
  | d :: r => match step d with
    | some a => match runS step r with
      | some b => some (a ++ b)
      | none => none
    | none => none

noncomputable def KeptBut (D C : Addr) (wr : List Addr) (h h' : Heap) : Prop := ∀ b o, b ≠ D → b ≠ C → b ∉ wr → h.get? b = some o → h'.get? b = some o

theorem PlainList.has {h h' : Heap} {D : Addr} {ys : Array Value} (x : h.PlainList D ys) (k : ∀ o, h.get? D = some o → h'.get? D = some o) : h'.PlainList D ys := x.at k
theorem live_ne {h : Heap} {a b : Addr} {o : Obj} (h1 : h.get? a = none) (h2 : h.get? b = some o) : a ≠ b := by rintro rfl; rw [h1] at h2; cases h2

section
variable {prog : Program} {w : World} {A : Around} {s : Shared} {R : Result → Shared → Prop}

theorem loopG {elt : Expr} {gens : List Comprehension} {scope : Scope} {pos p px : Pos} {dp : Nat} {cenv : Env} {x : Str} {I D : Addr} {fp wr : List Addr} {items : List Dat} {P : Nat → Value → Prop} {St : Nat → Heap → Prop} {body : Sem Unit}
    (hturn : compTurn (.ListComp elt gens scope pos) dp (.ref I) (.ref D) cenv = (standAt p >>= fun _ => pyNext (.ref I) >>= fun r => match r with
      | none => pure (.done .next)
      | some v => letOwnedTupleGo (.Name x px) (.ref I) v >>= fun _ => assign (.Name x px) cenv v >>= fun _ => body >>= fun _ => again (.compLoop (.ListComp elt gens scope pos) dp (.ref I) (.ref D) cenv)))
    (W : Walks prog w A I fp wr items.length P St) (hlive : ∀ i h, St i h → ∀ b ∈ wr, ∃ o, h.get? b = some o) (hst : St 0 s.heap)
    {B : Heap} (hB : Has B s.heap) (hP : ∀ i v, P i v → ∃ d F, items[i]? = some d ∧ Den B v d F) (hDB : B.get? D = none) (hCB : B.get? cenv.locals = none) (hwB : ∀ b ∈ wr, B.get? b = none)
    (hCf : cenv.locals ∉ fp) (hDf : D ∉ fp) (hDC : D ≠ cenv.locals) (hx : cenv.kindOf x = some .local) (hp : (cenv.scope.kind == .class || (cenv.scope.kind == .module && cenv.locals != cenv.globals)) = false)
    {m : Str → Option Value} (hn : s.heap.Ns cenv.locals m) {ys0 : Array Value} (hl : s.heap.PlainList D ys0)
    {step : Dat → Option (List Dat)} {total : List Dat} (run : runS step items = some total) (hsz : ys0.size + total.length ≤ 200000)
    {Mok : (Str → Option Value) → Prop} (hM : Mok m) (hMs : ∀ m v, Mok m → Mok fun y => if y = x then some v else m y)
    (hbody : ∀ d add v Fv s₃ m₃ ys, step d = some add → KeptBut D cenv.locals wr s.heap s₃.heap → s.toks ≤ s₃.toks → s₃.heap.Ns cenv.locals m₃ → Mok m₃ → m₃ x = some v → Den s₃.heap v d Fv → s₃.heap.PlainList D ys →
      ys.size + add.length ≤ 200000 →
      wpAny (model prog w) A body (fun _ s' => (∃ h' tk, s' = { s₃ with heap := h', toks := tk }) ∧ KeptBut D cenv.locals [] s₃.heap s'.heap ∧ s₃.toks ≤ s'.toks ∧ (∃ m', s'.heap.Ns cenv.locals m' ∧ Mok m') ∧ ∃ zs G, s'.heap.PlainList D (ys ++ zs) ∧ DenAll s'.heap zs.toList add G ∧ Fresh s₃ G) No s₃)
    (hR : ∀ h' tk m' zs G, s.toks ≤ tk → h'.Ns cenv.locals m' → h'.PlainList D (ys0 ++ zs) → DenAll h' zs.toList total G → Fresh s G → KeptBut D cenv.locals wr s.heap h' → R (.ok .next) { s with heap := h', toks := tk }) :
    codeAny (model prog w) A (.compLoop (.ListComp elt gens scope pos) dp (.ref I) (.ref D) cenv) R s := by
  have hCw : cenv.locals ∉ wr := fun h => hCf (W.sub _ h)
  have hDw : D ∉ wr := fun h => hDf (W.sub _ h)
  refine codeAny_loop rfl
    (fun k s' => ∀ P : Prop, (∀ i h tk m' zs G done rest, s' = { s with heap := h, toks := tk } → k = items.length + 1 - i → i ≤ items.length → St i h → h.Ns cenv.locals m' → Mok m' → h.PlainList D (ys0 ++ zs) → DenAll h zs.toList done G → Fresh s G →
      KeptBut D cenv.locals wr s.heap h → s.toks ≤ tk → runS step (items.drop i) = some rest → done ++ rest = total → P) → P) (fun n s' hI => ?_) (items.length + 1)
    (fun _ f => f 0 s.heap s.toks m #[] [] [] total rfl rfl (Nat.zero_le _) hst hn hM (by simpa using hl) .nil Fresh.nil (fun _ _ _ _ _ e => e) (Nat.le_refl _) run rfl)
  refine hI _ fun i h tk m' zs G done rest e1 e2 hi hst' hn' hM' hl' hd' hG hk htk hrun htot => ?_
  clear hI
  subst e1
  subst e2
  show wpAny _ A ((compTurn (.ListComp elt gens scope pos) dp (.ref I) (.ref D) cenv).onRaise (fun x => do noteFrame x cenv; theTreesLotGoes x)) _ _ _
  refine wpAny_noted (wpNo ?_)
  rw [hturn]
  by_cases hlt : i < items.length
  · refine wpAny_bind (wpAny_standAt (wpAny_bind ?_))
    refine wpAny_with_toks (n := s.toks) htk (W.item i _ _ _ hlt hst' fun v h₁ tk₁ hPv hst₁ hk₁ htk₁ => ?_)
    dsimp only
    refine wpAny_bind (wpAny_of_eq (show letOwnedTupleGo (.Name x px) (.ref I) v = pure () from rfl) ?_)
    refine wpAny_bind (wpAny_assign_Name (wpAny_storeName_local hx (hn'.at' fun o e => hk₁ _ o hCw e) (fun h₂ hn₂ hs₂ => ?_) hp))
    have up : ∀ b o, b ≠ cenv.locals → b ∉ wr → h.get? b = some o → h₂.get? b = some o := fun b o hbC hbf e => hs₂.extBut b o hbC (hk₁ b o hbf e)
    have upD : ∀ o, h.get? D = some o → h₂.get? D = some o := fun o e => up D o hDC hDw e
    have hkept : KeptBut D cenv.locals wr s.heap h₂ := fun b o h1 h2 h3 e => up b o h2 h3 (hk b o h1 h2 h3 e)
    have hBs : Has B h₂ := fun b o e => hkept b o (fun q => live_ne hDB e q.symm) (fun q => live_ne hCB e q.symm) (fun q => live_ne (hwB b q) e rfl) (hB b o e)
    obtain ⟨d, Fv, hd, hden⟩ := hP i v hPv
    have hdrop : items.drop i = d :: items.drop (i + 1) := by
      rw [List.drop_eq_getElem_cons hlt]
      have : items[i]? = some items[i] := by simp [hlt]
      rw [hd] at this; cases this; rfl
    rw [hdrop, runS] at hrun
    cases q1 : step d with
    | none => rw [q1] at hrun; cases hrun
    | some add =>
      rw [q1] at hrun
      cases q2 : runS step (items.drop (i + 1)) with
      | none => rw [q2] at hrun; cases hrun
      | some rest' =>
        rw [q2] at hrun; cases hrun
        have hzs : zs.size = done.length := by have := hd'.length; simpa using this
        have hGs : ∀ a ∈ G, a ≠ D ∧ a ≠ cenv.locals ∧ a ∉ wr := fun a ha => by
          obtain ⟨_, _, _, ho, _⟩ := hn
          obtain ⟨_, ho'⟩ := hl
          exact ⟨live_ne (hG.gone a ha) ho', live_ne (hG.gone a ha) ho, fun hw => by obtain ⟨o, e⟩ := hlive 0 _ hst a hw; exact live_ne (hG.gone a ha) e rfl⟩
        refine wpAny_bind (wpSeq (hbody d add v Fv _ _ (ys0 ++ zs) q1 hkept (Nat.le_succ_of_le htk₁) hn₂ (hMs _ _ hM') (by simp) (hBs.den hden) (hl'.at upD) ?_) fun _ s' h₃ htk₃ => ?_)
        · have : total.length = done.length + (add.length + rest'.length) := by rw [← htot]; simp
          rw [Array.size_append, hzs]; (first | decide | lia | omega)
        · obtain ⟨⟨h₄, tk₄, rfl⟩, hk₃, htk', ⟨m₄, hn₄, hM₄⟩, zs', G', hl₄, hd₄, hG'⟩ := h₃
          have hst₄ : St (i + 1) h₄ := W.frame _ _ _ (W.frame _ _ _ hst₁ fun b hb o e => hs₂.extBut b o (fun h => hCf (h ▸ hb)) e) fun b hb o e => hk₃ b o (fun h => hDf (h ▸ hb)) (fun h => hCf (h ▸ hb)) (by simp) e
          refine wpAny_pure ⟨rfl, items.length + 1 - (i + 1), by (first | decide | lia | omega), fun _ f => f (i + 1) h₄ tk₄ m₄ (zs ++ zs') (G ++ G') (done ++ add) rest' rfl rfl hlt hst₄ hn₄ hM₄ ?_ ?_ ?_ ?_ ?_ q2 ?_⟩
          · rw [← Array.append_assoc]; exact hl₄
          · rw [Array.toList_append]
            refine DenAll.append (hd'.mono fun a ha o e => ?_) hd₄
            have := hGs a ha
            exact hk₃ a o this.1 this.2.1 (by simp) (up a o this.2.1 this.2.2 e)
          · have hdd : ∀ a ∈ G, a ∉ G' := fun a ha hb => by
              have h2 := hGs a ha
              obtain ⟨o, e, _⟩ := hd'.live a ha
              exact live_ne (hG'.gone a hb) (up a o h2.2.1 h2.2.2 e) rfl
            refine Fresh.append hG ⟨fun a ha => ?_, hG'.once⟩ hdd
            have h1 := hG'.gone a ha
            cases q : s.heap.get? a with
            | none => rfl
            | some o =>
              exfalso
              by_cases hbD : a = D
              · subst hbD
                obtain ⟨_, e⟩ := hl'.at upD
                exact live_ne h1 e rfl
              · by_cases hbC : a = cenv.locals
                · subst hbC
                  obtain ⟨_, _, _, e, _⟩ := hn₂
                  exact live_ne h1 e rfl
                · by_cases hbw : a ∈ wr
                  · obtain ⟨o', e⟩ := hlive _ _ hst₁ a hbw
                    exact live_ne h1 (hs₂.extBut a o' hbC e) rfl
                  · exact live_ne h1 (hkept a o hbD hbC hbw q) rfl
          · exact fun b o h1 h2 h3 e => hk₃ b o h1 h2 (by simp) (hkept b o h1 h2 h3 e)
          · exact Nat.le_trans (Nat.le_succ_of_le htk₁) htk₃
          · rw [List.append_assoc]; exact htot
  · have hin : i = items.length := by (first | decide | lia | omega)
    subst hin
    refine wpAny_bind (wpAny_standAt (wpAny_bind (wpAny_with_toks (n := s.toks) htk (W.done _ _ _ hst' fun h₁ tk₁ hk₁ htk₁ => ?_))))
    refine wpAny_pure ?_
    have hr : rest = [] := by rw [List.drop_length] at hrun; cases hrun; rfl
    subst hr
    rw [List.append_nil] at htot
    subst htot
    refine hR h₁ tk₁ m' zs G htk₁ (hn'.at' fun o e => hk₁ _ o hCw e) (hl'.at fun o e => hk₁ _ o hDw e) (hd'.mono fun a ha o e => hk₁ a o ?_ e) hG fun b o h1 h2 h3 e => hk₁ b o h3 (hk b o h1 h2 h3 e)
    intro hw
    obtain ⟨o', e'⟩ := hlive 0 _ hst a hw
    exact live_ne (hG.gone a ha) e' rfl
end
end Mine
end
section
namespace Mine

noncomputable def emitB (elt : Expr) (acc : Value) (env : Env) : Sem Unit := eval elt env >>= fun x => call (.builtin "list.append") [acc, x] >>= fun _ => pure ()
noncomputable def body1 (ifs : List Expr) (elt : Expr) (acc : Value) (env : Env) : Sem Unit :=
  (forIn ifs true fun c r => if r = true then do let ok ← isTrue c env (eval c env); pure (ForInStep.yield ok) else pure (ForInStep.yield r)) >>= fun ok => if ok = true then emitB elt acc env else pure ()

theorem turn1 {elt iter : Expr} {x : Str} {px : Pos} {ifs : List Expr} {scope : Scope} {pos : Pos} {it acc : Value} {env : Env} :
    compTurn (.ListComp elt [⟨.Name x px, iter, ifs, 0⟩] scope pos) 0 it acc env = (standAt iter.pos >>= fun _ => pyNext it >>= fun r => match r with
      | none => pure (.done .next)
      | some v => letOwnedTupleGo (.Name x px) it v >>= fun _ => assign (.Name x px) env v >>= fun _ => body1 ifs elt acc env >>= fun _ => again (.compLoop (.ListComp elt [⟨.Name x px, iter, ifs, 0⟩] scope pos) 0 it acc env)) := by
  rw [compTurn_list]
  refine congrArg _ (funext fun _ => congrArg _ (funext fun r => ?_))
  cases r with
  | none => rfl
  | some v =>
    show (letOwnedTupleGo (.Name x px) it v >>= fun _ => assign (.Name x px) env v >>= fun _ =>
      (forIn ifs true fun c r => if r = true then do let ok ← isTrue c env (eval c env); pure (ForInStep.yield ok) else pure (ForInStep.yield r)) >>= fun ok => _) = _
    unfold body1 emitB
    simp only [bind_assoc]
    refine congrArg _ (funext fun _ => congrArg _ (funext fun _ => congrArg _ (funext fun ok => ?_)))
    cases ok with
    | false => simp
    | true => simp [bind_assoc]

noncomputable def g1 (x : Str) (px : Pos) (iter : Expr) : Comprehension := ⟨.Name x px, iter, [], 0⟩
noncomputable def body2 (elt iter iter2 : Expr) (x y : Str) (px py : Pos) (scope : Scope) (pos : Pos) (acc : Value) (env : Env) : Sem Unit :=
  eval iter2 env >>= fun xv => standAt iter2.pos >>= fun _ => foldedSetIterable iter2 env xv >>= fun xv => holding [xv] (pyIter xv) >>= fun it =>
    runOwn (.compStart (.ListComp elt [g1 x px iter, g1 y py iter2] scope pos) 1 it acc env) env >>= fun _ => pure ()
theorem turn2a {elt iter iter2 : Expr} {x y : Str} {px py : Pos} {scope : Scope} {pos : Pos} {it acc : Value} {env : Env} :
    compTurn (.ListComp elt [g1 x px iter, g1 y py iter2] scope pos) 0 it acc env = (standAt iter.pos >>= fun _ => pyNext it >>= fun r => match r with
      | none => pure (.done .next)
      | some v => letOwnedTupleGo (.Name x px) it v >>= fun _ => assign (.Name x px) env v >>= fun _ => body2 elt iter iter2 x y px py scope pos acc env >>= fun _ =>
        again (.compLoop (.ListComp elt [g1 x px iter, g1 y py iter2] scope pos) 0 it acc env)) := by
  show (standAt iter.pos >>= fun _ => pyNext it >>= fun r => _) = _
  refine congrArg _ (funext fun _ => congrArg _ (funext fun r => ?_))
  cases r with
  | none => rfl
  | some v =>
    show (letOwnedTupleGo (.Name x px) it v >>= fun _ => assign (.Name x px) env v >>= fun _ => _) = _
    refine congrArg _ (funext fun _ => congrArg _ (funext fun _ => ?_))
    unfold body2
    simp only [bind_assoc]
    rfl
theorem turn2b {elt iter iter2 : Expr} {x y : Str} {px py : Pos} {scope : Scope} {pos : Pos} {it acc : Value} {env : Env} :
    compTurn (.ListComp elt [g1 x px iter, g1 y py iter2] scope pos) 1 it acc env = (standAt iter2.pos >>= fun _ => pyNext it >>= fun r => match r with
      | none => pure (.done .next)
      | some v => letOwnedTupleGo (.Name y py) it v >>= fun _ => assign (.Name y py) env v >>= fun _ => emitB elt acc env >>= fun _ =>
        again (.compLoop (.ListComp elt [g1 x px iter, g1 y py iter2] scope pos) 1 it acc env)) := by
  show (standAt iter2.pos >>= fun _ => pyNext it >>= fun r => _) = _
  refine congrArg _ (funext fun _ => congrArg _ (funext fun r => ?_))
  cases r with
  | none => rfl
  | some v =>
    show (letOwnedTupleGo (.Name y py) it v >>= fun _ => assign (.Name y py) env v >>= fun _ => _) = _
    refine congrArg _ (funext fun _ => congrArg _ (funext fun _ => ?_))
    unfold emitB
    simp only [bind_assoc]
    rfl
end Mine
end
section
namespace Mine

section
variable {prog : Program} {w : World} {H0 : Heap} {K : Nat} {rec : Kd → Vs → Expr → Option Dat} {env : Env} {A : Around} {s : Shared} {ρ : Vs}

noncomputable def BodyOk (prog : Program) (w : World) (A : Around) (D C : Addr) (body : Sem Unit) (add : List Dat) (ys : Array Value) (s₃ : Shared) : Prop :=
  wpAny (model prog w) A body (fun _ s' => (∃ h' tk, s' = { s₃ with heap := h', toks := tk }) ∧ KeptBut D C [] s₃.heap s'.heap ∧ s₃.toks ≤ s'.toks ∧ (∃ m', s'.heap.Ns C m') ∧ ∃ zs G, s'.heap.PlainList D (ys ++ zs) ∧ DenAll s'.heap zs.toList add G ∧ Fresh s₃ G) No s₃

theorem blockG {s₁ s₂ : Shared} {Fx : List Addr} {items total : List Dat} {itv : Value} {elt iter : Expr} {ifs : List Expr} {rest : List Comprehension} {scope : Scope} {pos p px : Pos} {x : Str} {xs : List Str} {cl : List (Str × Addr)}
    (c : CompOk env.kindOf scope xs) (hx : x ∈ xs) (hIt : IterOk prog w A s₁ items itv Fx s₂) {bodyOf : Value → Env → Sem Unit}
    (hturn : ∀ I D cenv, compTurn (.ListComp elt (⟨.Name x px, iter, ifs, 0⟩ :: rest) scope pos) 0 (.ref I) (.ref D) cenv = (standAt p >>= fun _ => pyNext (.ref I) >>= fun r => match r with
      | none => pure (.done .next)
      | some v => letOwnedTupleGo (.Name x px) (.ref I) v >>= fun _ => assign (.Name x px) cenv v >>= fun _ => bodyOf (.ref D) cenv >>= fun _ => again (.compLoop (.ListComp elt (⟨.Name x px, iter, ifs, 0⟩ :: rest) scope pos) 0 (.ref I) (.ref D) cenv)))
    {step : Dat → Option (List Dat)} (run : runS step items = some total) (hsz : total.length ≤ 200000)
    (hbody : ∀ D C d add v Fv s₃ m₃ ys, step d = some add → Has s₁.heap s₃.heap → s₁.heap.get? D = none → s₁.heap.get? C = none → D ≠ C → s₂.toks ≤ s₃.toks → s₃.heap.Ns C m₃ → m₃ x = some v → Den s₃.heap v d Fv → s₃.heap.PlainList D ys →
      ys.size + add.length ≤ 200000 → BodyOk prog w A D C (bodyOf (.ref D) (compEnvC scope cl C env)) add ys s₃)
    {E : Value → Shared → Prop} {RR : Value → Addr → Result → Shared → Prop}
    (hRR : ∀ D C h' tk m' zs G, s₁.heap.get? D = none → s₁.heap.get? C = none → D ≠ C → s₂.toks ≤ tk → h'.Ns C m' → h'.PlainList D zs → DenAll h' zs.toList total G → (∀ a ∈ G, s₁.heap.get? a = none ∧ a ≠ D ∧ a ≠ C) → G.Nodup → Has s₁.heap h' → RR (.ref D) C (.ok .next) { s₂ with heap := h', toks := tk }) :
    wpAny (model prog w) A (newList []) (fun acc s₃ => wpAny (model prog w) A (newFunctionEnv scope env.globals cl [] env.qual none .none (some env)) (fun cenv s₄ =>
      codeAny (model prog w) A (.compStart (.ListComp elt (⟨.Name x px, iter, ifs, 0⟩ :: rest) scope pos) 0 itv acc { cenv with scope := relabel scope env }) (RR acc cenv.locals) s₄) E s₃) E s₂ := by
  obtain ⟨k12, I, fp, wr, P, St, rfl, W, hlive, hst, hfp, _, hwr, hP⟩ := hIt
  refine wpAny_newObj_type (wpAny_newFunctionEnv c.cell (by intro y hy; simp at hy) (fun h₁ hns₁ hsb₁ => ?_) c.kind)
  dsimp only at hns₁ hsb₁ ⊢
  generalize hH2 : s₂.heap.push { cls := .type "list", dict := none, data := .seq ([] : List Value).toArray } = H2 at hns₁ hsb₁ ⊢
  have hC : H2.objs.size = s₂.heap.objs.size + 1 := by rw [← hH2, Heap.size_push]
  have hDC : s₂.heap.objs.size ≠ H2.objs.size := by rw [hC]; exact Nat.ne_of_lt (Nat.lt_succ_self _)
  have below : ∀ b, b < s₂.heap.objs.size → b ≠ H2.objs.size ∧ b ≠ s₂.heap.objs.size := fun b hb => ⟨by rw [hC]; exact Nat.ne_of_lt (Nat.lt_succ_of_lt hb), Nat.ne_of_lt hb⟩
  have hDf : s₂.heap.objs.size ∉ fp := fun hm => Nat.lt_irrefl _ (hfp _ hm)
  have hCf : H2.objs.size ∉ fp := fun hm => by have := hfp _ hm; rw [hC] at this; exact Nat.lt_irrefl _ (Nat.lt_of_succ_lt this)
  have old : Has s₂.heap h₁ := fun b o e => hsb₁.extBut b o (below b (Heap.lt_size e)).1 (Heap.get?_push_of_some _ (hH2 ▸ Heap.get?_push_of_some _ e))
  have hacc : h₁.PlainList s₂.heap.objs.size #[] := ⟨_, hsb₁.extBut _ _ hDC (Heap.get?_push_of_some _ (hH2 ▸ Heap.get?_push_size _ rfl))⟩
  have hst₁ : St 0 h₁ := W.frame _ _ _ hst fun b _ o e => old b o e
  have fresh : ∀ a, s₂.heap.objs.size ≤ a → s₁.heap.get? a = none := fun a ha => by
    cases e : s₁.heap.get? a with
    | none => rfl
    | some o' => exact absurd (Heap.lt_size (k12.get e)) (Nat.not_lt.mpr ha)
  have fD := fresh _ (Nat.le_refl _)
  have fC := fresh H2.objs.size (by rw [hC]; exact Nat.le_succ _)
  have hB : Has s₁.heap h₁ := k12.has.trans old
  have loop : ∀ s₃ : Shared, s₃ = { s₂ with heap := h₁, toks := s₂.toks + ([] : List (Str × Value)).length } →
      codeAny (model prog w) A (.compLoop (.ListComp elt (⟨.Name x px, iter, ifs, 0⟩ :: rest) scope pos) 0 (.ref I) (.ref s₂.heap.objs.size) (compEnvC scope cl H2.objs.size env))
        (RR (.ref s₂.heap.objs.size) H2.objs.size) s₃ := by
    rintro s₃ rfl
    have hkept : ∀ h', KeptBut s₂.heap.objs.size H2.objs.size wr h₁ h' → Has s₁.heap h' := fun h' hk b o e =>
      hk b o (fun q => live_ne fD e q.symm) (fun q => live_ne fC e q.symm) (fun q => live_ne (hwr b q) e rfl) (hB b o e)
    refine loopG (cenv := compEnvC scope cl H2.objs.size env) (hturn I _ _) W (fun i h st b hb => let ⟨o, e, _⟩ := hlive i h st b hb; ⟨o, e⟩) hst₁ hB hP fD fC hwr hCf hDf hDC (lookup_relabel_local (c.xs x hx).1) (by simp [compEnvC, relabel, c.kind]) hns₁ (ys0 := #[]) hacc run (by simpa using hsz)
      (Mok := fun _ => True) trivial (fun _ _ _ => trivial) (fun d add v Fv s₃ m₃ ys h1 h2 h3 h4 _ h5 h6 h7 h8 => ?_) fun h' tk m' zs G h1 h2 h3 h4 h5 h6 => ?_
    · refine wpThen (hbody _ _ d add v Fv s₃ m₃ ys h1 (hkept _ h2) fD fC hDC h3 h4 h5 h6 h7 h8) fun _ s' h => ?_
      obtain ⟨a, b, c, ⟨m', d⟩, e⟩ := h
      exact ⟨a, b, c, ⟨m', d, trivial⟩, e⟩
    · refine hRR _ _ h' tk m' zs G fD fC hDC h1 h2 (by simpa using h3) h4 (fun a ha => ?_) h5.once (hkept _ h6)
      have hf := h5.gone a ha
      have e1 : s₁.heap.get? a = none := by
        cases q : s₁.heap.get? a with
        | none => rfl
        | some o => exact absurd rfl (live_ne hf (hB a o q))
      refine ⟨e1, ?_, ?_⟩
      · obtain ⟨_, e⟩ := hacc
        exact live_ne hf e
      · obtain ⟨_, _, _, e, _⟩ := hns₁
        exact live_ne hf e
  exact codeAny_compStart_list (loop _ rfl) (W.self 0 _ _ _ hst₁ (loop _ rfl))

/-! ## tests -/
theorem behind_false {op : CmpOp} {a b d : Dat} (e : cmpD op a b = some d) (r : Expr) : behindInMarks op r = false := by
  cases r with
  | Set elts k p =>
    unfold behindInMarks
    cases op <;> first | (simp; done) | (simp [cmpD] at e)
  | _ => rfl

theorem truE_val (S : SoundE prog w H0 K rec) (O : EOk env) (R : Rm A K) (T : St H0 s) (V : VarsOk env s.heap ρ) {e : Expr} {t : Bool} (he : ∀ whole : Sem Value, isTrue e env whole = (do let v ← whole; standAt e.pos; holding [v] (truthy v))) (q : (rec env.kindOf ρ e).bind truD = some t) :
    wpAny (model prog w) A (isTrue e env (eval e env)) (fun b s' => b = t ∧ Kp s s') No s := by
  obtain ⟨d, q1, q'⟩ := bind_inv q
  exact wpAny_isTrue_value (S.go O R T V q1 fun v s₁ F k ht hd => truD_sound q' hd ⟨rfl, k⟩) (he _)
theorem truE_sound (S : SoundE prog w H0 K rec) (O : EOk env) (R : Rm A K) (T : St H0 s) (V : VarsOk env s.heap ρ) {e : Expr} {t : Bool} (q : truE rec env.kindOf ρ e = some t) :
    wpAny (model prog w) A (isTrue e env (eval e env)) (fun b s' => b = t ∧ Kp s s') No s := by
  cases e with
  | BoolOp => exact nn q
  | UnaryOp => exact nn q
  | IfExp => exact nn q
  | Compare l ops rs p =>
    have q : tcF rec env.kindOf ρ l ops rs = some t := q
    match ops, rs, q with
    | [], [], q => exact nn q
    | [], _ :: _, q => exact nn q
    | [_], [], q => exact nn q
    | [_], _ :: _ :: _, q => exact nn q
    | _ :: _ :: _, [], q => exact nn q
    | _ :: _ :: _, _ :: _, q => exact nn q
    | [op], [r], q =>
      obtain ⟨a, q1, q⟩ := bind_inv q
      obtain ⟨b, q2, q⟩ := bind_inv q
      obtain ⟨d, hc, q⟩ := bind_inv q
      refine wpAny_isTrue_Compare1 (S.go O R T V q1 fun va s₁ F1 k1 ht hd1 => ?_) (behind_false hc r)
      refine S.go O R (T.kp k1 ht) (V.kp k1) q2 fun vb s₂ F2 k2 _ hd2 => ?_
      refine wpThen (cmpD_sound R hc (k2.den hd1) hd2) fun vc s₃ h₃ => ?_
      obtain ⟨k3, F3, hd3, _⟩ := h₃
      exact truD_sound q hd3 ⟨rfl, k1.trans (k2.trans k3)⟩
  | _ => exact truE_val S O R T V (fun _ => rfl) q

theorem allE_sound (S : SoundE prog w H0 K rec) (O : EOk env) (R : Rm A K) : ∀ {es : List Expr} {t : Bool} {s : Shared}, St H0 s → VarsOk env s.heap ρ → allE rec env.kindOf ρ es = some t →
    wpAny (model prog w) A (allTrue .And es env) (fun b s' => b = t ∧ Kp s s') No s
  | [], t, s, T, V, q => by cases q; exact wpAny_allTrue_And_nil ⟨rfl, Kp.refl s⟩
  | e :: es, t, s, T, V, q => by
    rw [allE] at q
    refine wpAny_allTrue_And_cons ?_
    split at q
    · rename_i hb
      refine wpSeq (truE_sound S O R T V hb) fun b s₁ h₁ ht => ?_
      obtain ⟨rfl, k⟩ := h₁
      rw [if_pos rfl]
      exact wpThen (allE_sound S O R (T.kp k ht) (V.kp k) q) fun b s₂ h₂ => ⟨h₂.1, k.trans h₂.2⟩
    · rename_i hb
      cases q
      refine wpSeq (truE_sound S O R T V hb) fun b s₁ h₁ ht => ?_
      obtain ⟨rfl, k⟩ := h₁
      exact ⟨rfl, k⟩
    · cases q
theorem anyE_sound (S : SoundE prog w H0 K rec) (O : EOk env) (R : Rm A K) : ∀ {es : List Expr} {t : Bool} {s : Shared}, St H0 s → VarsOk env s.heap ρ → anyE rec env.kindOf ρ es = some t →
    wpAny (model prog w) A (allTrue .Or es env) (fun b s' => b = t ∧ Kp s s') No s
  | [], t, s, T, V, q => by cases q; exact wpAny_allTrue_Or_nil ⟨rfl, Kp.refl s⟩
  | e :: es, t, s, T, V, q => by
    rw [anyE] at q
    refine wpAny_allTrue_Or_cons ?_
    split at q
    · rename_i hb
      cases q
      refine wpSeq (truE_sound S O R T V hb) fun b s₁ h₁ ht => ?_
      obtain ⟨rfl, k⟩ := h₁
      exact ⟨rfl, k⟩
    · rename_i hb
      refine wpSeq (truE_sound S O R T V hb) fun b s₁ h₁ ht => ?_
      obtain ⟨rfl, k⟩ := h₁
      exact wpThen (anyE_sound S O R (T.kp k ht) (V.kp k) q) fun b s₂ h₂ => ⟨h₂.1, k.trans h₂.2⟩
    · cases q
theorem tst_sound (S : SoundE prog w H0 K rec) (O : EOk env) (R : Rm A K) (T : St H0 s) (V : VarsOk env s.heap ρ) {e : Expr} {t : Bool} (q : tst rec env.kindOf ρ e = some t) :
    wpAny (model prog w) A (isTrue e env (eval e env)) (fun b s' => b = t ∧ Kp s s') No s := by
  unfold tst at q
  split at q
  · exact wpAny_isTrue_BoolOp (allE_sound S O R T V q)
  · exact wpAny_isTrue_BoolOp (anyE_sound S O R T V q)
  · exact truE_sound S O R T V q
end
end Mine
end
section
namespace Mine

theorem VarsOk.has {env : Env} {h h' : Heap} {ρ : Vs} (k : Has h h') (V : VarsOk env h ρ) : VarsOk env h' ρ := fun x d e => by
  obtain ⟨p, v, F, a, b⟩ := V x d e
  refine ⟨p, v, F, ?_, k.den b⟩
  rcases a with ⟨a, m, n, e⟩ | ⟨a, c, e, i⟩
  · exact .inl ⟨a, m, n.keeps k, e⟩
  · exact .inr ⟨a, c, e, i.keeps k⟩
theorem St.has {H0 : Heap} {s s' : Shared} (T : St H0 s) (k : Has s.heap s'.heap) (t : s.toks ≤ s'.toks) : St H0 s' := ⟨fun b o e => k b o (T.keep b o e), Nat.lt_of_lt_of_le T.tok t⟩

noncomputable def stepC (rec : Kd → Vs → Expr → Option Dat) (κ' : Kd) (ρ : Vs) (x : Str) (elt : Expr) (ifs : List Expr) (v : Dat) : Option (List Dat) :=
  match compTest rec κ' (inComp κ' ρ (bind1 x v nob)) ifs with
  | some true => match rec κ' (inComp κ' ρ (bind1 x v nob)) elt with
    | some d => if (freshE elt || imm d) = true then some [d] else none
    | none => none
  | some false => some []
  | none => none
theorem compRun_eq {rec : Kd → Vs → Expr → Option Dat} {κ' : Kd} {ρ : Vs} {x : Str} {elt : Expr} {ifs : List Expr} : ∀ l, compRun rec κ' ρ x elt ifs l = runS (stepC rec κ' ρ x elt ifs) l
  | [] => rfl
  | v :: r => by
    rw [compRun, runS, stepC, compRun_eq r]
    cases compTest rec κ' (inComp κ' ρ (bind1 x v nob)) ifs with
    | none => rfl
    | some b =>
      cases b with
      | false =>
        dsimp only
        cases runS (stepC rec κ' ρ x elt ifs) r <;> rfl
      | true =>
        dsimp only
        cases rec κ' (inComp κ' ρ (bind1 x v nob)) elt with
        | none => rfl
        | some d =>
          dsimp only
          by_cases hc : (freshE elt || imm d) = true
          · rw [if_pos hc, if_pos hc]
            cases runS (stepC rec κ' ρ x elt ifs) r <;> rfl
          · rw [if_neg hc, if_neg hc]

noncomputable def step2b (rec : Kd → Vs → Expr → Option Dat) (κ' : Kd) (ρ : Vs) (x : Str) (v : Dat) (y : Str) (elt : Expr) (u : Dat) : Option (List Dat) :=
  match rec κ' (inComp κ' ρ (bind1 y u (bind1 x v nob))) elt with
  | some d => if imm d = true then some [d] else none
  | none => none
theorem compRun2b_eq {rec : Kd → Vs → Expr → Option Dat} {κ' : Kd} {ρ : Vs} {x y : Str} {v : Dat} {elt : Expr} : ∀ l, compRun2b rec κ' ρ x v y elt l = runS (step2b rec κ' ρ x v y elt) l
  | [] => rfl
  | u :: r => by
    rw [compRun2b, runS, step2b, compRun2b_eq r]
    cases rec κ' (inComp κ' ρ (bind1 y u (bind1 x v nob))) elt with
    | none => rfl
    | some d =>
      dsimp only
      by_cases hc : imm d = true
      · rw [if_pos hc, if_pos hc]
        cases runS (step2b rec κ' ρ x v y elt) r <;> rfl
      · rw [if_neg hc, if_neg hc]
noncomputable def step2 (rec : Kd → Vs → Expr → Option Dat) (κ' : Kd) (ρ : Vs) (x y : Str) (iter2 elt : Expr) (v : Dat) : Option (List Dat) :=
  match itemsD (rec κ' (inComp κ' ρ (bind1 x v nob)) iter2) with
  | some us => if us.all imm = true ∧ freshE iter2 = true ∧ imm v = true then compRun2b rec κ' ρ x v y elt us else none
  | none => none
theorem compRun2_eq {rec : Kd → Vs → Expr → Option Dat} {κ' : Kd} {ρ : Vs} {x y : Str} {iter2 elt : Expr} : ∀ l, compRun2 rec κ' ρ x y iter2 elt l = runS (step2 rec κ' ρ x y iter2 elt) l
  | [] => rfl
  | u :: r => by
    rw [compRun2, runS, step2, compRun2_eq r]
    cases itemsD (rec κ' (inComp κ' ρ (bind1 x u nob)) iter2) with
    | none => rfl
    | some us =>
      dsimp only
      by_cases hc : us.all imm = true ∧ freshE iter2 = true ∧ imm u = true
      · rw [if_pos hc, if_pos hc] <;> rfl
      · rw [if_neg hc, if_neg hc]

section
variable {prog : Program} {w : World} {H0 : Heap} {K : Nat} {rec : Kd → Vs → Expr → Option Dat} {env : Env} {A : Around} {s : Shared} {ρ : Vs}

theorem emit_ok {s₃ s₄ : Shared} {elt : Expr} {D C : Addr} {cenv : Env} {d : Dat} {ys : Array Value} {m₃ : Str → Option Value} (k34 : Kp s₃ s₄) (ht34 : s₃.toks ≤ s₄.toks) (hDC : D ≠ C) (hn : s₃.heap.Ns C m₃) (hl : s₃.heap.PlainList D ys) (hsz : ys.size ≤ 200000)
    (h : wpAny (model prog w) A (eval elt cenv) (Gives s₄ d) No s₄) :
    wpAny (model prog w) A (emitB elt (.ref D) cenv) (fun _ s' => (∃ h' tk, s' = { s₃ with heap := h', toks := tk }) ∧ KeptBut D C [] s₃.heap s'.heap ∧ s₃.toks ≤ s'.toks ∧ s'.heap.Ns C m₃ ∧ ∃ zs G, s'.heap.PlainList D (ys ++ zs) ∧ DenAll s'.heap zs.toList [d] G ∧ Fresh s₃ G) No s₄ := by
  unfold emitB
  refine wpAny_bind (wpSeq h fun v s₅ h₅ ht5 => ?_)
  obtain ⟨k45, F, hd, hf⟩ := h₅
  have k35 := k34.trans k45
  have hl5 : s₅.heap.PlainList D ys := hl.at fun o e => k35.get e
  have hl4 : s₄.heap.PlainList D ys := hl.at fun o e => k34.get e
  have hDF : ∀ a ∈ F, a ≠ D := fun a ha => by obtain ⟨_, e⟩ := hl4; exact live_ne (hf.gone a ha) e
  refine wpAny_bind (wpAny_list_append_plain hl5 (fun h₆ hl₆ hs₆ => wpAny_pure ?_) (by rw [sizeLine_eq]; (first | decide | lia | omega)))
  refine ⟨?_, ?_, ?_, ?_, #[v], F, ?_, ?_, ?_⟩
  · obtain ⟨h', tk, rfl, _⟩ := k35
    exact ⟨h₆, tk, rfl⟩
  · exact fun b o h1 h2 _ e => hs₆.extBut b o h1 (k35.get e)
  · exact Nat.le_trans ht34 ht5
  · exact (hn.keeps k35.has).sameBut hs₆ (Ne.symm hDC)
  · simpa using hl₆
  · have hv : Den h₆ v d F := hd.mono fun a ha o e => hs₆.extBut a o (hDF a ha) e
    have := DenAll.cons hv .nil
    simpa using this
  · exact Fresh.back k34 hf

theorem body1_ok (S : SoundE prog w H0 K rec) (O : EOk env) (R : Rm A K) {scope : Scope} {x : Str} {cl : List (Str × Addr)} (c : CompOk env.kindOf scope [x]) (h1 : ∀ y c, cl.lookup y = some c → env.cells.lookup y = some c) (h2 : ∀ y, (y, NameKind.free) ∈ scope.names → (cl.lookup y).isSome = true)
    {s₃ : Shared} (T : St H0 s₃) (V : VarsOk env s₃.heap ρ) {elt : Expr} {ifs : List Expr} {D C : Addr} {d : Dat} {add : List Dat} {v : Value} {Fv : List Addr} {m₃ : Str → Option Value} {ys : Array Value}
    (q : stepC rec (relab scope env.kindOf) ρ x elt ifs d = some add) (hDC : D ≠ C) (hn : s₃.heap.Ns C m₃) (hm : m₃ x = some v) (hd : Den s₃.heap v d Fv) (hl : s₃.heap.PlainList D ys) (hsz : ys.size + add.length ≤ 200000) :
    BodyOk prog w A D C (body1 ifs elt (.ref D) (compEnvC scope cl C env)) add ys s₃ := by
  have Oc : EOk (compEnvC scope cl C env) := comp_env O c h2
  have Vc : VarsOk (compEnvC scope cl C env) s₃.heap (inComp (relab scope env.kindOf) ρ (bind1 x d nob)) := comp_vars O c h1 h2 V hn fun y e he => by
    unfold bind1 at he
    split at he
    · rename_i hy
      cases he; subst hy
      exact ⟨(c.xs y (.head _)).2, v, Fv, hm, hd⟩
    · cases he
  have hk := compEnv_kindOf (scope := scope) (cl := cl) (C := C) O
  unfold BodyOk body1
  unfold stepC at q
  have tests : ∀ b, compTest rec (relab scope env.kindOf) (inComp (relab scope env.kindOf) ρ (bind1 x d nob)) ifs = some b →
      wpAny (model prog w) A (forIn ifs true fun c r => if r = true then do let ok ← isTrue c (compEnvC scope cl C env) (eval c (compEnvC scope cl C env)); pure (ForInStep.yield ok) else pure (ForInStep.yield r)) (fun ok s' => ok = b ∧ Kp s₃ s') No s₃ := fun b hb => by
    rw [← hk] at hb
    unfold compTest at hb
    split at hb
    · cases hb; exact wpAny_tests_nil ⟨rfl, Kp.refl s₃⟩
    · exact wpAny_tests_one (truE_sound S Oc R T Vc (by rw [hk] at hb ⊢; exact hb))
    · cases hb
  split at q
  · rename_i ht
    cases q1 : rec (relab scope env.kindOf) (inComp (relab scope env.kindOf) ρ (bind1 x d nob)) elt with
    | none => rw [q1] at q; cases q
    | some e =>
      rw [q1] at q
      dsimp only at q
      split at q
      · rename_i hfr
        cases q
        refine wpAny_bind (wpSeq (tests true ht) fun ok s₄ h₄ ht4 => ?_)
        obtain ⟨rfl, k34⟩ := h₄
        rw [if_pos rfl]
        refine wpThen (emit_ok (d := e) k34 ht4 hDC hn hl (by (first | decide | lia | omega)) ?_) fun _ s' h => ?_
        · refine wpThen (S.ok _ A s₄ _ elt e Oc R (T.kp k34 ht4) (Vc.kp k34) (by rw [hk]; exact q1)) fun v' s' g => ?_
          rw [Bool.or_eq_true] at hfr
          rcases hfr with hfr | hfr
          · rw [hfr] at g; exact g.gives
          · exact g.imm hfr
        · obtain ⟨a1, a2, a3, a4, a5⟩ := h
          exact ⟨a1, a2, a3, ⟨_, a4⟩, a5⟩
      · cases q
  · rename_i ht
    cases q
    refine wpAny_bind (wpSeq (tests false ht) fun ok s₄ h₄ ht4 => ?_)
    obtain ⟨rfl, k34⟩ := h₄
    rw [if_neg (by decide)]
    refine wpAny_pure ⟨?_, fun b o _ _ _ e => k34.get e, ht4, ⟨_, hn.keeps k34.has⟩, #[], [], ?_, .nil, Fresh.nil⟩
    · obtain ⟨h', tk, rfl, _⟩ := k34
      exact ⟨h', tk, rfl⟩
    · simpa using hl.at fun o e => k34.get e
  · cases q

theorem compStart1 {prog : Program} {w : World} {A : Around} {R : Result → Shared → Prop} {s : Shared} {elt : Expr} {c1 : Comprehension} {x : Str} {px : Pos} {iter : Expr} {scope : Scope} {pos : Pos} {it acc : Value} {env : Env}
    (h0 : codeAny (model prog w) A (.compLoop (.ListComp elt [c1, g1 x px iter] scope pos) 1 it acc env) R s)
    (h : wpAny (model prog w) A (pyIter it) (fun it' s' => codeAny (model prog w) A (.compLoop (.ListComp elt [c1, g1 x px iter] scope pos) 1 it' acc env) R s') No s) :
    codeAny (model prog w) A (.compStart (.ListComp elt [c1, g1 x px iter] scope pos) 1 it acc env) R s := by
  refine codeAny_of_tree ?_
  show wpAny _ _ ((compStart (.ListComp elt [c1, g1 x px iter] scope pos) 1 it acc env).onRaise (fun x => do noteFrame x env; standAt theWindowsPlace)) _ _ s
  refine wpAny_notedAt (wpNo ?_)
  unfold compStart
  show wpAny _ _ (ask >>= _) _ _ s
  refine wpAny_bind (wpAny_askSetting (wpAny_ite ?_))
  split
  · first
      | exact wpAny_bind (wpAny_pure (wpAny_pure (And.intro rfl h0)))
      | exact wpAny_pure (And.intro rfl h0)
  · first
      | exact wpAny_bind (wpAny_rule (wpAny_bind (wpAny_standAt (wpAny_bind (wpAny_mono h (fun it' s' h' => wpAny_pure (And.intro rfl h')) fun _ _ x => x)))))
      | (refine wpAny_bind (wpAny_rule ?_); show wpAny _ _ (standAt iter.pos >>= _) _ _ s; exact wpAny_bind (wpAny_standAt (wpAny_bind (wpAny_mono h (fun it' s' h' => wpAny_pure (And.intro rfl h')) fun _ _ x => x))))

theorem folded_id {e : Expr} {env : Env} (h : ∀ es k p, e ≠ .Set es k p) (x : Value) : foldedSetIterable e env x = pure x := by
  unfold foldedSetIterable
  cases e with
  | Set es k p => exact absurd rfl (h _ _ _)
  | _ => rfl
theorem notset (S : SoundE prog w H0 K rec) {κ : Kd} {x : Expr} {d : Dat} (q : rec κ ρ x = some d) : ∀ es k p, x ≠ .Set es k p := fun y k p hy => by rw [hy, S.noset] at q; cases q

noncomputable def InnerPost (D C : Addr) (add : List Dat) (ys : Array Value) (s₃ s' : Shared) : Prop :=
  (∃ h' tk, s' = { s₃ with heap := h', toks := tk }) ∧ KeptBut D C [] s₃.heap s'.heap ∧ s₃.toks ≤ s'.toks ∧ (∃ m', s'.heap.Ns C m') ∧ ∃ zs G, s'.heap.PlainList D (ys ++ zs) ∧ DenAll s'.heap zs.toList add G ∧ Fresh s₃ G

theorem body2_ok (S : SoundE prog w H0 K rec) (O : EOk env) (R : Rm A K) {scope : Scope} {x y : Str} {cl : List (Str × Addr)} (c : CompOk env.kindOf scope [x, y]) (hxy : x ≠ y) (h1 : ∀ y c, cl.lookup y = some c → env.cells.lookup y = some c) (h2 : ∀ y, (y, NameKind.free) ∈ scope.names → (cl.lookup y).isSome = true)
    {s₁ s₃ : Shared} (T1 : St H0 s₁) (V1 : VarsOk env s₁.heap ρ) (k13 : Has s₁.heap s₃.heap) (t13 : s₁.toks ≤ s₃.toks) {elt iter iter2 : Expr} {px py pos : Pos} {D C : Addr} {d : Dat} {add : List Dat} {v : Value} {Fv : List Addr} {m₃ : Str → Option Value} {ys : Array Value}
    (q : step2 rec (relab scope env.kindOf) ρ x y iter2 elt d = some add) (hDC : D ≠ C) (hn : s₃.heap.Ns C m₃) (hm : m₃ x = some v) (hd : Den s₃.heap v d Fv) (hl : s₃.heap.PlainList D ys) (hsz : ys.size + add.length ≤ 200000) (hD1 : s₁.heap.get? D = none) (hC1 : s₁.heap.get? C = none) :
    BodyOk prog w A D C (body2 elt iter iter2 x y px py scope pos (.ref D) (compEnvC scope cl C env)) add ys s₃ := by
  have T : St H0 s₃ := T1.has k13 t13
  have V : VarsOk env s₃.heap ρ := VarsOk.has k13 V1
  have Oc : EOk (compEnvC scope cl C env) := comp_env O c h2
  have Vc : VarsOk (compEnvC scope cl C env) s₃.heap (inComp (relab scope env.kindOf) ρ (bind1 x d nob)) := comp_vars O c h1 h2 V hn fun z e he => by
    unfold bind1 at he
    split at he
    · rename_i hy
      cases he; subst hy
      exact ⟨(c.xs z (.head _)).2, v, Fv, hm, hd⟩
    · cases he
  have hk := compEnv_kindOf (scope := scope) (cl := cl) (C := C) O
  unfold BodyOk body2
  unfold step2 at q
  cases q1 : rec (relab scope env.kindOf) (inComp (relab scope env.kindOf) ρ (bind1 x d nob)) iter2 with
  | none => rw [q1] at q; cases q
  | some o =>
    rw [q1] at q
    obtain ⟨us, rfl⟩ : ∃ us, o = .list us := by cases o <;> first | exact ⟨_, rfl⟩ | cases q
    · skip
      have q' : (if us.all imm = true ∧ freshE iter2 = true ∧ imm d = true then compRun2b rec (relab scope env.kindOf) ρ x d y elt us else none) = some add := q
      split at q'
      · rename_i hus
        rw [compRun2b_eq] at q'
        refine wpAny_bind (wpSeq (S.ok _ A s₃ _ iter2 _ Oc R T Vc (by rw [hk]; exact q1)) fun xv s₄ h₄ ht4 => ?_)
        have hi := hus.2.2
        rw [hus.2.1] at h₄
        obtain ⟨k34, F4, hd4, hf4⟩ := h₄
        have hf4 := hf4 rfl
        refine wpAny_bind (wpAny_standAt (wpAny_bind (wpAny_of_eq (folded_id (notset S q1) xv) (wpAny_bind (wpAny_holding ?_)))))
        refine wpSeq (iter_list R hd4) fun itv s₅ h₅ ht5 => ?_
        obtain ⟨k45, I, fp, wr, P, St', rfl, W, hlive, hst, hfp, hfx, hwr, hP⟩ := h₅
        have k35 := k34.trans k45
        have hDfp : D ∉ fp := fun h => by
          obtain ⟨_, e⟩ := hl
          rcases hfx D h with z | z
          · exact live_ne (hwr D z) (k34.get e) rfl
          · exact live_ne (hf4.gone D z) e rfl
        have hCfp : C ∉ fp := fun h => by
          obtain ⟨_, _, _, e, _⟩ := hn
          rcases hfx C h with z | z
          · exact live_ne (hwr C z) (k34.get e) rfl
          · exact live_ne (hf4.gone C z) e rfl
        have hn5 : s₅.heap.Ns C m₃ := hn.keeps k35.has
        have hl5 : s₅.heap.PlainList D ys := hl.at fun o e => k35.get e
        have loop : codeAny (model prog w) A (.compLoop (.ListComp elt [g1 x px iter, g1 y py iter2] scope pos) 1 (.ref I) (.ref D) (compEnvC scope cl C env))
            (fun r s' => match r with | .ok _ => InnerPost D C add ys s₃ s' | .error e => cameBackBy (model prog w) A (compEnvC scope cl C env) No e s') s₅ := by
          refine loopG (cenv := compEnvC scope cl C env) (p := iter2.pos) (px := py) (x := y) (body := emitB elt (.ref D) (compEnvC scope cl C env)) turn2b W (fun i h st b hb => let ⟨o, e, _⟩ := hlive i h st b hb; ⟨o, e⟩) hst (B := {}) (fun b o e => by simp [Heap.get?] at e) (fun i v hv => ?_) (by simp [Heap.get?]) (by simp [Heap.get?]) (fun b hb => by simp [Heap.get?]) hCfp hDfp hDC
            (lookup_relabel_local (c.xs y (by simp)).1) (by simp [compEnvC, relabel, c.kind]) hn5 hl5 q' hsz (Mok := fun m => m x = some v) hm (fun m v' hM => ?_) (fun u add' v' Fv' s₆ m₆ ys' g1' g2 g3 g4 g5 g6 g7 g8 g9 => ?_) fun h' tk m' zs G g1' g2 g3 g4 g5 g6 => ?_
          · obtain ⟨d', F', e1, e2⟩ := hP i v hv
            have himm : imm d' = true := by
              have := List.all_eq_true.mp hus.1 d' (List.mem_of_getElem? e1)
              exact this
            exact ⟨d', [], e1, e2.imm_any himm⟩
          · simp [hxy, hM]
          · unfold step2b at g1'
            have k16 : Has s₁.heap s₆.heap := fun b o e => g2 b o (fun z => live_ne hD1 e z.symm) (fun z => live_ne hC1 e z.symm) (fun z => live_ne (hwr b z) (k34.get (k13 b o e)) rfl) (k35.get (k13 b o e))
            have T6 : St H0 s₆ := T1.has k16 (Nat.le_trans t13 (Nat.le_trans ht4 (Nat.le_trans ht5 g3)))
            have V6 : VarsOk (compEnvC scope cl C env) s₆.heap (inComp (relab scope env.kindOf) ρ (bind1 y u (bind1 x d nob))) := comp_vars O c h1 h2 (VarsOk.has k16 V1) g4 fun z e he => by
              unfold bind1 at he
              split at he
              · rename_i hz
                cases he; subst hz
                exact ⟨(c.xs z (by simp)).2, v', Fv', g6, g7⟩
              · split at he
                · rename_i hz
                  cases he; subst hz
                  exact ⟨(c.xs z (.head _)).2, v, [], g5, hd.imm_any hi⟩
                · cases he
            split at g1'
            · rename_i e0 hq2
              split at g1'
              · rename_i hie
                cases g1'
                refine wpThen (emit_ok (d := e0) (Kp.refl s₆) (Nat.le_refl _) hDC g4 g8 (by simp only [List.length_cons, List.length_nil] at g9; (first | decide | lia | omega)) ?_) fun _ s' h => ?_
                · refine wpThen (S.ok _ A s₆ _ elt _ Oc R T6 V6 (by rw [hk]; exact hq2)) fun v' s' g => g.imm hie
                · obtain ⟨a1, a2, a3, a4, a5⟩ := h
                  exact ⟨a1, a2, a3, ⟨_, a4, g5⟩, a5⟩
              · cases g1'
            · cases g1'
          · refine ⟨?_, fun b o z1 z2 _ e => ?_, Nat.le_trans ht4 (Nat.le_trans ht5 g1'), ⟨m', g2⟩, zs, G, g3, g4, ⟨fun a ha => ?_, g5.once⟩⟩
            · obtain ⟨h'', tk'', rfl, _⟩ := k35
              exact ⟨h', tk, rfl⟩
            · refine g6 b o z1 z2 (fun z => ?_) (k35.get e)
              exact live_ne (hwr b z) (k34.get e) rfl
            · exact k35.gone (g5.gone a ha)
        refine wpAny_bind (wpAny_mono (wpAny_runOwn (compStart1 loop (W.self 0 _ _ _ hst loop))) (fun f s' h => wpAny_pure h) fun _ _ e => e)
      · cases q'
end
end Mine
end
section
namespace Mine
section
variable {prog : Program} {w : World} {H0 : Heap} {K : Nat} {rec : Kd → Vs → Expr → Option Dat} {env : Env} {A : Around} {s : Shared} {ρ : Vs}

/-- what is known when a comprehension's list stands -/
structure Made (s : Shared) (ds : List Dat) (D C : Addr) (h' : Heap) (tk : Nat) (m : Str → Option Value) (G : List Addr) : Prop where
  fD : s.heap.get? D = none
  fC : s.heap.get? C = none
  ne : D ≠ C
  ns : h'.Ns C m
  den : Den h' (.ref D) (.list ds) (D :: G)
  fresh : ∀ a ∈ G, s.heap.get? a = none
  once : G.Nodup
  apart : ∀ a ∈ G, a ≠ D ∧ a ≠ C
  has : Has s.heap h'
  toks : s.toks ≤ tk

theorem made_of {s s₁ s₂ : Shared} {ds : List Dat} {D C : Addr} {h' : Heap} {tk : Nat} {m : Str → Option Value} {zs : Array Value} {G : List Addr} (k : Kp s s₁) (t01 : s.toks ≤ s₁.toks) (t12 : s₁.toks ≤ s₂.toks)
    (hD : s₁.heap.get? D = none) (hC : s₁.heap.get? C = none) (ne : D ≠ C) (ht : s₂.toks ≤ tk) (hn : h'.Ns C m) (hl : h'.PlainList D zs) (hd : DenAll h' zs.toList ds G) (hG : ∀ a ∈ G, s₁.heap.get? a = none ∧ a ≠ D ∧ a ≠ C) (hgo : G.Nodup) (hh : Has s₁.heap h') :
    Made s ds D C h' tk m G where
  fD := k.gone hD
  fC := k.gone hC
  ne := ne
  ns := hn
  den := by
    obtain ⟨n, e⟩ := hl
    exact .list (vs := zs.toList) (n := n) (by rw [e]) hd
  fresh := fun a ha => k.gone (hG a ha).1
  once := hgo
  apart := fun a ha => (hG a ha).2
  has := k.has.trans hh
  toks := by (first | decide | lia | omega)

theorem kp_with {s s₁ s₂ : Shared} (k : Kp s s₁) (k' : Kp s₁ s₂) (h' : Heap) (tk : Nat) : { s₂ with heap := h', toks := tk } = { s with heap := h', toks := tk } := by
  obtain ⟨_, _, rfl, _⟩ := k
  obtain ⟨_, _, rfl, _⟩ := k'
  rfl

theorem comp1_core (Gl0 : Gl H0) (S : SoundE prog w H0 K rec) (O : EOk env) (R : Rm A K) (T : St H0 s) (V : VarsOk env s.heap ρ) {use : Option (Value → Sem Unit)} {Q : Value → Shared → Prop} {elt iter : Expr} {x : Str} {px pos p : Pos} {ifs : List Expr} {scope : Scope} {items ds : List Dat}
    (hc : compOk env.kindOf scope [x] = true) (e1 : iterE rec env.kindOf ρ iter = some items) (e2 : compRun rec (relab scope env.kindOf) ρ x elt ifs items = some ds) (hlen : ds.length ≤ lineMax)
    (hset : ∀ es k p, iter ≠ .Set es k p)
    (hU : ∀ D C h' tk m G, Made s ds D C h' tk m G → compPost (model prog w) A No use Q (.ref D) C (.ok .next) { s with heap := h', toks := tk }) :
    wpAny (model prog w) A (comprehension (.ListComp elt [⟨.Name x px, iter, ifs, 0⟩] scope pos) scope env p (newList []) false (eval iter env) use) Q No s := by
  have c := compOk_is hc
  obtain ⟨cl, hcl, h1, h2⟩ := closure_for (comp_free O c)
  rw [compRun_eq] at e2
  unfold lineMax at hlen
  refine wpAny_comprehension_free rfl (folded_id hset) hcl c.kind c.locals (wpThen (iter_sound Gl0 S O R T V e1) fun xv s₁ h₁ => ?_)
  obtain ⟨k01, t01, Fx, hit⟩ := h₁
  refine wpSeq hit fun itv s₂ h₂ t12 => ?_
  refine blockG c (.head _) h₂ (bodyOf := fun acc cenv => body1 ifs elt acc cenv) (fun I D cenv => turn1) e2 (by (first | decide | lia | omega)) (fun D C d add v Fv s₃ m₃ ys q k13 fD fC ne t23 hn hm hd hl hsz => ?_) fun D C h' tk m zs G fD fC ne t2 hn hl hd hG hgo hh => ?_
  · exact body1_ok S O R c h1 h2 (T.has (k01.has.trans k13) (by (first | decide | lia | omega))) (VarsOk.has (k01.has.trans k13) V) q ne hn hm hd hl hsz
  · rw [kp_with k01 h₂.1]
    exact hU D C h' tk m G (made_of k01 t01 t12 fD fC ne t2 hn hl hd hG hgo hh)

theorem comp2_core (S : SoundE prog w H0 K rec) (O : EOk env) (R : Rm A K) (T : St H0 s) (V : VarsOk env s.heap ρ) {use : Option (Value → Sem Unit)} {Q : Value → Shared → Prop} {elt iter iter2 : Expr} {x y : Str} {px py pos p : Pos} {scope : Scope} {items ds : List Dat}
    (hc : compOk env.kindOf scope [x, y] = true) (hxy : x ≠ y) (e1 : itemsD (rec env.kindOf ρ iter) = some items) (e2 : compRun2 rec (relab scope env.kindOf) ρ x y iter2 elt items = some ds) (hlen : ds.length ≤ lineMax)
    (hU : ∀ D C h' tk m G, Made s ds D C h' tk m G → compPost (model prog w) A No use Q (.ref D) C (.ok .next) { s with heap := h', toks := tk }) :
    wpAny (model prog w) A (comprehension (.ListComp elt [g1 x px iter, g1 y py iter2] scope pos) scope env p (newList []) false (eval iter env) use) Q No s := by
  have c := compOk_is hc
  obtain ⟨cl, hcl, h1, h2⟩ := closure_for (comp_free O c)
  rw [compRun2_eq] at e2
  unfold lineMax at hlen
  cases q1 : rec env.kindOf ρ iter with
  | none => rw [q1] at e1; cases e1
  | some o =>
    rw [q1] at e1
    obtain ⟨us, rfl⟩ : ∃ us, o = .list us := by cases o <;> first | exact ⟨_, rfl⟩ | cases e1
    cases e1
    refine wpAny_comprehension_free rfl (folded_id (notset S q1)) hcl c.kind c.locals (S.go O R T V q1 fun xv s₁ F k01 t01 hd => ?_)
    refine wpSeq (iter_list R hd) fun itv s₂ h₂ t12 => ?_
    refine blockG c (.head _) h₂ (bodyOf := fun acc cenv => body2 elt iter iter2 x y px py scope pos acc cenv) (fun I D cenv => turn2a) e2 (by (first | decide | lia | omega)) (fun D C d add v Fv s₃ m₃ ys q k13 fD fC ne t23 hn hm hd hl hsz => ?_) fun D C h' tk m zs G fD fC ne t2 hn hl hd hG hgo hh => ?_
    · exact body2_ok S O R c hxy h1 h2 (T.has k01.has t01) (VarsOk.has k01.has V) k13 (by (first | decide | lia | omega)) q ne hn hm hd hl hsz fD fC
    · rw [kp_with k01 h₂.1]
      exact hU D C h' tk m G (made_of k01 t01 t12 fD fC ne t2 hn hl hd hG hgo hh)

theorem made_gives {D C : Addr} {ds : List Dat} {h' : Heap} {tk : Nat} {m : Str → Option Value} {G : List Addr} (M : Made s ds D C h' tk m G) :
    compPost (model prog w) A No none (Gives s (.list ds)) (.ref D) C (.ok .next) { s with heap := h', toks := tk } := by
  refine ⟨m, M.ns, fun h'' hs => ⟨⟨h'', tk, rfl, fun b o e => ?_⟩, D :: G, ?_, ?_⟩⟩
  · exact hs.extBut b o (fun q => live_ne M.fC e q.symm) (M.has b o e)
  · refine M.den.mono fun a ha o e => hs.extBut a o ?_ e
    rcases List.mem_cons.mp ha with rfl | ha
    · exact M.ne
    · exact (M.apart a ha).2
  · refine ⟨fun a ha => ?_, List.nodup_cons.mpr ⟨fun h => (M.apart _ h).1 rfl, M.once⟩⟩
    rcases List.mem_cons.mp ha with rfl | ha
    · exact M.fD
    · exact M.fresh a ha
end
end Mine
end
section
namespace Mine

namespace FR
theorem plainAttrs_pattern : PlainAttrs "re.Pattern" :=
  ⟨⟨"object.__getattribute__", by rw [typeLookup_type, builtinLookup_eq_fast]; kernel_rfl, by decide +kernel⟩, by rw [typeLookup_type, builtinLookup_eq_fast]; kernel_rfl⟩
theorem slot_sub : Slot "re.Pattern" "sub" "re.Pattern.sub" :=
  .of (owner := "re.Pattern") (n := "sub") (by rw [typeLookup_type, builtinLookup_eq_fast]; kernel_rfl) (by decide +kernel) (by decide +kernel) (by decide +kernel)
    (by first | exact .inl (by decide +kernel) | exact .inr (by decide +kernel)) (by rw [isSubtype_type]; kernel_rfl)
theorem type_sub : typeOf (.builtin "re.Pattern.sub") = pure (.type "method_descriptor") := by show builtinType _ = _; rw [builtinType_eq_fast]; kernel_rfl
theorem entry_sub : entryFor table "re.Pattern.sub" = some Builtin.«re.Pattern.sub» := entryFor_of_tree (by kernel_rfl)
theorem entry_loop : entryFor table "re.Pattern.sub.loop" = some Builtin.«re.Pattern.sub.loop» := entryFor_of_tree (by kernel_rfl)
end FR

/-- the contracts that the evaluator leans on -/
structure FOk (prog : Program) (w : World) (H0 : Heap) (K : Nat) (Φ : Funs) : Prop where
  fn : ∀ f vals d, Φ.fn f vals = some d → plainName f = true ∧ ∃ a o fd, GIs H0 f (.ref a) ∧ H0.get? a = some o ∧ o.data = .func fd ∧
    ∀ A s vs F, Rm A K → St H0 s → DenAll s.heap vs vals F → wpAny (model prog w) A (call (.ref a) vs) (Gives s d) No s
  dct : ∀ x i d, Φ.dct x i = some d → plainName x = true ∧ ∃ v, GIs H0 x v ∧ ∃ T id, typeLookup (.type T) "__getitem__" = pure (some (.builtin id)) ∧ (∀ s, St H0 s → s.TypeIs v T) ∧
    ∀ A s vi F, Rm A K → St H0 s → Den s.heap vi i F → wpAny (model prog w) A (getItem v vi) (Gives s d) No s
  cst : ∀ x d, Φ.cst x = some d → plainName x = true ∧ ∃ v, GIs H0 x v ∧ ∀ h, Den h v d []
  sub : ∀ b r, Φ.sub b = some r → ∃ q, GIs H0 "_quoted" (.ref q) ∧ (∃ ob, H0.get? q = some ob ∧ ob.cls = .type "re.Pattern" ∧ ob.dict = none) ∧
    ∀ A s t u, Rm A K → St H0 s → wpAny (model prog w) A (call (.builtin "re.Pattern.sub") [.ref q, .bytes #[] t, .bytes b u]) (Gives s (.bytes r)) No s

theorem isGlob_is {env : Env} {x : Str} (h : isGlob env.kindOf x = true) : env.kindOf x = some .globalImplicit := by unfold isGlob at h; simpa using h

section
variable {prog : Program} {w : World} {H0 : Heap} {K : Nat} {rec : Kd → Vs → Expr → Option Dat} {env : Env} {A : Around} {s : Shared} {ρ : Vs} {Φ : Funs}

theorem const_sound {c : Const} {k : Nat} {p : Pos} {d : Dat} (e : constD c = some d) : wpAny (model prog w) A (eval (.Constant c k p) env) (Gives s d) No s := by
  cases c with
  | none => cases e; exact wpAny_Constant_none (giveImm' .none)
  | bool b => cases e; exact wpAny_Constant_bool (giveImm' (.bool _))
  | int i => cases e; exact wpAny_Constant_int (giveImm (.int _ _))
  | str x => cases e; exact wpAny_Constant_str (giveImm (.str _ _))
  | bytes l => cases e; exact fun _ _ _ => (giveImm (.bytes _ _))
  | _ => cases e

theorem call_sound (Gl0 : Gl H0) (FO : FOk prog w H0 K Φ) (S : SoundE prog w H0 K rec) (O : EOk env) (R : Rm A K) (T : St H0 s) (V : VarsOk env s.heap ρ) {f : Str} {args : List Expr} {p pos : Pos} {d : Dat} {vals : List Dat}
    (hg : isGlob env.kindOf f = true) (hne : args ≠ []) (q : allSome (rec env.kindOf ρ) args = some vals) (e : (if builtNames.contains f then builtD f vals else Φ.fn f vals) = some d) :
    wpAny (model prog w) A (eval (.Call (.Name f p) args [] pos) env) (Gives s d) No s := by
  have hk := isGlob_is hg
  by_cases hb : builtNames.contains f = true
  · rw [if_pos hb] at e
    have e0 := e
    have hfour : f = ("sum" : Str) ∨ f = ("len" : Str) ∨ f = ("list" : Str) ∨ f = ("max" : Str) := by
      unfold builtD at e0
      split at e0
      · exact .inl (by assumption)
      · split at e0
        · exact .inr (.inl (by assumption))
        · split at e0
          · exact .inr (.inr (.inl (by assumption)))
          · split at e0
            · exact .inr (.inr (.inr (by assumption)))
            · cases e0
    have go : ∀ fv, GIs H0 f fv → plainName f = true → ((∃ i, fv = .builtin i) ∨ (∃ i, fv = .type i)) → (∀ s vs F, DenAll s.heap vs vals F → wpAny (model prog w) A (call fv vs) (Gives s d) No s) →
        wpAny (model prog w) A (eval (.Call (.Name f p) args [] pos) env) (Gives s d) No s := fun fv G hp hf h => by
      refine Call_ (glob_name G T O hk hp ?_)
      refine callB S hf q hne (wpThen (args_sound S O R T V q) fun vs s₁ h₁ => ?_)
      obtain ⟨k, F, hd⟩ := h₁
      exact wpThen (h s₁ vs F hd) fun v s' g => Gives.after k g
    rcases hfour with rfl | rfl | rfl | rfl
    · exact go _ Gl0.sum (by decide) (.inl ⟨_, rfl⟩) fun s vs F hd => by
        obtain ⟨fv, _, h2, h3⟩ := builtD_sound (prog := prog) (w := w) R e hd
        rcases h2 with ⟨_, rfl⟩ | ⟨h, _⟩ | ⟨h, _⟩ | ⟨h, _⟩
        · exact h3
        all_goals exact absurd h (by decide)
    · exact go _ Gl0.len (by decide) (.inl ⟨_, rfl⟩) fun s vs F hd => by
        obtain ⟨fv, _, h2, h3⟩ := builtD_sound (prog := prog) (w := w) R e hd
        rcases h2 with ⟨h, _⟩ | ⟨_, rfl⟩ | ⟨h, _⟩ | ⟨h, _⟩
        · exact absurd h (by decide)
        · exact h3
        all_goals exact absurd h (by decide)
    · exact go _ Gl0.list (by decide) (.inr ⟨_, rfl⟩) fun s vs F hd => by
        obtain ⟨fv, _, h2, h3⟩ := builtD_sound (prog := prog) (w := w) R e hd
        rcases h2 with ⟨h, _⟩ | ⟨h, _⟩ | ⟨_, rfl⟩ | ⟨h, _⟩
        · exact absurd h (by decide)
        · exact absurd h (by decide)
        · exact h3
        · exact absurd h (by decide)
    · exact go _ Gl0.max (by decide) (.inl ⟨_, rfl⟩) fun s vs F hd => by
        obtain ⟨fv, _, h2, h3⟩ := builtD_sound (prog := prog) (w := w) R e hd
        rcases h2 with ⟨h, _⟩ | ⟨h, _⟩ | ⟨h, _⟩ | ⟨_, rfl⟩
        · exact absurd h (by decide)
        · exact absurd h (by decide)
        · exact absurd h (by decide)
        · exact h3
  · rw [if_neg hb] at e
    obtain ⟨hp, a, o, fd, G, ho, hdat, hcall⟩ := FO.fn f vals d e
    refine Call_ (glob_name G T O hk hp ?_)
    cases args with
    | nil => exact absurd rfl hne
    | cons x es =>
      obtain ⟨y, zs, q1, q2, rfl⟩ := allSome_cons q
      refine callWith_def hdat (wpSeq (args_sound S O R T V q) fun vs s₁ h₁ ht => ?_) (starEach_cons (star_ne S q1))
      obtain ⟨k, F, hd⟩ := h₁
      exact ⟨k.get (T.keep a o ho), wpThen (hcall A s₁ vs F R (T.kp k ht) hd) fun v s' g => Gives.after k g⟩

theorem sub_sound (FO : FOk prog w H0 K Φ) (S : SoundE prog w H0 K rec) (O : EOk env) (R : Rm A K) (T : St H0 s) (V : VarsOk env s.heap ρ) {x : Expr} {p ap pos pc : Pos} {kc : Nat} {b r : Array UInt8}
    (hline : (ap.endLine == pos.line) = true) (hg : isGlob env.kindOf ("_quoted" : Str) = true) (q : rec env.kindOf ρ x = some (.bytes b)) (e : Φ.sub b = some r) :
    wpAny (model prog w) A (eval (.Call (.Attribute (.Name "_quoted" p) "sub" ap) [.Constant (.bytes []) kc pc, x] [] pos) env) (Gives s (.bytes r)) No s := by
  obtain ⟨qa, G, ⟨ob, ho, hcls, hdict⟩, hcall⟩ := FO.sub b r e
  have hs : starEach [.Constant (.bytes []) kc pc, x] env = [(false, eval (.Constant (.bytes []) kc pc) env), (false, eval x env)] := by
    rw [starEach_cons (fun y p hy => by cases hy), starEach_cons (star_ne S q)]; rfl
  refine wpAny_Call_method_lateS rfl (by rw [hs]; rfl) hline (glob_name G T O (isGlob_is hg) (by decide) ?_)
  have ho1 := T.keep qa ob ho
  refine ⟨"re.Pattern", "re.Pattern.sub", FR.plainAttrs_pattern, FR.slot_sub, FR.type_sub, ⟨ob, ho1, hcls⟩, (fun a ea => by cases ea; exact ⟨ob, ho1, hdict⟩), ?_⟩
  rw [hs]
  show wpAny (model prog w) A (callWith pos (.builtin "re.Pattern.sub") [.ref qa] [(false, eval (.Constant (.bytes []) kc pc) env), (false, eval x env)] []) _ _ _
  refine callWith_builtin rfl (evalArgs_plain ?_)
  refine spliced_cons (wpSeq (const_sound (d := .bytes #[]) rfl) fun vc s₁ h₁ ht => ?_)
  first | refine Out.elim h₁ fun k1 F1 hd1 => ?_ | refine Gives.elim h₁ fun k1 F1 hd1 => ?_ | obtain ⟨k1, F1, hd1, _⟩ := h₁
  obtain ⟨t, rfl⟩ := hd1.bytes_inv
  refine spliced_cons (S.go O R (T.kp k1 ht) (V.kp k1) q fun vx s₂ F2 k2 ht2 hd2 => ?_)
  obtain ⟨u, rfl⟩ := hd2.bytes_inv
  refine spliced_nil ?_
  exact wpThen (hcall A s₂ t u R ((T.kp k1 ht).kp k2 ht2)) fun v s' g => Gives.after (k1.trans k2) g

theorem slice_sound (S : SoundE prog w H0 K rec) (O : EOk env) (R : Rm A K) (T : St H0 s) (V : VarsOk env s.heap ρ) {x : Str} {px p pos : Pos} {lo hi st : Option Expr} {o d : Dat} {l h k : Option Dat}
    (ex : ρ x = some o) (el : partE rec env.kindOf ρ lo = some l) (eh : partE rec env.kindOf ρ hi = some h) (ek : partE rec env.kindOf ρ st = some k) (e : sliceD o l h k = some d) :
    wpAny (model prog w) A (eval (.Subscript (.Name x px) (.Slice lo hi st p) pos) env) (Gives s d) No s := by
  obtain ⟨hp, vo, F, hV, hd⟩ := V x o ex
  obtain ⟨id, hl⟩ := slice_look e
  refine sub_item hl (var_name O hV hp ?_)
  refine wpAny_Slice (wpSeq (part_sound S O R T V el) fun vl s₁ h₁ ht1 => ?_)
  obtain ⟨k1, p1⟩ := h₁
  refine wpSeq (part_sound S O R (T.kp k1 ht1) (V.kp k1) eh) fun vu s₂ h₂ ht2 => ?_
  obtain ⟨k2, p2⟩ := h₂
  refine wpSeq (part_sound S O R ((T.kp k1 ht1).kp k2 ht2) ((V.kp k1).kp k2) ek) fun vk s₃ h₃ ht3 => ?_
  obtain ⟨k3, p3⟩ := h₃
  have k13 := k1.trans (k2.trans k3)
  have := sliceD_sound (prog := prog) (w := w) (A := A) e (k13.den hd) p1 p2 p3 rfl
  exact ⟨this.1, wpThen this.2 fun v s' g => Gives.after k13 g.gives⟩

theorem itemD_look {o i d : Dat} (e : itemD o i = some d) : ∃ id, typeLookup (.type (seqT o)) "__getitem__" = pure (some (.builtin id)) := by
  cases o with
  | str x => exact ⟨_, PySem.F.slot_str_getitem.lookup⟩
  | _ => exact ⟨_, list_getitem_lookup⟩
theorem item_type {h : Heap} {vo : Value} {o i d : Dat} {F : List Addr} (e : itemD o i = some d) (hd : Den h vo o F) : ∀ s' : Shared, Has h s'.heap → s'.TypeIs vo (seqT o) := by
  intro s' k
  cases hd with
  | str x t => exact typeIs_str _ _ _
  | list ho r => exact (Den.isList (k _ _ ho)).typeIs
  | _ => simp [itemD] at e

theorem item_sound (S : SoundE prog w H0 K rec) (O : EOk env) (R : Rm A K) (T : St H0 s) (V : VarsOk env s.heap ρ) {xo xi : Expr} {pos : Pos} {o i d : Dat}
    (eo : wpAny (model prog w) A (eval xo env) (fun v s' => Kp s s' ∧ ∃ F, Den s'.heap v o F) No s) (ei : rec env.kindOf ρ xi = some i) (e : itemD o i = some d) :
    wpAny (model prog w) A (eval (.Subscript xo xi pos) env) (Out s d false) No s := by
  obtain ⟨id, hl⟩ := itemD_look e
  refine sub_item hl (wpSeq eo fun vo s₁ h₁ ht1 => ?_)
  obtain ⟨k1, F1, hd1⟩ := h₁
  refine S.go O R (T.kp k1 ht1) (V.kp k1) ei fun vi s₂ F2 k2 ht2 hd2 => ?_
  exact ⟨item_type e hd1 s₂ k2.has, wpThen (itemD_sound e (k2.den hd1) hd2) fun v s' g => Out.after (k1.trans k2) g⟩

theorem dct_sound (FO : FOk prog w H0 K Φ) (S : SoundE prog w H0 K rec) (O : EOk env) (R : Rm A K) (T : St H0 s) (V : VarsOk env s.heap ρ) {x : Str} {px pos : Pos} {xi : Expr} {i d : Dat}
    (hg : isGlob env.kindOf x = true) (ei : rec env.kindOf ρ xi = some i) (e : Φ.dct x i = some d) :
    wpAny (model prog w) A (eval (.Subscript (.Name x px) xi pos) env) (Gives s d) No s := by
  obtain ⟨hp, v, G, Ty, id, hl, hT, hcall⟩ := FO.dct x i d e
  refine sub_item hl (glob_name G T O (isGlob_is hg) hp ?_)
  refine S.go O R T V ei fun vi s₂ F2 k2 ht2 hd2 => ?_
  exact ⟨hT s₂ (T.kp k2 ht2), wpThen (hcall A s₂ vi F2 R (T.kp k2 ht2) hd2) fun v s' g => Gives.after k2 g⟩
end
end Mine
end
section
namespace Mine

section
variable {prog : Program} {w : World} {H0 : Heap} {K : Nat} {rec : Kd → Vs → Expr → Option Dat} {env : Env} {A : Around} {s : Shared} {ρ : Vs} {Φ : Funs}

theorem isinst_call (Gl0 : Gl H0) (S : SoundE prog w H0 K rec) (O : EOk env) (R : Rm A K) (T : St H0 s) (V : VarsOk env s.heap ρ) {x : Expr} {p pb pos : Pos} {o : Dat} {b : Bool}
    (hg : isGlob env.kindOf ("isinstance" : Str) = true) (hb : isGlob env.kindOf ("bool" : Str) = true) (q : rec env.kindOf ρ x = some o) (e : (∃ c, o = .bool c ∧ b = true) ∨ (∃ i, o = .int i ∧ b = false)) :
    wpAny (model prog w) A (eval (.Call (.Name "isinstance" p) [x, .Name "bool" pb] [] pos) env) (Gives s (.bool b)) No s := by
  refine Call_ (glob_name Gl0.isinstance T O (isGlob_is hg) (by decide) ?_)
  have hs : starEach [x, .Name "bool" pb] env = [(false, eval x env), (false, eval (.Name "bool" pb) env)] := by
    rw [starEach_cons (star_ne S q)]; rfl
  rw [hs]
  show wpAny (model prog w) A (callWith pos (.builtin "isinstance") [] [(false, eval x env), (false, eval (.Name "bool" pb) env)] []) _ _ _
  refine callWith_builtin rfl (evalArgs_plain (spliced_cons (S.go O R T V q fun v s₁ F1 k1 ht hd1 => ?_)))
  refine spliced_cons (glob_name Gl0.bool (T.kp k1 ht) O (isGlob_is hb) (by decide) (spliced_nil ?_))
  rcases e with ⟨c, rfl, rfl⟩ | ⟨i, rfl, rfl⟩
  · exact wpThen (isinst_sound hd1 rfl) fun v s' g => Gives.after k1 g
  · exact wpThen (isinst_sound hd1 rfl) fun v s' g => Gives.after k1 g

section
variable (Gl0 : Gl H0) (FO : FOk prog w H0 K Φ) (S : SoundE prog w H0 K rec) (O : EOk env) (R : Rm A K) (T : St H0 s) (V : VarsOk env s.heap ρ) {pos : Pos} {d : Dat}
include S O R T V
theorem andF_sound {xs : List Expr} (q : andF rec env.kindOf ρ xs = some d) : wpAny (model prog w) A (eval (.BoolOp .And xs pos) env) (Gives s d) No s := by
  match xs, q with
  | [], q => exact nn q
  | [_], q => exact nn q
  | _ :: _ :: _ :: _, q => exact nn q
  | [x, y], q =>
    refine bind_elim (q) fun b q1 q => ?_
    refine bind_elim (q1) fun a q1 q2 => ?_
    cases boolOf_inv q2
    refine wpAny_And2 (S.go O R T V q1 fun va s₁ F1 k1 ht hd1 => ?_)
    cases hd1.bool_inv
    refine wpAny_truthy_bool ?_
    rcases ite_inv q with ⟨rfl, q⟩ | ⟨hb, q⟩
    · rw [if_pos rfl]
      refine bind_elim (q) fun c q2 q => ?_
      refine if_elim (q) fun hi q => ?_
      cases q
      exact wpThen (S.ok env A s₁ ρ y _ O R (T.kp k1 ht) (V.kp k1) q2) fun v s' g => Gives.after k1 (g.imm hi)
    · rw [if_neg hb]
      cases q
      cases Bool.eq_false_iff.mpr hb
      exact Gives.after k1 (giveImm' (.bool false))
theorem listF_sound {es : List Expr} (q : (allSome (rec env.kindOf ρ) es).bind listF = some d) : wpAny (model prog w) A (eval (.List es pos) env) (Gives s d) No s := by
  refine bind_elim (q) fun ds q1 q => ?_
  refine if_elim (q) fun hc q => ?_
  cases q
  refine wpAny_List (wpThen (args_sound S O R T V q1) fun vs s₁ h₁ => ?_)
  obtain ⟨k, F, hd⟩ := h₁
  cases hd.imm_nil hc.1
  have hlen := hd.length
  refine ⟨by rw [sizeLine_eq]; have := hc.2; unfold lineMax at this; (first | decide | lia | omega), Gives.after k ?_⟩
  exact newList_gives (t := s₁.toks) hd Fresh.nil rfl
include FO
theorem itemF_sound {o i : Expr} (hf : freshE (.Subscript o i pos) = false) (q : itemF Φ rec env.kindOf ρ o i = some d) : wpAny (model prog w) A (eval (.Subscript o i pos) env) (Out s d (freshE (.Subscript o i pos))) No s := by
  unfold itemF at q
  rw [hf]
  cases hn : nameE o with
  | none =>
    rw [hn] at q
    obtain ⟨a, b, eo, ei, q⟩ := two_inv (show two itemD _ _ = some d from q)
    exact item_sound S O R T V (wpThen (S.ok env A s ρ o a O R T V eo) fun v s' g => ⟨g.1, let ⟨F, x, _⟩ := g.2; ⟨F, x⟩⟩) ei q
  | some x =>
    rw [hn] at q
    obtain ⟨px, rfl⟩ := nameE_inv hn
    rcases ite_inv q with ⟨hg, q⟩ | ⟨_, q⟩
    · refine bind_elim (q) fun b ei q => ?_
      exact wpThen (dct_sound FO S O R T V hg ei q) fun v s' g => g.out
    · refine if_elim (q) fun hv q => ?_
      obtain ⟨a, b, ex, ei, q⟩ := two_inv q
      obtain ⟨hp, v, F, hV, hd⟩ := V _ _ ex
      exact item_sound S O R T V (var_name O hV hp ⟨Kp.refl s, F, hd⟩) ei q
theorem subF_sound {o i : Expr} (q : subF Φ rec env.kindOf ρ o i = some d) : wpAny (model prog w) A (eval (.Subscript o i pos) env) (Out s d (freshE (.Subscript o i pos))) No s := by
  unfold subF at q
  cases hs : slE i with
  | none =>
    rw [hs] at q
    exact itemF_sound FO S O R T V (slE_none hs _ _) q
  | some z =>
    rw [hs] at q
    obtain ⟨lo, hi, st⟩ := z
    obtain ⟨p, rfl⟩ := slE_inv hs
    refine bind_elim ((show sliceF rec env.kindOf ρ o (lo, hi, st) = some d from q)) fun x hn q => ?_
    obtain ⟨px, rfl⟩ := nameE_inv hn
    refine if_elim (q) fun _ q => ?_
    refine bind_elim (q) fun a ex q => ?_
    refine bind_elim (q) fun l el q => ?_
    refine bind_elim (q) fun h eh q => ?_
    refine bind_elim (q) fun k ek q => ?_
    exact wpThen (slice_sound S O R T V ex el eh ek q) fun v s' g => g.out
theorem metF_sound {o : Expr} {m : Str} {ap : Pos} {args : List Expr} (q : metF Φ rec env.kindOf ρ args pos (o, m, ap) = some d) : wpAny (model prog w) A (eval (.Call (.Attribute o m ap) args [] pos) env) (Gives s d) No s := by
  obtain ⟨hl, q⟩ := ifn_inv q
  have hline : (ap.endLine == pos.line) = true := by simpa using hl
  rcases ite_inv q with ⟨hm, q5⟩ | ⟨_, q5⟩
  · cases hm
    match args, q5 with
    | [], q => exact nn q
    | [_], q => exact nn q
    | _ :: _ :: _ :: _, q => exact nn q
    | [y, z], q =>
      refine bind_elim (q) fun y' hy q => ?_
      refine bind_elim (q) fun z' hz q => ?_
      obtain ⟨ky, py, rfl⟩ := strE_inv hy
      obtain ⟨kz, pz, rfl⟩ := strE_inv hz
      refine bind_elim (q) fun x q1 q => ?_
      refine bind_elim (q1) fun x' q1 q2 => ?_
      cases strOf_inv q2
      refine if_elim (q) fun hc q => ?_
      cases q
      exact replace_sound S O R T V hline q1 hc.1 hc.2.1 hc.2.2
  · rcases ite_inv q5 with ⟨hm, q6⟩ | ⟨_, q6⟩
    · cases hm
      match args, q6 with
      | [], q => exact nn q
      | [_], q => exact nn q
      | _ :: _ :: _ :: _, q => exact nn q
      | [b, e], q =>
        refine bind_elim (q) fun u hb q => ?_
        obtain ⟨kb, pb, rfl⟩ := nobE_inv hb
        refine bind_elim (q) fun x hn q => ?_
        obtain ⟨px, rfl⟩ := nameE_inv hn
        refine if_elim (q) fun hx q7 => ?_
        obtain ⟨rfl, hg⟩ := hx
        refine bind_elim (q7) fun y q1 q8 => ?_
        refine bind_elim (q1) fun y' q1 q2 => ?_
        cases byteOf_inv q2
        cases q2 : Φ.sub y with
        | none => rw [q2] at q8; cases q8
        | some r =>
          rw [q2] at q8
          cases q8
          exact sub_sound FO S O R T V hline hg q1 q2
    · refine bind_elim (q6) fun a q1 q7 => ?_
      refine bind_elim (q7) fun vals q2 q8 => ?_
      exact meth_sound S O R T V hline q1 q2 q8
include Gl0
theorem fnF_sound {f : Str} {p : Pos} {args : List Expr} (q : fnF Φ rec env.kindOf ρ args f = some d) : wpAny (model prog w) A (eval (.Call (.Name f p) args [] pos) env) (Gives s d) No s := by
  obtain ⟨hl, q⟩ := ifn_inv q
  have hg : isGlob env.kindOf f = true := by simpa using hl
  rcases ite_inv q with ⟨hm, q5⟩ | ⟨_, q5⟩
  · cases hm
    match args, q5 with
    | [], q => exact nn q
    | [_], q => exact nn q
    | _ :: _ :: _ :: _, q => exact nn q
    | [x, b], q =>
      refine bind_elim (q) fun y hn q => ?_
      obtain ⟨pb, rfl⟩ := nameE_inv hn
      refine if_elim (q) fun hx q6 => ?_
      obtain ⟨rfl, hb⟩ := hx
      refine bind_elim (q6) fun a q1 q7 => ?_
      cases a <;> first | exact nn q7 | (cases q7; exact isinst_call Gl0 S O R T V hg hb q1 (by first | exact .inl ⟨_, rfl, rfl⟩ | exact .inr ⟨_, rfl, rfl⟩))
  · obtain ⟨hne, q6⟩ := ifn_inv q5
    refine bind_elim (q6) fun vals q1 q7 => ?_
    exact call_sound Gl0 FO S O R T V hg (fun z => hne (List.isEmpty_iff.mpr z)) q1 q7
theorem callF_sound {f : Expr} {args : List Expr} {kws : List Keyword} (q : callF Φ rec env.kindOf ρ f args kws pos = some d) : wpAny (model prog w) A (eval (.Call f args kws pos) env) (Gives s d) No s := by
  cases kws with
  | cons _ _ => exact nn q
  | nil =>
    unfold callF at q
    dsimp only at q
    cases hn : nameE f with
    | some x =>
      rw [hn] at q
      obtain ⟨p, rfl⟩ := nameE_inv hn
      exact fnF_sound Gl0 FO S O R T V q
    | none =>
      rw [hn] at q
      obtain ⟨⟨o, m, ap⟩, ha, q⟩ := bind_inv (show (attrE f).bind _ = some d from q)
      cases attrE_inv ha
      exact metF_sound FO S O R T V q
omit FO
theorem compF_sound {elt : Expr} {gens : List Comprehension} {scope : Scope} {use : Option (Value → Sem Unit)} {Q : Value → Shared → Prop} (q : compF rec env.kindOf ρ elt scope gens = some d)
    (hU : ∀ ds D C h' tk m G, d = .list ds → Made s ds D C h' tk m G → compPost (model prog w) A No use Q (.ref D) C (.ok .next) { s with heap := h', toks := tk }) :
    wpAny (model prog w) A (comprehension (.ListComp elt gens scope pos) scope env (firstIterPos gens pos) (newList []) (firstAsync gens) (firstIter gens env) use) Q No s := by
  match gens, q with
  | [], q => exact nn q
  | _ :: _ :: _ :: _, q => exact nn q
  | [g], q =>
    obtain ⟨⟨x, iter, ifs⟩, hg, q⟩ := bind_inv q
    obtain ⟨px, rfl⟩ := genE_inv hg
    refine if_elim (q) fun hc q => ?_
    refine bind_elim (q) fun items e1 q => ?_
    refine bind_elim (q) fun ds e2 q => ?_
    refine if_elim (q) fun hlen q => ?_
    cases q
    refine comp1_core Gl0 S O R T V hc e1 e2 hlen (fun es k p hs => ?_) fun D C h' tk m G M => hU ds D C h' tk m G rfl M
    have hs : iter = .Set es k p := hs
    subst hs
    have e1' : itemsD (rec env.kindOf ρ (.Set es k p)) = some items := e1
    rw [S.noset] at e1'
    exact nn e1'
  | [g, h], q =>
    obtain ⟨⟨x, iter, ifs⟩, hg, q⟩ := bind_inv q
    obtain ⟨⟨y, iter2, ifs2⟩, hh, q⟩ := bind_inv q
    obtain ⟨px, rfl⟩ := genE_inv hg
    obtain ⟨py, rfl⟩ := genE_inv hh
    obtain ⟨⟨hc, h1, h2⟩, q⟩ := if_inv q
    cases List.isEmpty_iff.mp h1
    cases List.isEmpty_iff.mp h2
    rw [Bool.and_eq_true] at hc
    refine bind_elim (q) fun items e1 q => ?_
    refine bind_elim (q) fun ds e2 q => ?_
    refine if_elim (q) fun hlen q => ?_
    cases q
    exact comp2_core S O R T V hc.1 (by simpa using hc.2) e1 e2 hlen fun D C h' tk m G M => hU ds D C h' tk m G rfl M
end

theorem evF_sound (Gl0 : Gl H0) (FO : FOk prog w H0 K Φ) (S : SoundE prog w H0 K rec) (O : EOk env) (R : Rm A K) (T : St H0 s) (V : VarsOk env s.heap ρ) {e : Expr} {d : Dat} (q : evF Φ rec env.kindOf ρ e = some d) :
    wpAny (model prog w) A (eval e env) (Out s d (freshE e)) No s := by
  cases e with
  | Constant c k p => exact wpThen (const_sound (show constD c = some d from q)) fun v s' g => g.out
  | Name x p =>
    rcases ite_inv (show (if isVar env.kindOf x = true then ρ x else if isGlob env.kindOf x = true then Φ.cst x else none) = some d from q) with ⟨_, q⟩ | ⟨_, q⟩
    · obtain ⟨hp, v, F, hV, hd⟩ := V _ _ q
      exact var_name O hV hp ⟨Kp.refl s, F, hd, fun h => nomatch h⟩
    · refine if_elim (q) fun hg q => ?_
      obtain ⟨hp, v, G, hd⟩ := FO.cst _ _ q
      exact glob_name G T O (isGlob_is hg) hp ⟨Kp.refl s, [], hd _, fun h => nomatch h⟩
  | BinOp l op r p =>
    obtain ⟨a, b, q1, q2, q⟩ := two_inv (show two (binD op) _ _ = some d from q)
    refine wpAny_BinOp (S.go O R T V q1 fun va s₁ F1 k1 ht hd1 => ?_)
    refine wpThen (S.ok env A s₁ ρ r b O R (T.kp k1 ht) (V.kp k1) q2) fun vb s₂ h₂ => ?_
    first | refine Out.elim h₂ fun k2 F2 hd2 => ?_ | refine Gives.elim h₂ fun k2 F2 hd2 => ?_ | obtain ⟨k2, F2, hd2, _⟩ := h₂
    exact wpThen (binD_sound q (k2.den hd1) hd2) fun v s' g => (Gives.after (k1.trans k2) g).out
  | UnaryOp op x p =>
    refine bind_elim ((show (rec env.kindOf ρ x).bind (unD op) = some d from q)) fun a q1 q => ?_
    refine wpAny_UnaryOp (S.go O R T V q1 fun va s₁ F1 k1 ht hd1 => ?_)
    exact wpThen (unD_sound q hd1) fun v s' g => (Gives.after k1 g).out
  | Compare l ops rs p =>
    have q : cmpF rec env.kindOf ρ l ops rs = some d := q
    match ops, rs, q with
    | [], [], q => exact nn q
    | [], _ :: _, q => exact nn q
    | [_], [], q => exact nn q
    | [_], _ :: _ :: _, q => exact nn q
    | _ :: _ :: _, [], q => exact nn q
    | _ :: _ :: _, _ :: _, q => exact nn q
    | [op], [r], q =>
      obtain ⟨a, b, q1, q2, q⟩ := two_inv (show two (cmpD op) _ _ = some d from q)
      refine wpAny_Compare1 (S.go O R T V q1 fun va s₁ F1 k1 ht hd1 => ?_) (behind_false q r)
      refine wpThen (S.ok env A s₁ ρ r b O R (T.kp k1 ht) (V.kp k1) q2) fun vb s₂ h₂ => ?_
      first | refine Out.elim h₂ fun k2 F2 hd2 => ?_ | refine Gives.elim h₂ fun k2 F2 hd2 => ?_ | obtain ⟨k2, F2, hd2, _⟩ := h₂
      exact wpThen (cmpD_sound R q (k2.den hd1) hd2) fun v s' g => (Gives.after (k1.trans k2) g).out
  | BoolOp op xs p =>
    cases op with
    | And => exact wpThen (andF_sound S O R T V (xs := xs) q) fun v s' g => g.out
    | Or => exact nn q
  | List es p => exact wpThen (listF_sound S O R T V (es := es) q) fun v s' g => g.out
  | Subscript o i p => exact subF_sound FO S O R T V q
  | Call f args kws p => exact wpThen (callF_sound Gl0 FO S O R T V (f := f) q) fun v s' g => g.out
  | ListComp elt gens scope p =>
    rw [eval_ListComp]
    refine wpThen (Q' := Gives s d) ?_ fun v s' g => g.out
    exact compF_sound Gl0 S O R T V (use := none) (gens := gens) q fun ds D C h' tk m G e M => by
      subst e
      exact made_gives M
  | _ => exact nn q

theorem ev_sound (Gl0 : Gl H0) (FO : FOk prog w H0 K Φ) : ∀ n, SoundE prog w H0 K (ev Φ n)
  | 0 => ⟨fun _ _ _ _ => rfl, fun _ _ _ _ _ => rfl, fun _ _ _ _ _ => rfl, fun _ _ _ _ _ _ _ _ _ _ q => by cases q⟩
  | n + 1 => ⟨fun _ _ _ _ => rfl, fun _ _ _ _ _ => rfl, fun κ ρ f p pos => by
      show (if isGlob κ f = false then none else if f = ("isinstance" : Str) then none else none) = (none : Option Dat)
      rw [ite_self, ite_self], fun env A s ρ e d O R T V q => evF_sound Gl0 FO (ev_sound Gl0 FO n) O R T V q⟩
end
end Mine
end
section
namespace Mine

/-! ## Statements: the evaluator -/
noncomputable abbrev Sg := List (Str × Dat × Bool)
noncomputable def gv : Sg → Str → Option (Dat × Bool)
  | [], _ => none
  | (y, v) :: r, x => if x = y then some v else gv r x
noncomputable def sv : Sg → Str → Dat × Bool → Sg
  | [], x, v => [(x, v)]
  | (y, u) :: r, x, v => if x = y then (x, v) :: r else (y, u) :: sv r x v
noncomputable def ρof (σ : Sg) : Vs := fun x => (gv σ x).map (·.1)
theorem gv_sv : ∀ (σ : Sg) (x : Str) (v : Dat × Bool) (y : Str), gv (sv σ x v) y = if y = x then some v else gv σ y
  | [], x, v, y => rfl
  | (z, u) :: r, x, v, y => by
    rw [sv]
    by_cases hz : x = z
    · subst hz
      rw [if_pos rfl, gv, gv]
      by_cases hy : y = x
      · rw [if_pos hy, if_pos hy]
      · rw [if_neg hy, if_neg hy, if_neg hy]
    · rw [if_neg hz, gv, gv, gv_sv r x v y]
      by_cases hy : y = x
      · subst hy
        rw [if_neg hz, if_pos rfl]
        simp
      · rw [if_neg hy]
        simp [hy]

inductive Fl
  | next
  | ret (d : Dat)

noncomputable def canBind (κ : Kd) (x : Str) : Bool := (κ x == some .local || κ x == some .cell) && plainName x
noncomputable def setAt (i : Dat) (ds : List Dat) (v : Dat) : Option (List Dat) := match i with
  | .int k => if 0 ≤ k ∧ k < ds.length ∧ ds.length ≤ lineMax ∧ ds.all imm = true then some (ds.set k.toNat v) else none
  | _ => none
noncomputable def isComp : Expr → Bool
  | .ListComp .. => true
  | .SetComp .. => true
  | .DictComp .. => true
  | _ => false
noncomputable def augD : Operator → Dat → Dat → Option Dat
  | .Add, .int a, .int b => some (.int (a + b))
  | .Sub, .int a, .int b => some (.int (a - b))
  | _, _, _ => none
noncomputable def ownName (σ : Sg) : Expr → Bool
  | .Name x _ => match gv σ x with
    | some (_, true) => true
    | _ => false
  | _ => false

noncomputable def forL (run : Sg → Option (Fl × Sg)) (x : Str) : List Dat → Sg → Option (Fl × Sg)
  | [], σ => some (.next, σ)
  | d :: r, σ => match run (sv σ x (d, true)) with
    | some (.next, σ') => forL run x r σ'
    | some (.ret v, σ') => some (.ret v, σ')
    | none => none
noncomputable def whileL (test : Sg → Option Bool) (run : Sg → Option (Fl × Sg)) : Nat → Sg → Option (Fl × Sg)
  | 0, _ => none
  | n + 1, σ => match test σ with
    | some true => (match run σ with
      | some (.next, σ') => whileL test run n σ'
      | some (.ret v, σ') => some (.ret v, σ')
      | none => none)
    | some false => some (.next, σ)
    | none => none

noncomputable abbrev Hook := Kd → Stmt → Sg → Option Sg

noncomputable def oneE : List Expr → Option Expr
  | [e] => some e
  | _ => none
theorem oneE_inv {l : List Expr} {e : Expr} (q : oneE l = some e) : l = [e] := by
  match l, q with
  | [], q => exact nn q
  | _ :: _ :: _, q => exact nn q
  | [_], q => cases q; rfl
noncomputable def lstD : Dat → Option (List Dat)
  | .list ds => some ds
  | _ => none
theorem lstD_inv {d : Dat} {b : List Dat} (h : lstD d = some b) : d = .list b := by cases d <;> first | exact nn h | (cases h; rfl)
noncomputable def intD : Dat → Option Int
  | .int i => some i
  | _ => none
theorem intD_inv {d : Dat} {b : Int} (h : intD d = some b) : d = .int b := by cases d <;> first | exact nn h | (cases h; rfl)
noncomputable def ownL (v : Dat × Bool) : Option (List Dat) := if v.2 = true then lstD v.1 else none
theorem ownL_inv {v : Option (Dat × Bool)} {b : List Dat} (h : v.bind ownL = some b) : v = some (.list b, true) := by
  obtain ⟨⟨d, o⟩, rfl, h⟩ := bind_inv h
  refine if_elim (h) fun ho h => ?_
  cases lstD_inv h
  cases (show o = true from ho)
  rfl

section
variable (Φ : Funs) (N W : Nat) (hk : Hook) (κ : Kd) (run : List Stmt → Sg → Option (Fl × Sg)) (σ : Sg)
noncomputable def asnN (value : Expr) (x : Str) : Option (Fl × Sg) :=
  if canBind κ x = true then (ev Φ N κ (ρof σ) value).bind fun d => if (freshE value || imm d) = true then some (.next, sv σ x (d, true)) else none else none
noncomputable def asn2d (l : Str) (ds : List Dat) (ds' : List Dat) : Option (Fl × Sg) := some (.next, sv σ l (.list ds', true))
noncomputable def asn2c (l : Str) (v : Dat) (ds : List Dat) (iv : Dat) : Option (Fl × Sg) := if imm v = true then (setAt iv ds v).bind (asn2d σ l ds) else none
noncomputable def asn2b (i : Expr) (l : Str) (v : Dat) (ds : List Dat) : Option (Fl × Sg) := (ev Φ N κ (ρof σ) i).bind (asn2c σ l v ds)
noncomputable def asn2a (i : Expr) (l : Str) (v : Dat) : Option (Fl × Sg) := ((gv σ l).bind ownL).bind (asn2b Φ N κ σ i l v)
noncomputable def asn2 (value i : Expr) (l : Str) : Option (Fl × Sg) := if isComp value = false ∧ isVar κ l = true then (ev Φ N κ (ρof σ) value).bind (asn2a Φ N κ σ i l) else none
noncomputable def asn3f (l : Str) (rows : List Dat) (iv : Int) (row' : List Dat) : Option (Fl × Sg) := some (.next, sv σ l (.list (rows.set iv.toNat (.list row')), true))
noncomputable def asn3e (l : Str) (v : Dat) (rows : List Dat) (iv : Int) (jv : Dat) (row : List Dat) : Option (Fl × Sg) := (setAt jv row v).bind (asn3f σ l rows iv)
noncomputable def asn3d (l : Str) (v : Dat) (rows : List Dat) (iv : Int) (jv : Dat) : Option (Fl × Sg) := if imm v = true then ((itemD (.list rows) (.int iv)).bind lstD).bind (asn3e σ l v rows iv jv) else none
noncomputable def asn3c (j : Expr) (l : Str) (v : Dat) (rows : List Dat) (iv : Int) : Option (Fl × Sg) := (ev Φ N κ (ρof σ) j).bind (asn3d σ l v rows iv)
noncomputable def asn3b (i j : Expr) (l : Str) (v : Dat) (rows : List Dat) : Option (Fl × Sg) := ((ev Φ N κ (ρof σ) i).bind intD).bind (asn3c Φ N κ σ j l v rows)
noncomputable def asn3a (i j : Expr) (l : Str) (v : Dat) : Option (Fl × Sg) := ((gv σ l).bind ownL).bind (asn3b Φ N κ σ i j l v)
noncomputable def asn3 (value i j : Expr) (l : Str) : Option (Fl × Sg) := if isComp value = false ∧ isVar κ l = true then (ev Φ N κ (ρof σ) value).bind (asn3a Φ N κ σ i j l) else none
noncomputable def asnS (value : Expr) (o : Expr × Expr) : Option (Fl × Sg) :=
  (nameE o.1).elim ((subE o.1).bind fun o' => (nameE o'.1).bind (asn3 Φ N κ σ value o'.2 o.2)) (asn2 Φ N κ σ value o.2)
noncomputable def asnF (ts : List Expr) (value : Expr) : Option (Fl × Sg) :=
  (oneE ts).bind fun t => (nameE t).elim ((subE t).bind (asnS Φ N κ σ value)) (asnN Φ N κ σ value)
noncomputable def augN (op : Operator) (e : Expr) (x : Str) : Option (Fl × Sg) :=
  if canBind κ x = true then (gv σ x).bind fun a => (ev Φ N κ (ρof σ) e).bind fun b => (augD op a.1 b).bind fun c => some (.next, sv σ x (c, true)) else none
noncomputable def aug2f (l : Str) (ds' : List Dat) : Option (Fl × Sg) := some (.next, sv σ l (.list ds', true))
noncomputable def aug2e (l : Str) (ds : List Dat) (iv c : Dat) : Option (Fl × Sg) := (setAt iv ds c).bind (aug2f σ l)
noncomputable def aug2d (op : Operator) (l : Str) (ds : List Dat) (iv b a : Dat) : Option (Fl × Sg) := (augD op a b).bind (aug2e σ l ds iv)
noncomputable def aug2c (op : Operator) (l : Str) (ds : List Dat) (iv b : Dat) : Option (Fl × Sg) := (itemD (.list ds) iv).bind (aug2d σ op l ds iv b)
noncomputable def aug2b (op : Operator) (e : Expr) (l : Str) (ds : List Dat) (iv : Dat × Bool) : Option (Fl × Sg) := (ev Φ N κ (ρof σ) e).bind (aug2c σ op l ds iv.1)
noncomputable def aug2a (op : Operator) (e : Expr) (l i : Str) (ds : List Dat) : Option (Fl × Sg) := (gv σ i).bind (aug2b Φ N κ σ op e l ds)
noncomputable def aug2 (op : Operator) (e : Expr) (l i : Str) : Option (Fl × Sg) := if isVar κ l = true ∧ isVar κ i = true then ((gv σ l).bind ownL).bind (aug2a Φ N κ σ op e l i) else none
noncomputable def augF (t : Expr) (op : Operator) (e : Expr) : Option (Fl × Sg) :=
  (nameE t).elim ((subE t).bind fun o => (nameE o.1).bind fun l => (nameE o.2).bind (aug2 Φ N κ σ op e l)) (augN Φ N κ σ op e)
noncomputable def putF (l m : Str) (e : Expr) (ds : List Dat) (d : Dat) : Option (Fl × Sg) :=
  if m = ("append" : Str) then (if imm d = true ∧ ds.length ≤ lineMax ∧ ds.all imm = true then some (.next, sv σ l (.list (ds ++ [d]), true)) else none)
  else if m = ("extend" : Str) then (lstD d).bind fun es => if es.all imm = true ∧ freshE e = true ∧ ds.length + es.length ≤ lineMax ∧ ds.all imm = true then some (.next, sv σ l (.list (ds ++ es), true)) else none
  else none
noncomputable def exprE (l m : Str) (e : Expr) (ds : List Dat) : Option (Fl × Sg) := (ev Φ N κ (ρof σ) e).bind (putF σ l m e ds)
noncomputable def exprD (c : Expr × List Expr × List Keyword × Pos) (m : Str) (ap : Pos) (l : Str) (e : Expr) : Option (Fl × Sg) :=
  if c.2.2.1.isEmpty = true ∧ isVar κ l = true ∧ (ap.endLine == c.2.2.2.line) = true then ((gv σ l).bind ownL).bind (exprE Φ N κ σ l m e) else none
noncomputable def exprC (c : Expr × List Expr × List Keyword × Pos) (m : Str) (ap : Pos) (l : Str) : Option (Fl × Sg) := (oneE c.2.1).bind (exprD Φ N κ σ c m ap l)
noncomputable def exprB (c : Expr × List Expr × List Keyword × Pos) (a : Expr × Str × Pos) : Option (Fl × Sg) := (nameE a.1).bind (exprC Φ N κ σ c a.2.1 a.2.2)
noncomputable def exprA (c : Expr × List Expr × List Keyword × Pos) : Option (Fl × Sg) := (attrE c.1).bind (exprB Φ N κ σ c)
noncomputable def exprF (e : Expr) : Option (Fl × Sg) := (callE e).bind (exprA Φ N κ σ)
noncomputable def forN (x : Str) (body : List Stmt) (l : Str) : Option (Fl × Sg) :=
  if isVar κ l = true then (gv σ l).bind fun p => (lstD p.1).bind fun items => if items.all imm = true then forL (run body) x items (sv σ l (.list items, false)) else none else none
noncomputable def forR (x : Str) (body : List Stmt) (c : Expr × List Expr × List Keyword × Pos) : Option (Fl × Sg) :=
  (nameE c.1).bind fun f => if c.2.2.1.isEmpty = true ∧ f = ("range" : Str) ∧ isGlob κ f = true then ((allSome (ev Φ N κ (ρof σ)) c.2.1).bind rangeD).bind fun items => forL (run body) x items σ else none
noncomputable def forS (x : Str) (body : List Stmt) (it : Expr) : Option (Fl × Sg) :=
  (lstE it).bind fun _ => ((ev Φ N κ (ρof σ) it).bind lstD).bind fun items => if items.all imm = true then forL (run body) x items σ else none
noncomputable def forF (t it : Expr) (body : List Stmt) : Option (Fl × Sg) :=
  (nameE t).bind fun x => if canBind κ x = true then (nameE it).elim ((callE it).elim (forS Φ N κ run σ x body it) (forR Φ N κ run σ x body)) (forN κ run σ x body) else none
noncomputable def retF (e : Expr) : Option (Fl × Sg) :=
  (ev Φ N κ (ρof σ) e).bind fun d => if (freshE e || imm d || ownName σ e) = true then some (.ret d, σ) else none
noncomputable def exF : Stmt → Option (Fl × Sg)
  | .Assign ts value _ => asnF Φ N κ σ ts value
  | .AugAssign t op e _ => augF Φ N κ σ t op e
  | .Expr e _ => exprF Φ N κ σ e
  | .If test body orelse _ => (tst (ev Φ N) κ (ρof σ) test).bind fun b => if b = true then run body σ else run orelse σ
  | .For t it body orelse _ => if orelse.isEmpty = true then forF Φ N κ run σ t it body else none
  | .While test body orelse _ => if orelse.isEmpty = true then whileL (fun σ => tst (ev Φ N) κ (ρof σ) test) (run body) W σ else none
  | .Return e _ => e.bind (retF Φ N κ σ)
  | _ => none
end
noncomputable def ex1 (Φ : Funs) (N W : Nat) (hk : Hook) (κ : Kd) (run : List Stmt → Sg → Option (Fl × Sg)) (st : Stmt) (σ : Sg) : Option (Fl × Sg) :=
  (hk κ st σ).elim (exF Φ N W κ run σ st) fun σ' => some (.next, σ')

noncomputable def exs (Φ : Funs) (N W : Nat) (hk : Hook) (κ : Kd) : Nat → List Stmt → Sg → Option (Fl × Sg)
  | 0, _, _ => none
  | _ + 1, [], σ => some (.next, σ)
  | n + 1, st :: rest, σ => match ex1 Φ N W hk κ (exs Φ N W hk κ n) st σ with
    | some (.next, σ') => exs Φ N W hk κ n rest σ'
    | r => r

/-! ## The state of a body -/
noncomputable abbrev Base := Addr → Option Obj
noncomputable def BHas (B : Base) (h : Heap) : Prop := ∀ a o, B a = some o → h.get? a = some o
noncomputable def BLe (B B' : Base) : Prop := ∀ a o, B a = some o → B' a = some o

/-- the objects of the frame itself -/
structure FrOk (B : Base) (env : Env) (h : Heap) : Prop where
  ns : ∃ m, h.Ns env.locals m
  nsB : B env.locals = none
  cell : ∀ x c, env.cells.lookup x = some c → ∃ v, h.IsCell c v
  cellB : ∀ x c, env.cells.lookup x = some c → B c = none
  inj : ∀ x y c, env.cells.lookup x = some c → env.cells.lookup y = some c → x = y
  apart : ∀ x c, env.cells.lookup x = some c → c ≠ env.locals
noncomputable def inSys (env : Env) (a : Addr) : Prop := a = env.locals ∨ ∃ x, env.cells.lookup x = some a

structure VarAt (B : Base) (env : Env) (h : Heap) (fp : Str → List Addr) (x : Str) (d : Dat) (o : Bool) : Prop where
  plain : plainName x = true
  val : ∃ v, VarIs env h x v ∧ Den h v d (fp x)
  own : o = true → ∀ a ∈ fp x, B a = none
  once : o = true → (fp x).Nodup
  lent : o = false → ∀ a ∈ fp x, ∃ ob, B a = some ob

structure ExS (s0 : Shared) (H0 : Heap) (B : Base) (env : Env) (s : Shared) (σ : Sg) : Prop where
  sh : ∃ h tk, s = { s0 with heap := h, toks := tk }
  st : St H0 s
  hB : ∀ b o, H0.get? b = some o → B b = some o
  has : BHas B s.heap
  fr : FrOk B env s.heap
  vars : ∃ fp : Str → List Addr, (∀ x d o, gv σ x = some (d, o) → VarAt B env s.heap fp x d o) ∧
    (∀ x y dx dy, gv σ x = some (dx, true) → gv σ y = some (dy, true) → x ≠ y → ∀ a ∈ fp x, a ∉ fp y)

theorem BHas.up {B : Base} {h h' : Heap} (x : BHas B h) (k : Has h h') : BHas B h' := fun a o e => k a o (x a o e)
theorem IsCell.up {h h' : Heap} {c : Addr} {v : Option Value} (x : h.IsCell c v) (k : Has h h') : h'.IsCell c v := x.keeps k
theorem FrOk.up {B : Base} {env : Env} {h h' : Heap} (x : FrOk B env h) (k : Has h h') : FrOk B env h' where
  ns := let ⟨m, n⟩ := x.ns; ⟨m, n.keeps k⟩
  nsB := x.nsB
  cell := fun y c e => let ⟨v, n⟩ := x.cell y c e; ⟨v, n.keeps k⟩
  cellB := x.cellB
  inj := x.inj
  apart := x.apart
theorem VarIs.up {env : Env} {h h' : Heap} {x : Str} {v : Value} (k : Has h h') (V : VarIs env h x v) : VarIs env h' x v := by
  rcases V with ⟨a, m, n, e⟩ | ⟨a, c, e, i⟩
  · exact .inl ⟨a, m, n.keeps k, e⟩
  · exact .inr ⟨a, c, e, i.keeps k⟩
theorem VarAt.up {B : Base} {env : Env} {h h' : Heap} {fp : Str → List Addr} {x : Str} {d : Dat} {o : Bool} (k : Has h h') (V : VarAt B env h fp x d o) : VarAt B env h' fp x d o :=
  ⟨V.plain, let ⟨v, a, b⟩ := V.val; ⟨v, VarIs.up k a, k.den b⟩, V.own, V.once, V.lent⟩
section
variable {s0 s : Shared} {H0 : Heap} {B : Base} {env : Env} {σ : Sg}
theorem ExS.kp {s' : Shared} (X : ExS s0 H0 B env s σ) (k : Kp s s') (t : s.toks ≤ s'.toks) : ExS s0 H0 B env s' σ where
  sh := by
    obtain ⟨h, tk, rfl⟩ := X.sh
    obtain ⟨h', tk', rfl, _⟩ := k
    exact ⟨h', tk', rfl⟩
  st := X.st.kp k t
  hB := X.hB
  has := X.has.up k.has
  fr := X.fr.up k.has
  vars := let ⟨fp, a, b⟩ := X.vars; ⟨fp, fun x d o e => (a x d o e).up k.has, b⟩
theorem ExS.varsOk (X : ExS s0 H0 B env s σ) : VarsOk env s.heap (ρof σ) := fun x d e => by
  obtain ⟨fp, a, _⟩ := X.vars
  unfold ρof at e
  cases q : gv σ x with
  | none => rw [q] at e; cases e
  | some p =>
    rw [q] at e
    obtain ⟨d', o⟩ := p
    cases e
    have V := a x d' o q
    obtain ⟨v, h1, h2⟩ := V.val
    exact ⟨V.plain, v, fp x, h1, h2⟩
theorem sys_live {B : Base} {env : Env} {h : Heap} (F : FrOk B env h) {a : Addr} (i : inSys env a) : ∃ o, h.get? a = some o ∧ ¬ IsSeqObj o := by
  rcases i with rfl | ⟨x, e⟩
  · obtain ⟨m, o, es, ep, ho, hd, _⟩ := F.ns
    exact ⟨o, ho, fun ⟨vs, n, q⟩ => by rw [q] at hd; cases hd⟩
  · obtain ⟨v, o, ho, hd⟩ := F.cell x a e
    exact ⟨o, ho, fun ⟨vs, n, q⟩ => by rw [q] at hd; cases hd⟩
theorem den_not_sys {B : Base} {env : Env} {h : Heap} (F : FrOk B env h) {v : Value} {d : Dat} {G : List Addr} (x : Den h v d G) {a : Addr} (ha : a ∈ G) : ¬ inSys env a := fun i => by
  obtain ⟨o, ho, hn⟩ := sys_live F i
  obtain ⟨o', ho', hs⟩ := x.live a ha
  rw [ho] at ho'; cases ho'
  exact hn hs
theorem sysB {B : Base} {env : Env} {h : Heap} (F : FrOk B env h) {a : Addr} (i : inSys env a) : B a = none := by
  rcases i with rfl | ⟨x, e⟩
  · exact F.nsB
  · exact F.cellB x a e
end
end Mine
end
section
namespace Mine

section
variable {prog : Program} {w : World} {A : Around} {s0 s s₁ : Shared} {H0 : Heap} {B : Base} {env : Env} {σ : Sg} {E : Value → Shared → Prop}

theorem same_has {a b : Addr} {h h' : Heap} (hs : Heap.SameBut a h h') (hb : b ≠ a) {o : Obj} (e : h.get? b = some o) : h'.get? b = some o := hs.extBut b o hb e

theorem fn_kind (O : EOk env) : (env.scope.kind == .class || (env.scope.kind == .module && env.locals != env.globals)) = false := by rw [O.kind]; rfl

theorem bind_core (O : EOk env) {x : Str} (hc : canBind env.kindOf x = true) (X1 : ExS s0 H0 B env s₁ σ) {fp : Str → List Addr} (hv1 : ∀ y dy o, gv σ y = some (dy, o) → VarAt B env s₁.heap fp y dy o)
    (hdis : ∀ x y dx dy, gv σ x = some (dx, true) → gv σ y = some (dy, true) → x ≠ y → ∀ a ∈ fp x, a ∉ fp y) {v : Value} {d : Dat} {F : List Addr} (hd : Den s₁.heap v d F) (hBs : ∀ a ∈ F, B a = none) (hFo : F.Nodup)
    (hFfp : ∀ y dy o, gv σ y = some (dy, o) → ∀ a ∈ F, a ∉ fp y) :
    wpAny (model prog w) A (storeName env x v) (fun _ s' => ExS s0 H0 B env s' (sv σ x (d, true))) E s₁ := by
  unfold canBind at hc
  rw [Bool.and_eq_true] at hc
  have fin : ∀ (c : Addr) (h' : Heap) (tk : Nat), s₁.toks ≤ tk → inSys env c → Heap.SameBut c s₁.heap h' → FrOk B env h' → VarIs env h' x v → (∀ y vy, y ≠ x → VarIs env s₁.heap y vy → VarIs env h' y vy) →
      ExS s0 H0 B env { s₁ with heap := h', toks := tk } (sv σ x (d, true)) := fun c h' tk htk hsys hs hfr hx hy => by
    have hcB := sysB X1.fr hsys
    refine ⟨?_, ⟨fun b o e => ?_, Nat.lt_of_lt_of_le X1.st.tok htk⟩, X1.hB, fun a o e => ?_, hfr, fun y => if y = x then F else fp y, fun y dy o e => ?_, fun y z dy dz e1 e2 hne a ha => ?_⟩
    · obtain ⟨h0, tk0, rfl⟩ := X1.sh
      exact ⟨h', tk, rfl⟩
    · exact same_has hs (fun q => by subst q; rw [X1.hB _ _ e] at hcB; cases hcB) (X1.st.keep b o e)
    · exact same_has hs (fun q => by subst q; rw [e] at hcB; cases hcB) (X1.has a o e)
    · rw [gv_sv] at e
      by_cases hyx : y = x
      · subst hyx
        rw [if_pos rfl] at e
        cases e
        refine ⟨hc.2, ⟨v, hx, ?_⟩, fun _ a ha => ?_, fun _ => ?_, fun h => nomatch h⟩ <;> (try dsimp only at *)
        · rw [if_pos rfl]
          exact hd.mono fun a ha o e => same_has hs (fun q => by subst q; exact den_not_sys X1.fr hd ha hsys) e
        · rw [if_pos rfl] at ha; exact hBs a ha
        · rw [if_pos rfl]; exact hFo
      · rw [if_neg hyx] at e
        have V := hv1 y dy o e
        obtain ⟨vy, h1, h2⟩ := V.val
        refine ⟨V.plain, ⟨vy, hy y vy hyx h1, ?_⟩, fun ho a ha => ?_, fun ho => ?_, fun ho a ha => ?_⟩ <;> (try dsimp only at *)
        · rw [if_neg hyx]
          exact h2.mono fun a ha o e => same_has hs (fun q => by subst q; exact den_not_sys X1.fr h2 ha hsys) e
        · rw [if_neg hyx] at ha; exact V.own ho a ha
        · rw [if_neg hyx]; exact V.once ho
        · rw [if_neg hyx] at ha; exact V.lent ho a ha
    · rw [gv_sv] at e1 e2
      dsimp only at ha ⊢
      by_cases hyx : y = x
      · subst hyx
        have hzx : ¬ z = y := fun q => hne q.symm
        rw [if_neg hzx] at e2
        rw [if_neg hzx]
        rw [if_pos rfl] at ha
        exact hFfp z dz true e2 a ha
      · rw [if_neg hyx] at e1 ha
        by_cases hzx : z = x
        · rw [if_pos hzx]
          exact fun hF' => hFfp y dy true e1 a hF' ha
        · rw [if_neg hzx] at e2
          rw [if_neg hzx]
          exact hdis y z dy dz e1 e2 hne a ha
  rcases (show env.kindOf x = some .local ∨ env.kindOf x = some .cell by have := hc.1; simpa using this) with hk | hk
  · obtain ⟨m, hn⟩ := X1.fr.ns
    refine wpAny_storeName_local hk hn (fun h' hn' hs => ?_) (fn_kind O)
    refine fin env.locals h' _ (Nat.le_succ _) (.inl rfl) hs ⟨⟨_, hn'⟩, X1.fr.nsB, fun y c e => ?_, X1.fr.cellB, X1.fr.inj, X1.fr.apart⟩ (.inl ⟨hk, _, hn', by simp⟩) fun y vy hyx V => ?_
    · obtain ⟨v', i⟩ := X1.fr.cell y c e
      exact ⟨v', i.sameBut hs (X1.fr.apart y c e)⟩
    · rcases V with ⟨a, m', n', e⟩ | ⟨a, c, e, i⟩
      · refine .inl ⟨a, _, hn', ?_⟩
        rw [if_neg hyx, hn.agree n' y]; exact e
      · exact .inr ⟨a, c, e, i.sameBut hs (X1.fr.apart y c e)⟩
  · obtain ⟨c, hcl⟩ := O.cells x (.inl hk)
    obtain ⟨v₀, hv₀⟩ := X1.fr.cell x c hcl
    refine wpAny_storeName_cell O.kind hk hcl hv₀ fun h' hi' hs => ?_
    have := fin c h' s₁.toks (Nat.le_refl _) (.inr ⟨x, hcl⟩) hs ⟨?_, X1.fr.nsB, fun y c' e => ?_, X1.fr.cellB, X1.fr.inj, X1.fr.apart⟩ (.inr ⟨.inl hk, c, hcl, hi'⟩) fun y vy hyx V => ?_
    · exact this
    · obtain ⟨m, hn⟩ := X1.fr.ns
      exact ⟨m, hn.sameBut hs (Ne.symm (X1.fr.apart x c hcl))⟩
    · by_cases hcc : c' = c
      · subst hcc; exact ⟨_, hi'⟩
      · obtain ⟨v', i⟩ := X1.fr.cell y c' e
        exact ⟨v', i.sameBut hs hcc⟩
    · rcases V with ⟨a, m', n', e⟩ | ⟨a, c', e, i⟩
      · exact .inl ⟨a, m', n'.sameBut hs (Ne.symm (X1.fr.apart x c hcl)), e⟩
      · exact .inr ⟨a, c', e, i.sameBut hs fun q => hyx (X1.fr.inj y x c (q ▸ e) hcl)⟩

/-- binding a name: the value's footprint is new, or there is none -/
theorem bind_var (O : EOk env) {x : Str} (hc : canBind env.kindOf x = true) (X : ExS s0 H0 B env s σ) (k : Kp s s₁) (t : s.toks ≤ s₁.toks) {v : Value} {d : Dat} {F : List Addr} (hd : Den s₁.heap v d F) (hF : Fresh s F) :
    wpAny (model prog w) A (storeName env x v) (fun _ s' => ExS s0 H0 B env s' (sv σ x (d, true))) E s₁ := by
  have X1 := X.kp k t
  obtain ⟨fp, hv, hdis⟩ := X.vars
  refine bind_core O hc X1 (fun y dy o e => (hv y dy o e).up k.has) hdis hd (fun a ha => ?_) hF.once fun y dy o e a ha hy => ?_
  · cases q : B a with
    | none => rfl
    | some o => exact absurd rfl (live_ne (hF.gone a ha) (X.has a o q))
  · obtain ⟨vy, _, dn⟩ := (hv y dy o e).val
    obtain ⟨ob, e1, _⟩ := dn.live a hy
    exact live_ne (hF.gone a ha) e1 rfl

/-- pinning objects that are no lists -/
theorem ExS.pin (X : ExS s0 H0 B env s σ) (P : List Addr) (hP : ∀ a ∈ P, ∃ o, s.heap.get? a = some o ∧ ¬ IsSeqObj o ∧ ¬ inSys env a) : ExS s0 H0 (fun a => if a ∈ P then s.heap.get? a else B a) env s σ := by
  obtain ⟨fp, hv, hdis⟩ := X.vars
  have nseq : ∀ {v : Value} {d : Dat} {F : List Addr}, Den s.heap v d F → ∀ a ∈ F, a ∉ P := fun hd a ha hp => by
    obtain ⟨o, e, hn, _⟩ := hP a hp
    obtain ⟨o', e', hs⟩ := hd.live a ha
    rw [e] at e'; cases e'
    exact hn hs
  refine ⟨X.sh, X.st, fun b ob e => ?_, fun a ob e => ?_, ⟨X.fr.ns, ?_, X.fr.cell, fun y c e => ?_, X.fr.inj, X.fr.apart⟩, fp, fun y dy oy e => ?_, hdis⟩
  · (try dsimp only)
    split
    · exact X.st.keep b ob e
    · exact X.hB b ob e
  · (try dsimp only at e)
    split at e
    · exact e
    · exact X.has a ob e
  · (try dsimp only)
    rw [if_neg fun h => let ⟨_, _, _, hs⟩ := hP _ h; hs (.inl rfl)]
    exact X.fr.nsB
  · (try dsimp only)
    rw [if_neg fun h => let ⟨_, _, _, hs⟩ := hP _ h; hs (.inr ⟨y, e⟩)]
    exact X.fr.cellB y c e
  · have V := hv y dy oy e
    obtain ⟨v, h1, h2⟩ := V.val
    refine ⟨V.plain, ⟨v, h1, h2⟩, fun ho a ha => ?_, V.once, fun ho a ha => ?_⟩
    · (try dsimp only)
      rw [if_neg (nseq h2 a ha)]; exact V.own ho a ha
    · (try dsimp only)
      rw [if_neg (nseq h2 a ha)]; exact V.lent ho a ha

/-- pinning new objects -/
theorem ExS.pinNew (X : ExS s0 H0 B env s σ) (k : Kp s s₁) (t : s.toks ≤ s₁.toks) {F : List Addr} (hF : Fresh s F) : ExS s0 H0 (fun a => if a ∈ F then s₁.heap.get? a else B a) env s₁ σ := by
  have X1 := X.kp k t
  obtain ⟨fp, hv, hdis⟩ := X.vars
  have nin : ∀ {a : Addr} {o : Obj}, s.heap.get? a = some o → a ∉ F := fun e ha => live_ne (hF.gone _ ha) e rfl
  have nfp : ∀ {y : Str} {dy : Dat} {oy : Bool}, gv σ y = some (dy, oy) → ∀ a ∈ fp y, a ∉ F := fun e a ha => by
    obtain ⟨vy, _, dn⟩ := (hv _ _ _ e).val
    obtain ⟨ob, e1, _⟩ := dn.live a ha
    exact nin e1
  have nsys : ∀ a, inSys env a → a ∉ F := fun a i => by
    obtain ⟨o, e, _⟩ := sys_live X.fr i
    exact nin e
  refine ⟨X1.sh, X1.st, fun b ob e => ?_, fun a ob e => ?_, ⟨X1.fr.ns, ?_, X1.fr.cell, fun y c e => ?_, X1.fr.inj, X1.fr.apart⟩, fp, fun y dy oy e => ?_, hdis⟩
  · (try dsimp only)
    split
    · exact X1.st.keep b ob e
    · exact X1.hB b ob e
  · (try dsimp only at e)
    split at e
    · exact e
    · exact X1.has a ob e
  · (try dsimp only)
    rw [if_neg (nsys _ (.inl rfl))]
    exact X1.fr.nsB
  · (try dsimp only)
    rw [if_neg (nsys _ (.inr ⟨y, e⟩))]
    exact X1.fr.cellB y c e
  · have V := (hv y dy oy e).up k.has
    refine ⟨V.plain, V.val, fun ho a ha => ?_, V.once, fun ho a ha => ?_⟩
    · (try dsimp only)
      rw [if_neg (nfp e a ha)]; exact V.own ho a ha
    · (try dsimp only)
      rw [if_neg (nfp e a ha)]; exact V.lent ho a ha

/-- letting pinned objects go, which may have changed -/
theorem ExS.drop (X : ExS s0 H0 B env s σ) (P : List Addr) (hP : ∀ a ∈ P, ∃ o, s.heap.get? a = some o ∧ ¬ IsSeqObj o ∧ H0.get? a = none ∧ ¬ inSys env a) {h' : Heap} {tk : Nat} (htk : s.toks ≤ tk) (hk : ∀ b o, b ∉ P → s.heap.get? b = some o → h'.get? b = some o) :
    ExS s0 H0 (fun a => if a ∈ P then none else B a) env { s with heap := h', toks := tk } σ := by
  obtain ⟨fp, hv, hdis⟩ := X.vars
  have nseq : ∀ {v : Value} {d : Dat} {F : List Addr}, Den s.heap v d F → ∀ a ∈ F, a ∉ P := fun hd a ha hp => by
    obtain ⟨o, e, hn, _⟩ := hP a hp
    obtain ⟨o', e', hs⟩ := hd.live a ha
    rw [e] at e'; cases e'
    exact hn hs
  have nsys : ∀ a, inSys env a → a ∉ P := fun a hs hp => let ⟨_, _, _, _, h⟩ := hP a hp; h hs
  refine ⟨?_, ⟨fun b ob e => ?_, Nat.lt_of_lt_of_le X.st.tok htk⟩, fun b ob e => ?_, fun a ob e => ?_, ⟨?_, ?_, fun y c e => ?_, fun y c e => ?_, X.fr.inj, X.fr.apart⟩, fp, fun y dy oy e => ?_, hdis⟩
  · obtain ⟨h0, tk0, rfl⟩ := X.sh
    exact ⟨h', tk, rfl⟩
  · exact hk b ob (fun h => by obtain ⟨_, _, _, h0, _⟩ := hP b h; rw [e] at h0; cases h0) (X.st.keep b ob e)
  · (try dsimp only)
    rw [if_neg fun h => by obtain ⟨_, _, _, h0, _⟩ := hP b h; rw [e] at h0; cases h0]
    exact X.hB b ob e
  · (try dsimp only at e)
    split at e
    · cases e
    · rename_i h; exact hk a ob h (X.has a ob e)
  · obtain ⟨m, n⟩ := X.fr.ns
    exact ⟨m, n.at' fun o e => hk _ o (nsys _ (.inl rfl)) e⟩
  · (try dsimp only)
    rw [if_neg (nsys _ (.inl rfl))]; exact X.fr.nsB
  · obtain ⟨v, o, e1, e2⟩ := X.fr.cell y c e
    exact ⟨v, o, hk _ o (nsys _ (.inr ⟨y, e⟩)) e1, e2⟩
  · (try dsimp only)
    rw [if_neg (nsys _ (.inr ⟨y, e⟩))]; exact X.fr.cellB y c e
  · have V := hv y dy oy e
    obtain ⟨v, h1, h2⟩ := V.val
    refine ⟨V.plain, ⟨v, ?_, h2.mono fun a ha o e => hk a o (nseq h2 a ha) e⟩, fun ho a ha => ?_, V.once, fun ho a ha => ?_⟩
    · rcases h1 with ⟨a, m, n, e⟩ | ⟨a, c, e, o, e1, e2⟩
      · exact .inl ⟨a, m, n.at' fun o e => hk _ o (nsys _ (.inl rfl)) e, e⟩
      · exact .inr ⟨a, c, e, o, hk _ o (nsys _ (.inr ⟨y, e⟩)) e1, e2⟩
    · (try dsimp only)
      rw [if_neg (nseq h2 a ha)]; exact V.own ho a ha
    · (try dsimp only)
      rw [if_neg (nseq h2 a ha)]; exact V.lent ho a ha

/-- changing one object of an owned variable -/
theorem ExS.mut (X : ExS s0 H0 B env s σ) {fp : Str → List Addr} (hv : ∀ x d o, gv σ x = some (d, o) → VarAt B env s.heap fp x d o)
    (hdis : ∀ x y dx dy, gv σ x = some (dx, true) → gv σ y = some (dy, true) → x ≠ y → ∀ a ∈ fp x, a ∉ fp y) {l : Str} {d d' : Dat} (q : gv σ l = some (d, true)) {a : Addr} (ha : a ∈ fp l) {h' : Heap} {tk : Nat} (htk : s.toks ≤ tk)
    (hs : Heap.SameBut a s.heap h') {v : Value} (hV : VarIs env s.heap l v) (hd : Den h' v d' (fp l)) : ExS s0 H0 B env { s with heap := h', toks := tk } (sv σ l (d', true)) := by
  have V := hv l d true q
  have hB := V.own rfl a ha
  obtain ⟨v0, hV0, hd0⟩ := V.val
  have hns := den_not_sys X.fr hd0 ha
  have hfr : FrOk B env h' := by
    refine ⟨?_, X.fr.nsB, fun y c e => ?_, X.fr.cellB, X.fr.inj, X.fr.apart⟩
    · obtain ⟨m, n⟩ := X.fr.ns
      exact ⟨m, n.sameBut hs fun z => hns (.inl z.symm)⟩
    · obtain ⟨v', i⟩ := X.fr.cell y c e
      exact ⟨v', i.sameBut hs fun z => hns (.inr ⟨y, z ▸ e⟩)⟩
  have hvar : ∀ y vy, VarIs env s.heap y vy → VarIs env h' y vy := fun y vy V => by
    rcases V with ⟨a', m', n', e⟩ | ⟨a', c', e, i⟩
    · exact .inl ⟨a', m', n'.sameBut hs fun z => hns (.inl z.symm), e⟩
    · exact .inr ⟨a', c', e, i.sameBut hs fun z => hns (.inr ⟨y, z ▸ e⟩)⟩
  refine ⟨?_, ⟨fun b o e => ?_, Nat.lt_of_lt_of_le X.st.tok htk⟩, X.hB, fun b o e => ?_, hfr, fp, fun y dy o e => ?_, fun y z dy dz e1 e2 hne b hb => ?_⟩
  · obtain ⟨h0, tk0, rfl⟩ := X.sh
    exact ⟨h', tk, rfl⟩
  · exact same_has hs (fun q => by subst q; rw [X.hB _ _ e] at hB; cases hB) (X.st.keep b o e)
  · exact same_has hs (fun q => by subst q; rw [e] at hB; cases hB) (X.has b o e)
  · rw [gv_sv] at e
    by_cases hyl : y = l
    · subst hyl
      rw [if_pos rfl] at e
      cases e
      exact ⟨V.plain, ⟨v, hvar _ _ hV, hd⟩, fun _ => V.own rfl, fun _ => V.once rfl, fun h => nomatch h⟩
    · rw [if_neg hyl] at e
      have Vy := hv y dy o e
      obtain ⟨vy, h1, h2⟩ := Vy.val
      refine ⟨Vy.plain, ⟨vy, hvar _ _ h1, h2.mono fun b hb ob e' => same_has hs (fun z => ?_) e'⟩, Vy.own, Vy.once, Vy.lent⟩
      subst z
      cases o with
      | true => exact hdis y l dy d e q hyl b hb ha
      | false =>
        obtain ⟨ob', e2⟩ := Vy.lent rfl b hb
        rw [e2] at hB; cases hB
  · have conv : ∀ y dy, gv (sv σ l (d', true)) y = some (dy, true) → ∃ dy', gv σ y = some (dy', true) := fun y dy e => by
      rw [gv_sv] at e
      by_cases hyl : y = l
      · subst hyl; exact ⟨d, q⟩
      · rw [if_neg hyl] at e; exact ⟨dy, e⟩
    obtain ⟨dy', e1'⟩ := conv y dy e1
    obtain ⟨dz', e2'⟩ := conv z dz e2
    exact hdis y z dy' dz' e1' e2' hne b hb

/-- an owned variable is lent out: its objects are pinned -/
theorem ExS.freeze (X : ExS s0 H0 B env s σ) {l : Str} {d : Dat} {o : Bool} (q : gv σ l = some (d, o)) :
    ∃ B' fl v, BLe B B' ∧ ExS s0 H0 B' env s (sv σ l (d, false)) ∧ VarIs env s.heap l v ∧ Den s.heap v d fl ∧ ∀ a ∈ fl, ∃ ob, B' a = some ob := by
  obtain ⟨fp, hv, hdis⟩ := X.vars
  have V := hv l d o q
  obtain ⟨v, hV, hd⟩ := V.val
  refine ⟨fun a => if a ∈ fp l then s.heap.get? a else B a, fp l, v, fun a ob e => ?_, ?_, hV, hd, fun a ha => ?_⟩
  · (try dsimp only)
    split
    · exact X.has a ob e
    · exact e
  · refine ⟨X.sh, X.st, fun b ob e => ?_, fun a ob e => ?_, ⟨X.fr.ns, ?_, X.fr.cell, fun y c e => ?_, X.fr.inj, X.fr.apart⟩, fp, fun y dy oy e => ?_, fun y z dy dz e1 e2 hne b hb => ?_⟩
    · (try dsimp only)
      split
      · exact X.st.keep b ob e
      · exact X.hB b ob e
    · (try dsimp only at e)
      split at e
      · exact e
      · exact X.has a ob e
    · (try dsimp only)
      rw [if_neg fun h => den_not_sys X.fr hd h (.inl rfl)]
      exact X.fr.nsB
    · (try dsimp only)
      rw [if_neg fun h => den_not_sys X.fr hd h (.inr ⟨y, e⟩)]
      exact X.fr.cellB y c e
    · rw [gv_sv] at e
      by_cases hyl : y = l
      · subst hyl
        rw [if_pos rfl] at e
        cases e
        refine ⟨V.plain, ⟨v, hV, hd⟩, (fun h => nomatch h), (fun h => nomatch h), fun _ a ha => ?_⟩
        obtain ⟨ob, e1, _⟩ := hd.live a ha
        exact ⟨ob, by (try dsimp only); rw [if_pos ha]; exact e1⟩
      · rw [if_neg hyl] at e
        have Vy := hv y dy oy e
        refine ⟨Vy.plain, Vy.val, fun ho a ha => ?_, Vy.once, fun ho a ha => ?_⟩
        · (try dsimp only)
          subst ho
          cases o with
          | true => rw [if_neg (hdis y l dy d e q hyl a ha)]; exact Vy.own rfl a ha
          | false =>
            by_cases hal : a ∈ fp l
            · obtain ⟨ob, e1⟩ := V.lent rfl a hal
              rw [Vy.own rfl a ha] at e1; cases e1
            · rw [if_neg hal]; exact Vy.own rfl a ha
        · (try dsimp only)
          by_cases hal : a ∈ fp l
          · rw [if_pos hal]
            obtain ⟨ob, e1, _⟩ := hd.live a hal
            exact ⟨ob, e1⟩
          · rw [if_neg hal]; exact Vy.lent ho a ha
    · rw [gv_sv] at e1 e2
      by_cases hyl : y = l
      · rw [if_pos hyl] at e1; cases e1
      · by_cases hzl : z = l
        · rw [if_pos hzl] at e2; cases e2
        · rw [if_neg hyl] at e1
          rw [if_neg hzl] at e2
          exact hdis y z dy dz e1 e2 hne b hb
  · (try dsimp only)
    obtain ⟨ob, e1, _⟩ := hd.live a ha
    exact ⟨ob, by rw [if_pos ha]; exact e1⟩
end
end Mine
end
section
namespace Mine

noncomputable def Res (s0 : Shared) (H0 : Heap) (B : Base) (env : Env) (r : Fl × Sg) (f : Flow) (s' : Shared) : Prop :=
  match r.1 with
  | .next => f = .next ∧ ∃ B', BLe B B' ∧ ExS s0 H0 B' env s' r.2
  | .ret d => ∃ v, f = .ret v ∧ (∃ h tk, s' = { s0 with heap := h, toks := tk }) ∧ BHas B s'.heap ∧ ∃ F, Den s'.heap v d F ∧ (∀ a ∈ F, B a = none) ∧ F.Nodup
theorem BLe.refl (B : Base) : BLe B B := fun _ _ e => e
theorem BLe.trans {B B' B'' : Base} (x : BLe B B') (y : BLe B' B'') : BLe B B'' := fun a o e => y a o (x a o e)
theorem BLe.none {B B' : Base} (x : BLe B B') {a : Addr} (e : B' a = none) : B a = none := by
  cases q : B a with
  | none => rfl
  | some o => rw [x a o q] at e; cases e
theorem Res.up {s0 : Shared} {H0 : Heap} {B B' : Base} {env : Env} {r : Fl × Sg} {f : Flow} {s' : Shared} (x : BLe B B') (h : Res s0 H0 B' env r f s') : Res s0 H0 B env r f s' := by
  obtain ⟨fl, σ⟩ := r
  cases fl with
  | next =>
    obtain ⟨h1, B'', h2, h3⟩ := h
    exact ⟨h1, B'', x.trans h2, h3⟩
  | ret d =>
    obtain ⟨v, h1, h2, h3, F, h4, h5, h6⟩ := h
    exact ⟨v, h1, h2, fun a o e => h3 a o (x a o e), F, h4, (fun a ha => x.none (h5 a ha)), h6⟩

noncomputable def HookOk (prog : Program) (w : World) (A : Around) (s0 : Shared) (H0 : Heap) (env : Env) (hk : Hook) : Prop :=
  ∀ st σ σ' B s, hk env.kindOf st σ = some σ' → ExS s0 H0 B env s σ → wpAny (model prog w) A (exec st env) (fun f s' => f = .next ∧ ∃ B', BLe B B' ∧ ExS s0 H0 B' env s' σ') No s

section
variable {prog : Program} {w : World} {A : Around} {s0 s s₁ : Shared} {H0 : Heap} {B : Base} {env : Env} {σ : Sg} {E : Value → Shared → Prop} {K : Nat} {Φ : Funs}

theorem listcomp_use (Gl0 : Gl H0) (FO : FOk prog w H0 K Φ) (O : EOk env) (R : Rm A K) {ρ : Vs} (T : St H0 s) (V : VarsOk env s.heap ρ) {use : Option (Value → Sem Unit)} {Q : Value → Shared → Prop} {elt : Expr} {gens : List Comprehension} {scope : Scope} {pos : Pos} {N : Nat} {d : Dat}
    (q : ev Φ N env.kindOf ρ (.ListComp elt gens scope pos) = some d)
    (hU : ∀ ds D C h' tk m G, d = .list ds → Made s ds D C h' tk m G → compPost (model prog w) A No use Q (.ref D) C (.ok .next) { s with heap := h', toks := tk }) :
    wpAny (model prog w) A (comprehension (.ListComp elt gens scope pos) scope env (firstIterPos gens pos) (newList []) (firstAsync gens) (firstIter gens env) use) Q No s := by
  cases N with
  | zero => cases q
  | succ n =>
    have S := ev_sound Gl0 FO n (prog := prog) (w := w)
    exact compF_sound Gl0 S O R T V (gens := gens) q hU

theorem ev_ok (Gl0 : Gl H0) (FO : FOk prog w H0 K Φ) (O : EOk env) (R : Rm A K) (X : ExS s0 H0 B env s σ) {N : Nat} {e : Expr} {d : Dat} (q : ev Φ N env.kindOf (ρof σ) e = some d) : wpAny (model prog w) A (eval e env) (Out s d (freshE e)) No s :=
  (ev_sound Gl0 FO N).ok env A s (ρof σ) e d O R X.st X.varsOk q

theorem ev_go (Gl0 : Gl H0) (FO : FOk prog w H0 K Φ) (O : EOk env) (R : Rm A K) (X : ExS s0 H0 B env s σ) {N : Nat} {e : Expr} {d : Dat} {Q : Value → Shared → Prop} (q : ev Φ N env.kindOf (ρof σ) e = some d) (k : ∀ v s' F, Kp s s' → s.toks ≤ s'.toks → Den s'.heap v d F → Q v s') :
    wpAny (model prog w) A (eval e env) Q E s := (ev_sound Gl0 FO N).go O R X.st X.varsOk q k
theorem out_fresh {e : Expr} {d : Dat} {v : Value} {s' : Shared} (g : Out s d (freshE e) v s') (h : (freshE e || imm d) = true) : Gives s d v s' := by
  rw [Bool.or_eq_true] at h
  rcases h with h | h
  · rw [h] at g; exact g.gives
  · exact g.imm h

theorem swaps_not {value : Expr} {t : Option Expr} {l : Nat} (h : isComp value = false) (ht : t ≠ none) : swapsWith value t l env = pure false := by
  cases value <;> first | rfl | cases h
theorem swaps_comp {elt : Expr} {gens : List Comprehension} {scope : Scope} {pos px : Pos} {x : Str} {l : Nat} : ∃ b, swapsWith (.ListComp elt gens scope pos) (some (.Name x px)) l env = pure b := ⟨_, rfl⟩

theorem assign_ok (Gl0 : Gl H0) (FO : FOk prog w H0 K Φ) (O : EOk env) (R : Rm A K) (X : ExS s0 H0 B env s σ) {N : Nat} {value : Expr} {x : Str} {px pos : Pos} {d : Dat} (hc : canBind env.kindOf x = true)
    (q : ev Φ N env.kindOf (ρof σ) value = some d) (hf : (freshE value || imm d) = true) : wpAny (model prog w) A (exec (.Assign [.Name x px] value pos) env) (fun f s' => f = .next ∧ ExS s0 H0 B env s' (sv σ x (d, true))) No s := by
  have plain : swapsWith value (some (.Name x px)) pos.line env = pure false → wpAny (model prog w) A (exec (.Assign [.Name x px] value pos) env) (fun f s' => f = .next ∧ ExS s0 H0 B env s' (sv σ x (d, true))) No s := fun hs => by
    refine wpAny_Assign_Name (wpSeq (ev_ok Gl0 FO O R X q) fun v s₁ g ht => ?_) hs
    obtain ⟨k, F, hd, hF⟩ := out_fresh g hf
    exact wpAny_mono (bind_var O hc X k ht hd hF) (fun _ s' h => ⟨rfl, h⟩) fun _ _ e => e
  by_cases hcomp : isComp value = true
  · cases value with
    | ListComp elt gens scope vpos =>
      obtain ⟨b, hb⟩ := swaps_comp (env := env) (elt := elt) (gens := gens) (scope := scope) (pos := vpos) (px := px) (x := x) (l := pos.line)
      cases b with
      | false => exact plain hb
      | true =>
        rw [exec_Assign_Name_used _ _ _ _ hb]
        refine wpAny_bind (wpAny_standAt (wpAny_bind ?_))
        show wpAny _ A (do let _ ← comprehension (.ListComp elt gens scope vpos) scope env (firstIterPos gens vpos) (newList []) (firstAsync gens) (firstIter gens env) (some (assign (.Name x px) env))) _ _ s
        refine wpAny_bind (wpAny_mono (listcomp_use Gl0 FO O R X.st X.varsOk (use := some (assign (.Name x px) env)) (Q := fun _ s' => ExS s0 H0 B env s' (sv σ x (d, true))) q fun ds D C h' tk m G hds M => ?_) (fun _ s' hq => wpAny_pure (wpAny_pure ⟨rfl, hq⟩)) fun _ _ e => e)
        subst hds
        have k : Kp s { s with heap := h', toks := tk } := ⟨h', tk, rfl, M.has⟩
        have X1 := X.kp k M.toks
        obtain ⟨oC, esC, epC, hoC, hdC, hrC⟩ := M.ns
        have hnC : ¬ IsSeqObj oC := fun ⟨vs, n, z⟩ => by rw [z] at hdC; cases hdC
        have hsC : ¬ inSys env C := fun i => by
          obtain ⟨o, e, _⟩ := sys_live X.fr i
          exact live_ne M.fC e rfl
        have X2 := X1.pin [C] fun a ha => by rw [List.mem_singleton.mp ha]; exact ⟨oC, hoC, hnC, hsC⟩
        show wpAny _ A (assign (.Name x px) env (.ref D)) _ _ _
        obtain ⟨fp, hv, hdis⟩ := X.vars
        have nlist : ∀ y dy o, gv σ y = some (dy, o) → ∀ a ∈ fp y, a ≠ C := fun y dy o e a ha => by
          obtain ⟨vy, _, dn⟩ := (hv y dy o e).val
          obtain ⟨ob, e1, _⟩ := dn.live a ha
          exact fun z => live_ne M.fC (z ▸ e1) rfl
        have hfr : ∀ a ∈ D :: G, s.heap.get? a = none ∧ a ≠ C := fun a ha => by
          rcases List.mem_cons.mp ha with rfl | ha
          · exact ⟨M.fD, M.ne⟩
          · exact ⟨M.fresh a ha, (M.apart a ha).2⟩
        refine wpAny_assign_Name (wpAny_mono (bind_core O hc X2 (fp := fp) (fun y dy o e => ?_) hdis M.den (fun a ha => ?_) (List.nodup_cons.mpr ⟨fun h => (M.apart _ h).1 rfl, M.once⟩) fun y dy o e a ha hy => ?_) (fun _ s' Y => ?_) fun _ _ e => e)
        · have V := (hv y dy o e).up k.has
          refine ⟨V.plain, V.val, fun ho a ha => ?_, V.once, fun ho a ha => ?_⟩
          · rw [if_neg (by simpa using nlist y dy o e a ha)]; exact V.own ho a ha
          · rw [if_neg (by simpa using nlist y dy o e a ha)]; exact V.lent ho a ha
        · rw [if_neg (by simpa using (hfr a ha).2)]
          cases z : B a with
          | none => rfl
          | some o => exact absurd rfl (live_ne (hfr a ha).1 (X.has a o z))
        · obtain ⟨vy, _, dn⟩ := (hv y dy o e).val
          obtain ⟨ob, e1, _⟩ := dn.live a hy
          exact live_ne (hfr a ha).1 e1 rfl
        · have hget : s'.heap.get? C = some oC := Y.has C oC (by rw [if_pos (.head _)]; exact hoC)
          refine ⟨m, ⟨oC, esC, epC, hget, hdC, hrC⟩, fun h'' hs => ?_⟩
          have Z := Y.drop [C] (h' := h'') (tk := s'.toks) (fun a ha => by
            rw [List.mem_singleton.mp ha]
            refine ⟨oC, hget, hnC, ?_, hsC⟩
            cases z : H0.get? C with
            | none => rfl
            | some o => exact absurd rfl (live_ne M.fC (X.st.keep C o z))) (Nat.le_refl _) fun b o hb e => hs.extBut b o (by simpa using hb) e
          have eB : (fun a => if a ∈ [C] then none else if a ∈ [C] then h'.get? a else B a) = B := by
            funext a
            by_cases ha : a ∈ [C]
            · rw [if_pos ha]
              rw [List.mem_singleton.mp ha]
              cases z : B C with
              | none => rfl
              | some o => exact absurd rfl (live_ne M.fC (X.has C o z))
            · rw [if_neg ha, if_neg ha]
          have Z' : ExS s0 H0 (fun a => if a ∈ [C] then none else if a ∈ [C] then h'.get? a else B a) env { s' with heap := h'', toks := s'.toks } (sv σ x (.list ds, true)) := Z
          rw [eB] at Z'
          exact Z'
    | SetComp => cases N <;> cases q
    | DictComp => cases N <;> cases q
    | _ => cases hcomp
  · exact plain (swaps_not (by simpa using hcomp) (by simp))
end
end Mine
end
section
namespace Mine

section
variable {prog : Program} {w : World} {A : Around} {s0 s s₁ : Shared} {H0 : Heap} {B : Base} {env : Env} {σ : Sg} {E : Value → Shared → Prop} {K : Nat} {Φ : Funs}

/-- storing at an index of a plain list, the object shown -/
theorem setItem_plain {l : Addr} {items : Array Value} {n : Nat} {k : Int} {t : Tok} {v : Value} {Q : Unit → Shared → Prop} (ho : s.heap.get? l = some (W.listOf items n))
    (h0 : 0 ≤ k) (hfit : k < 2 ^ 63) (hn : k < items.size)
    (hQ : ∀ h' n', h'.get? l = some (W.listOf (items.setIfInBounds k.toNat v) n') → Heap.SameBut l s.heap h' → Q () { s with heap := h' }) :
    wpAny (model prog w) A (setItem (.ref l) (.int k t) v) Q E s := by
  have hT : s.TypeIs (.ref l) "list" := ⟨_, ho, rfl⟩
  unfold setItem
  try with_reducible refine wpAny_holding ?_
  first | refine wpAny_bind (wpAny_pure ?_) | skip
  refine wpAny_bind (wpAny_sequenceKey hT (by decide) ?_)
  refine wpAny_bind (wpAny_callSpecial?_slot (name := Str.ofString "__setitem__") hT slot_list_setitem
    (wpAny_call_entry slot_list_setitem hT entry_list_setitem ?_ (args_list_setitem _ _ _)))
  show wpAny _ _ (Builtin.List.listSubscript? (.int k t) >>= _) _ _ s
  refine wpAny_bind (wpAny_listSubscript_int (fitsIndex_of h0 hfit) ?_)
  clear hfit
  obtain ⟨j, rfl⟩ := Int.eq_ofNat_of_zero_le h0
  have hj : j < items.size := by (first | decide | lia | omega)
  have hx' : items[j]? = some items[j] := Array.getElem?_eq_getElem hj
  show wpAny _ _ ((seqItemAt l j >>= fun r => pure (r.map (j, ·))) >>= _) _ _ s
  refine wpAny_bind (wpAny_bind (wpAny_seqItemAt ho rfl (wpAny_pure ?_)))
  rw [hx']
  show wpAny _ _ (setSeqItemAt l j v >>= _) _ _ s
  have hd : ∃ n', Obj.mapSeq (·.setIfInBounds j v) (W.listOf items n) = W.listOf (items.setIfInBounds j v) n' := by
    unfold Obj.mapSeq
    exact ⟨_, rfl⟩
  obtain ⟨n', hd'⟩ := hd
  have hfin : (s.heap.update l (Obj.mapSeq (·.setIfInBounds j v))).get? l = some (W.listOf (items.setIfInBounds j v) n') := by
    rw [Heap.get?_update_self _ ho (by rw [hd']; rfl), hd']
  refine wpAny_bind (wpAny_setSeqItemAt ho rfl ?_)
  first
    | exact wpAny_bind (wpAny_pure (wpAny_pure ⟨.none, rfl, wpAny_pure (hQ _ n' hfin (Heap.SameBut.update ..))⟩))
    | exact wpAny_pure ⟨.none, rfl, wpAny_pure (hQ _ n' hfin (Heap.SameBut.update ..))⟩

theorem DenAll.set {h : Heap} {v : Value} {d : Dat} (hv : Den h v d []) {vs : List Value} {ds : List Dat} {F : List Addr} (x : DenAll h vs ds F) : ∀ (i : Nat) {d0 : Dat}, ds[i]? = some d0 → imm d0 = true → DenAll h (vs.set i v) (ds.set i d) F :=
  x.ind (N := fun vs ds F => ∀ (i : Nat) {d0 : Dat}, ds[i]? = some d0 → imm d0 = true → DenAll h (vs.set i v) (ds.set i d) F) (fun i d0 e => nomatch e) (fun v' d' F vs ds G x r ih i {d0} e i0 => by
    cases i with
    | zero =>
      cases e
      cases x.imm_nil i0
      exact .cons (F := []) hv r
    | succ i => exact .cons x (ih i e i0))

/-- storing an immediate value in an owned flat list -/
theorem store_ok (X : ExS s0 H0 B env s σ) {fp : Str → List Addr} (hv : ∀ x d o, gv σ x = some (d, o) → VarAt B env s.heap fp x d o)
    (hdis : ∀ x y dx dy, gv σ x = some (dx, true) → gv σ y = some (dy, true) → x ≠ y → ∀ a ∈ fp x, a ∉ fp y) {l : Str} {ds ds' : List Dat} {iv d : Dat} {vl vi vd : Value} {Fi : List Addr}
    (q : gv σ l = some (.list ds, true)) (e : setAt iv ds d = some ds') (hV : VarIs env s.heap l vl) (hl : Den s.heap vl (.list ds) (fp l)) (hi : Den s.heap vi iv Fi) (hd : ∀ h, Den h vd d []) :
    wpAny (model prog w) A (setItem vl vi vd) (fun _ s' => ExS s0 H0 B env s' (sv σ l (.list ds', true))) No s := by
  obtain ⟨a, vs, n, G, rfl, eF, ho, r⟩ := hl.list_inv
  unfold setAt at e
  split at e
  · rename_i k
    split at e
    · rename_i hc
      cases e
      obtain ⟨t, rfl⟩ := hi.int_inv
      have hflat := hc.2.2.2
      have hlen := r.length
      refine setItem_plain ho hc.1 (by have := hc.2.2.1; unfold lineMax at this; (first | decide | lia | omega)) (by simp only [List.size_toArray]; (first | decide | lia | omega)) fun h' n' ho' hs => ?_
      have hGa : ∀ b ∈ G, b ≠ a := fun b hb z => by
        have := r.imm_nil hflat
        subst this; cases hb
      have hk : k.toNat < ds.length := by (first | decide | lia | omega)
      have r' : DenAll h' vs ds G := r.mono fun b hb o e => hs.extBut b o (hGa b hb) e
      have hd0 : ds[k.toNat]? = some ds[k.toNat] := by simp [hk]
      have := X.mut hv hdis q (a := a) (by rw [eF]; exact .head _) (h' := h') (tk := s.toks) (Nat.le_refl _) hs (v := .ref a) (d' := .list (ds.set k.toNat d)) hV (by
        rw [eF]
        refine .list (vs := vs.set k.toNat vd) (n := n') ?_ ((r'.set (hd h') _ hd0 (by
          have := List.all_eq_true.mp hflat ds[k.toNat] (List.getElem_mem _)
          exact this)))
        rw [ho']; simp)
      exact this
    · cases e
  · cases e

theorem DenAll.put {h h' : Heap} : ∀ {vs : List Value} {ds : List Dat} {G : List Addr}, DenAll h vs ds G → ∀ {i : Nat} {d : Dat}, ds[i]? = some d → ∃ v Fi, vs[i]? = some v ∧ Den h v d Fi ∧ (∀ b ∈ Fi, b ∈ G) ∧
    (G.Nodup → ∀ d', Den h' v d' Fi → (∀ b ∈ G, b ∉ Fi → ∀ o, h.get? b = some o → h'.get? b = some o) → DenAll h' vs (ds.set i d') G)
  | _, _, _, .nil, i, d, e => by simp at e
  | _, _, _, .cons (F := F) (G := G) x r, 0, d, e => by
    simp at e; subst e
    refine ⟨_, F, rfl, x, fun b hb => List.mem_append_left _ hb, fun hn d' hd' hk => ?_⟩
    have hn' := List.nodup_append.mp hn
    exact .cons hd' (r.mono fun b hb o e => hk b (List.mem_append_right _ hb) (fun hf => hn'.2.2 b hf b hb rfl) o e)
  | _, _, _, .cons (F := F) (G := G) x r, i + 1, d, e => by
    simp at e
    obtain ⟨v, Fi, e1, hd, hsub, hput⟩ := DenAll.put (h' := h') r e
    refine ⟨v, Fi, by simpa using e1, hd, fun b hb => List.mem_append_right _ (hsub b hb), fun hn d' hd' hk => ?_⟩
    have hn' := List.nodup_append.mp hn
    refine .cons (x.mono fun b hb o e => hk b (List.mem_append_left _ hb) (fun hf => hn'.2.2 b hb b (hsub b hf) rfl) o e) (hput hn'.2.1 d' hd' fun b hb hnf o e => hk b (List.mem_append_right _ hb) hnf o e)

theorem store2_ok (X : ExS s0 H0 B env s σ) {fp : Str → List Addr} (hv : ∀ x d o, gv σ x = some (d, o) → VarAt B env s.heap fp x d o)
    (hdis : ∀ x y dx dy, gv σ x = some (dx, true) → gv σ y = some (dy, true) → x ≠ y → ∀ a ∈ fp x, a ∉ fp y) {l : Str} {rows row row' : List Dat} {iv : Int} {jv d : Dat} {a : Addr} {vs : List Value} {n : Nat} {G : List Addr} {vj vd : Value} {Fj : List Addr}
    (q : gv σ l = some (.list rows, true)) (hrow : rows[iv.toNat]? = some (.list row)) (e : setAt jv row d = some row') (hV : VarIs env s.heap l (.ref a)) (eF : fp l = a :: G) (ho : s.heap.get? a = some (W.listOf vs.toArray n)) (r : DenAll s.heap vs rows G) (hj : Den s.heap vj jv Fj) (hd : ∀ h, Den h vd d []) :
    ∃ vr, vs[iv.toNat]? = some vr ∧ wpAny (model prog w) A (setItem vr vj vd) (fun _ s' => ExS s0 H0 B env s' (sv σ l (.list (rows.set iv.toNat (.list row')), true))) No s := by
  have hnod := (hv l _ true q).once rfl
  rw [eF] at hnod
  obtain ⟨vr, Fi, e1, hden, hsub, _⟩ := r.put (h' := s.heap) hrow
  refine ⟨vr, e1, ?_⟩
  obtain ⟨ai, ws, k, Gi, rfl, rfl, hoi, ri⟩ := hden.list_inv
  unfold setAt at e
  split at e
  · rename_i kj
    split at e
    · rename_i hc
      cases e
      obtain ⟨t, rfl⟩ := hj.int_inv
      have hlen := ri.length
      have hGi : Gi = [] := ri.imm_nil hc.2.2.2
      subst hGi
      refine setItem_plain hoi hc.1 (by have := hc.2.2.1; unfold lineMax at this; (first | decide | lia | omega)) (by simp only [List.size_toArray]; (first | decide | lia | omega)) fun h' n' ho' hs => ?_
      have hai : ai ∈ G := hsub ai (.head _)
      have hne : a ≠ ai := fun z => (List.nodup_cons.mp hnod).1 (z ▸ hai)
      have hk : kj.toNat < row.length := by (first | decide | lia | omega)
      have hd0 : row[kj.toNat]? = some row[kj.toNat] := by simp [hk]
      obtain ⟨vr', Fi', e1', hden', hsub', hput⟩ := r.put (h' := h') hrow
      rw [e1] at e1'; cases e1'
      obtain ⟨ai', ws', k', Gi', z1, rfl, hoi', ri'⟩ := hden'.list_inv
      cases z1
      rw [hoi] at hoi'
      have hGi' : Gi' = [] := ri'.imm_nil hc.2.2.2
      subst hGi'
      have hrow' : Den h' (.ref ai) (.list (row.set kj.toNat d)) [ai] := by
        refine .list (vs := ws.set kj.toNat vd) (n := n') ?_ ((ri.mono (h' := h') fun b hb => nomatch hb).set (hd h') _ hd0 ?_)
        · rw [ho']; simp
        · have := List.all_eq_true.mp hc.2.2.2 row[kj.toNat] (List.getElem_mem _)
          exact this
      have hall := hput (List.nodup_cons.mp hnod).2 _ hrow' fun b hb hnb o e => hs.extBut b o (by simpa using hnb) e
      have := X.mut hv hdis q (a := ai) (by rw [eF]; exact .tail _ hai) (h' := h') (tk := s.toks) (Nat.le_refl _) hs (v := .ref a) (d' := .list (rows.set iv.toNat (.list (row.set kj.toNat d)))) hV (by
        rw [eF]
        exact .list (hs.extBut a _ hne ho) hall)
      exact this
    · cases e
  · cases e

theorem var_load {x : Str} {v : Value} {Q : Value → Shared → Prop} (O : EOk env) (V : VarIs env s.heap x v) (hd : plainName x = true) (h : Q v s) : wpAny (model prog w) A (loadName env x) Q E s := by
  have hc' : (x == ("__classdict__" : Str)) = false := by
    unfold plainName at hd; simp at hd; simpa using hd.2
  rcases V with ⟨a, m, n, e⟩ | ⟨a | a, c, e, i⟩
  · exact wpAny_loadName_local O.kind a n e h
  · exact wpAny_loadName_cell O.kind a e i h
  · exact wpAny_loadName_free O.kind a e i h hc'

theorem augD_sound {op : Operator} {va vb : Value} {a b d : Dat} {Fa Fb : List Addr} (e : augD op a b = some d) (ha : Den s.heap va a Fa) (hb : Den s.heap vb b Fb) : wpAny (model prog w) A (inplaceOp op va vb) (fun v s' => Gives s d v s' ∧ ∀ h, Den h v d []) No s := by
  unfold augD at e
  split at e
  · obtain ⟨t, rfl⟩ := ha.int_inv; obtain ⟨u, rfl⟩ := hb.int_inv
    cases e
    exact P.iadd_int ⟨giveImm (.int _ _), fun _ => .int _ _⟩
  · obtain ⟨t, rfl⟩ := ha.int_inv; obtain ⟨u, rfl⟩ := hb.int_inv
    cases e
    exact P.isub_int ⟨giveImm (.int _ _), fun _ => .int _ _⟩
  · cases e
end
end Mine
end
section
namespace Mine

theorem ExS.base {s0 s : Shared} {H0 : Heap} {B B' : Base} {env : Env} {σ : Sg} (X : ExS s0 H0 B env s σ) (e : B = B') : ExS s0 H0 B' env s σ := e ▸ X

section
variable {prog : Program} {w : World} {A : Around} {s0 s s₁ : Shared} {H0 : Heap} {B : Base} {env : Env} {σ : Sg} {E : Value → Shared → Prop} {K : Nat} {Φ : Funs}

theorem fn_inter (O : EOk env) : interactive env = false := by unfold interactive; rw [O.kind]; rfl

theorem append_ok (Gl0 : Gl H0) (FO : FOk prog w H0 K Φ) (O : EOk env) (R : Rm A K) (X : ExS s0 H0 B env s σ) {N : Nat} {l : Str} {pl ap pos p : Pos} {e : Expr} {d : Dat} {ds : List Dat}
    (hline : (ap.endLine == pos.line) = true) (ql : gv σ l = some (.list ds, true)) (qe : ev Φ N env.kindOf (ρof σ) e = some d) (hi : imm d = true) (hz : ds.length ≤ lineMax) (hflat : ds.all imm = true) :
    wpAny (model prog w) A (exec (.Expr (.Call (.Attribute (.Name l pl) "append" ap) [e] [] pos) p) env) (fun f s' => f = .next ∧ ExS s0 H0 B env s' (sv σ l (.list (ds ++ [d]), true))) No s := by
  refine wpAny_Expr_any ?_ (fn_inter O) rfl
  have S := ev_sound Gl0 FO N (prog := prog) (w := w)
  have hs : starEach [e] env = [(false, eval e env)] := starEach_cons (star_ne S qe)
  obtain ⟨fp, hv, hdis⟩ := X.vars
  have V := hv l _ true ql
  obtain ⟨vl, hV, hden⟩ := V.val
  refine wpAny_Call_method_lateS rfl (by rw [hs]; rfl) hline (var_name O hV V.plain ?_)
  obtain ⟨a, vs, n, G, rfl, eF, ho, r⟩ := hden.list_inv
  refine ⟨"list", "list.append", PySem.F.plainAttrs_list, PySem.F.slot_list_append, PySem.F.type_list_append, ⟨_, ho, rfl⟩, (fun b eb => by cases eb; exact ⟨_, ho, rfl⟩), call1 S qe ?_⟩
  refine ev_go Gl0 FO O R X qe fun ve s₁ Fe k ht hde => ?_
  have hFe := hde.imm_nil hi
  subst hFe
  have X1 := X.kp k ht
  have hlen := r.length
  refine wpAny_list_append_plain (l := a) (items := vs.toArray) ⟨n, k.get ho⟩ (fun h' hl' hs' => ?_) (by rw [sizeLine_eq]; simp only [List.size_toArray]; unfold lineMax at hz; (first | decide | lia | omega))
  obtain ⟨n', ho'⟩ := hl'
  have hG : G = [] := r.imm_nil hflat
  subst hG
  refine ⟨rfl, ?_⟩
  have := X1.mut (fp := fp) (fun y dy o e => (hv y dy o e).up k.has) hdis ql (a := a) (by rw [eF]; exact .head _) (h' := h') (tk := s₁.toks) (Nat.le_refl _) hs' (v := .ref a) (d' := .list (ds ++ [d])) (VarIs.up k.has hV) (by
    rw [eF]
    refine .list (vs := vs ++ [ve]) (n := n') ?_ ((r.mono (h' := h') fun b hb => nomatch hb).append (F := []) (G := []) (.cons (F := []) (hde.imm_any hi) .nil))
    rw [ho']; simp)
  exact this

theorem extend_ok (Gl0 : Gl H0) (FO : FOk prog w H0 K Φ) (O : EOk env) (R : Rm A K) (X : ExS s0 H0 B env s σ) {N : Nat} {l : Str} {pl ap pos p : Pos} {e : Expr} {es ds : List Dat}
    (hline : (ap.endLine == pos.line) = true) (ql : gv σ l = some (.list ds, true)) (qe : ev Φ N env.kindOf (ρof σ) e = some (.list es)) (hi : es.all imm = true) (hz : ds.length + es.length ≤ lineMax) (hflat : ds.all imm = true) :
    wpAny (model prog w) A (exec (.Expr (.Call (.Attribute (.Name l pl) "extend" ap) [e] [] pos) p) env) (fun f s' => f = .next ∧ ExS s0 H0 B env s' (sv σ l (.list (ds ++ es), true))) No s := by
  refine wpAny_Expr_any ?_ (fn_inter O) rfl
  have S := ev_sound Gl0 FO N (prog := prog) (w := w)
  have hs : starEach [e] env = [(false, eval e env)] := starEach_cons (star_ne S qe)
  obtain ⟨fp, hv, hdis⟩ := X.vars
  have V := hv l _ true ql
  obtain ⟨vl, hV, hden⟩ := V.val
  refine wpAny_Call_method_lateS rfl (by rw [hs]; rfl) hline (var_name O hV V.plain ?_)
  obtain ⟨a, vs, n, G, rfl, eF, ho, r⟩ := hden.list_inv
  refine ⟨"list", "list.extend", PySem.F.plainAttrs_list, PySem.F.slot_list_extend, PySem.F.type_list_extend, ⟨_, ho, rfl⟩, (fun b eb => by cases eb; exact ⟨_, ho, rfl⟩), call1 S qe ?_⟩
  refine ev_go Gl0 FO O R X qe fun ve s₁ Fe k ht hde => ?_
  obtain ⟨b, ws, m, Gb, rfl, rfl, hob, rb⟩ := hde.list_inv
  have hGb := rb.imm_nil hi
  subst hGb
  have X1 := X.kp k ht
  have hlen := r.length
  have hlen2 := rb.length
  have hG : G = [] := r.imm_nil hflat
  subst hG
  unfold lineMax at hz
  have hsz : vs.toArray.size + ws.toArray.size ≤ sizeLine := by rw [sizeLine_eq]; simp only [List.size_toArray]; (first | decide | lia | omega)
  refine call_meets PySem.F.slot_list_extend ⟨_, k.get ho, rfl⟩ PySem.F.entry_list_extend (PySem.F.args_list_extend_2 _ _) (AutoSeq1.list_extend_list_list_0 a vs.toArray n b ws.toArray m (extend_door hsz) (Nat.le_trans (Nat.le_add_right _ _) hsz)) ⟨k.get ho, hob, ?_⟩
  have hs' := Heap.SameBut.update s₁.heap a (Obj.mapSeq fun x => x ++ ws.toArray)
  have ho' : ∃ n', (s₁.heap.update a (Obj.mapSeq fun x => x ++ ws.toArray)).get? a = some (W.listOf (vs.toArray ++ ws.toArray) n') := by
    have hd : ∃ n', Obj.mapSeq (fun x => x ++ ws.toArray) (W.listOf vs.toArray n) = W.listOf (vs.toArray ++ ws.toArray) n' := by
      unfold Obj.mapSeq
      exact ⟨_, rfl⟩
    obtain ⟨n', hd'⟩ := hd
    exact ⟨n', by rw [Heap.get?_update_self _ (k.get ho) (by rw [hd']; rfl), hd']⟩
  obtain ⟨n', ho'⟩ := ho'
  refine ⟨rfl, ?_⟩
  have := X1.mut (fp := fp) (fun y dy o e => (hv y dy o e).up k.has) hdis ql (a := a) (by rw [eF]; exact .head _) (h' := s₁.heap.update a (Obj.mapSeq fun x => x ++ ws.toArray)) (tk := s₁.toks) (Nat.le_refl _) hs' (v := .ref a) (d' := .list (ds ++ es)) (VarIs.up k.has hV) (by
    rw [eF]
    refine .list (vs := vs ++ ws) (n := n') ?_ ((r.mono (h' := s₁.heap.update a (Obj.mapSeq fun x => x ++ ws.toArray)) fun b hb => nomatch hb).append (F := []) (G := []) (rb.mono fun b hb => nomatch hb))
    rw [ho']; simp)
  exact this

/-- the loops: forL and whileL -/
theorem forL_ok (O : EOk env) (R : Rm A K) {x : Str} {px : Pos} {body : List Stmt} {run : Sg → Option (Fl × Sg)} (hc : canBind env.kindOf x = true)
    (hrun : ∀ σ B s r, run σ = some r → ExS s0 H0 B env s σ → wpAny (model prog w) A (execs body env) (Res s0 H0 B env r) No s)
    {items : List Dat} (himm : items.all imm = true) {s₁ s₂ : Shared} {itv : Value} {Fx : List Addr} (X : ExS s0 H0 B env s₁ σ) (t12 : s₁.toks ≤ s₂.toks) (hIt : IterOk prog w A s₁ items itv Fx s₂) (hFx : ∀ a ∈ Fx, ∃ o, B a = some o)
    {r : Fl × Sg} (q : forL run x items σ = some r) {R' : Result → Shared → Prop} (hR : ∀ f s', Res s0 H0 B env r f s' → R' (.ok f) s') :
    codeAny (model prog w) A (.forLoop (.Name x px) itv body [] env) R' s₂ := by
  obtain ⟨k12, I, fp, wr, P, St', rfl, W, hlive, hst, hfp, hfx, hwr, hP⟩ := hIt
  have hH0 : ∀ b ∈ wr, H0.get? b = none := fun b hb => by
    cases z : H0.get? b with
    | none => rfl
    | some o => exact absurd rfl (live_ne (hwr b hb) (X.st.keep b o z))
  have hBw : ∀ b ∈ wr, B b = none := fun b hb => by
    cases z : B b with
    | none => rfl
    | some o => exact absurd rfl (live_ne (hwr b hb) (X.has b o z))
  have hsys : ∀ b ∈ wr, ¬ inSys env b := fun b hb i => by
    obtain ⟨o, e, _⟩ := sys_live X.fr i
    exact live_ne (hwr b hb) e rfl
  refine codeAny_forLoop_any (fun n s' => ∀ P : Prop, (∀ i σ' B', n = items.length - i → i ≤ items.length → BLe B B' → (∀ b ∈ wr, B' b = none) → ExS s0 H0 B' env s' σ' → St' i s'.heap → forL run x (items.drop i) σ' = some r → P) → P) (fun n s' hI => ?_) items.length
    (fun _ f => f 0 σ B rfl (Nat.zero_le _) (BLe.refl B) hBw (X.kp k12 t12) hst q)
  refine hI _ fun i σ' B' e1 hi hle hBw' X' hst' hq => ?_
  clear hI
  subst e1
  refine wpNo ?_
  by_cases hlt : i < items.length
  · refine wpAny_with_toks (n := s'.toks) (Nat.le_refl _) (W.item i _ _ _ hlt hst' fun v h₁ tk₁ hPv hst₁ hk₁ htk₁ => ?_)
    dsimp only
    refine wpAny_of_eq (show letOwnedTupleGo (.Name x px) (.ref I) v = pure () from rfl) ?_
    obtain ⟨d, Fv, hd, hden⟩ := hP i v hPv
    have hdi : imm d = true := List.all_eq_true.mp himm d (List.mem_of_getElem? hd)
    have hdrop : items.drop i = d :: items.drop (i + 1) := by
      rw [List.drop_eq_getElem_cons hlt]
      have : items[i]? = some items[i] := by simp [hlt]
      rw [hd] at this; cases this; rfl
    rw [hdrop, forL] at hq
    have hPd := X'.drop wr (fun b hb => let ⟨o, e, hn⟩ := hlive i _ hst' b hb; ⟨o, e, hn, hH0 b hb, hsys b hb⟩) (h' := h₁) (tk := tk₁) htk₁ hk₁
    have eB : (fun a => if a ∈ wr then none else B' a) = B' := by
      funext a
      by_cases ha : a ∈ wr
      · rw [if_pos ha, hBw' a ha]
      · rw [if_neg ha]
    have X1 : ExS s0 H0 B' env { s' with heap := h₁, toks := tk₁ } σ' := hPd.base eB
    have hlive1 : ∀ b ∈ wr, ∃ o, h₁.get? b = some o ∧ ¬ IsSeqObj o := fun b hb => hlive _ _ hst₁ b hb
    have Xp := X1.pin wr fun b hb => let ⟨o, e, hn⟩ := hlive1 b hb; ⟨o, e, hn, hsys b hb⟩
    have hleP : BLe B (fun a => if a ∈ wr then h₁.get? a else B' a) := fun a o e => by
      dsimp only
      by_cases ha : a ∈ wr
      · rw [hBw a ha] at e; cases e
      · rw [if_neg ha]; exact hle a o e
    refine wpAny_assign_Name (wpAny_mono (bind_var (E := No) (s := { s' with heap := h₁, toks := tk₁ }) (s₁ := { s' with heap := h₁, toks := tk₁ }) O hc Xp (Kp.refl _) (Nat.le_refl _) (F := []) (hden.imm_any hdi) Fresh.nil) (fun _ s₃ h₃ => ?_) fun _ _ e => e.elim)
    have hq' : ∃ r1, run (sv σ' x (d, true)) = some r1 ∧ (match r1 with | (.next, σ'') => forL run x (items.drop (i + 1)) σ'' = some r | (.ret v, σ'') => r = (.ret v, σ'')) := by
      cases q1 : run (sv σ' x (d, true)) with
      | none => rw [q1] at hq; cases hq
      | some r1 =>
        rw [q1] at hq
        refine ⟨r1, rfl, ?_⟩
        obtain ⟨fl, σ''⟩ := r1
        cases fl with
        | next => exact hq
        | ret v => cases hq; rfl
    obtain ⟨r1, q1, hr1⟩ := hq'
    refine wpThen (hrun _ _ s₃ r1 q1 h₃) fun f s₄ h₄ => ?_
    obtain ⟨fl, σ''⟩ := r1
    cases fl with
    | next =>
      obtain ⟨rfl, B2, hle2, X4⟩ := h₄
      have h14 : ∀ b ∈ fp, ∀ o, h₁.get? b = some o → s₄.heap.get? b = some o := fun b hb o e => by
        rcases hfx b hb with hw | hx
        · exact X4.has b o (hle2 b o (by dsimp only; rw [if_pos hw]; exact e))
        · obtain ⟨o', e'⟩ := hFx b hx
          have e1 := X1.has b o' (hle b o' e')
          have e2 := X4.has b o' (hle2 b o' (hleP b o' e'))
          have e1' : h₁.get? b = some o' := e1
          rw [e] at e1'; cases e1'
          exact e2
      have hst4 := W.frame _ _ _ hst₁ h14
      have X5 := X4.drop wr (fun b hb => let ⟨o, e, hn⟩ := hlive _ _ hst4 b hb; ⟨o, e, hn, hH0 b hb, hsys b hb⟩) (h' := s₄.heap) (tk := s₄.toks) (Nat.le_refl _) fun _ _ _ e => e
      refine ⟨items.length - (i + 1), by (first | decide | lia | omega), fun _ f => f (i + 1) σ'' _ rfl hlt (fun a o e => ?_) (fun b hb => by (try dsimp only); rw [if_pos hb]) X5 hst4 hr1⟩
      (try dsimp only)
      by_cases ha : a ∈ wr
      · rw [hBw a ha] at e; cases e
      · rw [if_neg ha]; exact hle2 a o (hleP a o e)
    | ret v =>
      have hr1' : r = (.ret v, σ'') := hr1
      subst hr1'
      obtain ⟨v', rfl, h5⟩ := h₄
      exact hR _ _ (Res.up hleP ⟨v', rfl, h5⟩)
  · have hin : i = items.length := by (first | decide | lia | omega)
    subst hin
    refine wpAny_with_toks (n := s'.toks) (Nat.le_refl _) (W.done _ _ _ hst' fun h₁ tk₁ hk₁ htk₁ => ?_)
    dsimp only
    rw [List.drop_length] at hq
    cases hq
    have X1 := X'.drop wr (fun b hb => let ⟨o, e, hn⟩ := hlive _ _ hst' b hb; ⟨o, e, hn, hH0 b hb, hsys b hb⟩) (h' := h₁) (tk := tk₁) htk₁ hk₁
    refine wpAny_execs_nil (hR _ _ ⟨rfl, _, fun a o e => ?_, X1⟩)
    (try dsimp only)
    by_cases ha : a ∈ wr
    · rw [hBw a ha] at e; cases e
    · rw [if_neg ha]; exact hle a o e

theorem whileL_ok {test : Expr} {body : List Stmt} {tst : Sg → Option Bool} {run : Sg → Option (Fl × Sg)}
    (htest : ∀ σ B s b, tst σ = some b → ExS s0 H0 B env s σ → wpAny (model prog w) A (isTrue test env (eval test env)) (fun c s' => c = b ∧ ExS s0 H0 B env s' σ) No s)
    (hrun : ∀ σ B s r, run σ = some r → ExS s0 H0 B env s σ → wpAny (model prog w) A (execs body env) (Res s0 H0 B env r) No s)
    {W : Nat} (X : ExS s0 H0 B env s σ) {r : Fl × Sg} (q : whileL tst run W σ = some r) {R' : Result → Shared → Prop} (hR : ∀ f s', Res s0 H0 B env r f s' → R' (.ok f) s') :
    codeAny (model prog w) A (.whileLoop test body [] env) R' s := by
  refine codeAny_whileLoop (fun n s' => ∃ σ' B', BLe B B' ∧ ExS s0 H0 B' env s' σ' ∧ whileL tst run n σ' = some r) (fun n s' hI => ?_) W ⟨σ, B, BLe.refl B, X, q⟩
  obtain ⟨σ', B', hle, X', hq⟩ := hI
  cases n with
  | zero => cases hq
  | succ n =>
    rw [whileL] at hq
    refine wpNo ?_
    cases q1 : tst σ' with
    | none => rw [q1] at hq; cases hq
    | some b =>
      rw [q1] at hq
      refine wpThen (htest σ' B' s' b q1 X') fun c s₂ h₂ => ?_
      obtain ⟨rfl, X2⟩ := h₂
      cases c with
      | false =>
        cases hq
        rw [if_neg (by decide)]
        exact wpAny_execs_nil (hR _ _ ⟨rfl, B', hle, X2⟩)
      | true =>
        rw [if_pos rfl]
        dsimp only at hq
        cases q2 : run σ' with
        | none => rw [q2] at hq; cases hq
        | some r1 =>
          rw [q2] at hq
          refine wpNo (wpThen (hrun σ' B' s₂ r1 q2 X2) fun f s₃ h₃ => ?_)
          obtain ⟨fl, σ''⟩ := r1
          cases fl with
          | next =>
            obtain ⟨rfl, B2, hle2, X3⟩ := h₃
            exact ⟨n, Nat.lt_succ_self _, σ'', B2, hle.trans hle2, X3, hq⟩
          | ret v =>
            cases hq
            obtain ⟨v', rfl, h5⟩ := h₃
            exact hR _ _ (Res.up hle ⟨v', rfl, h5⟩)
end
end Mine
end
section
namespace Mine

section
variable {prog : Program} {w : World} {A : Around} {s0 s s₁ : Shared} {H0 : Heap} {B : Base} {env : Env} {σ : Sg} {E : Value → Shared → Prop} {K : Nat} {Φ : Funs}

theorem res_next {f : Flow} {s' : Shared} {σ' : Sg} (h : f = .next ∧ ExS s0 H0 B env s' σ') : Res s0 H0 B env (.next, σ') f s' := ⟨h.1, B, BLe.refl B, h.2⟩

theorem return_ok (Gl0 : Gl H0) (FO : FOk prog w H0 K Φ) (O : EOk env) (R : Rm A K) (X : ExS s0 H0 B env s σ) {N : Nat} {e : Expr} {d : Dat} {pos : Pos} (q : ev Φ N env.kindOf (ρof σ) e = some d) (h : (freshE e || imm d || ownName σ e) = true) :
    wpAny (model prog w) A (exec (.Return (some e) pos) env) (Res s0 H0 B env (.ret d, σ)) No s := by
  refine wpAny_Return_some ?_
  by_cases hf : (freshE e || imm d) = true
  · refine wpSeq (ev_ok Gl0 FO O R X q) fun v s₁ g ht => ?_
    obtain ⟨k, F, hd, hF⟩ := out_fresh g hf
    have X1 := X.kp k ht
    refine ⟨v, rfl, X1.sh, X1.has, F, hd, fun a ha => ?_, hF.once⟩
    cases z : B a with
    | none => rfl
    | some o => exact absurd rfl (live_ne (hF.gone a ha) (X.has a o z))
  · have hf' : (freshE e || imm d) = false := by simpa using hf
    rw [hf', Bool.false_or] at h
    cases e with
    | Name x px =>
      unfold ownName at h
      dsimp only at h
      obtain ⟨fp, hv, _⟩ := X.vars
      split at h
      · rename_i d' hg
        have V := hv x d' true hg
        obtain ⟨v, hV, hd⟩ := V.val
        have hdd : d' = d := by
          have q' : ∀ N, ev Φ N env.kindOf (ρof σ) (.Name x px) = some d → d' = d := fun N => by
            cases N with
            | zero => intro q; cases q
            | succ n =>
              intro q
              have q2 : (if isVar env.kindOf x = true then ρof σ x else if isGlob env.kindOf x = true then Φ.cst x else none) = some d := q
              split at q2
              · unfold ρof at q2; rw [hg] at q2; cases q2; rfl
              · rename_i hnv
                exfalso
                apply hnv
                unfold isVar
                rcases hV with ⟨a, _⟩ | ⟨a | a, _⟩ <;> rw [a] <;> rfl
          exact q' N q
        subst hdd
        exact var_name O hV V.plain ⟨v, rfl, X.sh, X.has, fp x, hd, V.own rfl, V.once rfl⟩
      · cases h
    | _ => cases h

theorem gv_var {x : Str} {d : Dat} {o : Bool} (q : gv σ x = some (d, o)) : ρof σ x = some d := by unfold ρof; rw [q]; rfl

theorem rangeD_imm {vals items : List Dat} (e : rangeD vals = some items) : items.all imm = true := by
  unfold rangeD at e
  split at e
  · split at e
    · cases e; simp [imm]
    · cases e
  · split at e
    · cases e; simp [imm]
    · cases e
  · cases e
theorem range_imm {κ : Kd} {ρ : Vs} {N : Nat} {args : List Expr} {items : List Dat} (e : (allSome (ev Φ N κ ρ) args).bind rangeD = some items) : items.all imm = true := by
  cases q : allSome (ev Φ N κ ρ) args with
  | none => rw [q] at e; cases e
  | some vals => rw [q] at e; exact rangeD_imm e

section
variable (Gl0 : Gl H0) (FO : FOk prog w H0 K Φ) (O : EOk env) (R : Rm A K) {N W : Nat} {run : List Stmt → Sg → Option (Fl × Sg)} (X : ExS s0 H0 B env s σ) {r : Fl × Sg} {pos : Pos}
include Gl0 FO O R X
theorem asnF_ok {ts : List Expr} {value : Expr} (q : asnF Φ N env.kindOf σ ts value = some r) : wpAny (model prog w) A (exec (.Assign ts value pos) env) (Res s0 H0 B env r) No s := by
  refine bind_elim (q) fun t ht q0 => ?_
  clear q
  cases oneE_inv ht
  cases hn : nameE t with
  | some x =>
    rw [hn] at q0
    obtain ⟨px, rfl⟩ := nameE_inv hn
    refine if_elim (q0) fun hc q => ?_
    refine bind_elim (q) fun d hd q => ?_
    refine if_elim (q) fun hf q => ?_
    cases q
    exact wpThen (assign_ok Gl0 FO O R X hc hd hf) fun f s' h => res_next h
  | none =>
    rw [hn] at q0
    obtain ⟨⟨o, i⟩, hs, q⟩ := bind_inv (show (subE t).bind _ = some r from q0)
    clear q0
    obtain ⟨ps, rfl⟩ := subE_inv hs
    unfold asnS at q
    dsimp only at q
    cases hl : nameE o with
    | some l =>
      rw [hl] at q
      obtain ⟨pl, rfl⟩ := nameE_inv hl
      refine if_elim (q) fun hc q => ?_
      refine bind_elim (q) fun v ev1 q => ?_
      refine bind_elim (q) fun ds gl q => ?_
      have gl := ownL_inv gl
      refine bind_elim (q) fun iv ei q => ?_
      refine if_elim (q) fun hi q => ?_
      refine bind_elim (q) fun ds' hset q => ?_
      cases q
      refine wpAny_Assign_Subscript (ev_go Gl0 FO O R X ev1 fun vv s₁ Fv k ht hdv => ?_) (swaps_not hc.1 (by simp))
      have X1 := X.kp k ht
      obtain ⟨fp, hv, hdis⟩ := X1.vars
      have V := hv l _ true gl
      obtain ⟨vl, hV, hden⟩ := V.val
      refine var_name O hV V.plain (ev_go Gl0 FO O R X1 ei fun vi s₂ Fi k2 ht2 hdi => ?_)
      exact wpThen (store_ok (X1.kp k2 ht2) (fp := fp) (fun y dy o e => (hv y dy o e).up k2.has) hdis gl hset (VarIs.up k2.has hV) (k2.den hden) hdi fun h => hdv.imm_any hi) fun _ s' h => res_next ⟨rfl, h⟩
    | none =>
      rw [hl] at q
      obtain ⟨⟨o', j⟩, hs', q⟩ := bind_inv (show (subE o).bind _ = some r from q)
      obtain ⟨ps', rfl⟩ := subE_inv hs'
      refine bind_elim (q) fun l hl' q => ?_
      obtain ⟨pl, rfl⟩ := nameE_inv hl'
      refine if_elim (q) fun hc q => ?_
      refine bind_elim (q) fun v ev1 q => ?_
      refine bind_elim (q) fun rows gl q => ?_
      have gl := ownL_inv gl
      refine bind_elim (q) fun iv ei q => ?_
      refine bind_elim (ei) fun iv' ei he => ?_
      cases intD_inv he
      refine bind_elim (q) fun jv ej q => ?_
      refine if_elim (q) fun hi q => ?_
      refine bind_elim (q) fun row hrow q => ?_
      refine bind_elim (hrow) fun rd hrow he => ?_
      cases lstD_inv he
      refine bind_elim (q) fun row' hset q => ?_
      cases q
      refine if_elim ((show (if _ then _ else none) = some _ from hrow)) fun hiv hrow => ?_
      refine wpAny_Assign_Subscript (ev_go Gl0 FO O R X ev1 fun vv s₁ Fv k ht hdv => ?_) (swaps_not hc.1 (by simp))
      have X1 := X.kp k ht
      obtain ⟨fp, hv, hdis⟩ := X1.vars
      have V := hv l _ true gl
      obtain ⟨vl, hV, hden⟩ := V.val
      obtain ⟨a, vs, n, G, rfl, eF, ho, rr⟩ := hden.list_inv
      refine sub_item list_getitem_lookup (var_name O hV V.plain (ev_go Gl0 FO O R X1 ei fun vi s₂ Fi k2 ht2 hdi => ?_))
      obtain ⟨ti, rfl⟩ := hdi.int_inv
      refine ⟨(Den.isList (k2.get ho)).typeIs, ?_⟩
      obtain ⟨vr, Gr, e1, hdr, _⟩ := (k2.denAll rr).get hrow
      refine wpAny_getItem_list (Den.isList (k2.get ho)) hiv.1 (by have := hiv.2; (first | decide | lia | omega)) (x := vr) (by simpa using e1) ?_
      have X2 := X1.kp k2 ht2
      refine ev_go Gl0 FO O R X2 ej fun vj s₃ Fj k3 ht3 hdj => ?_
      have k13 := k2.trans k3
      obtain ⟨vr', e1', hw⟩ := store2_ok (prog := prog) (w := w) (A := A) (X2.kp k3 ht3) (fp := fp) (fun y dy o e => (hv y dy o e).up k13.has) hdis gl hrow hset (VarIs.up k13.has hV) eF (k13.get ho) (k13.denAll rr) hdj (fun h => hdv.imm_any hi)
      rw [e1] at e1'; cases e1'
      exact wpThen hw fun _ s' h => res_next ⟨rfl, h⟩
theorem augF_ok {t e : Expr} {op : Operator} (q : augF Φ N env.kindOf σ t op e = some r) : wpAny (model prog w) A (exec (.AugAssign t op e pos) env) (Res s0 H0 B env r) No s := by
  unfold augF at q
  cases hn : nameE t with
  | some x =>
    rw [hn] at q
    obtain ⟨px, rfl⟩ := nameE_inv hn
    refine if_elim (q) fun hc q => ?_
    obtain ⟨⟨a, o⟩, ga, q⟩ := bind_inv q
    refine bind_elim (q) fun b eb q => ?_
    refine bind_elim (q) fun c hcc q => ?_
    cases q
    obtain ⟨fp, hv, hdis⟩ := X.vars
    have V := hv x _ o ga
    obtain ⟨vl, hV, hden⟩ := V.val
    refine wpAny_AugAssign_Name (var_load O hV V.plain (ev_go Gl0 FO O R X eb fun vb s₁ Fb k ht hdb => ?_))
    refine wpSeq (augD_sound hcc (k.den hden) hdb) fun vc s₂ g2 ht2 => ?_
    obtain ⟨⟨k2, Fc, hdc, hfc⟩, _⟩ := g2
    have X1 := X.kp k ht
    exact wpThen (bind_var O hc X1 k2 ht2 hdc hfc) fun _ s' h => res_next ⟨rfl, h⟩
  | none =>
    rw [hn] at q
    obtain ⟨⟨o, i'⟩, hs, q⟩ := bind_inv (show (subE t).bind _ = some r from q)
    obtain ⟨ps, rfl⟩ := subE_inv hs
    refine bind_elim (q) fun l hl q => ?_
    obtain ⟨pl, rfl⟩ := nameE_inv hl
    refine bind_elim (q) fun i hl q => ?_
    obtain ⟨pi, rfl⟩ := nameE_inv hl
    refine if_elim (q) fun hc q => ?_
    refine bind_elim (q) fun ds gl q => ?_
    have gl := ownL_inv gl
    obtain ⟨⟨iv, oi⟩, gi, q⟩ := bind_inv q
    refine bind_elim (q) fun b eb q => ?_
    refine bind_elim (q) fun a ha q => ?_
    refine bind_elim (q) fun c hcc q => ?_
    refine bind_elim (q) fun ds' hset q => ?_
    cases q
    obtain ⟨fp, hv, hdis⟩ := X.vars
    have V := hv l _ true gl
    obtain ⟨vl, hV, hden⟩ := V.val
    have Vi := hv i _ oi gi
    obtain ⟨vi, hVi, hdeni⟩ := Vi.val
    refine wpAny_AugAssign_Subscript (var_name O hV V.plain (var_name O hVi Vi.plain ?_))
    refine wpSeq (itemD_sound ha hden hdeni) fun va s₁ g ht => ?_
    first | refine Out.elim g fun k Fa hda => ?_ | refine Gives.elim g fun k Fa hda => ?_ | obtain ⟨k, Fa, hda, _⟩ := g
    have X1 := X.kp k ht
    refine ev_go Gl0 FO O R X1 eb fun vb s₂ Fb k2 ht2 hdb => ?_
    refine wpSeq (augD_sound hcc (k2.den hda) hdb) fun vc s₃ g3 ht3 => ?_
    obtain ⟨⟨k3, Fc, hdc, hfc⟩, hall⟩ := g3
    have k03 := k.trans (k2.trans k3)
    exact wpThen (store_ok ((X1.kp k2 ht2).kp k3 ht3) (fp := fp) (fun y dy o e => (hv y dy o e).up k03.has) hdis gl hset (VarIs.up k03.has hV) (k03.den hden) (k03.den hdeni) hall) fun _ s' h => res_next ⟨rfl, h⟩
theorem exprF_ok {e : Expr} (q : exprF Φ N env.kindOf σ e = some r) : wpAny (model prog w) A (exec (.Expr e pos) env) (Res s0 H0 B env r) No s := by
  obtain ⟨⟨f, args, kws, p⟩, h1, q1⟩ := bind_inv q
  clear q
  cases callE_inv h1
  obtain ⟨⟨o, m, ap⟩, h2, q2⟩ := bind_inv q1
  clear q1
  cases attrE_inv h2
  refine bind_elim (q2) fun l h3 q3 => ?_
  clear q2
  obtain ⟨pl, rfl⟩ := nameE_inv h3
  refine bind_elim (q3) fun e h4 q4 => ?_
  clear q3
  cases oneE_inv h4
  refine if_elim (q4) fun hc q5 => ?_
  clear q4
  cases List.isEmpty_iff.mp hc.1
  refine bind_elim (q5) fun ds gl q6 => ?_
  have gl := ownL_inv gl
  refine bind_elim (q6) fun d ee q => ?_
  clear q5 q6
  rcases ite_inv q with ⟨hm, z5⟩ | ⟨_, z5⟩
  · clear q
    cases hm
    refine if_elim (z5) fun hcc z6 => ?_
    cases z6
    exact wpThen (append_ok Gl0 FO O R X hc.2.2 gl ee hcc.1 hcc.2.1 hcc.2.2) fun _ s' h => res_next h
  · clear q
    refine if_elim (z5) fun hm z6 => ?_
    clear z5
    cases hm
    refine bind_elim (z6) fun es hes z7 => ?_
    cases lstD_inv hes
    refine if_elim (z7) fun hcc z8 => ?_
    cases z8
    exact wpThen (extend_ok Gl0 FO O R X hc.2.2 gl ee hcc.1 hcc.2.2.1 hcc.2.2.2) fun _ s' h => res_next h
theorem forF_ok (hrun : ∀ stmts σ B s r, run stmts σ = some r → ExS s0 H0 B env s σ → wpAny (model prog w) A (execs stmts env) (Res s0 H0 B env r) No s)
    {t it : Expr} {body : List Stmt} (q : forF Φ N env.kindOf run σ t it body = some r) : wpAny (model prog w) A (exec (.For t it body [] pos) env) (Res s0 H0 B env r) No s := by
  have S := ev_sound Gl0 FO N (prog := prog) (w := w)
  refine bind_elim (q) fun x hx q => ?_
  obtain ⟨px, rfl⟩ := nameE_inv hx
  refine if_elim (q) fun hc q => ?_
  cases hn : nameE it with
  | some l =>
    rw [hn] at q
    obtain ⟨pl, rfl⟩ := nameE_inv hn
    refine if_elim (q) fun _ q => ?_
    obtain ⟨⟨dl, o⟩, gl, q⟩ := bind_inv q
    refine bind_elim (q) fun items hl q => ?_
    cases lstD_inv hl
    refine if_elim (q) fun himm q => ?_
    obtain ⟨B', fl, v, hle, X', hV, hden, hlent⟩ := X.freeze gl
    have hp : plainName l = true := by obtain ⟨fp, hv, _⟩ := X.vars; exact (hv l _ o gl).plain
    refine wpAny_For (var_name O hV hp (wpSeq (iter_list R hden) fun itv s₂ hIt ht => ?_)) (fun x => rfl)
    exact forL_ok O R hc (fun σ B s r => hrun body σ B s r) himm X' ht hIt hlent q fun f s' h => Res.up hle h
  | none =>
    rw [hn] at q
    have q : (callE it).elim (forS Φ N env.kindOf run σ x body it) (forR Φ N env.kindOf run σ x body) = some r := q
    cases hcl : callE it with
    | some c =>
      rw [hcl] at q
      obtain ⟨f, args, kws, pa⟩ := c
      cases callE_inv hcl
      refine bind_elim ((show (nameE f).bind _ = some r from q)) fun fn hf q => ?_
      obtain ⟨pf, rfl⟩ := nameE_inv hf
      refine if_elim (q) fun hg q => ?_
      cases List.isEmpty_iff.mp hg.1
      cases hg.2.1
      refine bind_elim (q) fun items hitems q => ?_
      refine wpAny_For (wpThen (range_sound Gl0 S O R X.st X.varsOk hg.2.2 hitems) fun xv s₁ h => ?_) (fun x => rfl)
      obtain ⟨k, htk, hit⟩ := h
      have himm : items.all imm = true := range_imm hitems
      exact wpSeq hit fun itv s₂ hIt ht => forL_ok O R hc (fun σ B s r => hrun body σ B s r) himm (X.kp k htk) ht hIt (fun a ha => nomatch ha) q fun f s' h => h
    | none =>
      rw [hcl] at q
      refine bind_elim ((show (lstE it).bind _ = some r from q)) fun es hes q => ?_
      obtain ⟨lp, rfl⟩ := lstE_inv hes
      refine bind_elim (q) fun items hit q => ?_
      refine bind_elim (hit) fun di hitems he => ?_
      cases lstD_inv he
      refine if_elim (q) fun himm q => ?_
      refine wpAny_For (wpSeq (ev_ok Gl0 FO O R X hitems) fun xv s₁ g ht => ?_) (fun x => rfl)
      obtain ⟨k, F, hd, hF⟩ := g
      have hF := hF rfl
      have X' := X.pinNew k ht hF
      have hlive : ∀ a ∈ F, ∃ o, (fun a => if a ∈ F then s₁.heap.get? a else B a) a = some o := fun a ha => by
        obtain ⟨o, e, _⟩ := hd.live a ha
        exact ⟨o, by dsimp only; rw [if_pos ha]; exact e⟩
      have hle : BLe B (fun a => if a ∈ F then s₁.heap.get? a else B a) := fun a o e => by
        dsimp only
        rw [if_neg fun ha => live_ne (hF.gone a ha) (X.has a o e) rfl]; exact e
      exact wpSeq (iter_list R hd) fun itv s₂ hIt ht2 => forL_ok O R hc (fun σ B s r => hrun body σ B s r) himm X' ht2 hIt hlive q fun f s' h => Res.up hle h
end

theorem ex1_ok (Gl0 : Gl H0) (FO : FOk prog w H0 K Φ) (O : EOk env) (R : Rm A K) {hk : Hook} (HK : HookOk prog w A s0 H0 env hk) {N W : Nat} {run : List Stmt → Sg → Option (Fl × Sg)}
    (hrun : ∀ stmts σ B s r, run stmts σ = some r → ExS s0 H0 B env s σ → wpAny (model prog w) A (execs stmts env) (Res s0 H0 B env r) No s)
    (X : ExS s0 H0 B env s σ) {st : Stmt} {r : Fl × Sg} (q : ex1 Φ N W hk env.kindOf run st σ = some r) : wpAny (model prog w) A (exec st env) (Res s0 H0 B env r) No s := by
  unfold ex1 at q
  have S := ev_sound Gl0 FO N (prog := prog) (w := w)
  cases hh : hk env.kindOf st σ with
  | some σ' =>
    rw [hh] at q
    cases q
    exact wpThen (HK st σ σ' B s hh X) fun f s' h => h
  | none =>
    rw [hh] at q
    have q : exF Φ N W env.kindOf run σ st = some r := q
    clear hh
    cases st with
    | Assign ts value p => exact asnF_ok Gl0 FO O R X q
    | AugAssign t op e p => exact augF_ok Gl0 FO O R X q
    | Expr e p => exact exprF_ok Gl0 FO O R X q
    | If test body orelse p =>
      refine bind_elim ((show (tst (ev Φ N) env.kindOf (ρof σ) test).bind _ = some r from q)) fun b ht q => ?_
      refine wpAny_If (wpSeq (tst_sound S O R X.st X.varsOk ht) fun c s₁ h htk => ?_)
      obtain ⟨rfl, k⟩ := h
      rcases ite_inv q with ⟨hb, q⟩ | ⟨hb, q⟩
      · rw [if_pos hb]; exact hrun _ _ _ _ _ q (X.kp k htk)
      · rw [if_neg hb]; exact hrun _ _ _ _ _ q (X.kp k htk)
    | For t it body orelse p =>
      refine if_elim ((show (if orelse.isEmpty = true then forF Φ N env.kindOf run σ t it body else none) = some r from q)) fun ho q => ?_
      cases List.isEmpty_iff.mp ho
      exact forF_ok Gl0 FO O R X hrun q
    | While test body orelse p =>
      refine if_elim ((show (if orelse.isEmpty = true then whileL (fun σ => tst (ev Φ N) env.kindOf (ρof σ) test) (run body) W σ else none) = some r from q)) fun ho q => ?_
      cases List.isEmpty_iff.mp ho
      refine wpAny_While ?_
      refine whileL_ok (fun σ B s b ht X => ?_) (fun σ B s r => hrun body σ B s r) X q fun f s' h => h
      exact wpSeq (tst_sound S O R X.st X.varsOk ht) fun c s₁ h htk => ⟨h.1, X.kp h.2 htk⟩
    | Return e p =>
      obtain ⟨e, rfl, q⟩ := bind_inv (show e.bind (retF Φ N env.kindOf σ) = some r from q)
      refine bind_elim (q) fun d hd q => ?_
      refine if_elim (q) fun hf q => ?_
      cases q
      exact return_ok Gl0 FO O R X hd hf
    | _ => exact nn q

theorem exs_ok (Gl0 : Gl H0) (FO : FOk prog w H0 K Φ) (O : EOk env) (R : Rm A K) {hk : Hook} (HK : HookOk prog w A s0 H0 env hk) {N W : Nat} : ∀ (n : Nat) (stmts : List Stmt) (σ : Sg) (B : Base) (s : Shared) (r : Fl × Sg),
    exs Φ N W hk env.kindOf n stmts σ = some r → ExS s0 H0 B env s σ → wpAny (model prog w) A (execs stmts env) (Res s0 H0 B env r) No s
  | 0, _, _, _, _, _, q, _ => by cases q
  | n + 1, [], σ, B, s, r, q, X => by
    cases q
    exact wpAny_execs_nil ⟨rfl, B, BLe.refl B, X⟩
  | n + 1, st :: rest, σ, B, s, r, q, X => by
    rw [exs] at q
    refine wpAny_execs_cons ?_
    cases q1 : ex1 Φ N W hk env.kindOf (exs Φ N W hk env.kindOf n) st σ with
    | none => rw [q1] at q; cases q
    | some r1 =>
      rw [q1] at q
      refine wpThen (ex1_ok Gl0 FO O R HK (fun stmts σ B s r => exs_ok Gl0 FO O R HK n stmts σ B s r) X q1) fun f s₁ h => ?_
      obtain ⟨fl, σ'⟩ := r1
      cases fl with
      | next =>
        obtain ⟨rfl, B', hle, X'⟩ := h
        exact wpThen (exs_ok Gl0 FO O R HK n rest σ' B' s₁ r q X') fun f s' h => Res.up hle h
      | ret d =>
        cases q
        obtain ⟨v, rfl, h⟩ := h
        exact ⟨v, rfl, h⟩
end
end Mine
end
section
namespace Mine

noncomputable def HookAll (prog : Program) (w : World) (H0 : Heap) (K : Nat) (hk : Hook) : Prop := ∀ A s0 env, Rm A K → EOk env → HookOk prog w A s0 H0 env hk
noncomputable def noHook : Hook := fun _ _ _ => none
theorem noHook_ok {prog : Program} {w : World} {H0 : Heap} {K : Nat} : HookAll prog w H0 K noHook := fun _ _ _ _ _ _ _ _ _ _ e => by cases e
theorem Rm.deeper {A : Around} {K : Nat} {env : Env} (R : Rm A (K + 1)) : Rm (A.deeper env) K := ⟨R.handled, by have := R.depth; show A.depth + 1 + 4 * K ≤ 900; (first | decide | lia | omega), by have := R.units; show A.units + 3 + 40 * K ≤ 9000; (first | decide | lia | omega)⟩

noncomputable def lent (ps : List Str) (vals : List Dat) : Sg := (ps.zip vals).map fun p => (p.1, p.2, false)

theorem lookup_rev {β : Type} : ∀ (l : List (Str × β)), (l.map (·.1)).Nodup → ∀ x, l.reverse.lookup x = l.lookup x
  | [], _, x => rfl
  | (y, b) :: l, h, x => by
    rw [List.map_cons, List.nodup_cons] at h
    rw [List.reverse_cons, List.lookup_append, lookup_rev l h.2 x]
    rw [show List.lookup x ((y, b) :: l) = (match x == y with | true => some b | false => List.lookup x l) from List.lookup_cons]
    cases q : x == y with
    | true =>
      have hx : x = y := by simpa using q
      subst hx
      have : l.lookup x = none := by
        rw [List.lookup_eq_none_iff]
        intro p hp
        have hpm : p.1 ∈ l.map (·.1) := List.mem_map_of_mem (f := (·.1)) hp
        have : p.1 ≠ x := fun e => h.1 (by rw [← e]; exact hpm)
        simpa using fun e : x = p.1 => this e.symm
      rw [this]
      simp
    | false =>
      cases l.lookup x <;> simp [List.lookup_cons, q]

theorem lent_vars {h : Heap} : ∀ {ps : List Str} {vs : List Value} {vals : List Dat} {F : List Addr}, DenAll h vs vals F → ∃ fp : Str → List Addr, ∀ x d o, gv (lent ps vals) x = some (d, o) → o = false ∧ ∃ v, (ps.zip vs).lookup x = some v ∧ Den h v d (fp x)
  | [], _, _, _, _ => ⟨fun _ => [], fun x d o e => by cases e⟩
  | p :: ps, _, _, _, .nil => ⟨fun _ => [], fun x d o e => by cases e⟩
  | p :: ps, _, _, _, .cons (F := F0) (v := v0) (d := d0) y r => by
    obtain ⟨fp, hfp⟩ := lent_vars (ps := ps) r
    refine ⟨fun x => if x = p then F0 else fp x, fun x d o e => ?_⟩
    have e' : (if x = p then some (d0, false) else gv (lent ps _) x) = some (d, o) := e
    rw [List.zip_cons_cons, List.lookup_cons]
    by_cases hx : x = p
    · rw [if_pos hx] at e'
      cases e'
      subst hx
      refine ⟨rfl, v0, by simp, ?_⟩
      show Den h v0 d0 (if x = x then F0 else fp x)
      rw [if_pos rfl]; exact y
    · rw [if_neg hx] at e'
      obtain ⟨ho, v, e1, hd⟩ := hfp x d o e'
      refine ⟨ho, v, ?_, ?_⟩
      · have : (x == p) = false := by simpa using hx
        rw [this]; exact e1
      · show Den h v d (if x = p then F0 else fp x)
        rw [if_neg hx]; exact hd

structure ScopeOk (scope : Scope) : Prop where
  kind : scope.kind = .function
  plain : ∀ x ∈ scope.names, x.2 ≠ .cell ∧ x.2 ≠ .free
  co : scope.isCoroutine = false
  gen : scope.isGenerator = false

theorem envOf_ok {name : Str} {scope : Scope} {L a : Addr} {cd : Value} (C : ScopeOk scope) : EOk (envOf name scope L a cd) where
  kind := C.kind
  globals := rfl
  builtins := rfl
  cells := fun x h => by
    have : ∀ k, scope.names.lookup x = some k → k ≠ .cell ∧ k ≠ .free := fun k e => C.plain _ (lookup_mem e)
    rcases h with h | h
    · exact absurd rfl (this _ h).1
    · exact absurd rfl (this _ h).2

section
variable {prog : Program} {w : World} {A : Around} {s : Shared} {H0 : Heap} {K : Nat} {Φ : Funs}

theorem def_ok {name : Str} {params : Arguments} {body : List Stmt} {scope : Scope} {pm cdv doc dV : Value} {a : Addr} {o : Obj} {vs vs' : List Value} {vals : List Dat} {F : List Addr} {ps : List Str} {d : Dat} {σ' : Sg} {N W n : Nat} {hk : Hook}
    (ho : H0.get? a = some o) (hdat : o.data = .func { docDef name params body scope pm cdv doc with defaults := dV }) (hlim : H0.NoLimit) (hcd : H0.CodeRec cdv name) (C : ScopeOk scope)
    (hps : ps.Nodup) (hplain : ∀ x ∈ ps, plainName x = true) (hlen : ps.length = vals.length) (hloc : ∀ x ∈ ps, scope.names.lookup x = some .local)
    (Gl0 : Gl H0) (FO : FOk prog w H0 K Φ) (HK : HookAll prog w H0 K hk) (q : exs Φ N W hk (fun x => scope.names.lookup x) n body (lent ps vals) = some (.ret d, σ'))
    (R : Rm A (K + 1)) (T : St H0 s) (hbind : BindsTo s { docDef name params body scope pm cdv doc with defaults := dV } ⟨vs, []⟩ (ps.zip vs')) (hd : DenAll s.heap vs' vals F) :
    wpAny (model prog w) A (call (.ref a) vs) (Gives s d) No s := by
  have hlen' := hd.length
  have hfst : (ps.zip vs').map (·.1) = ps := by
    rw [List.map_fst_zip]; (first | decide | lia | omega)
  refine wpAny_call (call_plainD (by have := R.depth; show A.depth < 1000; (first | decide | lia | omega)) (T.keep a o ho) hdat (hlim.keeps T.keep) (hcd.keeps T.keep) hbind (fun x hx => ?_) (fun h₁ Fr₁ => ?_) C.co C.gen C.kind fun x hx => (C.plain x hx).1)
  · exact hloc x.1 (by rw [← hfst]; exact List.mem_map_of_mem hx)
  · have Oe : EOk (envOf name scope s.heap.objs.size a cdv) := envOf_ok C
    have X : ExS s H0 (fun b => s.heap.get? b) (envOf name scope s.heap.objs.size a cdv) { s with heap := h₁, toks := s.toks + (ps.zip vs').length } (lent ps vals) := by
      refine ⟨⟨h₁, _, rfl⟩, ⟨fun b o e => Fr₁.keep b o (T.keep b o e), Nat.lt_of_lt_of_le T.tok (Nat.le_add_right _ _)⟩, T.keep, fun b o e => Fr₁.keep b o e, ⟨⟨_, Fr₁.ns⟩, size_fresh _, ?_, ?_, ?_, ?_⟩, ?_⟩
      · intro x c e; cases e
      · intro x c e; cases e
      · intro x y c e; cases e
      · intro x c e; cases e
      · obtain ⟨fp, hfp⟩ := lent_vars (ps := ps) hd
        refine ⟨fp, fun x d o e => ?_, fun x y dx dy e => ?_⟩
        · obtain ⟨rfl, v, e1, hdv⟩ := hfp x d o e
          have hxm : x ∈ ps := by
            have := List.mem_map_of_mem (f := (·.1)) (lookup_mem e1)
            rw [hfst] at this; exact this
          refine ⟨hplain x hxm, ⟨v, .inl ⟨hloc x hxm, _, Fr₁.ns, ?_⟩, hdv.mono fun b _ o e => Fr₁.keep b o e⟩, (fun h => nomatch h), (fun h => nomatch h), fun _ b hb => ?_⟩
          · rw [lookup_rev _ (by rw [hfst]; exact hps)]; exact e1
          · obtain ⟨ob, e2, _⟩ := hdv.live b hb
            exact ⟨ob, e2⟩
        · obtain ⟨h, _⟩ := hfp x dx true e
          cases h
    refine wpThen (exs_ok Gl0 FO Oe R.deeper (HK _ _ _ R.deeper Oe) n body (lent ps vals) _ _ (.ret d, σ') q X) fun f s' h => ?_
    obtain ⟨v, rfl, ⟨h', tk, rfl⟩, hB, G, hden, hG, hnod⟩ := h
    exact ⟨⟨h', tk, rfl, hB⟩, G, hden, hG, hnod⟩
end
end Mine
end
section
namespace Mine

/-! ## Sorting: the decision tree run on a pure order -/
noncomputable def evalT {α : Type} (lt : Nat → Nat → Bool) (n : Nat) : KasT α → Option α
  | .ret a => some a
  | .ask i j k => if i < n ∧ j < n then evalT lt n (k (lt i j)) else none
theorem evalT_wp {α : Type} {cmp : Nat → Nat → (Bool → Shared → Prop) → Shared → Prop} {lt : Nat → Nat → Bool} {n : Nat} {s : Shared} {G : α → Shared → Prop} (h : ∀ i j C, i < n → j < n → C (lt i j) s → cmp i j C s) :
    ∀ {t : KasT α} {a : α}, evalT lt n t = some a → G a s → t.kasWp cmp G s
  | .ret a, _, e, g => by cases e; exact g
  | .ask i j k, a, e, g => by
    rw [evalT] at e
    split at e
    · rename_i hc
      exact h i j _ hc.1 hc.2 (evalT_wp h e g)
    · cases e

noncomputable def liveBut (h : Heap) (L k : Addr) : List (Addr × Obj) := (List.range h.objs.size).filterMap fun a => if a = L ∨ a = k then none else (h.get? a).map fun o => (a, o)
theorem mem_live {h : Heap} {L k a : Addr} {o : Obj} (hL : a ≠ L) (hk : a ≠ k) (e : h.get? a = some o) : (a, o) ∈ liveBut h L k := by
  unfold liveBut
  refine List.mem_filterMap.mpr ⟨a, List.mem_range.mpr (Heap.lt_size e), ?_⟩
  rw [if_neg (by simp [hL, hk]), e]; rfl
theorem live_mem {h : Heap} {L k : Addr} {p : Addr × Obj} (hp : p ∈ liveBut h L k) : h.get? p.1 = some p.2 ∧ p.1 ≠ L ∧ p.1 ≠ k := by
  obtain ⟨a, _, e⟩ := List.mem_filterMap.mp hp
  split at e
  · cases e
  · rename_i hc
    cases q : h.get? a with
    | none => rw [q] at e; cases e
    | some o =>
      rw [q] at e; cases e
      exact ⟨q, fun z => hc (.inl z), fun z => hc (.inr z)⟩
theorem emp_get (a : Addr) : ({} : Heap).get? a = none := by simp [Heap.get?]
theorem live_news {h : Heap} {L k : Addr} : News {} L h (liveBut h L k) := fun p hp => let ⟨a, b, _⟩ := live_mem hp; ⟨a, b, emp_get _⟩
theorem live_news1 {h : Heap} {L k : Addr} {o : Obj} (hk : k ≠ L) (e : h.get? k = some o) : News {} L h ((k, o) :: liveBut h L k) := fun p hp => by
  rcases List.mem_cons.mp hp with rfl | hp
  · exact ⟨e, hk, emp_get _⟩
  · exact live_news p hp
theorem live_upd {h : Heap} {L k : Addr} {o : Obj} : UpdF k o ((k, o) :: liveBut h L k) (fun o' => (k, o') :: liveBut h L k) := .head fun p hp => (live_mem hp).2.2
theorem fr_emp {h : Heap} {L : Addr} {m : Str → Option Value} (hn : h.Ns L m) : Fr {} L h m := ⟨hn, (fun b o e => by rw [emp_get] at e; cases e), Nat.zero_le _⟩

/-- all but two objects kept, the first still a namespace of the same names -/
noncomputable def Kept2 (L k : Addr) (h h' : Heap) : Prop := ∀ b o, b ≠ L → b ≠ k → h.get? b = some o → h'.get? b = some o
theorem kept_of {h h' : Heap} {L k : Addr} {o' : Obj} (N : News {} L h' ((k, o') :: liveBut h L k)) : Kept2 L k h h' := fun b o hL hk e => (N (b, o) (.tail _ (mem_live hL hk e))).1

section
variable {prog : Program} {w : World} {A : Around} {s : Shared}

theorem sort_keys {vs0 : List Value} {L : Addr} {m : Str → Option Value} {f : Value} {kS D : Addr} {e1 : Nat} {KP : List Value → Heap → Prop} (hne : kS ≠ L) (hDL : D ≠ L) (hDk : D ≠ kS)
    (hKP : ∀ ks h h', KP ks h → Kept2 L kS h h' → KP ks h') {Base : Heap → Prop} (hBase : ∀ h h', Base h → Kept2 L kS h h' → Base h')
    {Fin : List Value → Nat → Shared → Prop} : ∀ {r ks : List Value} {e : Nat} {s : Shared}, s.heap.Ns L m → s.heap.get? kS = some (seqObj "list" ks.toArray e) → s.heap.get? D = some (seqObj "list" #[] e1) → Base s.heap → KP ks s.heap → 0 < s.toks →
    (∃ pre : List Value, pre.length = ks.length ∧ vs0 = pre ++ r) → (∀ ks v s', vs0[ks.length]? = some v → 0 < s'.toks → s'.heap.Ns L m → (∃ o, s'.heap.get? kS = some o) → Base s'.heap → KP ks s'.heap → wpAny (model prog w) A (call f [v]) (fun k s'' => Kp s' s'' ∧ KP (ks ++ [k]) s''.heap) No s') →
    (∀ ks' e' s', ks'.length = ks.length + r.length → (∃ h tk, s' = { s with heap := h, toks := tk }) → s'.heap.Ns L m → s'.heap.get? kS = some (seqObj "list" ks'.toArray e') → s'.heap.get? D = some (seqObj "list" #[] e1) → Base s'.heap → KP ks' s'.heap → 0 < s'.toks → Fin ks' e' s') →
    KatKeys prog w A {} L m kS f Fin r ks e s
  | [], ks, e, s, hn, hk, hD, hB, hP, ht, _, _, fin => KatKeys.nil (fin ks e s (by simp) ⟨_, _, rfl⟩ hn hk hD hB hP ht)
  | v :: r, ks, e, s, hn, hk, hD, hB, hP, ht, hpre, step, fin => by
    obtain ⟨pre, hpl, hpe⟩ := hpre
    refine KatKeys.cons (wpSeq (step ks v s (by rw [hpe, ← hpl]; simp) ht hn ⟨_, hk⟩ hB hP) fun k s'' h htk => ?_)
    obtain ⟨kk, hP'⟩ := h
    have hk' := kk.get hk
    refine KatBack.intro (fr_emp (hn.keeps kk.has)) (live_news1 hne hk') live_upd fun h' c F' N' => ?_
    have hkept := kept_of N'
    have hb' := hBase _ _ (hBase _ _ hB fun b o _ _ e => kk.get e) hkept
    refine sort_keys hne hDL hDk hKP hBase F'.ns (N' _ (.head _)).1 (hkept D _ hDL hDk (kk.get hD)) hb' (hKP _ _ _ hP' hkept) (Nat.lt_of_lt_of_le ht htk) ⟨pre ++ [v], by simp [hpl], by rw [hpe]; simp⟩ step fun ks' e' s' hl hsh => fin ks' e' s' ?_ ?_
    · rw [hl]; simp; (first | decide | lia | omega)
    · obtain ⟨h3, tk3, rfl⟩ := hsh
      obtain ⟨h4, tk4, rfl, _⟩ := kk
      exact ⟨h3, tk3, rfl⟩

theorem sorted_key {l L q : Addr} {vs : List Value} {m : Str → Option Value} {KP : Addr → List Value → Heap → Prop} {κ0 : SortKind} {lt : Nat → Nat → Bool} {p : Array Nat}
    (hn : s.heap.Ns L m) (hl : s.heap.IsList l vs.toArray) (h2 : 2 ≤ vs.length) (h64 : vs.length < 64) (ht : 0 < s.toks)
    (hKP : ∀ kS ks h h', KP kS ks h → Kept2 L kS h h' → KP kS ks h') (hK0 : ∀ kS h, KP kS [] h)
    (step : ∀ kS ks v s', vs[ks.length]? = some v → 0 < s'.toks → s'.heap.Ns L m → (∃ o, s'.heap.get? kS = some o) → (∀ b o, b ≠ L → s.heap.get? b = some o → s'.heap.get? b = some o) → KP kS ks s'.heap → wpAny (model prog w) A.in1.in1 (call (.ref q) [v]) (fun k s'' => Kp s' s'' ∧ KP kS (ks ++ [k]) s''.heap) No s')
    (kind : ∀ kS ks s', KP kS ks s'.heap → ks.length = vs.length → ∀ Q : SortKind → Shared → Prop, Q κ0 s' → wpAny (model prog w) A.in1.in1 (keyKind' ks.toArray) Q (fun _ _ => False) s')
    (less : ∀ kS ks s', KP kS ks s'.heap → ks.length = vs.length → ∀ i j C, i < vs.length → j < vs.length → C (lt i j) s' → kas_ask prog w A.in1.in1 κ0 ks i j C s')
    (he : evalT lt vs.length (kas_sort vs.length) = some p) {E : Value → Shared → Prop} {Q : Value → Shared → Prop}
    (h : ∀ D h' tk c, s.heap.get? D = none → h'.Ns L m → (∀ b o, b ≠ L → s.heap.get? b = some o → h'.get? b = some o) → h'.get? D = some (W.listOf (p.toList.map fun i => vs.getD i Value.none).toArray c) → 0 < tk → Q (.ref D) { s with heap := h', toks := tk }) :
    wpAny (model prog w) A (call (.builtin "sorted") [.ref l] [(Str.ofString "key", .ref q)]) Q E s := by
  refine kat_sortedK (b := false) (f := .ref q) (news := liveBut s.heap L L) (fr_emp hn) live_news hl h2 h64 (ksk_s1 _ _) (fun x => ksk_l1 _ _) (ksk_t1 q) fun D kS e1 h' F' N' hlt hold => ?_
  have hkS := N' _ (.head _)
  have hD := N' _ (.tail _ (.head _))
  have hDk : D ≠ kS := Nat.ne_of_lt hlt
  have old : ∀ b o, b ≠ L → s.heap.get? b = some o → h'.get? b = some o := fun b o hb e => (N' (b, o) (.tail _ (.tail _ (mem_live hb hb e)))).1
  have lt_of : ∀ b o, b ≠ L → s.heap.get? b = some o → b < D := fun b o hb e => hold (b, o) (mem_live hb hb e)
  have fD : s.heap.get? D = none := by
    cases z : s.heap.get? D with
    | none => rfl
    | some o => exact absurd (lt_of D o hD.2.1 z) (Nat.lt_irrefl _)
  have fk : s.heap.get? kS = none := by
    cases z : s.heap.get? kS with
    | none => rfl
    | some o => exact absurd (Nat.lt_trans (lt_of kS o hkS.2.1 z) hlt) (Nat.lt_irrefl _)
  refine sort_keys (KP := KP kS) (Base := fun g => ∀ b o, b ≠ L → s.heap.get? b = some o → g.get? b = some o) hkS.2.1 hD.2.1 hDk (hKP kS) (fun g g' hb hk b o hL e => hk b o hL (fun z => live_ne fk e z.symm) (hb b o hL e)) F'.ns hkS.1 hD.1 old (hK0 _ _) ht ⟨[], rfl, rfl⟩ (fun ks v s' hv ht' hn' hlive hb hP => step kS ks v s' hv ht' hn' hlive hb hP) fun ks e s' hlen hsh hn' hk' hD' hB hP htk => ?_
  have hlen' : ks.length = vs.length := by simpa using hlen
  refine kind kS ks s' hP hlen' _ ?_
  refine evalT_wp (n := vs.length) (lt := lt) (fun i j C hi hj hC => by
    have := less kS ks s' hP hlen' i j C hi hj hC
    simpa [katRev] using this) he ?_
  have eo : katRev false (p.toList.map fun i => (katRev false vs).getD i Value.none) = p.toList.map fun i => vs.getD i Value.none := by simp [katRev]
  rw [eo]
  refine KatFin.intro (fr_emp hn') (live_news1 hkS.2.1 hk') live_upd fun h₂ c F₂ N₂ => ?_
  have k2 := kept_of N₂
  have hD2 := k2 D _ hD.2.1 hDk hD'
  refine KasFin.intro (fr_emp F₂.ns) (live_news1 hD.2.1 hD2) live_upd fun h₃ c3 F₃ N₃ => ?_
  have k3 := kept_of N₃
  obtain ⟨hx, tkx, rfl⟩ := hsh
  exact h D h₃ tkx c3 fD F₃.ns (fun b o hL e => k3 b o hL (fun z => live_ne fD e z.symm) (k2 b o hL (fun z => live_ne fk e z.symm) (hB b o hL e))) (N₃ _ (.head _)).1 htk
end
end Mine
end
section
namespace Mine

theorem VarAt.upL {B : Base} {env : Env} {h h' : Heap} {fp : Str → List Addr} {x : Str} {d : Dat} {o : Bool} (V : VarAt B env h fp x d o) (F : FrOk B env h) (hk : ∀ b o, b ≠ env.locals → h.get? b = some o → h'.get? b = some o) (hn : ∀ m, h.Ns env.locals m → h'.Ns env.locals m) : VarAt B env h' fp x d o := by
  obtain ⟨v, h1, h2⟩ := V.val
  refine ⟨V.plain, ⟨v, ?_, h2.mono fun a ha o e => hk a o (fun z => den_not_sys F h2 ha (.inl z)) e⟩, V.own, V.once, V.lent⟩
  rcases h1 with ⟨a, m, n, e⟩ | ⟨a, c, e, o, e1, e2⟩
  · exact .inl ⟨a, m, hn m n, e⟩
  · exact .inr ⟨a, c, e, o, hk c o (F.apart x c e) e1, e2⟩
theorem ExS.kpL {s0 s : Shared} {H0 : Heap} {B : Base} {env : Env} {σ : Sg} (X : ExS s0 H0 B env s σ) {h' : Heap} {tk : Nat} (hk : ∀ b o, b ≠ env.locals → s.heap.get? b = some o → h'.get? b = some o) (hn : ∀ m, s.heap.Ns env.locals m → h'.Ns env.locals m) (ht : 0 < tk) :
    ExS s0 H0 B env { s with heap := h', toks := tk } σ := by
  obtain ⟨fp, hv, hdis⟩ := X.vars
  refine ⟨?_, ⟨fun b o e => hk b o (fun z => by subst z; have := X.hB _ _ e; rw [X.fr.nsB] at this; cases this) (X.st.keep b o e), ht⟩, X.hB, fun b o e => ?_, ⟨?_, X.fr.nsB, fun y c e => ?_, X.fr.cellB, X.fr.inj, X.fr.apart⟩, fp, fun y dy o e => (hv y dy o e).upL X.fr hk hn, hdis⟩
  · obtain ⟨h0, tk0, rfl⟩ := X.sh
    exact ⟨h', tk, rfl⟩
  · exact hk b o (fun z => by subst z; rw [X.fr.nsB] at e; cases e) (X.has b o e)
  · obtain ⟨m, n⟩ := X.fr.ns
    exact ⟨m, hn m n⟩
  · obtain ⟨v, o, e1, e2⟩ := X.fr.cell y c e
    exact ⟨v, o, hk c o (X.fr.apart y c e) e1, e2⟩

noncomputable def ltS (a b : Str) : Bool := decide (a.cps.toList < b.cps.toList)
noncomputable def sortS (ss : List Str) : Option (List Str) := (evalT (fun i j => ltS (ss.getD i default) (ss.getD j default)) ss.length (kas_sort ss.length)).bind fun p => if p.toList.all (fun i => i < ss.length) = true then some (p.toList.map fun i => ss.getD i default) else none

inductive AreStrs : List Value → List Str → Prop
  | nil : AreStrs [] []
  | cons (x : Str) (t : Tok) {vs ss} : AreStrs vs ss → AreStrs (.str x t :: vs) (x :: ss)
theorem strsOf_are : ∀ {ds : List Dat} {ss : List Str} {vs : List Value} {F : List Addr} {h : Heap}, strsOf ds = some ss → DenAll h vs ds F → AreStrs vs ss
  | [], ns, _, _, _, e, .nil => by cases e; exact .nil
  | d :: ds, ns, _, _, _, e, .cons x r => by
    cases d with
    | str i =>
      rw [strsOf] at e
      cases q : strsOf ds with
      | none => rw [q] at e; cases e
      | some ms =>
        rw [q] at e; cases e
        obtain ⟨t, rfl⟩ := x.str_inv
        exact .cons i t (strsOf_are q r)
    | _ => simp [strsOf] at e
theorem AreStrs.length : ∀ {vs : List Value} {ss : List Str}, AreStrs vs ss → vs.length = ss.length
  | _, _, .nil => rfl
  | _, _, .cons _ _ r => by simp [r.length]
theorem AreStrs.get : ∀ {vs : List Value} {ss : List Str}, AreStrs vs ss → ∀ {i : Nat}, i < vs.length → ∃ t, vs.getD i Value.none = .str (ss.getD i default) t
  | _, _, .cons x t r, 0, _ => ⟨t, rfl⟩
  | _, _, .cons x t r, i + 1, h => by
    obtain ⟨t', e⟩ := r.get (i := i) (by simpa using h)
    exact ⟨t', by simpa using e⟩
theorem AreStrs.append {vs ws : List Value} {ss ts : List Str} (x : AreStrs vs ss) (y : AreStrs ws ts) : AreStrs (vs ++ ws) (ss ++ ts) := by
  induction x with
  | nil => exact y
  | cons a t _ ih => exact .cons a t ih
theorem AreStrs.mem {vs : List Value} {ss : List Str} (x : AreStrs vs ss) {v : Value} (h : v ∈ vs) : ∃ a t, v = .str a t := by
  induction x with
  | nil => cases h
  | cons a t _ ih =>
    rcases List.mem_cons.mp h with rfl | h
    · exact ⟨a, t, rfl⟩
    · exact ih h

/-- the sorted list again denotes -/
theorem are_den {h : Heap} {vs : List Value} {ss : List Str} (x : AreStrs vs ss) : ∀ p : List Nat, (∀ i ∈ p, i < vs.length) → DenAll h (p.map fun i => vs.getD i Value.none) ((p.map fun i => ss.getD i default).map .str) []
  | [], _ => .nil
  | i :: p, hp => by
    obtain ⟨t, e⟩ := x.get (hp i (.head _))
    have := are_den (h := h) x p fun j hj => hp j (.tail _ hj)
    simp only [List.map_cons]
    rw [e]
    exact DenAll.cons (F := []) (.str _ _) this
theorem FOk.up {prog : Program} {w : World} {H0 : Heap} {K : Nat} {Φ : Funs} (F : FOk prog w H0 K Φ) : FOk prog w H0 (K + 1) Φ where
  fn := fun f vals d e => let ⟨p, a, o, fd, g, ho, hd, h⟩ := F.fn f vals d e; ⟨p, a, o, fd, g, ho, hd, fun A s vs G R => h A s vs G (R.le (Nat.le_succ K))⟩
  dct := fun x i d e => let ⟨p, v, g, T, id, hl, hT, h⟩ := F.dct x i d e; ⟨p, v, g, T, id, hl, hT, fun A s vi G R => h A s vi G (R.le (Nat.le_succ K))⟩
  cst := F.cst
  sub := fun b r e => let ⟨q, g, ho, h⟩ := F.sub b r e; ⟨q, g, ho, fun A s t u R => h A s t u (R.le (Nat.le_succ K))⟩
theorem Rm.in2 {A : Around} {K : Nat} (R : Rm A (K + 1)) : Rm A.in1.in1 K := ⟨R.handled, by have := R.depth; show A.depth + 4 * K ≤ 900; (first | decide | lia | omega), by have := R.units; show A.units + 1 + 1 + 40 * K ≤ 9000; (first | decide | lia | omega)⟩

section
variable {prog : Program} {w : World} {A : Around} {s0 s s₁ : Shared} {H0 : Heap} {B : Base} {env : Env} {σ : Sg} {K : Nat} {Φ : Funs}

theorem typeOf_str_looks {M : Model} {h : Heap} {x : Str} {t : Tok} : Looks M h (typeOf (.str x t)) (.type "str") := .now

/-- a new list bound after such a step -/
theorem bind_new (O : EOk env) {x : Str} (hc : canBind env.kindOf x = true) (X : ExS s0 H0 B env s σ) {h' : Heap} {tk : Nat} (hk : ∀ b o, b ≠ env.locals → s.heap.get? b = some o → h'.get? b = some o) (hn : ∀ m, s.heap.Ns env.locals m → h'.Ns env.locals m) (ht : 0 < tk)
    {v : Value} {d : Dat} {F : List Addr} (hd : Den h' v d F) (hF : Fresh s F) {E : Value → Shared → Prop} :
    wpAny (model prog w) A (storeName env x v) (fun _ s' => ExS s0 H0 B env s' (sv σ x (d, true))) E { s with heap := h', toks := tk } := by
  have X2 := X.kpL hk hn ht
  obtain ⟨fp, hv, hdis⟩ := X.vars
  refine bind_core (s₁ := { s with heap := h', toks := tk }) O hc X2 (fun y dy o e => (hv y dy o e).upL X.fr hk hn) hdis hd (fun a ha => ?_) hF.once fun y dy o e a ha hy => ?_
  · cases q : B a with
    | none => rfl
    | some o => exact absurd rfl (live_ne (hF.gone a ha) (X.has a o q))
  · obtain ⟨vy, _, dn⟩ := (hv y dy o e).val
    obtain ⟨ob, e1, _⟩ := dn.live a hy
    exact live_ne (hF.gone a ha) e1 rfl

/-- `x = sorted(e, key=f)` where f gives every string back -/
theorem sorted_strs_ok (hsg : GIs H0 "sorted" (.builtin "sorted")) (Gl0 : Gl H0) (FO : FOk prog w H0 K Φ) (O : EOk env) (R : Rm A (K + 1)) (X : ExS s0 H0 B env s σ) {N : Nat} {e : Expr} {ds : List Dat} {ss ss' : List Str} {f x : Str} {px pf pk kp pos spos : Pos}
    (hc : canBind env.kindOf x = true) (hg : isGlob env.kindOf ("sorted" : Str) = true) (hgf : isGlob env.kindOf f = true) (qe : ev Φ N env.kindOf (ρof σ) e = some (.list ds)) (hs : strsOf ds = some ss) (h2 : 2 ≤ ss.length) (h64 : ss.length < 64)
    (hf : ∀ x ∈ ss, Φ.fn f [.str x] = some (.str x)) (hsort : sortS ss = some ss') :
    wpAny (model prog w) A (exec (.Assign [.Name x px] (.Call (.Name "sorted" pf) [e] [⟨some "key", .Name f pk, kp⟩] pos) spos) env) (fun fl s' => fl = .next ∧ ExS s0 H0 B env s' (sv σ x (.list (ss'.map .str), true))) No s := by
  have S := ev_sound Gl0 FO N (prog := prog) (w := w)
  refine wpAny_Assign_Name ?_ rfl
  show wpAny _ _ (do callWith pos (← eval (.Name "sorted" pf) env) [] (backTo pos (starEach [e] env)) (backToKw pos (keywordEach [⟨some "key", .Name f pk, kp⟩] env))) _ _ _
  refine wpAny_bind (glob_name hsg X.st O (isGlob_is hg) (by decide) ?_)
  obtain ⟨x0, hx0⟩ : ∃ x0, x0 ∈ ss := by
    cases ss with
    | nil => simp at h2
    | cons a r => exact ⟨a, .head _⟩
  obtain ⟨hpf, qa, of, fdf, Gf, hof, hdf, hcall⟩ := FO.fn f _ _ (hf x0 hx0)
  refine callWith_kw ?_ (by rw [starEach_cons (star_ne S qe)]; rfl) (by rw [starEach_cons (star_ne S qe)]; rfl)
  refine args_cons (wpSeq ((ev_sound Gl0 FO N).ok env A s (ρof σ) e _ O (R.le (Nat.le_succ K)) X.st X.varsOk qe) fun ve s₁ h₁ ht => ?_) (starEach_cons (star_ne S qe))
  first | refine Out.elim h₁ fun k F hd => ?_ | refine Gives.elim h₁ fun k F hd => ?_ | obtain ⟨k, F, hd, _⟩ := h₁
  refine args_nil ?_
  have X1 := X.kp k ht
  show wpAny _ _ (evalAll [do let v ← eval (.Name f pk) env; standAt pos; pure v]) _ _ _
  refine wpAny_evalAll_cons (wpAny_bind (glob_name Gf X1.st O (isGlob_is hgf) hpf (wpAny_bind (wpAny_standAt (wpAny_pure ?_)))))
  refine wpAny_evalAll_nil ?_
  obtain ⟨l, vs, n, G, rfl, rfl, hl, r⟩ := hd.list_inv
  have hA := strsOf_are hs r
  have hlen := hA.length
  obtain ⟨m, hm⟩ := X1.fr.ns
  unfold sortS at hsort
  cases he : evalT (fun i j => ltS (ss.getD i default) (ss.getD j default)) ss.length (kas_sort ss.length) with
  | none => rw [he] at hsort; cases hsort
  | some p =>
    rw [he] at hsort
    have hsort' : (if p.toList.all (fun i => i < ss.length) = true then some (p.toList.map fun i => ss.getD i default) else none) = some ss' := hsort
    split at hsort'
    · rename_i hall
      cases hsort'
      have hall' : ∀ i ∈ p.toList, i < vs.length := fun i hi => by
        have := List.all_eq_true.mp hall i hi
        rw [hlen]; simpa using this
      refine sorted_key (L := env.locals) (m := m) (KP := fun kS ks h => AreStrs ks (ss.take ks.length)) (κ0 := oneType') (lt := fun i j => ltS (ss.getD i default) (ss.getD j default)) (p := p) hm (Den.isList hl) (by (first | decide | lia | omega)) (by (first | decide | lia | omega)) X1.st.tok (fun kS ks h h' x _ => x) (fun kS h => .nil) (fun kS ks v s' hv ht' hn' hlv hb hP => ?_) (fun kS ks s' hP hl' Q hQ => ?_) (fun kS ks s' hP hl' i j C hi hj hC => ?_) (by rw [hlen]; exact he) fun D h' tk c fD hnD hkD hoD htk => ?_
      · have hi : ks.length < vs.length := by
          rcases Nat.lt_or_ge ks.length vs.length with h | h
          · exact h
          · rw [List.getElem?_eq_none h] at hv; cases hv
        obtain ⟨t, ev⟩ := hA.get hi
        have evv : v = .str (ss.getD ks.length default) t := by
          rw [List.getD_eq_getElem?_getD, hv] at ev; exact ev
        subst evv
        have hmem : ss.getD ks.length default ∈ ss := by
          have : ks.length < ss.length := by (first | decide | lia | omega)
          rw [List.getD_eq_getElem?_getD, List.getElem?_eq_getElem this]; exact List.getElem_mem this
        obtain ⟨_, qa', of', fdf', Gf', hof', hdf', hcall'⟩ := FO.fn f _ _ (hf _ hmem)
        have hqq : qa' = qa := by
          obtain ⟨mg, mb, n1, n2, e1⟩ := Gf
          obtain ⟨mg', mb', n1', n2', e1'⟩ := Gf'
          have a1 := n1.agree n1' f
          have a2 := n2.agree n2' f
          rcases e1 with e1 | ⟨e1, e2⟩ <;> rcases e1' with e1' | ⟨e1', e2'⟩ <;> simp_all
        subst hqq
        have T' : St H0 s' := ⟨fun b o e => hb b o (fun z => by subst z; have := X1.hB _ _ e; rw [X1.fr.nsB] at this; cases this) (X1.st.keep b o e), ht'⟩
        refine wpThen (hcall' A.in1.in1 s' [.str (ss.getD ks.length default) t] ([] ++ []) R.in2 T' (.cons (.str _ _) .nil)) fun kv s'' g => ?_
        obtain ⟨kk, F', hd', _⟩ := g
        obtain ⟨t', rfl⟩ := hd'.str_inv
        refine ⟨kk, ?_⟩
        have : ss.take (ks ++ [Value.str (ss.getD ks.length default) t']).length = ss.take ks.length ++ [ss.getD ks.length default] := by
          have h1 : ks.length < ss.length := by (first | decide | lia | omega)
          rw [List.length_append, List.length_singleton, List.take_succ_eq_append_getElem h1, List.getD_eq_getElem?_getD, List.getElem?_eq_getElem h1]; rfl
        rw [this]
        exact hP.append (.cons _ _ .nil)
      · refine kas_kind (T := .type "str") (by (first | decide | lia | omega)) (fun v hv => ?_) (by decide) (by decide) hQ
        obtain ⟨a, t, rfl⟩ := hP.mem hv
        exact .now
      · have hti : ss.take ks.length = ss := by rw [List.take_of_length_le]; (first | decide | lia | omega)
        rw [hti] at hP
        obtain ⟨t1, e1⟩ := hP.get (i := i) (by (first | decide | lia | omega))
        obtain ⟨t2, e2⟩ := hP.get (i := j) (by (first | decide | lia | omega))
        unfold kas_ask
        rw [e1, e2]
        exact kas_lt_str hC
      · have fD1 : Fresh s₁ [D] := ⟨fun a ha => by rw [List.mem_singleton.mp ha]; exact fD, List.nodup_cons.mpr ⟨by simp, List.nodup_nil⟩⟩
        have hden : Den h' (.ref D) (.list ((p.toList.map fun i => ss.getD i default).map .str)) [D] := .list hoD (are_den hA p.toList hall')
        exact wpAny_mono (bind_new (E := No) O hc X1 (fun b o hb e => hkD b o hb e) (fun m' n' => by
          have : m = m' := funext fun y => hm.agree n' y
          subst this; exact hnD) htk hden fD1) (fun _ s' Y => ⟨rfl, Y⟩) fun _ _ e => e
    · cases hsort'
end
end Mine
end
section
namespace Mine

noncomputable def insI (a : Int) : List Int → List Int
  | [] => [a]
  | b :: r => if a ≤ b then a :: b :: r else b :: insI a r
noncomputable def srtI : List Int → List Int
  | [] => []
  | a :: r => insI a (srtI r)
theorem insI_perm (a : Int) : ∀ l, (insI a l).Perm (a :: l)
  | [] => .refl _
  | b :: r => by
    rw [insI]
    split
    · exact .refl _
    · exact ((insI_perm a r).cons b).trans (.swap a b r)
theorem srtI_perm : ∀ l, (srtI l).Perm l
  | [] => .refl _
  | a :: r => (insI_perm a _).trans ((srtI_perm r).cons a)
theorem insI_sorted (a : Int) : ∀ l : List Int, l.Pairwise (· ≤ ·) → (insI a l).Pairwise (· ≤ ·)
  | [], _ => List.pairwise_singleton _ _
  | b :: r, h => by
    rw [insI]
    have h' := List.pairwise_cons.mp h
    split
    · rename_i hab
      refine List.pairwise_cons.mpr ⟨fun c hc => ?_, h⟩
      rcases List.mem_cons.mp hc with rfl | hc
      · exact hab
      · exact Int.le_trans hab (h'.1 c hc)
    · rename_i hab
      refine List.pairwise_cons.mpr ⟨fun c hc => ?_, insI_sorted a r h'.2⟩
      rcases List.mem_cons.mp ((insI_perm a r).mem_iff.mp hc) with rfl | hc
      · (first | decide | lia | omega)
      · exact h'.1 c hc
theorem srtI_sorted : ∀ l : List Int, (srtI l).Pairwise (· ≤ ·)
  | [] => .nil
  | a :: r => insI_sorted a _ (srtI_sorted r)
theorem sorted_unique : ∀ {l₁ l₂ : List Int}, l₁.Perm l₂ → l₁.Pairwise (· ≤ ·) → l₂.Pairwise (· ≤ ·) → l₁ = l₂
  | [], l₂, p, _, _ => by rw [List.nil_perm.mp p]
  | a :: r, l₂, p, h1, h2 => by
    cases l₂ with
    | nil => exact absurd p.length_eq (by simp)
    | cons b r2 =>
      have a1 := List.pairwise_cons.mp h1
      have a2 := List.pairwise_cons.mp h2
      have hb : b ∈ a :: r := p.mem_iff.mpr (.head _)
      have ha : a ∈ b :: r2 := p.mem_iff.mp (.head _)
      have hab : a = b := by
        have l1 : a ≤ b := by
          rcases List.mem_cons.mp hb with e | e
          · (first | decide | lia | omega)
          · exact a1.1 b e
        have l2 : b ≤ a := by
          rcases List.mem_cons.mp ha with e | e
          · (first | decide | lia | omega)
          · exact a2.1 a e
        (first | decide | lia | omega)
      subst hab
      rw [sorted_unique (List.Perm.cons_inv p) a1.2 a2.2]

theorem ints_den {h : Heap} : ∀ {vs : List Value} {ns : List Int}, IntsAre vs ns → DenAll h vs (ns.map .int) []
  | _, _, .nil => .nil
  | _, _, .cons i t r => DenAll.cons (F := []) (.int i t) (ints_den r)

theorem take_den {h : Heap} : ∀ {vs : List Value} {ds : List Dat} {F : List Addr}, DenAll h vs ds F → ds.all imm = true → ∀ (k : Nat) (h' : Heap), DenAll h' (vs.take k) (ds.take k) []
  | _, _, _, .nil, _, k, h' => by simpa using DenAll.nil
  | _, _, _, .cons x r, _, 0, h' => .nil
  | _, _, _, .cons x r, e, k + 1, h' => by
    rw [List.all_cons, Bool.and_eq_true] at e
    exact DenAll.cons (F := []) (x.imm_any e.1) (take_den r e.2 k h')

section
variable {prog : Program} {w : World} {A : Around} {s0 s s₁ : Shared} {H0 : Heap} {B : Base} {env : Env} {σ : Sg} {K : Nat} {Φ : Funs}

theorem sorted_ints_ok (hsg : GIs H0 "sorted" (.builtin "sorted")) (Gl0 : Gl H0) (FO : FOk prog w H0 K Φ) (O : EOk env) (R : Rm A K) (X : ExS s0 H0 B env s σ) {N : Nat} {e : Expr} {ds : List Dat} {ns : List Int} {x : Str} {px pf pos spos : Pos}
    (hc : canBind env.kindOf x = true) (hg : isGlob env.kindOf ("sorted" : Str) = true) (qe : ev Φ N env.kindOf (ρof σ) e = some (.list ds)) (hs : intsOf ds = some ns) (h64 : ns.length < 64) :
    wpAny (model prog w) A (exec (.Assign [.Name x px] (.Call (.Name "sorted" pf) [e] [] pos) spos) env) (fun fl s' => fl = .next ∧ ExS s0 H0 B env s' (sv σ x (.list ((srtI ns).map .int), true))) No s := by
  have S := ev_sound Gl0 FO N (prog := prog) (w := w)
  refine wpAny_Assign_Name ?_ rfl
  refine Call_ (glob_name hsg X.st O (isGlob_is hg) (by decide) ?_)
  refine callB S (.inl ⟨_, rfl⟩) (show allSome (ev Φ N env.kindOf (ρof σ)) [e] = some [.list ds] by rw [allSome, qe]; rfl) (by simp) ?_
  refine args_cons (wpSeq ((ev_sound Gl0 FO N).ok env A s (ρof σ) e _ O R X.st X.varsOk qe) fun ve s₁ h₁ ht => ?_) (starEach_cons (star_ne S qe))
  first | refine Out.elim h₁ fun k F hd => ?_ | refine Gives.elim h₁ fun k F hd => ?_ | obtain ⟨k, F, hd, _⟩ := h₁
  refine args_nil ?_
  obtain ⟨l, vs, n, G, rfl, rfl, hl, r⟩ := hd.list_inv
  have hI := intsOf_are hs r
  have hlen : vs.length = ns.length := hI.length
  refine sorted_ints (Den.isList hl) hI (by (first | decide | lia | omega)) fun out ns' ho hp hw => ?_
  have hns : ns' = srtI ns := sorted_unique (hp.trans (srtI_perm ns).symm) hw (srtI_sorted ns)
  subst hns
  obtain ⟨c, hat⟩ := sortedAll_at s₁.heap vs out
  have kk : Kp s₁ { s₁ with heap := sortedAll s₁.heap vs out } := ⟨_, s₁.toks, rfl, fun b o e => sortedAll_old e⟩
  have hden : Den (sortedAll s₁.heap vs out) (.ref (s₁.heap.objs.size + 1)) (.list ((srtI ns).map .int)) [s₁.heap.objs.size + 1] := .list (vs := out.toList) (n := c) (by rw [hat]) (ints_den ho)
  have X1 := X.kp k ht
  refine wpAny_mono (bind_var (E := No) (s := s₁) (s₁ := { s₁ with heap := sortedAll s₁.heap vs out }) O hc X1 kk (Nat.le_refl _) hden ⟨fun a ha => ?_, List.nodup_cons.mpr ⟨by simp, List.nodup_nil⟩⟩) (fun _ s' Y => ⟨rfl, Y⟩) fun _ _ e => e
  rw [List.mem_singleton.mp ha]
  exact Heap.get?_none_of_le (Nat.le_succ _)

theorem pop_ok (O : EOk env) (X : ExS s0 H0 B env s σ) {l x : Str} {px pl ap pos spos : Pos} {ds : List Dat} {d : Dat}
    (hc : canBind env.kindOf x = true) (hline : (ap.endLine == pos.line) = true) (ql : gv σ l = some (.list (ds ++ [d]), true)) (hi : imm d = true) (hflat : ds.all imm = true) (hz : ds.length ≤ lineMax) (hxl : x ≠ l) :
    wpAny (model prog w) A (exec (.Assign [.Name x px] (.Call (.Attribute (.Name l pl) "pop" ap) [] [] pos) spos) env) (fun fl s' => fl = .next ∧ ExS s0 H0 B env s' (sv (sv σ l (.list ds, true)) x (d, true))) No s := by
  refine wpAny_Assign_Name ?_ rfl
  obtain ⟨fp, hv, hdis⟩ := X.vars
  have V := hv l _ true ql
  obtain ⟨vl, hV, hden⟩ := V.val
  refine wpAny_Call_method_lateS rfl rfl hline (var_name O hV V.plain ?_)
  obtain ⟨a, vs, n, G, rfl, eF, ho, r⟩ := hden.list_inv
  refine ⟨"list", "list.pop", PySem.F.plainAttrs_list, PySem.F.slot_list_pop, PySem.F.type_list_pop, ⟨_, ho, rfl⟩, (fun b eb => by cases eb; exact ⟨_, ho, rfl⟩), call0 ?_⟩
  have hflat2 : (ds ++ [d]).all imm = true := by rw [List.all_append, hflat]; simp [hi]
  have hG : G = [] := r.imm_nil hflat2
  subst hG
  have hlen := r.length
  rw [List.length_append, List.length_singleton] at hlen
  obtain ⟨vd, Gd, e1, hdd, _⟩ := r.get (i := ds.length) (d := d) (by simp)
  unfold lineMax at hz
  have hlast : vs.toArray[vs.toArray.size - 1]? = some vd := by
    have : vs.toArray.size - 1 = ds.length := by simp only [List.size_toArray]; (first | decide | lia | omega)
    rw [this]; simpa using e1
  have hs' := Heap.SameBut.update s.heap a (Obj.mapSeq fun xs => xs.eraseIdxIfInBounds (vs.toArray.size - 1))
  have hupd : ∃ n', (s.heap.update a (Obj.mapSeq fun xs => xs.eraseIdxIfInBounds (vs.toArray.size - 1))).get? a = some (W.listOf (vs.toArray.eraseIdxIfInBounds (vs.toArray.size - 1)) n') := by
    have hd : ∃ n', Obj.mapSeq (fun xs => xs.eraseIdxIfInBounds (vs.toArray.size - 1)) (W.listOf vs.toArray n) = W.listOf (vs.toArray.eraseIdxIfInBounds (vs.toArray.size - 1)) n' := by
      unfold Obj.mapSeq
      exact ⟨_, rfl⟩
    obtain ⟨n', hd'⟩ := hd
    exact ⟨n', by rw [Heap.get?_update_self _ ho (by rw [hd']; rfl), hd']⟩
  obtain ⟨n', ho'⟩ := hupd
  have hdrop : (vs.toArray.eraseIdxIfInBounds (vs.toArray.size - 1)).toList = vs.take ds.length := by
    have h1 : vs.toArray.size - 1 = ds.length := by simp only [List.size_toArray]; (first | decide | lia | omega)
    rw [h1]
    have h2 : ds.length < vs.toArray.size := by simp only [List.size_toArray]; (first | decide | lia | omega)
    rw [Array.eraseIdxIfInBounds, dif_pos h2]
    simp [List.eraseIdx_eq_take_drop_succ, hlen]
  have htake : DenAll (s.heap.update a (Obj.mapSeq fun xs => xs.eraseIdxIfInBounds (vs.toArray.size - 1))) (vs.take ds.length) ds [] := by
    have := take_den r hflat2 ds.length (s.heap.update a (Obj.mapSeq fun xs => xs.eraseIdxIfInBounds (vs.toArray.size - 1)))
    simpa using this
  refine call_meets PySem.F.slot_list_pop ⟨_, ho, rfl⟩ PySem.F.entry_list_pop (PySem.F.args_list_pop_1 _) (MeetsSeq.list_pop_last a vs.toArray n vd hlast (by rw [sizeLine_eq]; simp only [List.size_toArray]; (first | decide | lia | omega))) ⟨ho, ?_⟩
  have X1 := X.mut hv hdis ql (a := a) (by rw [eF]; exact .head _) (h' := s.heap.update a (Obj.mapSeq fun xs => xs.eraseIdxIfInBounds (vs.toArray.size - 1))) (tk := s.toks) (Nat.le_refl _) hs' (v := .ref a) (d' := .list ds) hV (by
    rw [eF]
    exact .list (vs := vs.take ds.length) (n := n') (by rw [ho', ← hdrop]) htake)
  exact wpAny_mono (bind_var (E := No) (s := { s with heap := s.heap.update a (Obj.mapSeq fun xs => xs.eraseIdxIfInBounds (vs.toArray.size - 1)), toks := s.toks }) (s₁ := { s with heap := s.heap.update a (Obj.mapSeq fun xs => xs.eraseIdxIfInBounds (vs.toArray.size - 1)), toks := s.toks }) O hc X1 (Kp.refl _) (Nat.le_refl _) (F := []) (hdd.imm_any hi) Fresh.nil) (fun _ s' Y => ⟨rfl, Y⟩) fun _ _ e => e
end
end Mine
end
section
namespace Mine

section
variable {prog : Program} {w : World} {A : Around} {s : Shared}

theorem iadd_range {R : Result → Shared → Prop} {r S : Addr} {a b : Int} {t u v : Tok} {n : Nat} (hh : A.handled = none) (hr : IsRange s.heap r a b 1 t u v) (hsmall : Builtin.Range.small a b 1 = true) (hn : Builtin.Range.rangeSize a b 1 = n) (hlen : n ≤ 2 ^ 24)
    (hS : s.heap.get? S = some (seqObj "list" #[] 0))
    (hR : ∀ h' tk acc' c', (∀ b o, b ≠ S → s.heap.get? b = some o → h'.get? b = some o) → h'.get? S = some { cls := .type "list", dict := none, data := .seq acc' c', slots := #[] } →
      ItemsOf (fun i v => ∃ t, v = .int (a + i * 1) t) acc' n → R (.ok (.ret (.ref S))) { s with heap := h', toks := tk }) :
    codeAny (model prog w) A (.builtin "list.__iadd__" ⟨[.ref S, .ref r], []⟩) R s := by
  refine codeAny_builtin PySem.F.entry_list_iadd ?_
  rw [Around.under_plainId PySem.F.plain_list_iadd _]
  exact wpAny_extend_range (R := R) hh hr hsmall hn hlen S (.ref S) 0 hS hR

theorem collect_range {r : Addr} {a b : Int} {t u v : Tok} {n : Nat} {Q : List Value → Shared → Prop} {E : Value → Shared → Prop} (hh : A.handled = none) (hr : IsRange s.heap r a b 1 t u v) (hsmall : Builtin.Range.small a b 1 = true) (hn : Builtin.Range.rangeSize a b 1 = n) (hlen : n ≤ 2 ^ 24)
    (h : ∀ h' tk vs, Has s.heap h' → vs.length = n → (∀ (j : Nat) x, vs[j]? = some x → ∃ t, x = Value.int (a + (j : Int)) t) → Q vs { s with heap := h', toks := tk }) :
    wpAny (model prog w) A (collect (.ref r)) Q E s := by
  unfold collect
  refine wpAny_bind (wpAny_runValue (codeAny_builtin entry_proto_collect' ?_))
  show wpAny _ _ (do again (.builtin "list.__iadd__" ⟨[← newList [], .ref r], []⟩)) _ _ s
  refine wpAny_bind (wpAny_newList (wpAny_pure ⟨Code.quiet_builtin _ (by decide +kernel), ?_⟩))
  refine iadd_range (s := { s with heap := s.heap.push (seqObj "list" #[] 0) }) hh (Heap.get?_push_of_some _ hr) hsmall hn hlen (Heap.get?_push_size _ rfl) fun h' tk acc c hk hS hacc => ?_
  show wpAny (model prog w) A (do
      let o ← load s.heap.objs.size
      match o.data with
      | .seq xs _ => pure xs.toList
      | _ => unsupported "internal:collect") Q E _
  refine wpAny_bind (wpAny_load hS (wpAny_pure ?_))
  refine h h' tk acc.toList (fun b o e => hk b o (Nat.ne_of_lt (Heap.lt_size e)) (Heap.get?_push_of_some _ e)) (by simpa using hacc.1) fun j x hj => ?_
  obtain ⟨t, e⟩ := hacc.2 j x (by simpa using hj)
  exact ⟨t, by rw [e, Int.mul_one]⟩

theorem sorted_tail {L q : Addr} {vs : List Value} {m : Str → Option Value} {KP : Addr → List Value → Heap → Prop} {κ0 : SortKind} {lt : Nat → Nat → Bool} {p : Array Nat}
    (hn : s.heap.Ns L m) (h2 : 2 ≤ vs.length) (h64 : vs.length < 64) (ht : 0 < s.toks)
    (hKP : ∀ kS ks h h', KP kS ks h → Kept2 L kS h h' → KP kS ks h') (hK0 : ∀ kS h, KP kS [] h)
    (step : ∀ kS ks v s', vs[ks.length]? = some v → 0 < s'.toks → s'.heap.Ns L m → (∃ o, s'.heap.get? kS = some o) → (∀ b o, b ≠ L → s.heap.get? b = some o → s'.heap.get? b = some o) → KP kS ks s'.heap → wpAny (model prog w) A.in1 (call (.ref q) [v]) (fun k s'' => Kp s' s'' ∧ KP kS (ks ++ [k]) s''.heap) No s')
    (kind : ∀ kS ks s', KP kS ks s'.heap → ks.length = vs.length → ∀ Q : SortKind → Shared → Prop, Q κ0 s' → wpAny (model prog w) A.in1 (keyKind' ks.toArray) Q (fun _ _ => False) s')
    (less : ∀ kS ks s', KP kS ks s'.heap → ks.length = vs.length → ∀ i j C, i < vs.length → j < vs.length → C (lt i j) s' → kas_ask prog w A.in1 κ0 ks i j C s')
    (he : evalT lt vs.length (kas_sort vs.length) = some p) {E : Value → Shared → Prop} {Q : Value → Shared → Prop}
    (h : ∀ D h' tk c, s.heap.get? D = none → h'.Ns L m → (∀ b o, b ≠ L → s.heap.get? b = some o → h'.get? b = some o) → h'.get? D = some (W.listOf (p.toList.map fun i => vs.getD i Value.none).toArray c) → 0 < tk → Q (.ref D) { s with heap := h', toks := tk }) :
    wpAny (model prog w) A (newList vs >>= fun l => holding [l] (call (.builtin "list.sort") [l] [(Str.ofString "key", .ref q)]) >>= fun _ => ret l) (fun fin s' => ∃ v, fin = .done (.ret v) ∧ Q v s') E s := by
  refine wpAny_bind (wpAny_newList ?_ (by rw [sizeLine_eq]; (first | decide | lia | omega)))
  have hoL : (s.heap.push (seqObj "list" vs.toArray 0)).get? s.heap.objs.size = some (seqObj "list" vs.toArray 0) := Heap.get?_push_size _ rfl
  show wpAny _ _ _ _ _ { s with heap := s.heap.push (seqObj "list" vs.toArray 0) }
  have hLlt : L < s.heap.objs.size := hn.lt
  refine wpAny_bind (wpAny_holding (wpAny_call_entry_kw slot_list_sort ⟨_, hoL, rfl⟩ entry_list_sort ?body (ksk_l1 _ _)))
  case body =>
    rw [ksk_t1]
    refine kat_keyed (s := { s with heap := s.heap.push (seqObj "list" vs.toArray 0) }) (b := false) (news := liveBut (s.heap.push (seqObj "list" vs.toArray 0)) L s.heap.objs.size) (fr_emp (hn.push _)) live_news hoL (Nat.ne_of_gt hLlt) (emp_get _) (fun p hp => (live_mem hp).2.2) h2 h64 fun kS e1 h' F' N' hlt hold => ?_
    have hkS := N' _ (.head _)
    have hD := N' _ (.tail _ (.head _))
    have hDk : s.heap.objs.size ≠ kS := Nat.ne_of_lt hlt
    have old : ∀ b o, b ≠ L → s.heap.get? b = some o → h'.get? b = some o := fun b o hb e => (N' (b, o) (.tail _ (.tail _ (mem_live hb (Nat.ne_of_lt (Heap.lt_size e)) (Heap.get?_push_of_some _ e))))).1
    have fD : s.heap.get? s.heap.objs.size = none := size_fresh _
    have fk : s.heap.get? kS = none := by
      cases z : s.heap.get? kS with
      | none => rfl
      | some o => exact absurd (Nat.lt_trans (Heap.lt_size z) hlt) (Nat.lt_irrefl _)
    refine sort_keys (KP := KP kS) (Base := fun g => ∀ b o, b ≠ L → s.heap.get? b = some o → g.get? b = some o) hkS.2.1 hD.2.1 hDk (hKP kS) (fun g g' hb hk b o hL e => hk b o hL (fun z => live_ne fk e z.symm) (hb b o hL e)) F'.ns hkS.1 hD.1 old (hK0 _ _) ht ⟨[], rfl, rfl⟩ (fun ks v s' hv ht' hn' hlive hb hP => step kS ks v s' hv ht' hn' hlive hb hP) fun ks e s' hlen hsh hn' hk' hD' hB hP htk => ?_
    have hlen' : ks.length = vs.length := by simpa using hlen
    refine kind kS ks s' hP hlen' _ ?_
    refine evalT_wp (n := vs.length) (lt := lt) (fun i j C hi hj hC => by
      have := less kS ks s' hP hlen' i j C hi hj hC
      simpa [katRev] using this) he ?_
    have eo : katRev false (p.toList.map fun i => (katRev false vs).getD i Value.none) = p.toList.map fun i => vs.getD i Value.none := by simp [katRev]
    rw [eo]
    refine KatFin.intro (fr_emp hn') (live_news1 hkS.2.1 hk') live_upd fun h₂ c F₂ N₂ => ?_
    have k2 := kept_of N₂
    have hD2 := k2 _ _ hD.2.1 hDk hD'
    refine KasFin.intro (fr_emp F₂.ns) (live_news1 hD.2.1 hD2) live_upd fun h₃ c3 F₃ N₃ => ?_
    have k3 := kept_of N₃
    obtain ⟨hx, tkx, rfl⟩ := hsh
    refine ⟨_, rfl, wpAny_pure ⟨_, rfl, ?_⟩⟩
    exact h _ h₃ tkx c3 fD F₃.ns (fun b o hL e => k3 b o hL (fun z => live_ne fD e z.symm) (k2 b o hL (fun z => live_ne fk e z.symm) (hB b o hL e))) (N₃ _ (.head _)).1 htk

theorem sorted_call {x : Value} {q : Addr} {Q : Value → Shared → Prop} {E : Value → Shared → Prop}
    (h : wpAny (model prog w) A.in1 (collect x) (fun vs s₂ => wpAny (model prog w) A.in1 (newList vs >>= fun l => holding [l] (call (.builtin "list.sort") [l] [(Str.ofString "key", .ref q)]) >>= fun _ => ret l) (fun fin s' => ∃ v, fin = .done (.ret v) ∧ Q v s') E s₂) E s) :
    wpAny (model prog w) A (call (.builtin "sorted") [x] [(Str.ofString "key", .ref q)]) Q E s := by
  refine call_function_entry_kw kind_sorted plain_sorted entry_sorted (ksk_s1 _ _) ?_
  unfold Builtin.«sorted»
  refine wpAny_bind (m := checkCount "sorted" 1 1 _) (wpAny_pure ?_)
  exact wpAny_bind h
end
end Mine
end
section
namespace Mine

noncomputable abbrev tupO (vs : List Value) : Obj := { cls := .type "tuple", data := .seq vs.toArray }

/-- the environment of the lambda's body -/
theorem lamEnv_ok {qual : Str} {scope : Scope} {L f : Addr} {cd : Value} {cl : List (Str × Addr)} (hk : scope.kind = .function) (hcell : ∀ x ∈ scope.names, x.2 ≠ .cell) (hfree : ∀ x, scope.names.lookup x = some .free → ∃ c, cl.lookup x = some c) :
    EOk (envX qual scope L f cd cl) where
  kind := hk
  globals := rfl
  builtins := rfl
  cells := fun x h => by
    rcases h with h | h
    · exact absurd rfl (hcell _ (lookup_mem h))
    · exact hfree x h

section
variable {prog : Program} {w : World} {A : Around} {s : Shared} {H0 : Heap} {K : Nat} {Φ : Funs}

theorem lam_call (Gl0 : Gl H0) (FO : FOk prog w H0 K Φ) (R : Rm A (K + 1)) (T : St H0 s) {f c' : Addr} {qual : Str} {params : Arguments} {e1 e2 : Expr} {k0 : Nat} {pt : Pos} {scope : Scope} {cl : List (Str × Addr)} {pm ctv : Value} {player : Str} {v : Value} {i d1 d2 : Int} {N : Nat} {ρ : Vs}
    (ho : s.heap.get? f = some (kla_obj "<lambda>" qual params (.Tuple [e1, e2] k0 pt) scope cl pm c' ctv)) (hcd : s.heap.CodeRec (.ref c') qual) (hlim : s.heap.NoLimit)
    (hbind : ∀ v, bindArgs (kla_fn "<lambda>" qual params (.Tuple [e1, e2] k0 pt) scope cl pm (.ref c') ctv) ⟨[v], []⟩ = pure [(player, v)])
    (hloc : scope.names.lookup player = some .local) (hk : scope.kind = .function) (hcell : ∀ x ∈ scope.names, x.2 ≠ .cell) (hco : scope.isCoroutine = false) (hgen : scope.isGenerator = false)
    (hfree : ∀ x, scope.names.lookup x = some .free → ∃ c, cl.lookup x = some c) (hp : plainName player = true)
    (hρ : ∀ x d, x ≠ player → ρ x = some d → plainName x = true ∧ scope.names.lookup x = some .free ∧ ∃ c v F, cl.lookup x = some c ∧ s.heap.IsCell c (some v) ∧ Den s.heap v d F) (hρp : ρ player = some (.int i)) (hv : ∃ t, v = .int i t)
    (q1 : ev Φ N (fun x => scope.names.lookup x) ρ e1 = some (.int d1)) (q2 : ev Φ N (fun x => scope.names.lookup x) ρ e2 = some (.int d2)) :
    wpAny (model prog w) A (call (.ref f) [v]) (fun k s'' => Kp s s'' ∧ ∃ a t u, k = .ref a ∧ s.heap.get? a = none ∧ s''.heap.get? a = some (tupO [.int d1 t, .int d2 u])) No s := by
  refine wpAny_call (kla_callFunE (by have := R.depth; show A.depth < 1000; (first | decide | lia | omega)) ho rfl hco hgen rfl hcd ?_)
  rw [hbind]
  refine wpAny_pure (wpAny_newFunctionEnv hcell (fun x hx => by rw [List.mem_singleton.mp hx]; exact hloc) (fun h₁ hns hsb => ⟨hlim.fresh _ hsb, ?_⟩) hk)
  show codeAny _ _ (.expr (.Tuple [e1, e2] k0 pt) (envX qual scope s.heap.objs.size f (.ref c') cl)) _ _
  have hk₁ : ∀ b o, s.heap.get? b = some o → h₁.get? b = some o := fun b o e => hsb.extBut b o (Nat.ne_of_lt (Heap.lt_size e)) (Heap.get?_push_of_some _ e)
  have hens : (envX qual scope s.heap.objs.size f (.ref c') cl).kindOf = fun x => scope.names.lookup x := rfl
  have O : EOk (envX qual scope s.heap.objs.size f (.ref c') cl) := lamEnv_ok hk hcell hfree
  have kk : Kp s { s with heap := h₁, toks := s.toks + [(player, v)].length } := ⟨h₁, _, rfl, hk₁⟩
  have V : VarsOk (envX qual scope s.heap.objs.size f (.ref c') cl) h₁ ρ := fun x d e => by
    by_cases hx : x = player
    · subst hx
      rw [hρp] at e; cases e
      obtain ⟨t, rfl⟩ := hv
      exact ⟨hp, _, [], .inl ⟨hloc, _, hns, by simp⟩, .int i t⟩
    · obtain ⟨a, b, c, v', F, e1, e2, e3⟩ := hρ x d hx e
      exact ⟨a, v', F, .inr ⟨.inr b, c, e1, e2.keeps hk₁⟩, kk.den e3⟩
  have S := ev_sound Gl0 FO N (prog := prog) (w := w)
  refine kla_codeExpr (wpNo ?_)
  refine wpAny_Tuple ?_
  have T1 : St H0 { s with heap := h₁, toks := s.toks + [(player, v)].length } := T.kp kk (Nat.le_add_right _ _)
  refine wpThen (args_sound (es := [e1, e2]) (ds := [.int d1, .int d2]) (env := envX qual scope s.heap.objs.size f (.ref c') cl) (ρ := ρ) S O R.deeper T1 V (by rw [hens, allSome, q1, allSome, q2]; rfl)) fun vs s₂ h₂ => ?_
  obtain ⟨k2, F, hd⟩ := h₂
  cases hd with
  | cons x r =>
    cases r with
    | cons y r =>
      cases r
      obtain ⟨t, rfl⟩ := x.int_inv
      obtain ⟨u, rfl⟩ := y.int_inv
      have k02 := kk.trans k2
      refine ⟨by rw [sizeLine_eq]; simp, ?_⟩
      refine ⟨k02.trans (Kp.push _ _), _, t, u, rfl, ?_, Heap.get?_push_size _ rfl⟩
      cases z : s.heap.get? s₂.heap.objs.size with
      | none => rfl
      | some o => exact absurd (Heap.lt_size (k02.get z)) (Nat.lt_irrefl _)

/-- keys: a tuple of two ints each, at an address that is neither the frame nor the keys' list -/
inductive KeyTups (L kS : Addr) (h : Heap) : List Value → List (Int × Int) → Prop
  | nil : KeyTups L kS h [] []
  | cons {a : Addr} {t u : Tok} {x y : Int} {vs : List Value} {r : List (Int × Int)} : a ≠ L → a ≠ kS → h.get? a = some (tupO [.int x t, .int y u]) → KeyTups L kS h vs r → KeyTups L kS h (.ref a :: vs) ((x, y) :: r)
theorem KeyTups.mono {L kS : Addr} {h h' : Heap} {vs : List Value} {r : List (Int × Int)} (x : KeyTups L kS h vs r) (k : ∀ b o, b ≠ L → b ≠ kS → h.get? b = some o → h'.get? b = some o) : KeyTups L kS h' vs r := by
  induction x with
  | nil => exact .nil
  | cons h1 h2 e _ ih => exact .cons h1 h2 (k _ _ h1 h2 e) ih
theorem KeyTups.append {L kS : Addr} {h : Heap} {vs ws : List Value} {r q : List (Int × Int)} (x : KeyTups L kS h vs r) (y : KeyTups L kS h ws q) : KeyTups L kS h (vs ++ ws) (r ++ q) := by
  induction x with
  | nil => exact y
  | cons h1 h2 e _ ih => exact .cons h1 h2 e ih
theorem KeyTups.length {L kS : Addr} {h : Heap} {vs : List Value} {r : List (Int × Int)} (x : KeyTups L kS h vs r) : vs.length = r.length := by
  induction x with
  | nil => rfl
  | cons _ _ _ _ ih => simp [ih]
theorem KeyTups.get {L kS : Addr} {h : Heap} {vs : List Value} {r : List (Int × Int)} (x : KeyTups L kS h vs r) : ∀ i, i < vs.length → ∃ a t u, vs.getD i Value.none = .ref a ∧ h.get? a = some (tupO [.int (r.getD i (0, 0)).1 t, .int (r.getD i (0, 0)).2 u]) := by
  induction x with
  | nil => intro i hi; simp at hi
  | cons h1 h2 e _ ih =>
    intro i hi
    cases i with
    | zero => exact ⟨_, _, _, rfl, e⟩
    | succ i =>
      obtain ⟨a, t, u, e1, e2⟩ := ih i (by simpa using hi)
      exact ⟨a, t, u, by simpa using e1, by simpa using e2⟩
theorem KeyTups.kat {L kS : Addr} {h : Heap} {vs : List Value} {r : List (Int × Int)} (x : KeyTups L kS h vs r) : ∃ fs, fs.length = vs.length ∧ KatTups h vs fs ∧ ∀ v ∈ fs, ∃ i t, v = Value.int i t := by
  induction x with
  | nil => exact ⟨[], rfl, .nil, fun v hv => nomatch hv⟩
  | @cons a t u x y vs r h1 h2 e _ ih =>
    obtain ⟨fs, e1, e2, e3⟩ := ih
    refine ⟨.int x t :: fs, by simp [e1], .cons e rfl rfl rfl e2, fun v hv => ?_⟩
    rcases List.mem_cons.mp hv with rfl | hv
    · exact ⟨_, _, rfl⟩
    · exact e3 v hv

noncomputable def ltK (a b : Int × Int) : Bool := decide (a.1 < b.1 ∨ (a.1 = b.1 ∧ a.2 < b.2))

theorem key_less {L kS : Addr} {ks : List Value} {r : List (Int × Int)} (x : KeyTups L kS s.heap ks r) {i j : Nat} {C : Bool → Shared → Prop} (hi : i < ks.length) (hj : j < ks.length) (hC : C (ltK (r.getD i (0, 0)) (r.getD j (0, 0))) s) : kas_ask prog w A (tuples' true) ks i j C s := by
  obtain ⟨a, t, u, e1, e2⟩ := x.get i hi
  obtain ⟨b, t', u', e3, e4⟩ := x.get j hj
  unfold kas_ask
  rw [e1, e3]
  refine kat_lt e2 rfl e4 rfl ?_
  unfold ltK at hC
  refine kat_cons (wpAny_eqBool_int ?_)
  by_cases h1 : (r.getD i (0, 0)).1 = (r.getD j (0, 0)).1
  · have hb : ((r.getD i (0, 0)).1 == (r.getD j (0, 0)).1) = true := by simpa using h1
    rw [hb]
    refine kat_yes (kat_cons (wpAny_eqBool_int ?_))
    have hC' : C (decide ((r.getD i (0, 0)).2 < (r.getD j (0, 0)).2)) s := by
      have : decide ((r.getD i (0, 0)).1 < (r.getD j (0, 0)).1 ∨ (r.getD i (0, 0)).1 = (r.getD j (0, 0)).1 ∧ (r.getD i (0, 0)).2 < (r.getD j (0, 0)).2) = decide ((r.getD i (0, 0)).2 < (r.getD j (0, 0)).2) := by
        apply decide_eq_decide.mpr
        (first | decide | lia | omega)
      rw [this] at hC; exact hC
    by_cases h2 : (r.getD i (0, 0)).2 = (r.getD j (0, 0)).2
    · have hb2 : ((r.getD i (0, 0)).2 == (r.getD j (0, 0)).2) = true := by simpa using h2
      rw [hb2]
      refine kat_yes (kat_nil ?_)
      have : decide ((r.getD i (0, 0)).2 < (r.getD j (0, 0)).2) = false := decide_eq_false (by (first | decide | lia | omega))
      rw [this] at hC'
      exact hC'
    · have hb2 : ((r.getD i (0, 0)).2 == (r.getD j (0, 0)).2) = false := by simpa using h2
      rw [hb2]
      refine kat_no (kat_one _ _ (PyProof.Rows.lt_int ?_))
      exact hC'
  · have hb : ((r.getD i (0, 0)).1 == (r.getD j (0, 0)).1) = false := by simpa using h1
    rw [hb]
    refine kat_no (oneLt_int ?_)
    have : decide ((r.getD i (0, 0)).1 < (r.getD j (0, 0)).1 ∨ (r.getD i (0, 0)).1 = (r.getD j (0, 0)).1 ∧ (r.getD i (0, 0)).2 < (r.getD j (0, 0)).2) = decide ((r.getD i (0, 0)).1 < (r.getD j (0, 0)).1) := by
      apply decide_eq_decide.mpr
      (first | decide | lia | omega)
    rw [this] at hC
    exact hC
end
end Mine
end
section
namespace Mine

theorem Rm.in1 {A : Around} {K : Nat} (R : Rm A (K + 1)) : Rm A.in1 K := ⟨R.handled, by have := R.depth; show A.depth + 4 * K ≤ 900; (first | decide | lia | omega), by have := R.units; show A.units + 1 + 40 * K ≤ 9000; (first | decide | lia | omega)⟩

/-- what the making of a lambda leans on in the start's heap -/
structure LamBase (H0 : Heap) (mg : Str → Option Value) (c P : Addr) : Prop where
  g : H0.Ns mainGlobals mg
  code : CodeHd H0 c P
  gone : H0.get? P = none
  nolimit : H0.NoLimit
  built : ∃ bm ob, mg "__builtins__" = some (.ref bm) ∧ bm ≠ builtinsNs ∧ bm ≠ mainGlobals ∧ H0.get? bm = some ob ∧ ob.cls = .type "module" ∧ ob.dict = some builtinsNs ∧ ob.data = .plain

section
variable {prog : Program} {w : World} {A : Around} {s0 s s₁ : Shared} {H0 : Heap} {B : Base} {env : Env} {σ : Sg} {K : Nat} {Φ : Funs}

theorem lam_eval {mg : Str → Option Value} {c P : Addr} (LB : LamBase H0 mg c P) (T : St H0 s) (O : EOk env) (hcode : env.code = .ref c) (hP : s.heap.get? P = some (tabObj #[]))
    {params : Arguments} {body : Expr} {scope : Scope} {lpos : Pos} {cl : List (Str × Addr)} (hdef : defaultsOf params env = ([], [])) (hcl : closureFor scope env = pure cl) :
    wpAny (model prog w) A (eval (.Lambda params body scope lpos) env) (fun fv s₂ => ∃ f c' ctv ps, fv = .ref f ∧ (∃ h tk, s₂ = { s with heap := h, toks := tk }) ∧ (∀ b o, b ≠ P → s.heap.get? b = some o → s₂.heap.get? b = some o) ∧ s₂.heap.get? P = some (tabObj ps) ∧
      s₂.heap.get? f = some (kla_obj "<lambda>" (env.qual ++ "<lambda>") params body scope cl ((mg "__name__").getD .none) c' ctv) ∧ s₂.heap.CodeRec (.ref c') (env.qual ++ "<lambda>")) No s := by
  refine kla_eval hdef ?_
  have hgP : mainGlobals ≠ P := fun q => by
    obtain ⟨o, es, ep, e, _⟩ := LB.g
    rw [q, LB.gone] at e; cases e
  have hb : s.heap.BuiltinsAt mg P := by
    obtain ⟨bm, ob, h1, h2, h3, h4, h5, h6, h7⟩ := LB.built
    exact ⟨bm, ob, h1, h2, h3, (fun q => by rw [q, LB.gone] at h4; cases h4), T.keep _ _ h4, h5, h6, h7⟩
  refine kla_makeFunction (mg := mg) (ps := #[]) hcl O.globals (LB.g.keeps T.keep) hcode (LB.code.keeps T.keep) hP (by first | exact trivial | trivial | decide | simp [TriplesOk]) rfl hgP hb fun c' ctv h' tk hx hge hlt hrec htb => ?_
  refine ⟨h'.objs.size, c', ctv, _, rfl, ⟨_, tk, rfl⟩, fun b o hb e => Heap.get?_push_of_some _ (hx b o hb e), Heap.get?_push_of_some _ htb, Heap.get?_push_size _ rfl, hrec.push _⟩

theorem range_obj (G : Gl H0) (FO : FOk prog w H0 K Φ) (O : EOk env) (R : Rm A K) (X : ExS s0 H0 B env s σ) {pf pa : Pos} {args : List Expr} {N : Nat} {n : Int}
    (hg : isGlob env.kindOf ("range" : Str) = true) (e : allSome (ev Φ N env.kindOf (ρof σ)) args = some [.int n]) :
    wpAny (model prog w) A (eval (.Call (.Name "range" pf) args [] pa) env) (fun xv s₁ => Kp s s₁ ∧ ∃ r t u v, xv = .ref r ∧ IsRange s₁.heap r 0 n 1 t u v) No s := by
  have S := ev_sound G FO N (prog := prog) (w := w)
  refine Call_ (glob_name G.range X.st O (isGlob_is hg) (by decide) ?_)
  have hne : args ≠ [] := by rintro rfl; cases e
  refine callB S (.inr ⟨_, rfl⟩) e hne (wpSeq (args_sound S O R X.st X.varsOk e) fun vs s₁ h₁ ht => ?_)
  obtain ⟨k, F, hd⟩ := h₁
  cases hd with
  | cons x r =>
    cases r
    obtain ⟨t, rfl⟩ := x.int_inv
    exact call_range_1 ⟨k.trans (Kp.push _ _), _, _, _, _, rfl, IsRange.new s₁.heap 0 n 1 s₁.toks t (s₁.toks + 1)⟩

theorem ExS.tab {P : Addr} {ps : Array Value} (X : ExS s0 H0 B env s σ) (hB : B P = some (tabObj #[])) (hgone : H0.get? P = none) {h' : Heap} {tk : Nat} (htk : s.toks ≤ tk) (hk : ∀ b o, b ≠ P → s.heap.get? b = some o → h'.get? b = some o) (hP : h'.get? P = some (tabObj ps)) :
    ExS s0 H0 (fun a => if a = P then some (tabObj ps) else B a) env { s with heap := h', toks := tk } σ := by
  have nsq : ∀ qs : Array Value, ¬ IsSeqObj (tabObj qs) := fun qs ⟨vs, n, q⟩ => by have := congrArg Obj.data q; cases this
  have hns : ¬ inSys env P := fun i => by have := sysB X.fr i; rw [hB] at this; cases this
  have X1 := X.drop [P] (fun a ha => by rw [List.mem_singleton.mp ha]; exact ⟨_, X.has P _ hB, nsq _, hgone, hns⟩) htk fun b o hb e => hk b o (by simpa using hb) e
  have X2 := X1.pin [P] fun a ha => by rw [List.mem_singleton.mp ha]; exact ⟨_, hP, nsq _, hns⟩
  refine X2.base (funext fun a => ?_)
  by_cases ha : a = P
  · subst ha; simp [hP]
  · simp [ha]
end
end Mine
end
section
namespace Mine

/-- the lambda's names -/
noncomputable def lamVs (scope : Scope) (σ : Sg) (player : Str) (i : Int) : Vs := fun y => if y = player then some (.int i) else if scope.names.lookup y = some .free then ρof σ y else none

section
variable {prog : Program} {w : World} {A : Around} {s0 s s₁ : Shared} {H0 : Heap} {B : Base} {env : Env} {σ : Sg} {K : Nat} {Φ : Funs}

theorem ints_at {h : Heap} {vs : List Value} {n : Nat} (hv : ∀ (j : Nat) x, vs[j]? = some x → ∃ t, x = Value.int (0 + (j : Int)) t) (hlen : vs.length = n) : ∀ p : List Nat, (∀ i ∈ p, i < n) → DenAll h (p.map fun i => vs.getD i Value.none) (p.map fun (i : Nat) => Dat.int (i : Int)) []
  | [], _ => .nil
  | i :: p, hp => by
    have hi : i < vs.length := by rw [hlen]; exact hp i (.head _)
    obtain ⟨t, e⟩ := hv i vs[i] (by simp [hi])
    have e' : vs.getD i Value.none = .int (i : Int) t := by
      rw [List.getD_eq_getElem?_getD, List.getElem?_eq_getElem hi]
      simpa using e
    simp only [List.map_cons]
    rw [e']
    exact DenAll.cons (F := []) (.int _ _) (ints_at hv hlen p fun j hj => hp j (.tail _ hj))

theorem due_ok {mg : Str → Option Value} {c P : Addr} (LB : LamBase H0 mg c P) (hsg : GIs H0 "sorted" (.builtin "sorted")) (Gl0 : Gl H0) (FO : FOk prog w H0 K Φ) (O : EOk env) (R : Rm A (K + 2)) (X : ExS s0 H0 B env s σ) (hcode : env.code = .ref c) (hBP : B P = some (tabObj #[]))
    {x player : Str} {px pf pr rpos pos spos kp lpos pt : Pos} {rargs : List Expr} {n : Nat} {N : Nat} {params : Arguments} {scope : Scope} {e1 e2 : Expr} {k0 : Nat} {d1 d2 : Nat → Int} {p : Array Nat}
    (hc : canBind env.kindOf x = true) (hg : isGlob env.kindOf ("sorted" : Str) = true) (hgr : isGlob env.kindOf ("range" : Str) = true) (qr : allSome (ev Φ N env.kindOf (ρof σ)) rargs = some [.int n]) (h2 : 2 ≤ n) (h64 : n < 64)
    (hdef : ∀ env, defaultsOf params env = ([], [])) (hbind : ∀ q cl pm c' ctv v, bindArgs (kla_fn "<lambda>" q params (.Tuple [e1, e2] k0 pt) scope cl pm (.ref c') ctv) ⟨[v], []⟩ = pure [(player, v)])
    (hloc : scope.names.lookup player = some .local) (hk : scope.kind = .function) (hcell : ∀ x ∈ scope.names, x.2 ≠ .cell) (hco : scope.isCoroutine = false) (hgen : scope.isGenerator = false) (hpl : plainName player = true)
    (hfree : ∀ y ∈ scope.names, y.2 = .free → env.kindOf y.1 = some .cell ∨ env.kindOf y.1 = some .free)
    (q1 : ∀ i, i < n → ev Φ N (fun x => scope.names.lookup x) (lamVs scope σ player i) e1 = some (.int (d1 i))) (q2 : ∀ i, i < n → ev Φ N (fun x => scope.names.lookup x) (lamVs scope σ player i) e2 = some (.int (d2 i)))
    (he : evalT (fun i j => ltK (((List.range n).map fun i => (d1 i, d2 i)).getD i (0, 0)) (((List.range n).map fun i => (d1 i, d2 i)).getD j (0, 0))) n (kas_sort n) = some p) (hp : ∀ i ∈ p.toList, i < n) :
    wpAny (model prog w) A (exec (.Assign [.Name x px] (.Call (.Name "sorted" pf) [.Call (.Name "range" pr) rargs [] rpos] [⟨some "key", .Lambda params (.Tuple [e1, e2] k0 pt) scope lpos, kp⟩] pos) spos) env)
      (fun fl s' => fl = .next ∧ ∃ ps, ExS s0 H0 (fun a => if a = P then some (tabObj ps) else B a) env s' (sv σ x (.list (p.toList.map fun (i : Nat) => .int (i : Int)), true))) No s := by
  refine wpAny_Assign_Name ?_ rfl
  show wpAny _ _ (do callWith pos (← eval (.Name "sorted" pf) env) [] (backTo pos (starEach [.Call (.Name "range" pr) rargs [] rpos] env)) (backToKw pos (keywordEach [⟨some "key", .Lambda params (.Tuple [e1, e2] k0 pt) scope lpos, kp⟩] env))) _ _ _
  refine wpAny_bind (glob_name hsg X.st O (isGlob_is hg) (by decide) ?_)
  have hst : starEach [Expr.Call (.Name "range" pr) rargs [] rpos] env = [(false, eval (Expr.Call (.Name "range" pr) rargs [] rpos) env)] := starEach_cons fun y p hy => nomatch hy
  refine callWith_kw ?_ (by rw [hst]; rfl) (by rw [hst]; rfl)
  refine args_cons (wpSeq (range_obj Gl0 FO O (R.le (by (first | decide | lia | omega))) X hgr qr) fun ve s₁ h₁ ht => ?_) (starEach_cons fun y p hy => nomatch hy)
  obtain ⟨k, r, t1, t2, t3, rfl, hr⟩ := h₁
  refine args_nil ?_
  have X1 := X.kp k ht
  obtain ⟨cl, hcl, hc1, hc2⟩ := closure_for (scope := scope) (env := env) fun y hy e => O.cells y.1 (hfree y hy e)
  show wpAny _ _ (evalAll [do let v ← eval (.Lambda params (.Tuple [e1, e2] k0 pt) scope lpos) env; standAt pos; pure v]) _ _ _
  refine wpAny_evalAll_cons (wpAny_bind (wpSeq (lam_eval LB X1.st O hcode (X1.has P _ hBP) (hdef env) hcl) fun fv s₂ h₂ ht2 => wpAny_bind (wpAny_standAt (wpAny_pure ?_))))
  refine wpAny_evalAll_nil ?_
  obtain ⟨f, c', ctv, ps, rfl, ⟨h2', tk2, rfl⟩, hkeep, hPt, hf, hrec⟩ := h₂
  dsimp only at hkeep hPt hf hrec ht2
  have X2 := X1.tab hBP LB.gone (tk := tk2) ht2 hkeep hPt
  have hrP : r ≠ P := fun z => by
    have e := X1.has P _ hBP
    have hr' := hr
    unfold IsRange at hr'
    rw [z, e] at hr'
    have := congrArg (fun o => o.map Obj.cls) hr'
    cases this
  have hr2 : IsRange h2' r 0 n 1 t1 t2 t3 := hkeep r _ hrP hr
  refine sorted_call (wpSeq (P := fun vs s3 => ∃ h3 tk3, s3 = { s₁ with heap := h3, toks := tk3 } ∧ Has h2' h3 ∧ vs.length = n ∧ ∀ (j : Nat) x, vs[j]? = some x → ∃ t, x = Value.int (0 + (j : Int)) t)
    (collect_range (A := A.in1) (n := n) R.handled hr2 (small_one (by (first | decide | lia | omega)) (by (first | decide | lia | omega)) (by (first | decide | lia | omega)) (by (first | decide | lia | omega))) (by rw [rangeSize_one]; split <;> (first | decide | lia | omega)) (by (first | decide | lia | omega)) fun h3 tk3 vs hk3 hlen hvs => ⟨h3, tk3, rfl, hk3, hlen, hvs⟩) fun vs s3 h3 ht3 => ?_)
  obtain ⟨h3', tk3, rfl, hk3, hlen, hvs⟩ := h3
  dsimp only at ht3
  have X3 := X2.kp (s' := { s₁ with heap := h3', toks := tk3 }) ⟨h3', tk3, rfl, hk3⟩ ht3
  obtain ⟨m, hm⟩ := X3.fr.ns
  obtain ⟨fp, hvar, _⟩ := X3.vars
  have hf3 := hk3 _ _ hf
  have hrec3 : h3'.CodeRec (.ref c') (env.qual ++ "<lambda>") := hrec.keeps hk3
  have hfL : f ≠ env.locals := fun z => by
    obtain ⟨o, es, ep, e, hd, _⟩ := hm
    have e' : h3'.get? env.locals = some o := e
    rw [← z, hf3] at e'
    cases e'; cases hd
  have hcL : ∀ b o, h3'.get? b = some o → (∃ vs, o.data = .fields vs) → b ≠ env.locals := fun b o e hd z => by
    obtain ⟨o', es, ep, e', hd', _⟩ := hm
    have e'' : h3'.get? env.locals = some o' := e'
    rw [← z, e] at e''
    cases e''
    obtain ⟨vs, hd⟩ := hd
    rw [hd] at hd'; cases hd'
  have hkl : ((List.range n).map fun i => (d1 i, d2 i)).length = n := by simp
  refine sorted_tail (s := { s₁ with heap := h3', toks := tk3 }) (L := env.locals) (q := f) (m := m) (KP := fun kS ks h => KeyTups env.locals kS h ks (((List.range n).map fun i => (d1 i, d2 i)).take ks.length)) (κ0 := tuples' true)
    (lt := fun i j => ltK (((List.range n).map fun i => (d1 i, d2 i)).getD i (0, 0)) (((List.range n).map fun i => (d1 i, d2 i)).getD j (0, 0))) (p := p) hm (by (first | decide | lia | omega)) (by (first | decide | lia | omega)) X3.st.tok (fun kS ks h h' x k => x.mono k) (fun kS h => .nil)
    (fun kS ks v s' hv ht' hn' hlv hb hP => ?_) (fun kS ks s' hP hl' Q hQ => ?_) (fun kS ks s' hP hl' i j C hi hj hC => ?_) (by rw [hlen]; exact he) fun D h' tk c fD hnD hkD hoD htk => ?_
  · -- the key of one item
    have hi : ks.length < n := by
      rcases Nat.lt_or_ge ks.length n with h | h
      · exact h
      · rw [List.getElem?_eq_none (by (first | decide | lia | omega))] at hv; cases hv
    obtain ⟨t, rfl⟩ := hvs _ _ hv
    have T' : St H0 s' := ⟨fun b o e => hb b o (fun z => by subst z; have := X3.hB _ _ e; rw [X3.fr.nsB] at this; cases this) (X3.st.keep b o e), ht'⟩
    have hlim : s'.heap.NoLimit := LB.nolimit.keeps T'.keep
    have hrec' : s'.heap.CodeRec (.ref c') (env.qual ++ "<lambda>") := hrec3.at fun o e => hb _ _ (by
      obtain ⟨c2, o2, vs2, t2, z, e2, hd2, _⟩ := hrec3
      cases z
      exact hcL _ _ e2 ⟨_, hd2⟩) e
    refine wpThen (lam_call (i := (ks.length : Int)) Gl0 FO (Rm.in2 (K := K + 1) R) T' (hb f _ hfL hf3) hrec' hlim (fun v => hbind _ _ _ _ _ v) hloc hk hcell hco hgen (fun y hy => ?_) hpl (ρ := lamVs scope σ player ks.length) (fun y d hy e => ?_) (if_pos rfl) ⟨t, by rw [Int.zero_add]⟩ (q1 _ hi) (q2 _ hi)) fun kv s'' h => ?_
    · have := hc2 y (lookup_mem hy)
      cases z : cl.lookup y with
      | none => rw [z] at this; cases this
      | some c => exact ⟨c, rfl⟩
    · unfold lamVs at e
      rw [if_neg hy] at e
      split at e
      · rename_i hfr
        unfold ρof at e
        cases z : gv σ y with
        | none => rw [z] at e; cases e
        | some q =>
          rw [z] at e
          obtain ⟨d', o'⟩ := q
          have e' : d' = d := by simpa using e
          subst e'
          have V := hvar y d' o' z
          obtain ⟨v', hV, hd⟩ := V.val
          have hmem := lookup_mem hfr
          have hiss := hc2 y hmem
          cases zc : cl.lookup y with
          | none => rw [zc] at hiss; cases hiss
          | some cc =>
            have hcc := hc1 y cc zc
            refine ⟨V.plain, hfr, cc, v', fp y, rfl, ?_, hd.mono fun a ha o e => hb a o (fun z => den_not_sys X3.fr hd ha (.inl z)) e⟩
            rcases hV with ⟨a, _⟩ | ⟨_, c2, e2, i2⟩
            · rcases hfree _ hmem rfl with q | q <;> (rw [show env.kindOf y = some .local from a] at q; cases q)
            · rw [hcc] at e2; cases e2
              obtain ⟨o2, g1, g2⟩ := i2
              exact ⟨o2, hb cc o2 (X3.fr.apart y cc hcc) g1, g2⟩
      · cases e
    · obtain ⟨kk, a, t', u', rfl, hgone, hta⟩ := h
      refine ⟨kk, ?_⟩
      have hmL : a ≠ env.locals := fun z => by
        obtain ⟨o, es, ep, e, _⟩ := hn'
        rw [← z, hgone] at e; cases e
      have hmk : a ≠ kS := fun z => by
        obtain ⟨o, e⟩ := hlv
        rw [← z, hgone] at e; cases e
      have : (((List.range n).map fun i => (d1 i, d2 i)).take (ks ++ [Value.ref a]).length) = (((List.range n).map fun i => (d1 i, d2 i)).take ks.length) ++ [(d1 ks.length, d2 ks.length)] := by
        rw [List.length_append, List.length_singleton, List.take_succ_eq_append_getElem (by rw [hkl]; exact hi)]
        simp
      rw [this]
      exact (hP.mono fun b o h1 h2 e => kk.get e).append (.cons hmL hmk hta .nil)
  · obtain ⟨fs, e1, e2, e3⟩ := hP.kat
    refine kat_kind (T := .type "int") e2 (by (first | decide | lia | omega)) (fun v hv => ?_) (by decide) ?_
    · obtain ⟨i, t, rfl⟩ := e3 v hv
      exact .now
    · have : (Value.type "int" != Value.type "tuple") = true := by decide
      rw [this]; exact hQ
  · have ht : (((List.range n).map fun i => (d1 i, d2 i)).take ks.length) = ((List.range n).map fun i => (d1 i, d2 i)) := by
      rw [List.take_of_length_le]; rw [hkl]; (first | decide | lia | omega)
    rw [ht] at hP
    exact key_less hP (by (first | decide | lia | omega)) (by (first | decide | lia | omega)) hC
  · have fD1 : Fresh { s₁ with heap := h3', toks := tk3 } [D] := ⟨fun a ha => by rw [List.mem_singleton.mp ha]; exact fD, List.nodup_cons.mpr ⟨by simp, List.nodup_nil⟩⟩
    have hden : Den h' (.ref D) (.list (p.toList.map fun (i : Nat) => .int (i : Int))) [D] := .list hoD (ints_at hvs hlen p.toList hp)
    exact wpAny_mono (bind_new (E := No) O hc X3 (fun b o hb e => hkD b o hb e) (fun m' n' => by
      have : m = m' := funext fun y => hm.agree n' y
      subst this; exact hnD) htk hden fD1) (fun _ s' Y => ⟨rfl, ps, Y⟩) fun _ _ e => e
end
end Mine
end
section
namespace Mine

/-! ## The compiled pattern's machine -/
noncomputable def qcode : Array Nat := #[14, 8, 1, 2, 4294967295, 1, 1, 34, 0, 16, 34, 28, 22, 0, 4294967295, 7, 11, 13, 7, 21, 16, 34, 16, 92, 0, 15, 8, 6, 16, 92, 2, 15, 2, 0, 1, 16, 34, 1]

noncomputable def qm (text : Array Nat) (lim start : Nat) (pc pos handed : Nat) (outermost : Bool) (loops : Array Sre.Loop) (inner : Option Nat) (frames : List Sre.Frame) (weight : Nat) (answer : Option Bool) (seen : Sre.Seen) : Sre.M :=
  { code := qcode, text, lim, start, lastStart := lim, pc, pos, handed, outermost, marks := #[], loops, inner, frames, weight, answer, seen }

noncomputable def k1 : Sre.Kept := { lastmark := -1, lastindex := -1, whole := true, marks := #[] }
noncomputable def fr0 (s : Nat) (first : Bool) : Sre.Frame := { wait := .nextStart, pc := 9, pos := s, outermost := first }
noncomputable def pm (first : Bool) (p : Nat) (count : Int) : Sre.Frame := { wait := .possMore, pc := 11, pos := p, outermost := first, count, kept := k1, loop := 0 }
noncomputable def nb (a p : Nat) : Sre.Frame := { wait := .nextBranch, pc := a, pos := p, outermost := false, kept := k1 }
noncomputable def lp : Array Sre.Loop := #[{ pc := 0, outer := none }]

noncomputable def stepN : Nat → Sre.M → Sre.M
  | 0, m => m
  | n + 1, m => stepN n m.step
theorem stepN_add (a b : Nat) (m : Sre.M) : stepN (a + b) m = stepN b (stepN a m) := by
  induction a generalizing m with
  | zero => simp [stepN]
  | succ a ih => rw [show a + 1 + b = (a + b) + 1 by (first | decide | lia | omega), stepN, ih, stepN]

section
variable {text : Array Nat} {lim start pos p p0 s handed weight a : Nat} {first : Bool} {seen : Sre.Seen} {loops : Array Sre.Loop} {inner : Option Nat} {frames fs : List Sre.Frame} {count : Int}

/-- one literal -/
noncomputable def litStep (m : Sre.M) (c : Nat) (seen' : Sre.Seen) (pc' p : Nat) (lim : Nat) : Sre.M := if p ≥ lim then { m with seen := seen' }.say false else
    match (Except.ok (m.text.getD p 0 == c, seen') : Except String (Bool × Sre.Seen)) with
    | .error why => { m with seen := seen' }.stick why
    | .ok (false, seen) => ({ m with seen }).say false
    | .ok (true, seen) => { m with seen, pc := pc', pos := p + 1 }
theorem litStep_yes {m : Sre.M} {c : Nat} {seen' : Sre.Seen} {pc' : Nat} (h : p < lim) (hc : m.text.getD p 0 = c) : litStep m c seen' pc' p lim = { m with seen := seen', pc := pc', pos := p + 1 } := by
  unfold litStep
  rw [if_neg (by (first | decide | lia | omega)), hc, beq_self_eq_true]
theorem litStep_no {m : Sre.M} {c : Nat} {seen' : Sre.Seen} {pc' : Nat} (h : p < lim → m.text.getD p 0 ≠ c) : litStep m c seen' pc' p lim = { m with seen := seen' }.say false := by
  unfold litStep
  by_cases hp : p ≥ lim
  · rw [if_pos hp]
  · rw [if_neg hp]
    have : (m.text.getD p 0 == c) = false := by simpa using h (by (first | decide | lia | omega))
    rw [this]

theorem st9_yes (h : p < lim) (hc : text.getD p 0 = 34) : ∃ seen', (qm text lim start 9 p handed first loops inner frames weight none seen).step = qm text lim start 11 (p + 1) handed first loops inner frames weight none seen' :=
  ⟨seen.add 16, by
    rw [show (qm text lim start 9 p handed first loops inner frames weight none seen).step = litStep (qm text lim start 9 p handed first loops inner frames weight none seen) 34 (seen.add 16) 11 p lim from rfl, litStep_yes h hc]; rfl⟩
theorem st9_no (h : p < lim → text.getD p 0 ≠ 34) : ∃ seen', (qm text lim start 9 p handed first loops inner frames weight none seen).step = qm text lim start 9 p handed first loops inner frames weight (some false) seen' :=
  ⟨seen.add 16, by
    rw [show (qm text lim start 9 p handed first loops inner frames weight none seen).step = litStep (qm text lim start 9 p handed first loops inner frames weight none seen) 34 (seen.add 16) 11 p lim from rfl, litStep_no h]; rfl⟩
theorem st35_yes (h : p < lim) (hc : text.getD p 0 = 34) : ∃ seen', (qm text lim start 35 p handed first loops inner frames weight none seen).step = qm text lim start 37 (p + 1) handed first loops inner frames weight none seen' :=
  ⟨seen.add 16, by
    rw [show (qm text lim start 35 p handed first loops inner frames weight none seen).step = litStep (qm text lim start 35 p handed first loops inner frames weight none seen) 34 (seen.add 16) 37 p lim from rfl, litStep_yes h hc]; rfl⟩
theorem st35_no (h : p < lim → text.getD p 0 ≠ 34) : ∃ seen', (qm text lim start 35 p handed first loops inner frames weight none seen).step = qm text lim start 35 p handed first loops inner frames weight (some false) seen' :=
  ⟨seen.add 16, by
    rw [show (qm text lim start 35 p handed first loops inner frames weight none seen).step = litStep (qm text lim start 35 p handed first loops inner frames weight none seen) 34 (seen.add 16) 37 p lim from rfl, litStep_no h]; rfl⟩
theorem st28_yes (h : p < lim) (hc : text.getD p 0 = 92) : ∃ seen', (qm text lim start 28 p handed first loops inner frames weight none seen).step = qm text lim start 30 (p + 1) handed first loops inner frames weight none seen' :=
  ⟨seen.add 16, by
    rw [show (qm text lim start 28 p handed first loops inner frames weight none seen).step = litStep (qm text lim start 28 p handed first loops inner frames weight none seen) 92 (seen.add 16) 30 p lim from rfl, litStep_yes h hc]; rfl⟩
theorem st28_no (h : p < lim → text.getD p 0 ≠ 92) : ∃ seen', (qm text lim start 28 p handed first loops inner frames weight none seen).step = qm text lim start 28 p handed first loops inner frames weight (some false) seen' :=
  ⟨seen.add 16, by
    rw [show (qm text lim start 28 p handed first loops inner frames weight none seen).step = litStep (qm text lim start 28 p handed first loops inner frames weight none seen) 92 (seen.add 16) 30 p lim from rfl, litStep_no h]; rfl⟩

theorem st30 : (qm text lim start 30 p handed first loops inner frames weight none seen).step = if p ≥ lim then qm text lim start 30 p handed first loops inner frames weight (some false) (seen.add 2) else
    match (Except.ok (text.getD p 0 != 10, seen.add 2) : Except String (Bool × Sre.Seen)) with
    | .error why => (qm text lim start 30 p handed first loops inner frames weight none (seen.add 2)).stick why
    | .ok (false, seen) => qm text lim start 30 p handed first loops inner frames weight (some false) seen
    | .ok (true, seen) => qm text lim start 31 (p + 1) handed first loops inner frames weight none seen := rfl
theorem st30_yes (h : p < lim) (hc : text.getD p 0 ≠ 10) : ∃ seen', (qm text lim start 30 p handed first loops inner frames weight none seen).step = qm text lim start 31 (p + 1) handed first loops inner frames weight none seen' := by
  refine ⟨seen.add 2, ?_⟩
  have : (text.getD p 0 != 10) = true := by simpa using hc
  rw [st30, if_neg (by (first | decide | lia | omega)), this]
theorem st30_no (h : p < lim → text.getD p 0 = 10) : ∃ seen', (qm text lim start 30 p handed first loops inner frames weight none seen).step = qm text lim start 30 p handed first loops inner frames weight (some false) seen' := by
  refine ⟨seen.add 2, ?_⟩
  rw [st30]
  by_cases hp : p ≥ lim
  · rw [if_pos hp]
  · have : (text.getD p 0 != 10) = false := by simpa using h (by (first | decide | lia | omega))
    rw [if_neg hp, this]

theorem st17 : ∃ s1 s2 s3 s4, (qm text lim start 17 p handed first loops inner frames weight none seen).step = if p ≥ lim then qm text lim start 17 p handed first loops inner frames weight (some false) s1 else
    match (if (text.getD p 0 == 34) = true then Except.ok (false, s2) else if (text.getD p 0 == 92) = true then Except.ok (false, s3) else Except.ok (true, s4) : Except String (Bool × Sre.Seen)) with
    | .error why => (qm text lim start 17 p handed first loops inner frames weight none s1).stick why
    | .ok (false, seen) => qm text lim start 17 p handed first loops inner frames weight (some false) seen
    | .ok (true, seen) => qm text lim start 25 (p + 1) handed first loops inner frames weight none seen := ⟨_, _, _, _, rfl⟩
theorem st17_yes (h : p < lim) (h1 : text.getD p 0 ≠ 34) (h2 : text.getD p 0 ≠ 92) : ∃ seen', (qm text lim start 17 p handed first loops inner frames weight none seen).step = qm text lim start 25 (p + 1) handed first loops inner frames weight none seen' := by
  obtain ⟨s1, s2, s3, s4, e⟩ := st17 (text := text) (lim := lim) (start := start) (p := p) (handed := handed) (first := first) (loops := loops) (inner := inner) (frames := frames) (weight := weight) (seen := seen)
  refine ⟨s4, ?_⟩
  rw [e, if_neg (by (first | decide | lia | omega)), if_neg (by simpa using h1), if_neg (by simpa using h2)]
theorem st17_no (h : p < lim → text.getD p 0 = 34 ∨ text.getD p 0 = 92) : ∃ seen', (qm text lim start 17 p handed first loops inner frames weight none seen).step = qm text lim start 17 p handed first loops inner frames weight (some false) seen' := by
  obtain ⟨s1, s2, s3, s4, e⟩ := st17 (text := text) (lim := lim) (start := start) (p := p) (handed := handed) (first := first) (loops := loops) (inner := inner) (frames := frames) (weight := weight) (seen := seen)
  by_cases hp : p ≥ lim
  · exact ⟨s1, by rw [e, if_pos hp]⟩
  · by_cases h1 : text.getD p 0 = 34
    · exact ⟨s2, by rw [e, if_neg hp, if_pos (by simpa using h1)]⟩
    · exact ⟨s3, by rw [e, if_neg hp, if_neg (by simpa using h1), if_pos (by simpa using (h (by (first | decide | lia | omega))).resolve_left h1)]⟩

theorem st11 : ∃ seen', (qm text lim start 11 p handed first #[] none fs 1 none seen).step = qm text lim start 15 p p false lp (some 0) (pm first p 0 :: fs) 2 none seen' := ⟨_, rfl⟩
theorem st15 : ∃ seen', (qm text lim start 15 p p false lp (some 0) fs 2 none seen).step = qm text lim start 17 p p false lp (some 0) (nb 16 p :: fs) 3 none seen' := ⟨_, rfl⟩
theorem st25 : ∃ seen', (qm text lim start 25 p handed first loops inner frames weight none seen).step = qm text lim start 34 p handed first loops inner frames weight none seen' := ⟨_, rfl⟩
theorem st31 : ∃ seen', (qm text lim start 31 p handed first loops inner frames weight none seen).step = qm text lim start 34 p handed first loops inner frames weight none seen' := ⟨_, rfl⟩
theorem st34 : ∃ seen', (qm text lim start 34 p handed false loops inner frames weight none seen).step = qm text lim start 34 p p false loops inner frames weight (some true) seen' := ⟨_, rfl⟩
theorem st37 : ∃ seen', (qm text lim start 37 p handed first loops inner frames weight none seen).step = qm text lim start 37 p p first loops inner frames weight (some true) seen' := by
  cases first <;> exact ⟨_, rfl⟩
theorem st_nb_yes {pc : Nat} : (qm text lim start pc p handed first loops inner (nb a p0 :: fs) 3 (some true) seen).step = qm text lim start a p0 handed false loops inner fs 2 (some true) seen := rfl
theorem st_nb16_no {pc : Nat} : (qm text lim start pc p handed first loops inner (nb 16 p0 :: fs) 3 (some false) seen).step = qm text lim start 28 p0 p0 false loops inner (nb 27 p0 :: fs) 3 none seen := rfl
theorem st_nb27_no {pc : Nat} : (qm text lim start pc p handed first loops inner (nb 27 p0 :: fs) 3 (some false) seen).step = qm text lim start 27 p0 handed false loops inner fs 2 (some false) seen := rfl
theorem st_pm_yes {pc : Nat} {o : Bool} (hc : 0 ≤ count) (hne : handed ≠ p0) : (qm text lim start pc p handed o lp (some 0) (pm first p0 count :: fs) 2 (some true) seen).step = qm text lim start 15 handed handed false lp (some 0) (pm first handed (count + 1) :: fs) 2 none seen := by
  have e : (qm text lim start pc p handed o lp (some 0) (pm first p0 count :: fs) 2 (some true) seen).step = if count + 1 < ((0 : Nat) : Int) then (qm text lim start 11 p0 handed first lp (some 0) fs 1 none seen).attempt { (qm text lim start 11 p0 handed first lp (some 0) fs 1 none seen).frame .possBelow with loop := 0, count := count + 1 } 15 handed false
      else if ((decide (count + 1 < ((4294967295 : Nat) : Int)) || true) && ((some p0 : Option Nat) != some handed)) = true then qm text lim start 15 handed handed false lp (some 0) (pm first handed (count + 1) :: fs) 2 none seen
      else qm text lim start 35 handed handed first #[] none fs 1 none seen := rfl
  rw [e, if_neg (by (first | decide | lia | omega)), if_pos]
  rw [Bool.or_true, Bool.true_and]
  simpa using fun h => hne h.symm
theorem st_pm_no {pc : Nat} {o : Bool} (hc : 0 ≤ count) : (qm text lim start pc p handed o lp (some 0) (pm first p0 count :: fs) 2 (some false) seen).step = qm text lim start 35 p0 p0 first #[] none fs 1 none seen := by
  have e : (qm text lim start pc p handed o lp (some 0) (pm first p0 count :: fs) 2 (some false) seen).step = if count < ((0 : Nat) : Int) then (qm text lim start 11 p0 p0 first lp (some 0) fs 1 none seen).attempt { (qm text lim start 11 p0 p0 first lp (some 0) fs 1 none seen).frame .possBelow with loop := 0, count := count } 15 p0 false
      else if ((decide (count < ((4294967295 : Nat) : Int)) || true) && ((some p0 : Option Nat) != some p0)) = true then qm text lim start 15 p0 p0 false lp (some 0) (pm first p0 count :: fs) 2 none seen
      else qm text lim start 35 p0 p0 first #[] none fs 1 none seen := rfl
  rw [e, if_neg (by (first | decide | lia | omega)), if_neg]
  simp
theorem st_fr0_yes {pc : Nat} {f0 o : Bool} : (qm text lim start pc p handed o loops inner [fr0 s f0] 1 (some true) seen).step = qm text lim start 9 s handed f0 loops inner [] 0 (some true) seen := rfl
theorem st_fr0_no {pc : Nat} {f0 o : Bool} (h : s < lim) : (qm text lim start pc p handed o #[] none [fr0 s f0] 1 (some false) seen).step = qm text lim (s + 1) 9 (s + 1) (s + 1) false #[] none [fr0 (s + 1) false] 1 none seen := by
  have e : (qm text lim start pc p handed o #[] none [fr0 s f0] 1 (some false) seen).step = if s < lim then qm text lim (s + 1) 9 (s + 1) (s + 1) false #[] none [fr0 (s + 1) false] 1 none seen else qm text lim start 9 s handed f0 #[] none [] 0 (some false) seen := rfl
  rw [e, if_pos h]
theorem st_fr0_end {pc : Nat} {f0 o : Bool} (h : ¬ s < lim) : (qm text lim start pc p handed o #[] none [fr0 s f0] 1 (some false) seen).step = qm text lim start 9 s handed f0 #[] none [] 0 (some false) seen := by
  have e : (qm text lim start pc p handed o #[] none [fr0 s f0] 1 (some false) seen).step = if s < lim then qm text lim (s + 1) 9 (s + 1) (s + 1) false #[] none [fr0 (s + 1) false] 1 none seen else qm text lim start 9 s handed f0 #[] none [] 0 (some false) seen := rfl
  rw [e, if_neg h]
theorem st_end {pc : Nat} {b : Bool} : (qm text lim start pc p handed first loops inner [] 0 (some b) seen).step = { qm text lim start pc p handed first loops inner [] 0 (some b) seen with outcome := some (if b then .matched else .failed) } := rfl
end
end Mine
end
section
namespace Mine

/-- how far the possessive loop goes -/
noncomputable def qLen : List Nat → Nat
  | [] => 0
  | 34 :: _ => 0
  | 92 :: 10 :: _ => 0
  | 92 :: _ :: r => 2 + qLen r
  | [92] => 0
  | _ :: r => 1 + qLen r
noncomputable def findQ : Nat → List Nat → Option (Nat × Nat)
  | _, [] => none
  | s, c :: r => if c = 34 ∧ r[qLen r]? = some 34 then some (s, s + 1 + qLen r + 1) else findQ (s + 1) r

noncomputable def RN (n : Nat) (m : Sre.M) (m' : Sre.M) : Prop := ∃ k, k ≤ n ∧ stepN k m = m'
theorem RN.refl (m : Sre.M) : RN 0 m m := ⟨0, Nat.le_refl _, rfl⟩
theorem RN.step {m m' m'' : Sre.M} {n : Nat} (e : m.step = m') (h : RN n m' m'') : RN (n + 1) m m'' := by
  obtain ⟨k, hk, e2⟩ := h
  exact ⟨k + 1, by (first | decide | lia | omega), by rw [stepN, e, e2]⟩
theorem RN.trans {m m' m'' : Sre.M} {a b : Nat} (h1 : RN a m m') (h2 : RN b m' m'') : RN (a + b) m m'' := by
  obtain ⟨k, hk, e⟩ := h1
  obtain ⟨j, hj, e2⟩ := h2
  exact ⟨k + j, by (first | decide | lia | omega), by rw [stepN_add, e, e2]⟩
theorem RN.le {m m' : Sre.M} {a b : Nat} (h : RN a m m') (hab : a ≤ b) : RN b m m' := let ⟨k, hk, e⟩ := h; ⟨k, by (first | decide | lia | omega), e⟩

section
variable {text : Array Nat} {lim start p s : Nat} {first : Bool} {fs : List Sre.Frame} {count : Int}

theorem drop_cons {c : Nat} {r : List Nat} (h : text.toList.drop p = c :: r) : p < text.size ∧ text.getD p 0 = c ∧ text.toList.drop (p + 1) = r := by
  have h1 : p < text.toList.length := by
    rcases Nat.lt_or_ge p text.toList.length with q | q
    · exact q
    · rw [List.drop_eq_nil_of_le q] at h; cases h
  rw [List.drop_eq_getElem_cons h1] at h
  cases h
  have h2 : p < text.size := by simpa using h1
  exact ⟨h2, by simp [Array.getD, h2], rfl⟩
theorem drop_nil (h : text.toList.drop p = []) : ¬ p < text.size := by
  have := List.drop_eq_nil_iff.mp h
  simp at this
  (first | decide | lia | omega)

theorem loop_end (seen : Sre.Seen) (hc : 0 ≤ count) (h17 : p < text.size → text.getD p 0 = 34 ∨ text.getD p 0 = 92)
    (h28 : (p < text.size → text.getD p 0 ≠ 92) ∨ (p < text.size ∧ text.getD p 0 = 92 ∧ (p + 1 < text.size → text.getD (p + 1) 0 = 10))) :
    ∃ seen', RN 8 (qm text text.size start 15 p p false lp (some 0) (pm first p count :: fs) 2 none seen) (qm text text.size start 35 p p first #[] none fs 1 none seen') := by
  obtain ⟨s1, e1⟩ := st15 (text := text) (lim := text.size) (start := start) (p := p) (fs := pm first p count :: fs) (seen := seen)
  obtain ⟨s2, e2⟩ := st17_no (text := text) (lim := text.size) (start := start) (p := p) (handed := p) (first := false) (loops := lp) (inner := some 0) (frames := nb 16 p :: pm first p count :: fs) (weight := 3) (seen := s1) h17
  rcases h28 with h28 | ⟨hl, hc92, h30⟩
  · obtain ⟨s3, e3⟩ := st28_no (text := text) (lim := text.size) (start := start) (p := p) (handed := p) (first := false) (loops := lp) (inner := some 0) (frames := nb 27 p :: pm first p count :: fs) (weight := 3) (seen := s2) h28
    exact ⟨s3, RN.le (.step e1 (.step e2 (.step st_nb16_no (.step e3 (.step st_nb27_no (.step (st_pm_no hc) (.refl _))))))) (by (first | decide | lia | omega))⟩
  · obtain ⟨s3, e3⟩ := st28_yes (text := text) (lim := text.size) (start := start) (p := p) (handed := p) (first := false) (loops := lp) (inner := some 0) (frames := nb 27 p :: pm first p count :: fs) (weight := 3) (seen := s2) hl hc92
    obtain ⟨s4, e4⟩ := st30_no (text := text) (lim := text.size) (start := start) (p := p + 1) (handed := p) (first := false) (loops := lp) (inner := some 0) (frames := nb 27 p :: pm first p count :: fs) (weight := 3) (seen := s3) h30
    exact ⟨s4, RN.le (.step e1 (.step e2 (.step st_nb16_no (.step e3 (.step e4 (.step st_nb27_no (.step (st_pm_no hc) (.refl _)))))))) (by (first | decide | lia | omega))⟩

theorem inner_loop : ∀ (n : Nat) (l : List Nat) (p : Nat) (count : Int) (seen : Sre.Seen), l.length ≤ n → text.toList.drop p = l → 0 ≤ count →
    ∃ seen', RN (12 * l.length + 12) (qm text text.size start 15 p p false lp (some 0) (pm first p count :: fs) 2 none seen) (qm text text.size start 35 (p + qLen l) (p + qLen l) first #[] none fs 1 none seen') := by
  intro n
  induction n with
  | zero =>
    intro l p count seen hn h hc
    have : l = [] := List.eq_nil_of_length_eq_zero (by (first | decide | lia | omega))
    subst this
    have hp := drop_nil h
    obtain ⟨s', r⟩ := loop_end (start := start) (first := first) (fs := fs) (text := text) seen hc (fun q => absurd q hp) (.inl fun q => absurd q hp)
    exact ⟨s', r.le (by simp)⟩
  | succ n ih =>
    intro l p count seen hn h hc
    have out : qLen l = 0 → (p < text.size → text.getD p 0 = 34 ∨ text.getD p 0 = 92) → ((p < text.size → text.getD p 0 ≠ 92) ∨ (p < text.size ∧ text.getD p 0 = 92 ∧ (p + 1 < text.size → text.getD (p + 1) 0 = 10))) →
        ∃ seen', RN (12 * l.length + 12) (qm text text.size start 15 p p false lp (some 0) (pm first p count :: fs) 2 none seen) (qm text text.size start 35 (p + qLen l) (p + qLen l) first #[] none fs 1 none seen') := fun h0 a b => by
      obtain ⟨s', r⟩ := loop_end (start := start) (first := first) (fs := fs) (text := text) seen hc a b
      rw [h0]
      exact ⟨s', r.le (by (first | decide | lia | omega))⟩
    match l, hn, h, out with
    | [], hn, h, out =>
      have hp := drop_nil h
      exact out rfl (fun q => absurd q hp) (.inl fun q => absurd q hp)
    | c :: r, hn, h, out =>
      obtain ⟨hl, hg, hd⟩ := drop_cons h
      by_cases h34 : c = 34
      · subst h34
        exact out (by cases r <;> rfl) (fun _ => .inl hg) (.inl fun _ => by rw [hg]; decide)
      · by_cases h92 : c = 92
        · subst h92
          match r, hn, hd, out with
          | [], hn, hd, out =>
            have hp := drop_nil hd
            exact out rfl (fun _ => .inr hg) (.inr ⟨hl, hg, fun q => absurd q hp⟩)
          | c2 :: r2, hn, hd, out =>
            obtain ⟨hl2, hg2, hd2⟩ := drop_cons hd
            by_cases h10 : c2 = 10
            · subst h10
              exact out rfl (fun _ => .inr hg) (.inr ⟨hl, hg, fun _ => hg2⟩)
            · have hq : qLen (92 :: c2 :: r2) = 2 + qLen r2 := by
                rw [qLen]
                exact fun h => h10 h
              obtain ⟨s1, e1⟩ := st15 (text := text) (lim := text.size) (start := start) (p := p) (fs := pm first p count :: fs) (seen := seen)
              obtain ⟨s2, e2⟩ := st17_no (text := text) (lim := text.size) (start := start) (p := p) (handed := p) (first := false) (loops := lp) (inner := some 0) (frames := nb 16 p :: pm first p count :: fs) (weight := 3) (seen := s1) fun _ => .inr hg
              obtain ⟨s3, e3⟩ := st28_yes (text := text) (lim := text.size) (start := start) (p := p) (handed := p) (first := false) (loops := lp) (inner := some 0) (frames := nb 27 p :: pm first p count :: fs) (weight := 3) (seen := s2) hl hg
              obtain ⟨s4, e4⟩ := st30_yes (text := text) (lim := text.size) (start := start) (p := p + 1) (handed := p) (first := false) (loops := lp) (inner := some 0) (frames := nb 27 p :: pm first p count :: fs) (weight := 3) (seen := s3) hl2 (by rw [hg2]; exact h10)
              obtain ⟨s5, e5⟩ := st31 (text := text) (lim := text.size) (start := start) (p := p + 1 + 1) (handed := p) (first := false) (loops := lp) (inner := some 0) (frames := nb 27 p :: pm first p count :: fs) (weight := 3) (seen := s4)
              obtain ⟨s6, e6⟩ := st34 (text := text) (lim := text.size) (start := start) (p := p + 1 + 1) (handed := p) (loops := lp) (inner := some 0) (frames := nb 27 p :: pm first p count :: fs) (weight := 3) (seen := s5)
              obtain ⟨s7, r7⟩ := ih r2 (p + 1 + 1) (count + 1) s6 (by simp at hn; (first | decide | lia | omega)) hd2 (by (first | decide | lia | omega))
              have q := RN.step e1 (.step e2 (.step st_nb16_no (.step e3 (.step e4 (.step e5 (.step e6 (.step st_nb_yes (.step (st_pm_yes hc (by (first | decide | lia | omega))) r7))))))))
              refine ⟨s7, ?_⟩
              rw [hq, show p + (2 + qLen r2) = p + 1 + 1 + qLen r2 by (first | decide | lia | omega)]
              exact q.le (by simp only [List.length_cons]; (first | decide | lia | omega))
        · have hq : qLen (c :: r) = 1 + qLen r := by
            rw [qLen]
            · exact fun h => h34 h
            · exact fun _ h => absurd h h92
            · exact fun _ _ h => absurd h h92
            · exact fun h => absurd h h92
          obtain ⟨s1, e1⟩ := st15 (text := text) (lim := text.size) (start := start) (p := p) (fs := pm first p count :: fs) (seen := seen)
          obtain ⟨s2, e2⟩ := st17_yes (text := text) (lim := text.size) (start := start) (p := p) (handed := p) (first := false) (loops := lp) (inner := some 0) (frames := nb 16 p :: pm first p count :: fs) (weight := 3) (seen := s1) hl (by rw [hg]; exact h34) (by rw [hg]; exact h92)
          obtain ⟨s3, e3⟩ := st25 (text := text) (lim := text.size) (start := start) (p := p + 1) (handed := p) (first := false) (loops := lp) (inner := some 0) (frames := nb 16 p :: pm first p count :: fs) (weight := 3) (seen := s2)
          obtain ⟨s4, e4⟩ := st34 (text := text) (lim := text.size) (start := start) (p := p + 1) (handed := p) (loops := lp) (inner := some 0) (frames := nb 16 p :: pm first p count :: fs) (weight := 3) (seen := s3)
          obtain ⟨s7, r7⟩ := ih r (p + 1) (count + 1) s4 (by simp at hn; (first | decide | lia | omega)) hd (by (first | decide | lia | omega))
          have q := RN.step e1 (.step e2 (.step e3 (.step e4 (.step st_nb_yes (.step (st_pm_yes hc (by (first | decide | lia | omega))) r7)))))
          refine ⟨s7, ?_⟩
          rw [hq, show p + (1 + qLen r) = p + 1 + qLen r by (first | decide | lia | omega)]
          exact q.le (by simp only [List.length_cons]; (first | decide | lia | omega))
end
end Mine
end
section
namespace Mine

noncomputable def Ended (m : Sre.M) (r : Option (Nat × Nat)) : Prop := match r with
  | some (b, e) => m.outcome = some .matched ∧ m.start = b ∧ m.handed = e
  | none => m.outcome = some .failed

section
variable {text : Array Nat} {lim start p s : Nat} {first : Bool} {fs : List Sre.Frame} {count : Int}

theorem get_drop {l : List Nat} {k : Nat} (h : text.toList.drop p = l) (hk : l[k]? = some 34) : p + k < text.size ∧ text.getD (p + k) 0 = 34 := by
  subst h
  rw [List.getElem?_drop] at hk
  have h1 : p + k < text.toList.length := by
    rcases Nat.lt_or_ge (p + k) text.toList.length with q | q
    · exact q
    · rw [List.getElem?_eq_none q] at hk; cases hk
  have h2 : p + k < text.size := by simpa using h1
  rw [List.getElem?_eq_getElem h1] at hk
  refine ⟨h2, ?_⟩
  have : text.toList[p + k] = 34 := by simpa using hk
  simp [Array.getD, h2]
  simpa using this
theorem get_drop_no {l : List Nat} {k : Nat} (h : text.toList.drop p = l) (hk : l[k]? ≠ some 34) : p + k < text.size → text.getD (p + k) 0 ≠ 34 := fun h2 e => by
  subst h
  apply hk
  rw [List.getElem?_drop]
  have h1 : p + k < text.toList.length := by simpa using h2
  rw [List.getElem?_eq_getElem h1]
  have : text.toList[p + k] = text.getD (p + k) 0 := by simp [Array.getD, h2]
  rw [this, e]

theorem search : ∀ (l : List Nat) (s : Nat) (f0 : Bool) (seen : Sre.Seen), text.toList.drop s = l →
    ∃ m', RN ((12 * l.length + 40) * (l.length + 1)) (qm text text.size s 9 s s f0 #[] none [fr0 s f0] 1 none seen) m' ∧ Ended m' (findQ s l)
  | [], s, f0, seen, h => by
    have hp := drop_nil h
    obtain ⟨s1, e1⟩ := st9_no (text := text) (lim := text.size) (start := s) (p := s) (handed := s) (first := f0) (loops := #[]) (inner := none) (frames := [fr0 s f0]) (weight := 1) (seen := seen) fun q => absurd q hp
    exact ⟨_, RN.le (.step e1 (.step (st_fr0_end hp) (.step st_end (.refl _)))) (by simp), rfl⟩
  | c :: r, s, f0, seen, h => by
    obtain ⟨hl, hg, hd⟩ := drop_cons h
    have next : ∀ (k : Nat) (seen' : Sre.Seen) (pc p handed : Nat) (o : Bool), k ≤ 12 * r.length + 30 → RN k (qm text text.size s 9 s s f0 #[] none [fr0 s f0] 1 none seen) (qm text text.size s pc p handed o #[] none [fr0 s f0] 1 (some false) seen') → findQ s (c :: r) = findQ (s + 1) r →
        ∃ m', RN ((12 * (c :: r).length + 40) * ((c :: r).length + 1)) (qm text text.size s 9 s s f0 #[] none [fr0 s f0] 1 none seen) m' ∧ Ended m' (findQ s (c :: r)) := fun k seen' pc p handed o hk hr hf => by
      obtain ⟨m', r2, e2⟩ := search r (s + 1) false seen' hd
      refine ⟨m', (hr.trans (.step (st_fr0_no hl) r2)).le ?_, by rw [hf]; exact e2⟩
      have h1 : (12 * (c :: r).length + 40) * ((c :: r).length + 1) = (12 * r.length + 40) * (r.length + 1) + 12 * (r.length + 1) + (12 * r.length + 52) := by
        simp only [List.length_cons]
        generalize r.length = x
        rw [show 12 * (x + 1) + 40 = (12 * x + 40) + 12 by (first | decide | lia | omega), show x + 1 + 1 = (x + 1) + 1 by (first | decide | lia | omega), Nat.mul_add, Nat.add_mul]
        (first | decide | lia | omega)
      rw [h1]
      (first | decide | lia | omega)
    by_cases h34 : c = 34
    · subst h34
      obtain ⟨s1, e1⟩ := st9_yes (text := text) (lim := text.size) (start := s) (p := s) (handed := s) (first := f0) (loops := #[]) (inner := none) (frames := [fr0 s f0]) (weight := 1) (seen := seen) hl hg
      obtain ⟨s2, e2⟩ := st11 (text := text) (lim := text.size) (start := s) (p := s + 1) (handed := s) (first := f0) (fs := [fr0 s f0]) (seen := s1)
      obtain ⟨s3, r3⟩ := inner_loop (text := text) (start := s) (first := f0) (fs := [fr0 s f0]) r.length r (s + 1) 0 s2 (Nat.le_refl _) hd (Int.le_refl _)
      have r0 := RN.step e1 (.step e2 r3)
      by_cases hm : r[qLen r]? = some 34
      · obtain ⟨hl2, hg2⟩ := get_drop hd hm
        obtain ⟨s4, e4⟩ := st35_yes (text := text) (lim := text.size) (start := s) (p := s + 1 + qLen r) (handed := s + 1 + qLen r) (first := f0) (loops := #[]) (inner := none) (frames := [fr0 s f0]) (weight := 1) (seen := s3) hl2 hg2
        obtain ⟨s5, e5⟩ := st37 (text := text) (lim := text.size) (start := s) (p := s + 1 + qLen r + 1) (handed := s + 1 + qLen r) (first := f0) (loops := #[]) (inner := none) (frames := [fr0 s f0]) (weight := 1) (seen := s4)
        refine ⟨_, (r0.trans (.step e4 (.step e5 (.step st_fr0_yes (.step st_end (.refl _)))))).le ?_, ?_⟩
        · have : (12 * (34 :: r).length + 40) * 1 ≤ (12 * (34 :: r).length + 40) * ((34 :: r).length + 1) := Nat.mul_le_mul_left _ (by simp)
          simp only [List.length_cons] at this ⊢
          (first | decide | lia | omega)
        · have hf : findQ s (34 :: r) = some (s, s + 1 + qLen r + 1) := by
            rw [findQ]
            exact if_pos ⟨rfl, hm⟩
          rw [hf]
          exact ⟨rfl, rfl, rfl⟩
      · obtain ⟨s4, e4⟩ := st35_no (text := text) (lim := text.size) (start := s) (p := s + 1 + qLen r) (handed := s + 1 + qLen r) (first := f0) (loops := #[]) (inner := none) (frames := [fr0 s f0]) (weight := 1) (seen := s3) (get_drop_no hd hm)
        refine next _ _ _ _ _ _ ?_ (r0.trans (.step e4 (.refl _))) ?_
        · (first | decide | lia | omega)
        · rw [findQ, if_neg fun h => hm h.2]
    · obtain ⟨s1, e1⟩ := st9_no (text := text) (lim := text.size) (start := s) (p := s) (handed := s) (first := f0) (loops := #[]) (inner := none) (frames := [fr0 s f0]) (weight := 1) (seen := seen) fun _ => by rw [hg]; exact h34
      refine next _ _ _ _ _ _ ?_ (.step e1 (.refl _)) ?_
      · (first | decide | lia | omega)
      · rw [findQ, if_neg fun h => h34 h.1]

theorem findQ_short : ∀ {l : List Nat} {s : Nat}, l.length < 2 → findQ s l = none
  | [], _, _ => rfl
  | [c], s, _ => by
    rw [findQ, if_neg fun h => by simp at h]
    rfl
  | _ :: _ :: _, _, h => by simp only [List.length_cons] at h; (first | decide | lia | omega)

theorem for_search {pos : Nat} (hp : pos ≤ text.size) : ∃ m', RN ((12 * text.size + 40) * (text.size + 1)) (Sre.forSearch qcode text 0 pos text.size false) m' ∧ Ended m' (findQ pos (text.toList.drop pos)) := by
  have e : Sre.forSearch qcode text 0 pos text.size false = if (decide (pos > text.size) || decide (text.size - pos < 2)) = true then qm text 0 pos 9 pos pos true #[] none [] 0 (some false) { ({} : Sre.Seen).add 14 with } |> fun m => { m with lim := text.size, lastStart := 0 }
      else qm text text.size pos 9 pos pos true #[] none [fr0 pos true] 1 none (({} : Sre.Seen).add 14) := rfl
  rw [e]
  have hlen : (text.toList.drop pos).length = text.size - pos := by simp
  by_cases hs : text.size - pos < 2
  · rw [if_pos (by simp [hs])]
    refine ⟨_, RN.le (.step rfl (.refl _)) ?_, ?_⟩
    · have : 40 * 1 ≤ (12 * text.size + 40) * (text.size + 1) := Nat.mul_le_mul (by (first | decide | lia | omega)) (by (first | decide | lia | omega))
      (first | decide | lia | omega)
    · rw [findQ_short (by rw [hlen]; exact hs)]
      rfl
  · rw [if_neg (by simp; (first | decide | lia | omega))]
    obtain ⟨m', r, h⟩ := search (text := text) (text.toList.drop pos) pos true (({} : Sre.Seen).add 14) rfl
    refine ⟨m', r.le (Nat.mul_le_mul ?_ ?_), h⟩ <;> rw [hlen] <;> (first | decide | lia | omega)

theorem step_done {m : Sre.M} (h : m.outcome.isSome = true) : m.step = m := by
  unfold Sre.M.step
  rw [if_pos h]
theorem stepN_done {m : Sre.M} (h : m.outcome.isSome = true) : ∀ n, stepN n m = m
  | 0 => rfl
  | n + 1 => by rw [stepN, step_done h, stepN_done h n]
theorem runFor_eq : ∀ (n : Nat) (m : Sre.M), m.runFor n = stepN n m
  | 0, m => rfl
  | n + 1, m => by
    unfold Sre.M.runFor
    by_cases h : m.outcome.isSome = true
    · rw [if_pos h, stepN_done h]
    · rw [if_neg h, runFor_eq n, stepN]
end

section
variable {M : Model} {A : Around} {E : Value → Shared → Prop} {s : Shared}
theorem reDrive_wp {m' : Sre.M} (hm : m'.outcome.isSome = true) {Q : Sre.M → Shared → Prop} (hQ : Q m' s) : ∀ (turns : Nat) (m : Sre.M) (k : Nat), k ≤ 4 * turns → 0 < turns → stepN k m = m' → wpAny M A (Builtin.Re.reDrive turns m) Q E s
  | 0, _, _, _, h, _ => absurd h (Nat.lt_irrefl _)
  | t + 1, m, k, hk, _, e => by
    unfold Builtin.Re.reDrive
    show wpAny M A (if (m.runFor 4).outcome.isSome = true then pure (m.runFor 4) else do rule "sre.turn"; Builtin.Re.reDrive t (m.runFor 4)) Q E s
    rw [runFor_eq]
    by_cases h : (stepN 4 m).outcome.isSome = true
    · rw [if_pos h]
      have : stepN 4 m = m' := by
        rcases Nat.lt_or_ge k 4 with h4 | h4
        · have e2 : stepN 4 m = stepN (4 - k) (stepN k m) := by rw [← stepN_add]; congr 1; (first | decide | lia | omega)
          rw [e2, e, stepN_done hm]
        · have e2 : stepN k m = stepN (k - 4) (stepN 4 m) := by rw [← stepN_add]; congr 1; (first | decide | lia | omega)
          rw [stepN_done h] at e2
          rw [← e2, e]
      rw [this]
      exact wpAny_pure hQ
    · rw [if_neg h]
      have h4 : 4 < k := by
        rcases Nat.lt_or_ge 4 k with h4 | h4
        · exact h4
        · exfalso
          apply h
          have e2 : stepN 4 m = stepN (4 - k) (stepN k m) := by rw [← stepN_add]; congr 1; (first | decide | lia | omega)
          rw [e2, e, stepN_done hm]; exact hm
      have e2 : stepN (k - 4) (stepN 4 m) = m' := by rw [← stepN_add, ← e]; congr 1; (first | decide | lia | omega)
      refine wpAny_bind (wpAny_rule ?_)
      exact reDrive_wp hm hQ t _ (k - 4) (by (first | decide | lia | omega)) (by (first | decide | lia | omega)) e2

theorem rules_wp {m : Sre.M} {Q : PUnit → Shared → Prop} (hQ : Q ⟨⟩ s) : ∀ l : List Nat, wpAny M A (forIn l PUnit.unit fun i r => if m.seen.has i then do rule (Sre.names.getD i ""); pure (ForInStep.yield r) else pure (ForInStep.yield r)) Q E s
  | [] => by rw [List.forIn_nil]; exact wpAny_pure hQ
  | i :: l => by
    rw [List.forIn_cons]
    by_cases h : m.seen.has i = true
    · rw [if_pos h]
      exact wpAny_bind (wpAny_bind (wpAny_rule (wpAny_pure (rules_wp hQ l))))
    · rw [if_neg h]
      exact wpAny_bind (wpAny_pure (rules_wp hQ l))

theorem reRun_wp {text : Array Nat} {pos : Nat} (hp : pos ≤ text.size) (hsz : text.size ≤ 100000) {Q : Option Sre.M → Shared → Prop}
    (hQ : ∀ m', Ended m' (findQ pos (text.toList.drop pos)) → Q (match findQ pos (text.toList.drop pos) with | some _ => some m' | none => none) s) :
    wpAny M A (Builtin.Re.reRunToEnd (Sre.forSearch qcode text 0 pos text.size false)) Q E s := by
  obtain ⟨m', ⟨k, hk, e⟩, hend⟩ := for_search (text := text) hp
  have hm : m'.outcome.isSome = true := by
    unfold Ended at hend
    split at hend
    · rw [hend.1]; rfl
    · rw [hend]; rfl
  unfold Builtin.Re.reRunToEnd
  have hbound : (12 * text.size + 40) * (text.size + 1) ≤ (12 * 100000 + 40) * (100000 + 1) := Nat.mul_le_mul (by (first | decide | lia | omega)) (by (first | decide | lia | omega))
  refine wpAny_bind (reDrive_wp hm (Q := fun m1 s1 => m1 = m' ∧ s1 = s) ⟨rfl, rfl⟩ _ _ k (by (first | decide | lia | omega)) (by decide) e |> fun h => wpAny_mono h ?_ fun _ _ e => e)
  rintro m1 s1 ⟨rfl, rfl⟩
  refine wpAny_bind (rules_wp (m := m1) ?_ _)
  have := hQ m1 hend
  unfold Ended at hend
  split at hend
  · rename_i r b e2 heq
    rw [hend.1]
    rw [heq] at this
    exact wpAny_pure this
  · rename_i r heq
    rw [hend]
    rw [heq] at this
    exact wpAny_pure this
end
end Mine
end
section
namespace Mine

/-! ## What the substitution leaves -/
noncomputable def sqIn : List Nat → Option (List Nat)
  | [] => none
  | 34 :: r => some r
  | 92 :: 10 :: _ => none
  | 92 :: _ :: r => sqIn r
  | [92] => none
  | _ :: r => sqIn r
noncomputable def sqF : Nat → List Nat → List Nat
  | 0, l => l
  | _ + 1, [] => []
  | n + 1, c :: r => if c = 34 then (match sqIn r with
      | some r' => sqF n r'
      | none => c :: sqF n r) else c :: sqF n r
noncomputable def sq (l : List Nat) : List Nat := sqF l.length l

theorem sqIn_eq : ∀ (n : Nat) (r : List Nat), r.length ≤ n → sqIn r = if r[qLen r]? = some 34 then some (r.drop (qLen r + 1)) else none := by
  intro n
  induction n with
  | zero =>
    intro r h
    have : r = [] := List.eq_nil_of_length_eq_zero (by (first | decide | lia | omega))
    subst this; rfl
  | succ n ih =>
    intro r h
    match r, h with
    | [], h => rfl
    | c :: r, h =>
      by_cases h34 : c = 34
      · subst h34
        have e1 : sqIn (34 :: r) = some r := by cases r <;> rfl
        have e2 : qLen (34 :: r) = 0 := by cases r <;> rfl
        rw [e1, e2]; rfl
      · by_cases h92 : c = 92
        · subst h92
          match r, h with
          | [], h => rfl
          | c2 :: r2, h =>
            by_cases h10 : c2 = 10
            · subst h10; rfl
            · have e1 : sqIn (92 :: c2 :: r2) = sqIn r2 := by
                rw [sqIn]
                exact fun h => h10 h
              have e2 : qLen (92 :: c2 :: r2) = 2 + qLen r2 := by
                rw [qLen]
                exact fun h => h10 h
              rw [e1, e2, ih r2 (by simp at h; (first | decide | lia | omega))]
              have e3 : (92 :: c2 :: r2)[2 + qLen r2]? = r2[qLen r2]? := by
                rw [show 2 + qLen r2 = qLen r2 + 1 + 1 by (first | decide | lia | omega)]; rfl
              have e4 : (92 :: c2 :: r2).drop (2 + qLen r2 + 1) = r2.drop (qLen r2 + 1) := by
                rw [show 2 + qLen r2 + 1 = (qLen r2 + 1) + 1 + 1 by (first | decide | lia | omega)]; rfl
              rw [e3, e4]
        · have e1 : sqIn (c :: r) = sqIn r := by
            rw [sqIn]
            · exact fun h => h34 h
            · exact fun _ h => absurd h h92
            · exact fun _ _ h => absurd h h92
            · exact fun h => absurd h h92
          have e2 : qLen (c :: r) = 1 + qLen r := by
            rw [qLen]
            · exact fun h => h34 h
            · exact fun _ h => absurd h h92
            · exact fun _ _ h => absurd h h92
            · exact fun h => absurd h h92
          rw [e1, e2, ih r (by simp at h; (first | decide | lia | omega))]
          have e3 : (c :: r)[1 + qLen r]? = r[qLen r]? := by rw [show 1 + qLen r = qLen r + 1 by (first | decide | lia | omega)]; rfl
          have e4 : (c :: r).drop (1 + qLen r + 1) = r.drop (qLen r + 1) := by rw [show 1 + qLen r + 1 = (qLen r + 1) + 1 by (first | decide | lia | omega)]; rfl
          rw [e3, e4]
theorem sqIn_len {r r' : List Nat} (h : sqIn r = some r') : r'.length < r.length := by
  rw [sqIn_eq r.length r (Nat.le_refl _)] at h
  split at h
  · rename_i h2
    cases h
    have : qLen r < r.length := by
      rcases Nat.lt_or_ge (qLen r) r.length with q | q
      · exact q
      · rw [List.getElem?_eq_none q] at h2; cases h2
    rw [List.length_drop]; (first | decide | lia | omega)
  · cases h
theorem sqF_any : ∀ (n m : Nat) (l : List Nat), l.length ≤ n → l.length ≤ m → sqF n l = sqF m l := by
  intro n
  induction n with
  | zero =>
    intro m l h _
    have : l = [] := List.eq_nil_of_length_eq_zero (by (first | decide | lia | omega))
    subst this
    cases m <;> rfl
  | succ n ih =>
    intro m l h1 h2
    match l, h1, h2 with
    | [], h1, h2 => cases m <;> rfl
    | c :: r, h1, h2 =>
      cases m with
      | zero => simp at h2
      | succ m =>
        simp only [List.length_cons] at h1 h2
        rw [sqF, sqF, ih m r (by (first | decide | lia | omega)) (by (first | decide | lia | omega))]
        cases q : sqIn r with
        | none => rfl
        | some r' =>
          have := sqIn_len q
          dsimp only
          rw [ih m r' (by (first | decide | lia | omega)) (by (first | decide | lia | omega))]
theorem sq_nil : sq [] = [] := rfl
theorem sq_other {c : Nat} {r : List Nat} (h : c ≠ 34) : sq (c :: r) = c :: sq r := by
  unfold sq
  rw [List.length_cons, sqF, if_neg h]
theorem sq_quote {r r' : List Nat} (h : sqIn r = some r') : sq (34 :: r) = sq r' := by
  unfold sq
  rw [List.length_cons, sqF, if_pos rfl, h]
  have := sqIn_len h
  exact sqF_any _ _ _ (by (first | decide | lia | omega)) (Nat.le_refl _)
theorem sq_open {r : List Nat} (h : sqIn r = none) : sq (34 :: r) = 34 :: sq r := by
  unfold sq
  rw [List.length_cons, sqF, if_pos rfl, h]

theorem findQ_ge : ∀ {l : List Nat} {s b e : Nat}, findQ s l = some (b, e) → s ≤ b ∧ b + 1 < e ∧ e ≤ s + l.length
  | [], _, _, _, h => by cases h
  | c :: r, s, b, e, h => by
    rw [findQ] at h
    split at h
    · rename_i hc
      cases h
      have : qLen r < r.length := by
        rcases Nat.lt_or_ge (qLen r) r.length with q | q
        · exact q
        · have := hc.2; rw [List.getElem?_eq_none q] at this; cases this
      simp only [List.length_cons]
      (first | decide | lia | omega)
    · have := findQ_ge h
      simp only [List.length_cons]
      (first | decide | lia | omega)
theorem sq_found : ∀ {l : List Nat} {s b e : Nat}, findQ s l = some (b, e) → sq l = l.take (b - s) ++ sq (l.drop (e - s))
  | [], _, _, _, h => by cases h
  | c :: r, s, b, e, h => by
    have hge := findQ_ge h
    rw [findQ] at h
    split at h
    · rename_i hc
      cases h
      obtain ⟨rfl, hq⟩ := hc
      have e1 : sqIn r = some (r.drop (qLen r + 1)) := by rw [sqIn_eq r.length r (Nat.le_refl _), if_pos hq]
      rw [sq_quote e1]
      rw [show s - s = 0 by (first | decide | lia | omega), show s + 1 + qLen r + 1 - s = (qLen r + 1) + 1 by (first | decide | lia | omega)]
      rfl
    · rename_i hc
      have ih := sq_found h
      have hge2 := findQ_ge h
      have e1 : b - s = (b - (s + 1)) + 1 := by (first | decide | lia | omega)
      have e2 : e - s = (e - (s + 1)) + 1 := by (first | decide | lia | omega)
      rw [e1, e2, List.take_succ_cons, List.drop_succ_cons, List.cons_append, ← ih]
      by_cases h34 : c = 34
      · subst h34
        exact sq_open (by rw [sqIn_eq r.length r (Nat.le_refl _), if_neg fun h => hc ⟨rfl, h⟩])
      · exact sq_other h34
theorem sq_none : ∀ {l : List Nat} {s : Nat}, findQ s l = none → sq l = l
  | [], _, _ => rfl
  | c :: r, s, h => by
    rw [findQ] at h
    split at h
    · cases h
    · rename_i hc
      have ih := sq_none h
      by_cases h34 : c = 34
      · subst h34
        rw [sq_open (by rw [sqIn_eq r.length r (Nat.le_refl _), if_neg fun h => hc ⟨rfl, h⟩]), ih]
      · rw [sq_other h34, ih]
theorem sq_len : ∀ (n : Nat) (l : List Nat), l.length ≤ n → (sq l).length ≤ l.length := by
  intro n
  induction n with
  | zero =>
    intro l h
    have : l = [] := List.eq_nil_of_length_eq_zero (by (first | decide | lia | omega))
    subst this; exact Nat.le_refl _
  | succ n ih =>
    intro l h
    match l, h with
    | [], _ => exact Nat.le_refl _
    | c :: r, h =>
      simp only [List.length_cons] at h
      by_cases h34 : c = 34
      · subst h34
        cases q : sqIn r with
        | none =>
          rw [sq_open q]
          have := ih r (by (first | decide | lia | omega))
          simp only [List.length_cons]; (first | decide | lia | omega)
        | some r' =>
          have h2 := sqIn_len q
          rw [sq_quote q]
          have := ih r' (by (first | decide | lia | omega))
          simp only [List.length_cons]; (first | decide | lia | omega)
      · rw [sq_other h34]
        have := ih r (by (first | decide | lia | omega))
        simp only [List.length_cons]; (first | decide | lia | omega)
end Mine
end
section
namespace Mine
open Builtin

/-- the pattern object -/
structure PatAt (h : Heap) (q : Addr) : Prop where
  obj : ∃ ob fs, h.get? q = some ob ∧ ob.cls = .type "re.Pattern" ∧ ob.dict = none ∧ ob.data = .fields fs ∧ fs.getD 2 .none = rawInt 0 ∧ fs.getD 6 .none = rawInt 1 ∧
    ∃ tq ot xs n, fs.getD 5 .none = .ref tq ∧ h.get? tq = some ot ∧ ot.data = .seq xs n ∧ (xs.map Re.reRawOf).map (·.toNat) = qcode
theorem PatAt.keeps {h h' : Heap} {q : Addr} (x : PatAt h q) (k : Has h h') : PatAt h' q := by
  obtain ⟨ob, fs, e1, e2, e3, e4, e5, e6, tq, ot, xs, n, e7, e8, e9, e10⟩ := x.obj
  exact ⟨ob, fs, k _ _ e1, e2, e3, e4, e5, e6, tq, ot, xs, n, e7, k _ _ e8, e9, e10⟩

noncomputable def tgt (q : Addr) (b : Array UInt8) (u : Tok) : Re.ReTarget := { pattern := .ref q, string := .bytes b u, code := qcode, text := b.map (·.toNat), kind := 1, groups := 0, pos := 0, lim := b.size }

section
variable {prog : Program} {w : World} {A : Around} {s : Shared} {E : Value → Shared → Prop}

theorem textOf_eq {b : Array UInt8} {u : Tok} : Re.reTextOf (.bytes b u) = pure (b.map (·.toNat), 1) := by
  unfold Re.reTextOf
  rw [KBy.quiet_eq]
  rfl

theorem wholeTarget {q : Addr} {b : Array UInt8} {u : Tok} (P : PatAt s.heap q) {Q : Re.ReTarget → Shared → Prop} (h : Q (tgt q b u) s) : wpAny (model prog w) A (Re.reWholeTarget (.ref q) (.bytes b u)) Q E s := by
  obtain ⟨ob, fs, e1, e2, e3, e4, e5, e6, tq, ot, xs, n, e7, e8, e9, e10⟩ := P.obj
  unfold Re.reWholeTarget
  refine wpAny_bind ?_
  show wpAny _ _ (do match (← load q).data with | .fields vs => pure vs | _ => unsupported "internal:no-fields") _ _ _
  refine wpAny_bind (wpAny_load e1 ?_)
  rw [e4]
  refine wpAny_pure ?_
  rw [textOf_eq]
  refine wpAny_bind (wpAny_pure ?_)
  dsimp only
  rw [e6]
  refine wpIfF (by decide) ?_
  refine wpIfF (by decide) ?_
  refine wpAny_bind ?_
  unfold Re.reNoCollectionInside
  refine wpIfT (by decide) ?_
  refine wpAny_bind (wpAny_isInstance (typeIs_bytes _ _ _) (b := true) (by rw [isSubtype_type]; kernel_rfl) ?_)
  refine wpIfF (by decide) ?_
  refine wpAny_pure ?_
  rw [e7]
  refine wpAny_bind ?_
  unfold Re.reRawItems
  refine wpAny_bind (wpAny_seqItems e8 e9 (wpAny_pure ?_))
  refine wpAny_pure ?_
  show Q { pattern := .ref q, string := .bytes b u, code := (xs.map Re.reRawOf).map (·.toNat), text := b.map (·.toNat), kind := 1, groups := Re.reRawNat (fs.getD 2 .none), pos := 0, lim := (b.map (·.toNat)).size } s
  rw [e10, e5]
  have : (b.map (·.toNat)).size = b.size := by simp
  rw [this]
  exact h

noncomputable def outL (bl : List (Array UInt8 × Tok)) : List UInt8 := (bl.map fun p => p.1.toList).flatten
theorem outL_fold (bl : List (Array UInt8 × Tok)) : ((bl.map (·.1)).foldl (· ++ ·) #[]).toList = outL bl := by
  rw [foldl_append, List.map_map]
  rfl
theorem bvals_push (bl : List (Array UInt8 × Tok)) (x : Array UInt8) (t : Tok) : (bvals bl).toArray.push (.bytes x t) = (bvals (bl ++ [(x, t)])).toArray := by
  unfold bvals; simp

theorem push_piece {L : Addr} {bl : List (Array UInt8 × Tok)} {k : Nat} {x : Array UInt8} {t : Tok} {Q : Unit → Shared → Prop} (ho : s.heap.get? L = some (W.listOf (bvals bl).toArray k)) (hz : bl.length ≤ 100000)
    (h : ∀ h' k', (∀ c o, c ≠ L → s.heap.get? c = some o → h'.get? c = some o) → h'.get? L = some (W.listOf (bvals (bl ++ [(x, t)])).toArray k') → Q () { s with heap := h' }) :
    wpAny (model prog w) A (updateSeq L fun ys => ys.push (.bytes x t)) Q E s := by
  have hd : ∃ n', Obj.mapSeq (fun ys => ys.push (Value.bytes x t)) (W.listOf (bvals bl).toArray k) = W.listOf (bvals (bl ++ [(x, t)])).toArray n' := by
    unfold Obj.mapSeq
    rw [← bvals_push]
    exact ⟨_, rfl⟩
  obtain ⟨n', hd'⟩ := hd
  have hlen : (bvals bl).toArray.size = bl.length := by unfold bvals; simp
  refine wpAny_updateSeq ho rfl (h _ n' (fun c o hc e => ?_) ?_) (by rw [hlen, sizeLine_eq]; (first | decide | lia | omega)) (by rw [Array.size_push, hlen, sizeLine_eq]; (first | decide | lia | omega))
  · rw [Heap.get?_update_ne _ _ _ _ hc]; exact e
  · rw [Heap.get?_update_self _ ho (by rw [hd']; rfl), hd']

theorem slice_wp {T : Array Nat} {x y : Nat} {Q : Value → Shared → Prop} (hz : T.size ≤ 100000) (h : Q (.bytes ((T.extract x y).map (·.toUInt8)) s.toks) { s with toks := s.toks + 1 }) : wpAny (model prog w) A (Re.reSlice T 1 x y) Q E s := by
  unfold Re.reSlice
  refine wpIfF (by decide) ?_
  refine wpAny_mkBytes h ?_
  rw [Array.size_map, Array.size_extract, sizeLine_eq]
  (first | decide | lia | omega)

set_option maxHeartbeats 1000000 in
theorem sub_loop {s0 : Shared} {q L : Addr} {b : Array UInt8} {t u : Tok} {res : List UInt8} {R : Result → Shared → Prop} (hz : b.size ≤ 1000) (hP : PatAt s0.heap q) (hL : s0.heap.get? L = none)
    (hR : ∀ v s', Kp s0 s' → (∃ t', v = .bytes res.toArray t') → R (.ok (.ret v)) s') : ∀ (fuel done n : Nat) (bl : List (Array UInt8 × Tok)) (k : Nat) (h : Heap) (tk : Nat), b.size - done < fuel → done ≤ b.size → Has s0.heap h →
      h.get? L = some (W.listOf (bvals bl).toArray k) → ((bl.map (·.1)).map (·.size)).sum ≤ done → bl.length ≤ 2 * done → outL bl ++ (sq ((b.map (·.toNat)).toList.drop done)).map (·.toUInt8) = res →
      codeAny (model prog w) A (.builtin "re.Pattern.sub.loop" ⟨[.ref q, .bytes b u, .bytes #[] t, rawInt 0, rawInt 0, rawInt n, rawInt done, rawInt done, .bool false, .ref L, .bool false], []⟩) R { s0 with heap := h, toks := tk } := by
  intro fuel
  induction fuel with
  | zero => intro done n bl k h tk hf; exact absurd hf (Nat.not_lt_zero _)
  | succ fuel ih =>
    intro done n bl k h tk hf hd hk hl hsum hlen hres
    refine codeAny_builtin FR.entry_loop ?_
    rw [Around.under_plainId (by decide +kernel)]
    unfold «re.Pattern.sub.loop»
    dsimp only [rawInt]
    have hT : (b.map (·.toNat)).size = b.size := by simp
    refine wpAny_bind (wholeTarget (PatAt.keeps hP hk) ?_)
    refine wpIfT (by decide) ?_
    refine wpAny_bind ?_
    unfold Re.reLiteralCannotBeTurned
    refine wpAny_bind (wpAny_pure ?_)
    refine wpIfT rfl ?_
    refine wpAny_bind (wpAny_isInstance (typeIs_bytes _ _ _) (b := true) (by rw [isSubtype_type]; kernel_rfl) ?_)
    refine wpIfF (by decide) ?_
    refine wpAny_pure ?_
    refine wpAny_bind ?_
    refine wpIfF (by simp) ?_
    unfold Re.reNextFound
    show wpAny _ _ (Re.reRunToEnd (Sre.forSearch qcode (b.map (·.toNat)) 0 done b.size false)) _ _ _
    rw [show b.size = (b.map (·.toNat)).size from hT.symm]
    refine reRun_wp (by rw [hT]; exact hd) (by rw [hT]; (first | decide | lia | omega)) fun m hm => ?_
    generalize hfq : findQ done ((b.map (·.toNat)).toList.drop done) = fq at hm
    have hdn : ((done : Int)).toNat = done := by (first | decide | lia | omega)
    have hTl : (b.map (·.toNat)).toList.length = b.size := by simp
    cases fq with
    | some se =>
      obtain ⟨st, e⟩ := se
      obtain ⟨_, hst, hhd⟩ := hm
      have hge := findQ_ge hfq
      have hdl : ((b.map (·.toNat)).toList.drop done).length = b.size - done := by rw [List.length_drop, hTl]
      rw [hdl] at hge
      have hsq := sq_found hfq
      rw [hsq] at hres
      have hdd : ((b.map (·.toNat)).toList.drop done).drop (e - done) = (b.map (·.toNat)).toList.drop e := by rw [List.drop_drop]; congr 1; (first | decide | lia | omega)
      rw [hdd] at hres
      have next : ∀ (bl1 : List (Array UInt8 × Tok)) (k1 : Nat) (h1 : Heap) (tk1 : Nat), Has s0.heap h1 → h1.get? L = some (W.listOf (bvals bl1).toArray k1) → ((bl1.map (·.1)).map (·.size)).sum ≤ st → bl1.length ≤ 2 * done + 1 →
          outL bl1 ++ (sq ((b.map (·.toNat)).toList.drop e)).map (·.toUInt8) = res →
          wpAny (model prog w) A.in1 (do
            let item ← pure (Value.bytes #[] t)
            if (item != Value.none) = true then do
              updateSeq L fun x => x.push item
              again (Code.builtin "re.Pattern.sub.loop" { pos := [Value.ref q, Value.bytes b u, Value.bytes #[] t, Value.int 0 0, Value.int 0 0, Value.int (↑n + 1) 0, Value.int (↑m.handed) 0, Value.int (↑m.handed) 0, Value.bool (m.handed == m.start), Value.ref L, Value.bool false] })
            else
              again (Code.builtin "re.Pattern.sub.loop" { pos := [Value.ref q, Value.bytes b u, Value.bytes #[] t, Value.int 0 0, Value.int 0 0, Value.int (↑n + 1) 0, Value.int (↑m.handed) 0, Value.int (↑m.handed) 0, Value.bool (m.handed == m.start), Value.ref L, Value.bool false] }))
            (fun fin s' => match fin with | .done f => R (.ok f) s' | .again c' => c'.quiet = true ∧ codeAny (model prog w) A c' R s') (fun e s' => R (.error e) s') { s0 with heap := h1, toks := tk1 } := fun bl1 k1 h1 tk1 hk1 hl1 hsum1 hlen1 hres1 => by
        refine wpAny_bind (wpAny_pure ?_)
        refine wpIfT rfl ?_
        refine wpAny_bind (push_piece hl1 (by (first | decide | lia | omega)) fun h2 k2 keep e2 => ?_)
        refine wpAny_pure ⟨Code.quiet_builtin _ (by decide +kernel), ?_⟩
        rw [hhd, hst]
        have hne : (e == st) = false := by simp; (first | decide | lia | omega)
        rw [hne]
        have hk2 : Has s0.heap h2 := fun c o ec => keep c o (fun z => by rw [z, hL] at ec; cases ec) (hk1 c o ec)
        have := ih e (n + 1) (bl1 ++ [(#[], t)]) k2 h2 tk1 (by (first | decide | lia | omega)) (by (first | decide | lia | omega)) hk2 e2 (by simp; simp at hsum1; (first | decide | lia | omega)) (by simp; (first | decide | lia | omega)) (by
          rw [← hres1]
          unfold outL
          simp)
        exact this
      show wpAny _ _ (if ((done : Int)).toNat < m.start then _ else _) _ _ _
      rw [hdn, hst]
      by_cases hlt : done < st
      · refine wpIfT hlt ?_
        refine wpAny_bind (slice_wp (by show (b.map (·.toNat)).size ≤ _; rw [hT]; (first | decide | lia | omega)) ?_)
        refine wpAny_bind (push_piece hl (by (first | decide | lia | omega)) fun h2 k2 keep e2 => ?_)
        refine wpIfT rfl ?_
        have hk2 : Has s0.heap h2 := fun c o ec => keep c o (fun z => by rw [z, hL] at ec; cases ec) (hk c o ec)
        rw [← hst] at next ⊢
        refine next _ k2 h2 (tk + 1) hk2 e2 ?_ (by simp; (first | decide | lia | omega)) ?_
        · simp
          simp at hsum
          (first | decide | lia | omega)
        · rw [← hres]
          unfold outL
          rw [show (tgt q b u).text = b.map (·.toNat) from rfl]
          simp
      · refine wpIfF hlt ?_
        refine wpIfT rfl ?_
        rw [← hst] at next ⊢
        refine next bl k h tk hk hl (by (first | decide | lia | omega)) (by (first | decide | lia | omega)) ?_
        have : st - done = 0 := by (first | decide | lia | omega)
        rw [← hres, this]
        simp
    | none =>
      have hsq := sq_none hfq
      rw [hsq] at hres
      have fin : ∀ (bl1 : List (Array UInt8 × Tok)) (k1 : Nat) (h1 : Heap) (tk1 : Nat), Has s0.heap h1 → h1.get? L = some (W.listOf (bvals bl1).toArray k1) → ((bl1.map (·.1)).map (·.size)).sum ≤ b.size → outL bl1 = res →
          wpAny (model prog w) A.in1 (do
            let joiner ← Re.reSlice (tgt q b u).text (tgt q b u).kind 0 0
            let __do_lift ← seqItems? (Value.ref L)
            if (__do_lift.getD #[]).isEmpty = true then do
              let text ← pure joiner
              if false = true then do
                let __do_lift ← holding [text] do
                  let __do_lift ← mkInt ↑n
                  newTuple [text, __do_lift]
                ret __do_lift
              else ret text
            else do
              let text ← call (Value.builtin (if ((tgt q b u).kind == 0) = true then "str.join" else "bytes.join")) [joiner, Value.ref L]
              if false = true then do
                let __do_lift ← holding [text] do
                  let __do_lift ← mkInt ↑n
                  newTuple [text, __do_lift]
                ret __do_lift
              else ret text)
            (fun fin s' => match fin with | .done f => R (.ok f) s' | .again c' => c'.quiet = true ∧ codeAny (model prog w) A c' R s') (fun e s' => R (.error e) s') { s0 with heap := h1, toks := tk1 } := fun bl1 k1 h1 tk1 hk1 hl1 hsum1 hres1 => by
        refine wpAny_bind (slice_wp (by show (b.map (·.toNat)).size ≤ _; rw [hT]; (first | decide | lia | omega)) ?_)
        have e0 : ((tgt q b u).text.extract 0 0).map (·.toUInt8) = #[] := by simp
        rw [e0]
        refine wpAny_bind (wpAny_seqItems hl1 rfl ?_)
        cases bl1 with
        | nil =>
          refine wpIfT rfl ?_
          refine wpAny_bind (wpAny_pure ?_)
          refine wpIfF (by decide) ?_
          refine wpAny_pure (hR _ _ ⟨h1, _, rfl, hk1⟩ ⟨tk1, ?_⟩)
          rw [← hres1]; rfl
        | cons p bl1 =>
          refine wpIfF (by simp [bvals]) ?_
          refine wpAny_bind (wpThen (join_call (t := tk1) (s := { s0 with heap := h1, toks := tk1 + 1 }) hl1 (by simp) (by (first | decide | lia | omega))) fun v s' g => ?_)
          refine wpIfF (by decide) ?_
          obtain ⟨kk, F, hd', _⟩ := g
          obtain ⟨t', rfl⟩ := hd'.bytes_inv
          refine wpAny_pure (hR _ _ (Kp.trans ⟨h1, tk1 + 1, rfl, hk1⟩ kk) ⟨t', ?_⟩)
          congr 1
          apply Array.toList_inj.mp
          rw [outL_fold, hres1]
      show wpAny _ _ (if ((done : Int)).toNat < b.size then _ else _) _ _ _
      rw [hdn]
      by_cases hlt : done < b.size
      · refine wpIfT hlt ?_
        refine wpAny_bind (slice_wp (by show (b.map (·.toNat)).size ≤ _; rw [hT]; (first | decide | lia | omega)) ?_)
        refine wpAny_bind (push_piece hl (by (first | decide | lia | omega)) fun h2 k2 keep e2 => ?_)
        have hk2 : Has s0.heap h2 := fun c o ec => keep c o (fun z => by rw [z, hL] at ec; cases ec) (hk c o ec)
        refine fin _ k2 h2 (tk + 1) hk2 e2 ?_ ?_
        · simp
          simp at hsum
          show _ + (min b.size (b.map (·.toNat)).size - done) ≤ _
          rw [hT]
          (first | decide | lia | omega)
        · rw [← hres]
          unfold outL
          rw [show (tgt q b u).text = b.map (·.toNat) from rfl, show (tgt q b u).lim = b.size from rfl]
          simp
          rw [List.take_of_length_le]
          simp
      · refine wpIfF hlt ?_
        refine fin bl k h tk hk hl (by (first | decide | lia | omega)) ?_
        rw [← hres, List.drop_eq_nil_of_le (by rw [hTl]; (first | decide | lia | omega))]
        simp
end
end Mine
end
section
namespace Mine
open Builtin

theorem no_call : typeLookup (.type "bytes") "__call__" = pure none := by rw [typeLookup_type, builtinLookup_eq_fast]; kernel_rfl
theorem owner_re : Manifest.owners.lookup (String.ofList ['n', 'r', 'e', 't', 't', 'a', 'P', '.', 'e', 'r'].reverse) = some Manifest.sig_re_Pattern := by kernel_rfl
theorem sub_args (a b c : Value) : argsOk "re.Pattern.sub" ⟨[a, b, c], []⟩ := by
  unfold argsOk; rw [signature?_of (id := "re.Pattern.sub") (n := ['b', 'u', 's']) (o := ['n', 'r', 'e', 't', 't', 'a', 'P', '.', 'e', 'r']) (by kernel_rfl) owner_re]; kernel_rfl

section
variable {prog : Program} {w : World} {A : Around} {s : Shared} {E : Value → Shared → Prop}

theorem sub_call {q : Addr} {b : Array UInt8} {t u : Tok} (hz : b.size ≤ 1000) (hP : PatAt s.heap q) :
    wpAny (model prog w) A (call (.builtin "re.Pattern.sub") [.ref q, .bytes #[] t, .bytes b u]) (Gives s (.bytes ((sq (b.map (·.toNat)).toList).map (·.toUInt8)).toArray)) No s := by
  have hT : s.TypeIs (.ref q) "re.Pattern" := by
    obtain ⟨ob, fs, e1, e2, _⟩ := hP.obj
    exact ⟨ob, e1, e2⟩
  refine wpAny_call (codeAny_call_builtin FR.slot_sub.plain FR.entry_sub (FR.slot_sub.check _ _ _ _ _ _ _ _ hT (sub_args _ _ _) ?_))
  unfold «re.Pattern.sub» Re.reSubstitute
  dsimp only
  refine wpAny_bind (wpAny_of_eq (show Re.reNamed "re.Pattern.sub" "sub" ["repl", "string", "count"] 2 [.bytes #[] t, .bytes b u] [] = pure [some (.bytes #[] t), some (.bytes b u), none] from rfl) ?_)
  refine wpAny_bind (wpAny_pure ?_)
  refine wpAny_bind (wpAny_specialOf (typeIs_bytes _ _ _) no_call ?_)
  refine wpIfF (by decide) ?_
  refine wpAny_bind (wpAny_bind (wpAny_pure (wpAny_pure ?_)))
  dsimp only
  refine wpAny_bind (wpAny_of_eq KBy.quiet_eq ?_)
  dsimp only
  refine wpAny_bind (wpAny_pure ?_)
  refine wpIfF (by decide) ?_
  refine wpIfT (by decide +kernel) ?_
  refine wpAny_bind (wpAny_pure ?_)
  refine wpAny_bind (wpAny_holding (wholeTarget hP ?_))
  refine wpIfF (by show ¬ ((0 : Nat) == 1) = true; decide) ?_
  refine wpAny_bind (wpAny_newList ?_ (Nat.zero_le _))
  refine wpAny_pure ⟨Code.quiet_builtin _ (by decide +kernel), ?_⟩
  refine sub_loop (t := t) (u := u) (L := s.heap.objs.size) (res := (sq (b.map (·.toNat)).toList).map (·.toUInt8)) hz hP (size_fresh _) (fun v s' kk h => ?_) (b.size + 1) 0 0 [] 0 _ s.toks (by (first | decide | lia | omega)) (Nat.zero_le _) (fun c o e => Heap.get?_push_of_some _ e) (Heap.get?_push_size _ rfl) (by simp) (by simp) (by simp [outL])
  obtain ⟨t', rfl⟩ := h
  exact ⟨kk, [], .bytes _ _, Fresh.nil⟩
end
end Mine
end
section
namespace Mine

noncomputable def kdOf (i : Nat) : Kd := fun x => (scopeOf i).names.lookup x

/-! ## hooks -/
noncomputable abbrev Ac := Str × Expr × List Expr × List Keyword × Pos
noncomputable def acS : Stmt → Option Ac
  | .Assign ts v _ => (oneE ts).bind fun t => (nameE t).bind fun x => (callE v).bind fun c => some (x, c)
  | _ => none
theorem acS_inv {st : Stmt} {x : Str} {f : Expr} {args : List Expr} {kws : List Keyword} {p : Pos} (q : acS st = some (x, f, args, kws, p)) : ∃ px sp, st = .Assign [.Name x px] (.Call f args kws p) sp := by
  cases st <;> first | exact nn q | skip
  rename_i ts v sp
  refine bind_elim ((show (oneE ts).bind _ = some _ from q)) fun t h1 q1 => ?_
  cases oneE_inv h1
  refine bind_elim (q1) fun y h2 q2 => ?_
  obtain ⟨px, rfl⟩ := nameE_inv h2
  refine bind_elim (q2) fun c h3 q3 => ?_
  cases q3
  cases callE_inv h3
  exact ⟨_, _, rfl⟩
noncomputable def keyE : List Keyword → Option Str
  | [k] => if k.arg = some ("key" : Str) then nameE k.value else none
  | _ => none
theorem keyE_inv {l : List Keyword} {g : Str} (q : keyE l = some g) : ∃ pg kp, l = [⟨some "key", .Name g pg, kp⟩] := by
  match l, q with
  | [], q => exact nn q
  | _ :: _ :: _, q => exact nn q
  | [⟨a, v, kp⟩], q =>
    refine if_elim (q) fun h1 q1 => ?_
    cases (show a = some ("key" : Str) from h1)
    obtain ⟨pg, h2⟩ := nameE_inv (show nameE v = some g from q1)
    cases h2
    exact ⟨_, _, rfl⟩
noncomputable def popD (σ : Sg) (x l : Str) (ds : List Dat) (d : Dat) : Option Sg :=
  if imm d = true ∧ ds.dropLast.all imm = true ∧ ds.dropLast.length ≤ lineMax then some (sv (sv σ l (.list ds.dropLast, true)) x (d, true)) else none
noncomputable def popC (σ : Sg) (x l : Str) (ds : List Dat) : Option Sg := ds.getLast?.bind (popD σ x l ds)
noncomputable def popB (κ : Kd) (σ : Sg) (c : Ac) (m : Str) (ap : Pos) (l : Str) : Option Sg :=
  if (c.2.2.1.isEmpty = true ∧ c.2.2.2.1.isEmpty = true) ∧ m = ("pop" : Str) ∧ canBind κ c.1 = true ∧ isVar κ l = true ∧ (ap.endLine == c.2.2.2.2.line) = true ∧ (c.1 == l) = false then ((gv σ l).bind ownL).bind (popC σ c.1 l) else none
noncomputable def popA (κ : Kd) (σ : Sg) (c : Ac) (a : Expr × Str × Pos) : Option Sg := (nameE a.1).bind (popB κ σ c a.2.1 a.2.2)
noncomputable def popS (κ : Kd) (σ : Sg) (c : Ac) : Option Sg := (attrE c.2.1).bind (popA κ σ c)
noncomputable def hookPop : Hook := fun κ st σ => (acS st).bind (popS κ σ)
noncomputable def intC (σ : Sg) (x : Str) (ns : List Int) : Option Sg := if ns.length < 64 then some (sv σ x (.list ((srtI ns).map .int), true)) else none
noncomputable def intB (σ : Sg) (x : Str) (ds : List Dat) : Option Sg := (intsOf ds).bind (intC σ x)
noncomputable def intA (Φ : Funs) (N : Nat) (κ : Kd) (σ : Sg) (c : Ac) (f : Str) (e : Expr) : Option Sg :=
  if c.2.2.2.1.isEmpty = true ∧ f = ("sorted" : Str) ∧ canBind κ c.1 = true ∧ isGlob κ f = true then ((ev Φ N κ (ρof σ) e).bind lstD).bind (intB σ c.1) else none
noncomputable def intF (Φ : Funs) (N : Nat) (κ : Kd) (σ : Sg) (c : Ac) (f : Str) : Option Sg := (oneE c.2.2.1).bind (intA Φ N κ σ c f)
noncomputable def intS (Φ : Funs) (N : Nat) (κ : Kd) (σ : Sg) (c : Ac) : Option Sg := (nameE c.2.1).bind (intF Φ N κ σ c)
noncomputable def hookInts (Φ : Funs) (N : Nat) : Hook := fun κ st σ => (acS st).bind (intS Φ N κ σ)
noncomputable def strS (σ : Sg) (x : Str) (ss : List Str) : Option Sg := some (sv σ x (.list (ss.map .str), true))
noncomputable def strT (Φ : Funs) (σ : Sg) (x g : Str) (ss : List Str) : Option Sg :=
  if 2 ≤ ss.length ∧ ss.length < 64 ∧ (ss.all fun x => ((Φ.fn g [.str x]).bind strOf) == some x) = true then (sortS ss).bind (strS σ x) else none
noncomputable def strU (Φ : Funs) (σ : Sg) (x g : Str) (ds : List Dat) : Option Sg := (strsOf ds).bind (strT Φ σ x g)
noncomputable def strV (Φ : Funs) (N : Nat) (κ : Kd) (σ : Sg) (x f : Str) (e : Expr) (g : Str) : Option Sg :=
  if f = ("sorted" : Str) ∧ canBind κ x = true ∧ isGlob κ f = true ∧ isGlob κ g = true then ((ev Φ N κ (ρof σ) e).bind lstD).bind (strU Φ σ x g) else none
noncomputable def strW (Φ : Funs) (N : Nat) (κ : Kd) (σ : Sg) (c : Ac) (f : Str) (e : Expr) : Option Sg := (keyE c.2.2.2.1).bind (strV Φ N κ σ c.1 f e)
noncomputable def strX (Φ : Funs) (N : Nat) (κ : Kd) (σ : Sg) (c : Ac) (f : Str) : Option Sg := (oneE c.2.2.1).bind (strW Φ N κ σ c f)
noncomputable def strY (Φ : Funs) (N : Nat) (κ : Kd) (σ : Sg) (c : Ac) : Option Sg := (nameE c.2.1).bind (strX Φ N κ σ c)
noncomputable def hookStrs (Φ : Funs) (N : Nat) : Hook := fun κ st σ => (acS st).bind (strY Φ N κ σ)
noncomputable def orHook (a b : Hook) : Hook := fun κ st σ => match a κ st σ with
  | some r => some r
  | none => b κ st σ
noncomputable def hookAll (Φ : Funs) (N : Nat) : Hook := orHook hookPop (orHook (hookInts Φ N) (hookStrs Φ N))

/-! ## sub -/
noncomputable def tokTable : List (Str × Int) := [("<", 20), (">", 21), ("<=", 29), (">=", 30), ("<<", 33), (">>", 34), ("<<=", 44), (">>=", 45)]
noncomputable def Φ0 : Funs where
  fn := fun _ _ => none
  dct := fun x i => if x = ("EXACT_TOKEN_TYPES" : Str) then (match i with | .str y => (tokTable.lookup y).map .int | _ => none) else none
  sub := fun b => if b.size ≤ 1000 then some ((sq (b.map (·.toNat)).toList).map (·.toUInt8)).toArray else none
  cst := fun x => if x = ("NT_OFFSET" : Str) then some (.int 256) else if x = ("ENDMARKER" : Str) then some (.int 0) else none

noncomputable def runDef (Φ : Funs) (i : Nat) (ps : List Str) (vals : List Dat) : Option Dat :=
  if ps.length = vals.length then (match exs Φ 30 100 (hookAll Φ 30) (kdOf i) 100 (bodyOf i) (lent ps vals) with
    | some (.ret d, _) => some d
    | _ => none) else none
noncomputable def parenRun (Φ : Funs) (vals : List Dat) : Option Dat := match vals with
  | [x] => runDef Φ 0 ["data", "depth"] [x, .int 0]
  | _ => runDef Φ 0 ["data", "depth"] vals
noncomputable def Φ1 : Funs := { Φ0 with fn := fun f vals =>
  if f = ("_paren_depth" : Str) then parenRun Φ0 vals
  else if f = ("_strcoll" : Str) then runDef Φ0 1 ["a", "b"] vals
  else if f = ("_strxfrm" : Str) then runDef Φ0 2 ["s"] vals
  else if f = ("_strip_padding" : Str) then runDef Φ0 3 ["s", "amount"] vals
  else if f = ("ISTERMINAL" : Str) then runDef Φ0 4 ["x"] vals
  else if f = ("ISNONTERMINAL" : Str) then runDef Φ0 5 ["x"] vals
  else if f = ("ISEOF" : Str) then runDef Φ0 6 ["x"] vals
  else if f = ("_law_chains" : Str) then runDef Φ0 9 ["won"] vals
  else if f = ("_law_dealt" : Str) then runDef Φ0 10 ["points"] vals
  else none }
noncomputable def Φ2 : Funs := { Φ1 with fn := fun f vals => if f = ("_law_text" : Str) then runDef Φ1 7 ["line", "below"] vals else Φ1.fn f vals }
noncomputable def Φ3 : Funs := { Φ2 with fn := fun f vals => if f = ("_law_slacks" : Str) then runDef Φ2 8 ["table", "begin"] vals else Φ2.fn f vals }

end Mine
end
section
namespace Mine

section
variable {prog : Program} {w : World} {H0 : Heap} {K : Nat} {Φ : Funs}

theorem hookPop_ok : HookAll prog w H0 K hookPop := fun A s0 env R O st σ σ' B s e X => by
  obtain ⟨⟨x, f, args, kws, pos⟩, h1, e1⟩ := bind_inv e
  clear e
  obtain ⟨px, spos, rfl⟩ := acS_inv h1
  obtain ⟨⟨o, m, ap⟩, h2, e2⟩ := bind_inv e1
  clear e1
  cases attrE_inv h2
  refine bind_elim (e2) fun l h3 e3 => ?_
  clear e2
  obtain ⟨pl, rfl⟩ := nameE_inv h3
  refine if_elim (e3) fun hc e4 => ?_
  clear e3
  obtain ⟨⟨ha, hk⟩, hm, hc1, hc2, hc3, hc4⟩ := hc
  cases List.isEmpty_iff.mp ha
  cases List.isEmpty_iff.mp hk
  cases hm
  refine bind_elim (e4) fun ds gl e5 => ?_
  have gl := ownL_inv gl
  refine bind_elim (e5) fun d hd e6 => ?_
  refine if_elim (e6) fun hz e7 => ?_
  cases e7
  have hds : ds = ds.dropLast ++ [d] := by
    obtain ⟨ys, rfl⟩ := List.getLast?_eq_some_iff.mp hd
    simp
  rw [hds] at gl
  have := pop_ok (prog := prog) (w := w) (A := A) O X hc1 hc3 gl hz.1 hz.2.1 hz.2.2 (by simpa using hc4) (px := px) (pl := pl) (spos := spos)
  exact wpThen this fun f s' h => ⟨h.1, B, BLe.refl B, h.2⟩

theorem hookInts_ok (hsg : GIs H0 "sorted" (.builtin "sorted")) (Gl0 : Gl H0) (FO : FOk prog w H0 K Φ) {N : Nat} : HookAll prog w H0 K (hookInts Φ N) := fun A s0 env R O st σ σ' B s e X => by
  obtain ⟨⟨x, f, args, kws, pos⟩, h1, e1⟩ := bind_inv e
  clear e
  obtain ⟨px, spos, rfl⟩ := acS_inv h1
  refine bind_elim (e1) fun fn h2 e2 => ?_
  clear e1
  obtain ⟨pf, rfl⟩ := nameE_inv h2
  refine bind_elim (e2) fun ex h3 e3 => ?_
  clear e2
  cases oneE_inv h3
  obtain ⟨⟨hk, hf, hc1, hc2⟩, e4⟩ := if_inv e3
  clear e3
  cases List.isEmpty_iff.mp hk
  cases hf
  refine bind_elim (e4) fun ds qe e5 => ?_
  refine bind_elim (qe) fun dl qe q2 => ?_
  cases lstD_inv q2
  refine bind_elim (e5) fun ns hn e6 => ?_
  refine if_elim (e6) fun hz e7 => ?_
  cases e7
  exact wpThen (sorted_ints_ok hsg Gl0 FO O R X hc1 hc2 qe hn hz) fun f s' h => ⟨h.1, B, BLe.refl B, h.2⟩

theorem hookStrs_ok (hsg : GIs H0 "sorted" (.builtin "sorted")) (Gl0 : Gl H0) (FO : FOk prog w H0 K Φ) {N : Nat} : HookAll prog w H0 (K + 1) (hookStrs Φ N) := fun A s0 env R O st σ σ' B s e X => by
  obtain ⟨⟨x, f, args, kws, pos⟩, h1, e1⟩ := bind_inv e
  clear e
  obtain ⟨px, spos, rfl⟩ := acS_inv h1
  refine bind_elim (e1) fun fn h2 e2 => ?_
  clear e1
  obtain ⟨pf, rfl⟩ := nameE_inv h2
  refine bind_elim (e2) fun ex h3 e3 => ?_
  clear e2
  cases oneE_inv h3
  refine bind_elim (e3) fun g h4 e4 => ?_
  clear e3
  obtain ⟨pg, kp, rfl⟩ := keyE_inv h4
  obtain ⟨⟨hf, hc1, hc2, hc3⟩, e5⟩ := if_inv e4
  clear e4
  cases hf
  refine bind_elim (e5) fun ds qe e6 => ?_
  refine bind_elim (qe) fun dl qe q2 => ?_
  cases lstD_inv q2
  refine bind_elim (e6) fun ss hn e7 => ?_
  obtain ⟨⟨h2, h64, hall⟩, e8⟩ := if_inv e7
  refine bind_elim (e8) fun ss' hs e9 => ?_
  cases e9
  refine wpThen (sorted_strs_ok hsg Gl0 FO O R X hc1 hc2 hc3 qe hn h2 h64 (fun y hy => ?_) hs) fun f s' h => ⟨h.1, B, BLe.refl B, h.2⟩
  refine bind_elim ((beq_iff_eq.mp (List.all_eq_true.mp hall y hy))) fun z h5 h6 => ?_
  rw [h5, strOf_inv h6]

theorem orHook_ok {a b : Hook} (ha : HookAll prog w H0 K a) (hb : HookAll prog w H0 K b) : HookAll prog w H0 K (orHook a b) := fun A s0 env R O st σ σ' B s e X => by
  unfold orHook at e
  split at e
  · rename_i r hr
    cases e
    exact ha A s0 env R O st σ _ B s hr X
  · exact hb A s0 env R O st σ σ' B s e X

theorem hookAll_ok (hsg : GIs H0 "sorted" (.builtin "sorted")) (Gl0 : Gl H0) (FO : FOk prog w H0 K Φ) {N : Nat} : HookAll prog w H0 (K + 1) (hookAll Φ N) :=
  orHook_ok hookPop_ok (orHook_ok (hookInts_ok hsg Gl0 FO.up) (hookStrs_ok hsg Gl0 FO))
end
end Mine
end
section
namespace Mine

structure FnAt (H0 : Heap) (nm : Str) (i : Nat) (dV : Value) : Prop where
  at' : ∃ a o pm c doc, GIs H0 nm (.ref a) ∧ H0.get? a = some o ∧ o.data = .func { docDef nm (paramsOf i) (bodyOf i) (scopeOf i) pm (.ref c) doc with defaults := dV } ∧ H0.CodeRec (.ref c) nm

structure TopF (prog : Program) (w : World) (H0 : Heap) : Prop where
  gl : Gl H0
  sorted : GIs H0 "sorted" (.builtin "sorted")
  nolimit : H0.NoLimit
  paren : ∃ T o xs n tk, FnAt H0 "_paren_depth" 0 (.ref T) ∧ H0.get? T = some o ∧ o.data = .seq xs n ∧ xs = #[.int 0 tk]
  strcoll : FnAt H0 "_strcoll" 1 .none
  strxfrm : FnAt H0 "_strxfrm" 2 .none
  strip : FnAt H0 "_strip_padding" 3 .none
  term : FnAt H0 "ISTERMINAL" 4 .none
  nonterm : FnAt H0 "ISNONTERMINAL" 5 .none
  eof : FnAt H0 "ISEOF" 6 .none
  text : FnAt H0 "_law_text" 7 .none
  slacks : FnAt H0 "_law_slacks" 8 .none
  chains : FnAt H0 "_law_chains" 9 .none
  dealt : FnAt H0 "_law_dealt" 10 .none
  tok : ∃ d f, GIs H0 "EXACT_TOKEN_TYPES" (.ref d) ∧ H0.MapOf (strKind prog w) d f ∧ ∀ y n, tokTable.lookup y = some n → ∃ t, f y = some (.int n t)
  nt : ∃ t, GIs H0 "NT_OFFSET" (.int 256 t)
  em : ∃ t, GIs H0 "ENDMARKER" (.int 0 t)
  pat : ∃ q, GIs H0 "_quoted" (.ref q) ∧ PatAt H0 q

section
variable {prog : Program} {w : World} {H0 : Heap} {K : Nat} {Φ : Funs}

theorem mapOf_keep {h h' : Heap} {d : Addr} {f : Str → Option Value} (x : h.MapOf (strKind prog w) d f) (k : Has h h') : h'.MapOf (strKind prog w) d f := by
  obtain ⟨o, es, ep, e, r⟩ := x
  exact ⟨o, es, ep, k _ _ e, r⟩

theorem fok0 (T : TopF prog w H0) : FOk prog w H0 K Φ0 where
  fn := fun f vals d e => by cases e
  dct := fun x i d e => by
    have e' : (if x = ("EXACT_TOKEN_TYPES" : Str) then (match i with | .str y => (tokTable.lookup y).map Dat.int | _ => none) else none) = some d := e
    split at e'
    · rename_i hx
      subst hx
      split at e'
      · rename_i y
        cases q : tokTable.lookup y with
        | none => rw [q] at e'; cases e'
        | some n =>
          rw [q] at e'
          cases e'
          obtain ⟨dd, f, G, hm, hf⟩ := T.tok
          refine ⟨by decide +kernel, .ref dd, G, "dict", _, slot_dict_getitem.lookup, fun s S => ?_, fun A s vi F R S hd => ?_⟩
          · exact (mapOf_keep hm S.keep).typeIs
          · obtain ⟨t, rfl⟩ := hd.str_inv
            obtain ⟨t', hft⟩ := hf y n q
            exact wpAny_getItem_of (strKind_is _ _ _ _) (mapOf_keep hm S.keep) hft (giveImm (.int _ _))
      · cases e'
    · cases e'
  cst := fun x d e => by
    have e' : (if x = ("NT_OFFSET" : Str) then some (Dat.int 256) else if x = ("ENDMARKER" : Str) then some (Dat.int 0) else none) = some d := e
    split at e'
    · rename_i hx
      subst hx
      cases e'
      obtain ⟨t, G⟩ := T.nt
      exact ⟨by decide +kernel, _, G, fun h => .int _ _⟩
    · split at e'
      · rename_i hx
        subst hx
        cases e'
        obtain ⟨t, G⟩ := T.em
        exact ⟨by decide +kernel, _, G, fun h => .int _ _⟩
      · cases e'
  sub := fun b r e => by
    have e' : (if b.size ≤ 1000 then some ((sq (b.map (·.toNat)).toList).map (·.toUInt8)).toArray else none) = some r := e
    split at e'
    · rename_i hz
      cases e'
      obtain ⟨q, G, P⟩ := T.pat
      refine ⟨q, G, ?_, fun A s t u R S => sub_call hz (P.keeps S.keep)⟩
      obtain ⟨ob, fs, e1, e2, e3, _⟩ := P.obj
      exact ⟨ob, e1, e2, e3⟩
    · cases e'

noncomputable def scopeOkB (sc : Scope) : Bool := decide (sc.kind = .function) && sc.names.all (fun x => x.2 != .cell && x.2 != .free) && !sc.isCoroutine && !sc.isGenerator
theorem scopeOk_is {sc : Scope} (h : scopeOkB sc = true) : ScopeOk sc := by
  unfold scopeOkB at h
  simp only [Bool.and_eq_true, decide_eq_true_eq, List.all_eq_true] at h
  obtain ⟨⟨⟨h1, h2⟩, h3⟩, h4⟩ := h
  exact ⟨h1, fun x hx => by simpa using h2 x hx, by simpa using h3, by simpa using h4⟩
noncomputable def psOkB (i : Nat) (ps : List Str) : Bool := scopeOkB (scopeOf i) && decide ps.Nodup && ps.all (fun x => plainName x && (scopeOf i).names.lookup x == some .local)

theorem fn_of (T : TopF prog w H0) (FO : FOk prog w H0 K Φ) {nm : Str} {i : Nat} (F : FnAt H0 nm i .none) {ps : List Str} (hp : plainName nm = true) (hok : psOkB i ps = true)
    (hbind : ∀ pm c doc vs, vs.length = ps.length → bindArgs { docDef nm (paramsOf i) (bodyOf i) (scopeOf i) pm (.ref c) doc with defaults := .none } ⟨vs, []⟩ = pure (ps.zip vs)) :
    ∀ vals d, runDef Φ i ps vals = some d → plainName nm = true ∧ ∃ a o fd, GIs H0 nm (.ref a) ∧ H0.get? a = some o ∧ o.data = .func fd ∧
      ∀ A s vs F, Rm A (K + 2) → St H0 s → DenAll s.heap vs vals F → wpAny (model prog w) A (call (.ref a) vs) (Gives s d) No s := fun vals d e => by
  unfold psOkB at hok
  simp only [Bool.and_eq_true, decide_eq_true_eq, List.all_eq_true] at hok
  obtain ⟨⟨h1, h2⟩, h3⟩ := hok
  obtain ⟨a, o, pm, c, doc, G, ho, hd, hc⟩ := F.at'
  refine ⟨hp, a, o, _, G, ho, hd, fun A s vs F R S hden => ?_⟩
  unfold runDef at e
  split at e
  · rename_i hl
    split at e
    · rename_i d' σ' q
      cases e
      exact def_ok ho hd T.nolimit hc (scopeOk_is h1) h2 (fun x hx => (h3 x hx).1) hl (fun x hx => by simpa using (h3 x hx).2) T.gl FO.up (hookAll_ok T.sorted T.gl FO) q R S (BindsTo.of_eq (hbind _ _ _ vs (by rw [hden.length, hl]))) hden
    · cases e
  · cases e
end
end Mine
end
section
namespace Mine

section
variable {prog : Program} {w : World} {H0 : Heap} {K : Nat} {Φ : Funs}

theorem len1 {α : Type} {vs : List α} (h : vs.length = 1) : ∃ a, vs = [a] := by
  match vs, h with
  | [a], _ => exact ⟨a, rfl⟩
theorem len2 {α : Type} {vs : List α} (h : vs.length = 2) : ∃ a b, vs = [a, b] := by
  match vs, h with
  | [a, b], _ => exact ⟨a, b, rfl⟩

/-- the def with a default -/
theorem fn_paren (T : TopF prog w H0) (FO : FOk prog w H0 K Φ) (hok : psOkB 0 ["data", "depth"] = true)
    (hb2 : ∀ pm c doc T a b, ∃ k : Option (Array Value) → Sem (List (Str × Value)), bindArgs { docDef "_paren_depth" (paramsOf 0) (bodyOf 0) (scopeOf 0) pm (.ref c) doc with defaults := .ref T } ⟨[a, b], []⟩ = seqItems? (.ref T) >>= k ∧ ∀ tk, k (some #[.int 0 tk]) = pure [(("data" : Str), a), (("depth" : Str), b)])
    (hb1 : ∀ pm c doc T a, ∃ k : Option (Array Value) → Sem (List (Str × Value)), bindArgs { docDef "_paren_depth" (paramsOf 0) (bodyOf 0) (scopeOf 0) pm (.ref c) doc with defaults := .ref T } ⟨[a], []⟩ = seqItems? (.ref T) >>= k ∧ ∀ tk, k (some #[.int 0 tk]) = pure [(("data" : Str), a), (("depth" : Str), .int 0 tk)]) :
    ∀ vals d, parenRun Φ vals = some d → plainName ("_paren_depth" : Str) = true ∧ ∃ a o fd, GIs H0 "_paren_depth" (.ref a) ∧ H0.get? a = some o ∧ o.data = .func fd ∧
      ∀ A s vs F, Rm A (K + 2) → St H0 s → DenAll s.heap vs vals F → wpAny (model prog w) A (call (.ref a) vs) (Gives s d) No s := fun vals d e => by
  unfold psOkB at hok
  simp only [Bool.and_eq_true, decide_eq_true_eq, List.all_eq_true] at hok
  obtain ⟨⟨h1, h2⟩, h3⟩ := hok
  obtain ⟨Tp, oT, xs, n, tk, F, hT, hTd, rfl⟩ := T.paren
  obtain ⟨a, o, pm, c, doc, G, ho, hd, hc⟩ := F.at'
  refine ⟨by decide +kernel, a, o, _, G, ho, hd, fun A s vs F R S hden => ?_⟩
  unfold parenRun at e
  split at e
  · rename_i x
    unfold runDef at e
    split at e
    · rename_i hl
      split at e
      · rename_i d' σ' q
        cases e
        have hlen := hden.length
        obtain ⟨v, rfl⟩ := len1 hlen
        obtain ⟨k, hk⟩ := hb1 pm c doc Tp v
        have hden2 : DenAll s.heap ([v] ++ [.int 0 tk]) ([x] ++ [.int 0]) (F ++ ([] ++ [])) := hden.append (DenAll.cons (F := []) (.int 0 tk) .nil)
        exact def_ok ho hd T.nolimit hc (scopeOk_is h1) h2 (fun x hx => (h3 x hx).1) hl (fun x hx => by simpa using (h3 x hx).2) T.gl FO.up (hookAll_ok T.sorted T.gl FO) q R S
          (vs' := [v, .int 0 tk]) (BindsTo.of_defaults rfl (S.keep _ _ hT) hTd hk.1 (hk.2 tk)) hden2
      · cases e
    · cases e
  · unfold runDef at e
    split at e
    · rename_i hl
      split at e
      · rename_i d' σ' q
        cases e
        have hlen := hden.length
        obtain ⟨v1, v2, rfl⟩ := len2 (show vs.length = 2 by rw [hlen, ← hl]; rfl)
        obtain ⟨k, hk⟩ := hb2 pm c doc Tp v1 v2
        exact def_ok ho hd T.nolimit hc (scopeOk_is h1) h2 (fun x hx => (h3 x hx).1) hl (fun x hx => by simpa using (h3 x hx).2) T.gl FO.up (hookAll_ok T.sorted T.gl FO) q R S
          (vs' := [v1, v2]) (BindsTo.of_defaults rfl (S.keep _ _ hT) hTd hk.1 (hk.2 tk)) hden
      · cases e
    · cases e

theorem b1 {nm : Str} {i : Nat} {p : Str} (h : ∀ pm c doc v, bindArgs { docDef nm (paramsOf i) (bodyOf i) (scopeOf i) pm (.ref c) doc with defaults := .none } ⟨[v], []⟩ = pure [(p, v)]) :
    ∀ pm c doc vs, vs.length = [p].length → bindArgs { docDef nm (paramsOf i) (bodyOf i) (scopeOf i) pm (.ref c) doc with defaults := .none } ⟨vs, []⟩ = pure ([p].zip vs) := fun pm c doc vs hl => by
  obtain ⟨a, rfl⟩ := len1 hl
  exact h pm c doc a
theorem b2 {nm : Str} {i : Nat} {p r : Str} (h : ∀ pm c doc v u, bindArgs { docDef nm (paramsOf i) (bodyOf i) (scopeOf i) pm (.ref c) doc with defaults := .none } ⟨[v, u], []⟩ = pure [(p, v), (r, u)]) :
    ∀ pm c doc vs, vs.length = [p, r].length → bindArgs { docDef nm (paramsOf i) (bodyOf i) (scopeOf i) pm (.ref c) doc with defaults := .none } ⟨vs, []⟩ = pure ([p, r].zip vs) := fun pm c doc vs hl => by
  obtain ⟨a, b, rfl⟩ := len2 hl
  exact h pm c doc a b

theorem fok1 (T : TopF prog w H0) : FOk prog w H0 2 Φ1 where
  dct := (fok0 T (K := 2)).dct
  cst := (fok0 T (K := 2)).cst
  sub := (fok0 T (K := 2)).sub
  fn := fun f vals d e => by
    have FO := fok0 T (K := 0)
    have e' : (if f = ("_paren_depth" : Str) then parenRun Φ0 vals
      else if f = ("_strcoll" : Str) then runDef Φ0 1 ["a", "b"] vals
      else if f = ("_strxfrm" : Str) then runDef Φ0 2 ["s"] vals
      else if f = ("_strip_padding" : Str) then runDef Φ0 3 ["s", "amount"] vals
      else if f = ("ISTERMINAL" : Str) then runDef Φ0 4 ["x"] vals
      else if f = ("ISNONTERMINAL" : Str) then runDef Φ0 5 ["x"] vals
      else if f = ("ISEOF" : Str) then runDef Φ0 6 ["x"] vals
      else if f = ("_law_chains" : Str) then runDef Φ0 9 ["won"] vals
      else if f = ("_law_dealt" : Str) then runDef Φ0 10 ["points"] vals
      else none) = some d := e
    split at e'
    · rename_i hf
      subst hf
      exact fn_paren T FO (by decide +kernel) (fun _ _ _ _ _ _ => ⟨_, rfl, fun _ => by kernel_rfl⟩) (fun _ _ _ _ _ => ⟨_, rfl, fun _ => by kernel_rfl⟩) vals d e'
    · split at e'
      · rename_i hf
        subst hf
        exact fn_of T FO T.strcoll (by decide +kernel) (by decide +kernel) (b2 fun _ _ _ _ _ => by kernel_rfl) vals d e'
      · split at e'
        · rename_i hf
          subst hf
          exact fn_of T FO T.strxfrm (by decide +kernel) (by decide +kernel) (b1 fun _ _ _ _ => by kernel_rfl) vals d e'
        · split at e'
          · rename_i hf
            subst hf
            exact fn_of T FO T.strip (by decide +kernel) (by decide +kernel) (b2 fun _ _ _ _ _ => by kernel_rfl) vals d e'
          · split at e'
            · rename_i hf
              subst hf
              exact fn_of T FO T.term (by decide +kernel) (by decide +kernel) (b1 fun _ _ _ _ => by kernel_rfl) vals d e'
            · split at e'
              · rename_i hf
                subst hf
                exact fn_of T FO T.nonterm (by decide +kernel) (by decide +kernel) (b1 fun _ _ _ _ => by kernel_rfl) vals d e'
              · split at e'
                · rename_i hf
                  subst hf
                  exact fn_of T FO T.eof (by decide +kernel) (by decide +kernel) (b1 fun _ _ _ _ => by kernel_rfl) vals d e'
                · split at e'
                  · rename_i hf
                    subst hf
                    exact fn_of T FO T.chains (by decide +kernel) (by decide +kernel) (b1 fun _ _ _ _ => by kernel_rfl) vals d e'
                  · split at e'
                    · rename_i hf
                      subst hf
                      exact fn_of T FO T.dealt (by decide +kernel) (by decide +kernel) (b1 fun _ _ _ _ => by kernel_rfl) vals d e'
                    · cases e'

theorem FOk.add {n : Nat} (h : FOk prog w H0 K Φ) : FOk prog w H0 (K + n) Φ := by
  induction n with
  | zero => exact h
  | succ n ih => exact ih.up

theorem fok2 (T : TopF prog w H0) : FOk prog w H0 4 Φ2 where
  dct := (fok0 T (K := 4)).dct
  cst := (fok0 T (K := 4)).cst
  sub := (fok0 T (K := 4)).sub
  fn := fun f vals d e => by
    have FO := fok1 T
    have e' : (if f = ("_law_text" : Str) then runDef Φ1 7 ["line", "below"] vals else Φ1.fn f vals) = some d := e
    split at e'
    · rename_i hf
      subst hf
      exact fn_of T FO T.text (by decide +kernel) (by decide +kernel) (b2 fun _ _ _ _ _ => by kernel_rfl) vals d e'
    · exact (FO.add (n := 2)).fn f vals d e'
theorem fok3 (T : TopF prog w H0) : FOk prog w H0 6 Φ3 where
  dct := (fok0 T (K := 6)).dct
  cst := (fok0 T (K := 6)).cst
  sub := (fok0 T (K := 6)).sub
  fn := fun f vals d e => by
    have FO := fok2 T
    have e' : (if f = ("_law_slacks" : Str) then runDef Φ2 8 ["table", "begin"] vals else Φ2.fn f vals) = some d := e
    split at e'
    · rename_i hf
      subst hf
      exact fn_of T FO T.slacks (by decide +kernel) (by decide +kernel) (b2 fun _ _ _ _ _ => by kernel_rfl) vals d e'
    · exact (FO.add (n := 2)).fn f vals d e'
end
end Mine
end
section
namespace Mine

noncomputable def keysOk (P : Params) : List DictEntry → Prop
  | [] => True
  | e :: r => (∃ x t, e.key = .str x t ∧ e.hash = PyData.keyHash P x) ∧ keysOk P r
theorem keysOk_mem {P : Params} : ∀ {l : List DictEntry}, keysOk P l → ∀ e ∈ l, ∃ x t, e.key = .str x t ∧ e.hash = PyData.keyHash P x
  | [], _, _, h => nomatch h
  | _ :: _, k, e, h => by
    rcases List.mem_cons.mp h with rfl | h
    · exact k.1
    · exact keysOk_mem k.2 e h

section
variable {prog : Program} {w : World} {H0 : Heap} {K : Frag} {mg mb : Str → Option Value}
theorem gis_K (X : K.In H0) (g : H0.Ns mainGlobals mg) (b : H0.Ns builtinsNs mb) {x : Str} {v : Value} (e : nsIn K mainGlobals x = some (some v)) : GIs H0 x v := ⟨mg, mb, g, b, .inl (mg_of X g e)⟩
theorem gis_B (X : K.In H0) (g : H0.Ns mainGlobals mg) (b : H0.Ns builtinsNs mb) (hb : ∀ x : Str, x ≠ "__name__" → mb x = bootBuiltins x) {x : Str} {v : Value} (e : nsIn K mainGlobals x = some none) (hv : bootBuiltins x = some v) (hn : x ≠ "__name__") : GIs H0 x v :=
  ⟨mg, mb, g, b, .inr ⟨mg_none_of X g e, (hb x hn).trans hv⟩⟩
theorem fnAt_of (X : K.In H0) (g : H0.Ns mainGlobals mg) (b : H0.Ns builtinsNs mb) {nm : Str} {i : Nat} {dV pm : Value} {a c : Addr} (e1 : nsIn K mainGlobals nm = some (some (.ref a)))
    (e2 : K.lookup a = some { cls := .type "function", data := .func { docDef nm (paramsOf i) (bodyOf i) (scopeOf i) pm (.ref c) .none with defaults := dV } }) (e3 : codeIn K (.ref c) nm = true) : FnAt H0 nm i dV :=
  ⟨a, _, pm, c, .none, gis_K X g b e1, X _ _ e2, rfl, codeRec_of X e3⟩
end

theorem topF {prog : Program} {w : World} {H0 : Heap} {mg mb : Str → Option Value} (X : (fragK w.params).In H0) (g : H0.Ns mainGlobals mg) (b : H0.Ns builtinsNs mb) (nl : H0.NoLimit) (hb : ∀ x : Str, x ≠ "__name__" → mb x = bootBuiltins x) : TopF prog w H0 where
  gl := ⟨gis_B X g b hb (by kernel_rfl) (by kernel_rfl) (by decide +kernel), gis_B X g b hb (by kernel_rfl) (by kernel_rfl) (by decide +kernel), gis_B X g b hb (by kernel_rfl) (by kernel_rfl) (by decide +kernel), gis_B X g b hb (by kernel_rfl) (by kernel_rfl) (by decide +kernel),
    gis_B X g b hb (by kernel_rfl) (by kernel_rfl) (by decide +kernel), gis_B X g b hb (by kernel_rfl) (by kernel_rfl) (by decide +kernel), gis_B X g b hb (by kernel_rfl) (by kernel_rfl) (by decide +kernel)⟩
  sorted := gis_B X g b hb (by kernel_rfl) (by kernel_rfl) (by decide +kernel)
  nolimit := nl
  paren := ⟨37, { cls := .type "tuple", data := .seq #[.int 0 328] }, _, _, 328, fnAt_of X g b (a := 44) (c := 43) (pm := .str (Str.ofString "cpy313.imaplib") 282) (by kernel_rfl) (by kernel_rfl) (by kernel_rfl), X _ _ (by kernel_rfl), rfl, rfl⟩
  strcoll := fnAt_of X g b (a := 51) (c := 50) (pm := .str (Str.ofString "cpy313.locale") 337) (by kernel_rfl) (by kernel_rfl) (by kernel_rfl)
  strxfrm := fnAt_of X g b (a := 58) (c := 57) (pm := .str (Str.ofString "cpy313.locale") 337) (by kernel_rfl) (by kernel_rfl) (by kernel_rfl)
  strip := fnAt_of X g b (a := 65) (c := 64) (pm := .str (Str.ofString "cpy313.locale") 337) (by kernel_rfl) (by kernel_rfl) (by kernel_rfl)
  term := fnAt_of X g b (a := 75) (c := 74) (pm := .str (Str.ofString "cpy313.token") 364) (by kernel_rfl) (by kernel_rfl) (by kernel_rfl)
  nonterm := fnAt_of X g b (a := 82) (c := 81) (pm := .str (Str.ofString "cpy313.token") 364) (by kernel_rfl) (by kernel_rfl) (by kernel_rfl)
  eof := fnAt_of X g b (a := 89) (c := 88) (pm := .str (Str.ofString "cpy313.token") 364) (by kernel_rfl) (by kernel_rfl) (by kernel_rfl)
  text := fnAt_of X g b (a := 96) (c := 95) (pm := .str (Str.ofString "law_yf0016_01") 584) (by kernel_rfl) (by kernel_rfl) (by kernel_rfl)
  slacks := fnAt_of X g b (a := 103) (c := 102) (pm := .str (Str.ofString "law_yf0016_01") 584) (by kernel_rfl) (by kernel_rfl) (by kernel_rfl)
  chains := fnAt_of X g b (a := 108) (c := 107) (pm := .str (Str.ofString "law_yf0016_01") 584) (by kernel_rfl) (by kernel_rfl) (by kernel_rfl)
  dealt := fnAt_of X g b (a := 113) (c := 112) (pm := .str (Str.ofString "law_yf0016_01") 584) (by kernel_rfl) (by kernel_rfl) (by kernel_rfl)
  tok := by
    obtain ⟨es, n, e, hk, hf⟩ : ∃ es n, (fragK w.params).lookup 66 = some { cls := .type "dict", data := .dict es n } ∧ keysOk w.params es.toList ∧ ∀ y n, tokTable.lookup y = some n → ∃ t, findBy (strKind prog w).is es y = some (.int n t) :=
      ⟨_, _, rfl, by repeat (first | exact trivial | refine ⟨⟨_, _, rfl, rfl⟩, ?_⟩), fun y n h => by
        have hm := lookup_mem h
        simp only [tokTable, List.mem_cons, List.not_mem_nil, or_false, Prod.mk.injEq] at hm
        rcases hm with ⟨rfl, rfl⟩ | ⟨rfl, rfl⟩ | ⟨rfl, rfl⟩ | ⟨rfl, rfl⟩ | ⟨rfl, rfl⟩ | ⟨rfl, rfl⟩ | ⟨rfl, rfl⟩ | ⟨rfl, rfl⟩
        · exact ⟨394, by kernel_rfl⟩
        · exact ⟨396, by kernel_rfl⟩
        · exact ⟨412, by kernel_rfl⟩
        · exact ⟨414, by kernel_rfl⟩
        · exact ⟨420, by kernel_rfl⟩
        · exact ⟨422, by kernel_rfl⟩
        · exact ⟨442, by kernel_rfl⟩
        · exact ⟨444, by kernel_rfl⟩⟩
    exact ⟨66, _, gis_K X g b (by kernel_rfl), ⟨_, es, n, X _ _ e, ⟨rfl, rfl, rfl⟩, rfl, fun e he => by
      obtain ⟨x, t, h1, h2⟩ := keysOk_mem hk e (by simpa using he)
      exact ⟨x, by rw [h1]; exact strKind_is prog w x t, h2⟩, fun _ => rfl⟩, hf⟩
  nt := ⟨_, gis_K X g b (v := .int 256 _) rfl⟩
  em := ⟨_, gis_K X g b (v := .int 0 366) (by kernel_rfl)⟩
  pat := ⟨36, gis_K X g b (by kernel_rfl), ⟨_, _, X 36 _ rfl, rfl, rfl, rfl, rfl, rfl, 35, _, _, _, rfl, X 35 _ rfl, rfl, by decide +kernel⟩⟩
end Mine
end
section
namespace Mine

/-! ## Rules for running the evaluator by hand -/
section
variable {Φ : Funs} {n : Nat} {κ : Kd} {ρ : Vs} {a b d : Dat} {p pos pf ap : Pos}

theorem noSlice {lo hi st : Option Expr} {ps : Pos} : ev Φ n κ ρ (.Slice lo hi st ps) = none := by cases n <;> rfl
theorem ev_const {c : Const} {k : Nat} (h : constD c = some d) : ev Φ (n + 1) κ ρ (.Constant c k p) = some d := h
theorem ev_var {x : Str} (hv : isVar κ x = true) (h : ρ x = some d) : ev Φ (n + 1) κ ρ (.Name x p) = some d := (if_pos hv).trans h
theorem ev_glob {x : Str} (hv : isVar κ x = false) (hg : isGlob κ x = true) (h : Φ.cst x = some d) : ev Φ (n + 1) κ ρ (.Name x p) = some d :=
  ((if_neg (by rw [hv]; decide)).trans (if_pos hg)).trans h
theorem two_eq {f : Dat → Dat → Option Dat} {x y : Option Dat} (h1 : x = some a) (h2 : y = some b) (h : f a b = some d) : two f x y = some d := by
  rw [h1, h2]; exact h
theorem bind_eq {α β : Type} {f : α → Option β} {x : Option α} {a : α} {d : Option β} (h1 : x = some a) (h : f a = d) : x.bind f = d := by
  rw [h1]; exact h
theorem ifp {α : Type} {c : Prop} [Decidable c] {x y r : Option α} (hc : c) (h : x = r) : (if c then x else y) = r := (if_pos hc).trans h
theorem ev_bin {l r : Expr} {op : Operator} (h1 : ev Φ n κ ρ l = some a) (h2 : ev Φ n κ ρ r = some b) (h : binD op a b = some d) : ev Φ (n + 1) κ ρ (.BinOp l op r p) = some d := two_eq h1 h2 h
theorem ev_un {x : Expr} {op : UnaryOp} (h1 : ev Φ n κ ρ x = some a) (h : unD op a = some d) : ev Φ (n + 1) κ ρ (.UnaryOp op x p) = some d := bind_eq h1 h
theorem ev_cmp {l r : Expr} {op : CmpOp} (h1 : ev Φ n κ ρ l = some a) (h2 : ev Φ n κ ρ r = some b) (h : cmpD op a b = some d) : ev Φ (n + 1) κ ρ (.Compare l [op] [r] p) = some d := two_eq h1 h2 h
theorem ev_and {x y : Expr} {u v : Bool} (h1 : ev Φ n κ ρ x = some (.bool u)) (h2 : ev Φ n κ ρ y = some (.bool v)) : ev Φ (n + 1) κ ρ (.BoolOp .And [x, y] p) = some (.bool (u && v)) := by
  refine bind_eq (bind_eq h1 rfl) ?_
  cases u with
  | false => rfl
  | true => exact bind_eq h2 rfl
theorem as_nil {α β : Type} {f : α → Option β} : allSome f [] = some [] := rfl
theorem as_cons {α β : Type} {f : α → Option β} {x : α} {l : List α} {y : β} {ys : List β} (h1 : f x = some y) (h2 : allSome f l = some ys) : allSome f (x :: l) = some (y :: ys) := by
  rw [allSome, h1, h2]
theorem ev_list {es : List Expr} {ds : List Dat} (h : allSome (ev Φ n κ ρ) es = some ds) (hc : ds.all imm = true ∧ ds.length ≤ lineMax) : ev Φ (n + 1) κ ρ (.List es p) = some (.list ds) := bind_eq h (if_pos hc)
theorem pt_none : partE (ev Φ n) κ ρ none = some none := rfl
theorem pt_some {e : Expr} (h : ev Φ n κ ρ e = some d) (hi : imm d = true) : partE (ev Φ n) κ ρ (some e) = some (some d) := by
  rw [partE, h]; exact if_pos hi
theorem ev_slice {x : Str} {lo hi st : Option Expr} {o : Dat} {l u k : Option Dat} {ps : Pos} (hv : isVar κ x = true) (h : ρ x = some o) (h1 : partE (ev Φ n) κ ρ lo = some l) (h2 : partE (ev Φ n) κ ρ hi = some u) (h3 : partE (ev Φ n) κ ρ st = some k) (hs : sliceD o l u k = some d) :
    ev Φ (n + 1) κ ρ (.Subscript (.Name x p) (.Slice lo hi st ps) pos) = some d :=
  (if_pos hv).trans (bind_eq h (bind_eq h1 (bind_eq h2 (bind_eq h3 hs))))
theorem slE_ev {i : Expr} (h : ev Φ n κ ρ i = some b) : slE i = none := by
  cases hs : slE i with
  | none => rfl
  | some z => obtain ⟨p, rfl⟩ := slE_inv (l := z.1) (h := z.2.1) (k := z.2.2) hs; rw [noSlice] at h; exact nn h
theorem ev_subs {o i : Expr} (h : ev Φ n κ ρ i = some b) (h2 : itemF Φ (ev Φ n) κ ρ o i = some d) : ev Φ (n + 1) κ ρ (.Subscript o i pos) = some d := by
  show (slE i).elim _ _ = _
  rw [slE_ev h]; exact h2
theorem ev_dct {x : Str} {i : Expr} (hg : isGlob κ x = true) (h1 : ev Φ n κ ρ i = some b) (h : Φ.dct x b = some d) : ev Φ (n + 1) κ ρ (.Subscript (.Name x p) i pos) = some d :=
  ev_subs h1 ((if_pos hg).trans (bind_eq h1 h))
theorem ev_itemv {x : Str} {i : Expr} (hg : isGlob κ x = false) (hv : isVar κ x = true) (h0 : ρ x = some a) (h1 : ev Φ n κ ρ i = some b) (h : itemD a b = some d) : ev Φ (n + 1) κ ρ (.Subscript (.Name x p) i pos) = some d :=
  ev_subs h1 (((if_neg (by rw [hg]; decide)).trans (if_pos hv)).trans (two_eq h0 h1 h))
noncomputable def notName (e : Expr) : Bool := (nameE e).isNone
theorem ev_item {o i : Expr} (hn : notName o = true) (h0 : ev Φ n κ ρ o = some a) (h1 : ev Φ n κ ρ i = some b) (h : itemD a b = some d) : ev Φ (n + 1) κ ρ (.Subscript o i pos) = some d := by
  refine ev_subs h1 ?_
  show (nameE o).elim _ _ = _
  rw [Option.isNone_iff_eq_none.mp hn]
  exact two_eq h0 h1 h
theorem ev_fn {f : Str} {args : List Expr} {vals : List Dat} (hg : isGlob κ f = true) (hf : (f == ("isinstance" : Str)) = false ∧ builtNames.contains f = false) (hne : args.isEmpty = false) (h1 : allSome (ev Φ n κ ρ) args = some vals) (h : Φ.fn f vals = some d) :
    ev Φ (n + 1) κ ρ (.Call (.Name f pf) args [] pos) = some d :=
  (((if_neg (by rw [hg]; decide)).trans (if_neg (by simpa using hf.1))).trans (if_neg (by rw [hne]; decide))).trans (bind_eq h1 ((if_neg (by rw [hf.2]; decide)).trans h))
theorem ev_built {f : Str} {args : List Expr} {vals : List Dat} (hg : isGlob κ f = true) (hf : (f == ("isinstance" : Str)) = false ∧ builtNames.contains f = true) (hne : args.isEmpty = false) (h1 : allSome (ev Φ n κ ρ) args = some vals) (h : builtD f vals = some d) :
    ev Φ (n + 1) κ ρ (.Call (.Name f pf) args [] pos) = some d :=
  (((if_neg (by rw [hg]; decide)).trans (if_neg (by simpa using hf.1))).trans (if_neg (by rw [hne]; decide))).trans (bind_eq h1 ((if_pos hf.2).trans h))
theorem ev_isinst {e : Expr} {bp : Pos} {t : Bool} (hg : isGlob κ ("isinstance" : Str) = true) (hb : isGlob κ ("bool" : Str) = true) (h1 : ev Φ n κ ρ e = some a) (h : (match a with | .bool _ => some true | .int _ => some false | _ => none) = some t) :
    ev Φ (n + 1) κ ρ (.Call (.Name "isinstance" pf) [e, .Name "bool" bp] [] pos) = some (.bool t) := by
  refine ((if_neg (by rw [hg]; decide)).trans (if_pos rfl)).trans ((if_pos ⟨rfl, hb⟩).trans (bind_eq h1 ?_))
  cases a <;> first | (cases h; rfl; done) | (cases h; done)
theorem ev_meth {o : Expr} {m : Str} {args : List Expr} {vals : List Dat} (hl : (ap.endLine == pos.line) = true) (hm : (m == ("replace" : Str)) = false ∧ (m == ("sub" : Str)) = false) (h0 : ev Φ n κ ρ o = some a) (h1 : allSome (ev Φ n κ ρ) args = some vals) (h : methD m a vals = some d) :
    ev Φ (n + 1) κ ρ (.Call (.Attribute o m ap) args [] pos) = some d :=
  (((if_neg (by rw [hl]; decide)).trans (if_neg (by simpa using hm.1))).trans (if_neg (by simpa using hm.2))).trans (bind_eq h0 (bind_eq h1 h))
theorem ev_replace {o : Expr} {y z x : Str} {p1 p2 : Pos} {c1 c2 : Nat} (hl : (ap.endLine == pos.line) = true) (h0 : ev Φ n κ ρ o = some (.str x)) (hc : (y == z) = false ∧ x.length ≤ 1000 ∧ z.length ≤ 14) :
    ev Φ (n + 1) κ ρ (.Call (.Attribute o "replace" ap) [.Constant (.str y) c1 p1, .Constant (.str z) c2 p2] [] pos) = some (.str (Txt.replace x y z)) :=
  ((if_neg (by rw [hl]; decide)).trans (if_pos rfl)).trans (bind_eq (bind_eq h0 rfl) (if_pos hc))
theorem ev_sub {e : Expr} {qp cp : Pos} {kc : Nat} {x r : Array UInt8} (hl : (ap.endLine == pos.line) = true) (hg : isGlob κ ("_quoted" : Str) = true) (h1 : ev Φ n κ ρ e = some (.bytes x)) (h : Φ.sub x = some r) :
    ev Φ (n + 1) κ ρ (.Call (.Attribute (.Name "_quoted" qp) "sub" ap) [.Constant (.bytes []) kc cp, e] [] pos) = some (.bytes r) := by
  refine (((if_neg (by rw [hl]; decide)).trans (if_neg (show ¬ ("sub" : Str) = ("replace" : Str) by decide +kernel))).trans (if_pos rfl)).trans ((if_pos ⟨rfl, hg⟩).trans (bind_eq (bind_eq h1 rfl) ?_))
  rw [h]; rfl
theorem ev_comp {elt iter : Expr} {x : Str} {px : Pos} {ifs : List Expr} {scope : Scope} {items ds : List Dat} (hc : compOk κ scope [x] = true) (h1 : iterE (ev Φ n) κ ρ iter = some items) (h2 : compRun (ev Φ n) (relab scope κ) ρ x elt ifs items = some ds) (hl : ds.length ≤ lineMax) :
    ev Φ (n + 1) κ ρ (.ListComp elt [⟨.Name x px, iter, ifs, 0⟩] scope pos) = some (.list ds) :=
  (if_pos hc).trans (bind_eq h1 (bind_eq h2 (if_pos hl)))
theorem ev_comp2 {elt iter iter2 : Expr} {x y : Str} {px py : Pos} {scope : Scope} {items ds : List Dat} (hc : (compOk κ scope [x, y] && !(x == y)) = true) (h1 : itemsD (ev Φ n κ ρ iter) = some items) (h2 : compRun2 (ev Φ n) (relab scope κ) ρ x y iter2 elt items = some ds) (hl : ds.length ≤ lineMax) :
    ev Φ (n + 1) κ ρ (.ListComp elt [⟨.Name x px, iter, [], 0⟩, ⟨.Name y py, iter2, [], 0⟩] scope pos) = some (.list ds) :=
  (if_pos ⟨hc, rfl, rfl⟩).trans (bind_eq h1 (bind_eq h2 (if_pos hl)))
theorem it_range {args : List Expr} {vals items : List Dat} (hg : isGlob κ ("range" : Str) = true) (h1 : allSome (ev Φ n κ ρ) args = some vals) (h : rangeD vals = some items) : iterE (ev Φ n) κ ρ (.Call (.Name "range" pf) args [] pos) = some items := by
  unfold iterE
  rw [rngE_rg]
  exact (if_pos hg).trans (bind_eq h1 h)
theorem it_var {x : Str} (h : ev Φ n κ ρ (.Name x p) = some (.list ds)) : iterE (ev Φ n) κ ρ (.Name x p) = some ds := by
  show itemsD _ = _
  rw [h]; rfl
theorem it_list {es : List Expr} (h : ev Φ n κ ρ (.List es p) = some (.list ds)) : iterE (ev Φ n) κ ρ (.List es p) = some ds := by
  show itemsD _ = _
  rw [h]; rfl
/-! comprehensions over an explicit list -/
theorem cr_nil {rec : Kd → Vs → Expr → Option Dat} {κ' : Kd} {x : Str} {elt : Expr} {ifs : List Expr} : compRun rec κ' ρ x elt ifs [] = some [] := rfl
theorem cr_cons {rec : Kd → Vs → Expr → Option Dat} {κ' : Kd} {x : Str} {elt : Expr} {v : Dat} {r ds : List Dat} (h1 : rec κ' (inComp κ' ρ (bind1 x v nob)) elt = some d) (h2 : (freshE elt || imm d) = true) (h3 : compRun rec κ' ρ x elt [] r = some ds) :
    compRun rec κ' ρ x elt [] (v :: r) = some (d :: ds) := by
  rw [compRun]
  dsimp only [compTest]
  rw [h1]
  dsimp only
  rw [if_pos h2, h3]
theorem cr_yes {rec : Kd → Vs → Expr → Option Dat} {κ' : Kd} {x : Str} {elt c : Expr} {v : Dat} {r ds : List Dat} (h0 : truE rec κ' (inComp κ' ρ (bind1 x v nob)) c = some true) (h1 : rec κ' (inComp κ' ρ (bind1 x v nob)) elt = some d) (h2 : (freshE elt || imm d) = true) (h3 : compRun rec κ' ρ x elt [c] r = some ds) :
    compRun rec κ' ρ x elt [c] (v :: r) = some (d :: ds) := by
  rw [compRun, compTest, h0]
  dsimp only
  rw [h1]
  dsimp only
  rw [if_pos h2, h3]
theorem cr_no {rec : Kd → Vs → Expr → Option Dat} {κ' : Kd} {x : Str} {elt c : Expr} {v : Dat} {r ds : List Dat} (h0 : truE rec κ' (inComp κ' ρ (bind1 x v nob)) c = some false) (h3 : compRun rec κ' ρ x elt [c] r = some ds) :
    compRun rec κ' ρ x elt [c] (v :: r) = some ds := by
  rw [compRun, compTest, h0]
  exact h3
theorem ic_loc {κ' : Kd} {bb : Str → Option Dat} {y : Str} (h : κ' y = some .local) (h2 : bb y = some d) : inComp κ' ρ bb y = some d := by
  unfold inComp; rw [h]; exact h2
theorem ic_free {κ' : Kd} {bb : Str → Option Dat} {y : Str} (h : κ' y = some .free ∨ κ' y = some .cell) (h2 : ρ y = some d) : inComp κ' ρ bb y = some d := by
  unfold inComp; rcases h with h | h <;> (rw [h]; exact h2)
theorem b1_eq {x : Str} {v : Dat} {bb : Str → Option Dat} : bind1 x v bb x = some v := if_pos rfl
theorem b1_ne {x y : Str} {v : Dat} {bb : Str → Option Dat} (h : (y == x) = false) (h2 : bb y = some d) : bind1 x v bb y = some d := by
  unfold bind1; rw [if_neg (by simpa using h)]; exact h2
theorem ρ_of {σ : Sg} {x : Str} {o : Bool} (h : gv σ x = some (d, o)) : ρof σ x = some d := gv_var h
theorem gv_eq {σ : Sg} {x : Str} {v : Dat × Bool} : gv (sv σ x v) x = some v := by rw [gv_sv, if_pos rfl]
theorem gv_ne {σ : Sg} {x y : Str} {v : Dat × Bool} {r : Option (Dat × Bool)} (h : (y == x) = false) (h2 : gv σ y = r) : gv (sv σ x v) y = r := by rw [gv_sv, if_neg (by simpa using h)]; exact h2
/-! tests -/
theorem tr_cmp {l r : Expr} {op : CmpOp} {t : Bool} (h1 : ev Φ n κ ρ l = some a) (h2 : ev Φ n κ ρ r = some b) (h : cmpD op a b = some (.bool t)) : truE (ev Φ n) κ ρ (.Compare l [op] [r] p) = some t := by
  exact bind_eq h1 (bind_eq h2 (bind_eq h rfl))
theorem tr_name {x : Str} {t : Bool} (h1 : ev Φ n κ ρ (.Name x p) = some a) (h : truD a = some t) : truE (ev Φ n) κ ρ (.Name x p) = some t := by
  exact bind_eq h1 h
theorem tr_call {f : Expr} {args : List Expr} {t : Bool} (h1 : ev Φ n κ ρ (.Call f args [] pos) = some a) (h : truD a = some t) : truE (ev Φ n) κ ρ (.Call f args [] pos) = some t := by
  exact bind_eq h1 h
theorem al_nil : allE (ev Φ n) κ ρ [] = some true := rfl
theorem al_yes {e : Expr} {r : List Expr} {t : Bool} (h : truE (ev Φ n) κ ρ e = some true) (h2 : allE (ev Φ n) κ ρ r = some t) : allE (ev Φ n) κ ρ (e :: r) = some t := by
  rw [allE, h]; exact h2
theorem al_no {e : Expr} {r : List Expr} (h : truE (ev Φ n) κ ρ e = some false) : allE (ev Φ n) κ ρ (e :: r) = some false := by
  rw [allE, h]
theorem an_nil : anyE (ev Φ n) κ ρ [] = some false := rfl
theorem an_no {e : Expr} {r : List Expr} {t : Bool} (h : truE (ev Φ n) κ ρ e = some false) (h2 : anyE (ev Φ n) κ ρ r = some t) : anyE (ev Φ n) κ ρ (e :: r) = some t := by
  rw [anyE, h]; exact h2
theorem ts_and {es : List Expr} {t : Bool} (h : allE (ev Φ n) κ ρ es = some t) : tst (ev Φ n) κ ρ (.BoolOp .And es p) = some t := h
theorem ts_or {es : List Expr} {t : Bool} (h : anyE (ev Φ n) κ ρ es = some t) : tst (ev Φ n) κ ρ (.BoolOp .Or es p) = some t := h
theorem ts_cmp {l : Expr} {ops : List CmpOp} {r : List Expr} {t : Bool} (h : truE (ev Φ n) κ ρ (.Compare l ops r p) = some t) : tst (ev Φ n) κ ρ (.Compare l ops r p) = some t := h
theorem ts_call {f : Expr} {args : List Expr} {kw : List Keyword} {t : Bool} (h : truE (ev Φ n) κ ρ (.Call f args kw p) = some t) : tst (ev Φ n) κ ρ (.Call f args kw p) = some t := h
theorem ts_name {x : Str} {t : Bool} (h : truE (ev Φ n) κ ρ (.Name x p) = some t) : tst (ev Φ n) κ ρ (.Name x p) = some t := h
end
end Mine
end
section
namespace Mine

section
variable {Φ : Funs} {N W n : Nat} {hk : Hook} {κ : Kd} {σ σ' : Sg} {run : List Stmt → Sg → Option (Fl × Sg)} {a b d : Dat} {p pos px pl pi ap : Pos} {st : Stmt} {rest : List Stmt} {r : Option (Fl × Sg)}

theorem x_nil : exs Φ N W hk κ (n + 1) [] σ = some (.next, σ) := rfl
theorem x_next (h1 : ex1 Φ N W hk κ (exs Φ N W hk κ n) st σ = some (.next, σ')) (h2 : exs Φ N W hk κ n rest σ' = r) : exs Φ N W hk κ (n + 1) (st :: rest) σ = r := by
  rw [exs, h1]; exact h2
theorem x_ret (h1 : ex1 Φ N W hk κ (exs Φ N W hk κ n) st σ = some (.ret d, σ')) : exs Φ N W hk κ (n + 1) (st :: rest) σ = some (.ret d, σ') := by
  rw [exs, h1]
theorem e_hook (h : hk κ st σ = some σ') : ex1 Φ N W hk κ run st σ = some (.next, σ') := by
  unfold ex1; rw [h]; rfl
theorem e_no (h : hk κ st σ = none) {r : Option (Fl × Sg)} (q : exF Φ N W κ run σ st = r) : ex1 Φ N W hk κ run st σ = r := by
  unfold ex1; rw [h]; exact q
theorem e_assign {x : Str} {value : Expr} (h0 : hk κ (.Assign [.Name x px] value pos) σ = none) (hc : canBind κ x = true) (h : ev Φ N κ (ρof σ) value = some d) (hf : (freshE value || imm d) = true) :
    ex1 Φ N W hk κ run (.Assign [.Name x px] value pos) σ = some (.next, sv σ x (d, true)) := by
  exact e_no h0 ((if_pos hc).trans (bind_eq h (if_pos hf)))
theorem e_set {l : Str} {i value : Expr} {ds ds' : List Dat} {iv : Dat} (h0 : hk κ (.Assign [.Subscript (.Name l pl) i pi] value pos) σ = none) (hc : isComp value = false ∧ isVar κ l = true) (h1 : ev Φ N κ (ρof σ) value = some d) (h2 : gv σ l = some (.list ds, true)) (h3 : ev Φ N κ (ρof σ) i = some iv)
    (hi : imm d = true) (hs : setAt iv ds d = some ds') : ex1 Φ N W hk κ run (.Assign [.Subscript (.Name l pl) i pi] value pos) σ = some (.next, sv σ l (.list ds', true)) := by
  exact e_no h0 ((if_pos hc).trans (bind_eq h1 (bind_eq (bind_eq h2 rfl) (bind_eq h3 ((if_pos hi).trans (bind_eq hs rfl))))))
theorem e_set2 {l : Str} {i j value : Expr} {rows row row' : List Dat} {iv : Int} {jv : Dat} {pj : Pos} (h0 : hk κ (.Assign [.Subscript (.Subscript (.Name l pl) i pi) j pj] value pos) σ = none) (hc : isComp value = false ∧ isVar κ l = true) (h1 : ev Φ N κ (ρof σ) value = some d)
    (h2 : gv σ l = some (.list rows, true)) (h3 : ev Φ N κ (ρof σ) i = some (.int iv)) (h4 : ev Φ N κ (ρof σ) j = some jv) (hi : imm d = true) (hr : itemD (.list rows) (.int iv) = some (.list row)) (hs : setAt jv row d = some row') :
    ex1 Φ N W hk κ run (.Assign [.Subscript (.Subscript (.Name l pl) i pi) j pj] value pos) σ = some (.next, sv σ l (.list (rows.set iv.toNat (.list row')), true)) := by
  exact e_no h0 ((if_pos hc).trans (bind_eq h1 (bind_eq (bind_eq h2 rfl) (bind_eq (bind_eq h3 rfl) (bind_eq h4 ((if_pos hi).trans (bind_eq (bind_eq hr rfl) (bind_eq hs rfl))))))))
theorem e_aug {x : Str} {op : Operator} {e : Expr} {o : Bool} {c : Dat} (h0 : hk κ (.AugAssign (.Name x px) op e pos) σ = none) (hc : canBind κ x = true) (h1 : gv σ x = some (a, o)) (h2 : ev Φ N κ (ρof σ) e = some b) (h : augD op a b = some c) :
    ex1 Φ N W hk κ run (.AugAssign (.Name x px) op e pos) σ = some (.next, sv σ x (c, true)) := by
  exact e_no h0 ((if_pos hc).trans (bind_eq h1 (bind_eq h2 (bind_eq h rfl))))
theorem e_augsub {l i : Str} {op : Operator} {e : Expr} {o : Bool} {ds ds' : List Dat} {iv c : Dat} {ps : Pos} (h0 : hk κ (.AugAssign (.Subscript (.Name l pl) (.Name i pi) ps) op e pos) σ = none) (hc : isVar κ l = true ∧ isVar κ i = true) (h1 : gv σ l = some (.list ds, true)) (h2 : gv σ i = some (iv, o))
    (h3 : ev Φ N κ (ρof σ) e = some b) (h4 : itemD (.list ds) iv = some a) (h5 : augD op a b = some c) (h6 : setAt iv ds c = some ds') : ex1 Φ N W hk κ run (.AugAssign (.Subscript (.Name l pl) (.Name i pi) ps) op e pos) σ = some (.next, sv σ l (.list ds', true)) := by
  exact e_no h0 ((if_pos hc).trans (bind_eq (bind_eq h1 rfl) (bind_eq h2 (bind_eq h3 (bind_eq h4 (bind_eq h5 (bind_eq h6 rfl)))))))
theorem e_append {l : Str} {e : Expr} {ds : List Dat} (h0 : hk κ (.Expr (.Call (.Attribute (.Name l pl) "append" ap) [e] [] pos) p) σ = none) (hc : isVar κ l = true ∧ (ap.endLine == pos.line) = true) (h1 : gv σ l = some (.list ds, true)) (h2 : ev Φ N κ (ρof σ) e = some d)
    (h : imm d = true ∧ ds.length ≤ lineMax ∧ ds.all imm = true) : ex1 Φ N W hk κ run (.Expr (.Call (.Attribute (.Name l pl) "append" ap) [e] [] pos) p) σ = some (.next, sv σ l (.list (ds ++ [d]), true)) := by
  exact e_no h0 ((if_pos ⟨rfl, hc⟩).trans (bind_eq (bind_eq h1 rfl) (bind_eq h2 ((if_pos rfl).trans (if_pos h)))))
theorem e_extend {l : Str} {e : Expr} {ds es : List Dat} (h0 : hk κ (.Expr (.Call (.Attribute (.Name l pl) "extend" ap) [e] [] pos) p) σ = none) (hc : isVar κ l = true ∧ (ap.endLine == pos.line) = true) (h1 : gv σ l = some (.list ds, true)) (h2 : ev Φ N κ (ρof σ) e = some (.list es))
    (h : es.all imm = true ∧ freshE e = true ∧ ds.length + es.length ≤ lineMax ∧ ds.all imm = true) : ex1 Φ N W hk κ run (.Expr (.Call (.Attribute (.Name l pl) "extend" ap) [e] [] pos) p) σ = some (.next, sv σ l (.list (ds ++ es), true)) := by
  exact e_no h0 ((if_pos ⟨rfl, hc⟩).trans (bind_eq (bind_eq h1 rfl) (bind_eq h2 ((if_neg (show ¬ ("extend" : Str) = ("append" : Str) by decide +kernel)).trans ((if_pos rfl).trans (bind_eq (show lstD (.list es) = some es from rfl) (if_pos h)))))))
theorem e_if_t {test : Expr} {body orelse : List Stmt} (h0 : hk κ (.If test body orelse pos) σ = none) (h : tst (ev Φ N) κ (ρof σ) test = some true) (h2 : run body σ = r) : ex1 Φ N W hk κ run (.If test body orelse pos) σ = r := by
  exact e_no h0 (bind_eq h h2)
theorem e_if_f {test : Expr} {body orelse : List Stmt} (h0 : hk κ (.If test body orelse pos) σ = none) (h : tst (ev Φ N) κ (ρof σ) test = some false) (h2 : run orelse σ = r) : ex1 Φ N W hk κ run (.If test body orelse pos) σ = r := by
  exact e_no h0 (bind_eq h h2)
theorem e_for_var {x l : Str} {body : List Stmt} {items : List Dat} {o : Bool} (h0 : hk κ (.For (.Name x px) (.Name l pl) body [] pos) σ = none) (hc : canBind κ x = true ∧ isVar κ l = true) (h1 : gv σ l = some (.list items, o)) (hi : items.all imm = true)
    (h : forL (run body) x items (sv σ l (.list items, false)) = r) : ex1 Φ N W hk κ run (.For (.Name x px) (.Name l pl) body [] pos) σ = r := by
  refine e_no h0 ?_
  show (if canBind κ x = true then forN κ run σ x body l else none) = r
  refine ifp hc.1 ?_
  show (if isVar κ l = true then (gv σ l).bind _ else none) = r
  exact ifp hc.2 (bind_eq h1 (show (if items.all imm = true then _ else none) = r from ifp hi h))
theorem e_for_list {x : Str} {es : List Expr} {body : List Stmt} {items : List Dat} (h0 : hk κ (.For (.Name x px) (.List es pl) body [] pos) σ = none) (hc : canBind κ x = true) (h1 : ev Φ N κ (ρof σ) (.List es pl) = some (.list items)) (hi : items.all imm = true)
    (h : forL (run body) x items σ = r) : ex1 Φ N W hk κ run (.For (.Name x px) (.List es pl) body [] pos) σ = r := by
  refine e_no h0 ?_
  show (if canBind κ x = true then forS Φ N κ run σ x body (.List es pl) else none) = r
  refine ifp hc ?_
  show ((ev Φ N κ (ρof σ) (.List es pl)).bind lstD).bind _ = r
  exact bind_eq (bind_eq h1 rfl) (show (if items.all imm = true then _ else none) = r from ifp hi h)
theorem e_for_range {x : Str} {args : List Expr} {body : List Stmt} {vals items : List Dat} (h0 : hk κ (.For (.Name x px) (.Call (.Name "range" pl) args [] pi) body [] pos) σ = none) (hc : canBind κ x = true ∧ isGlob κ ("range" : Str) = true) (h1 : allSome (ev Φ N κ (ρof σ)) args = some vals) (h2 : rangeD vals = some items)
    (h : forL (run body) x items σ = r) : ex1 Φ N W hk κ run (.For (.Name x px) (.Call (.Name "range" pl) args [] pi) body [] pos) σ = r := by
  refine e_no h0 ?_
  show (if canBind κ x = true then forR Φ N κ run σ x body (.Name "range" pl, args, [], pi) else none) = r
  refine ifp hc.1 ?_
  show (if ([] : List Keyword).isEmpty = true ∧ ("range" : Str) = ("range" : Str) ∧ isGlob κ ("range" : Str) = true then ((allSome (ev Φ N κ (ρof σ)) args).bind rangeD).bind (fun items => forL (run body) x items σ) else none) = r
  exact ifp ⟨rfl, rfl, hc.2⟩ (bind_eq (bind_eq h1 h2) h)
theorem e_while {test : Expr} {body : List Stmt} (h0 : hk κ (.While test body [] pos) σ = none) (h : whileL (fun σ => tst (ev Φ N) κ (ρof σ) test) (run body) W σ = r) : ex1 Φ N W hk κ run (.While test body [] pos) σ = r := by
  exact e_no h0 h
theorem e_return {e : Expr} (h0 : hk κ (.Return (some e) pos) σ = none) (h : ev Φ N κ (ρof σ) e = some d) (hf : (freshE e || imm d || ownName σ e) = true) : ex1 Φ N W hk κ run (.Return (some e) pos) σ = some (.ret d, σ) := by
  exact e_no h0 (bind_eq h (if_pos hf))
theorem f_nil {body : Sg → Option (Fl × Sg)} {x : Str} : forL body x [] σ = some (.next, σ) := rfl
theorem f_next {body : Sg → Option (Fl × Sg)} {x : Str} {l : List Dat} (h1 : body (sv σ x (d, true)) = some (.next, σ')) (h2 : forL body x l σ' = r) : forL body x (d :: l) σ = r := by
  rw [forL, h1]; exact h2
theorem w_yes {test : Sg → Option Bool} {body : Sg → Option (Fl × Sg)} (h : test σ = some true) (h1 : body σ = some (.next, σ')) (h2 : whileL test body n σ' = r) : whileL test body (n + 1) σ = r := by
  rw [whileL, h]; dsimp only; rw [h1]; exact h2
theorem w_ret {test : Sg → Option Bool} {body : Sg → Option (Fl × Sg)} (h : test σ = some true) (h1 : body σ = some (.ret d, σ')) : whileL test body (n + 1) σ = some (.ret d, σ') := by
  rw [whileL, h]; dsimp only; rw [h1]
theorem w_no {test : Sg → Option Bool} {body : Sg → Option (Fl × Sg)} (h : test σ = some false) : whileL test body (n + 1) σ = some (.next, σ) := by
  rw [whileL, h]
end
end Mine
end
section
namespace Mine

noncomputable def RT (Φ : Funs) (N W : Nat) (hk : Hook) (κ : Kd) (n : Nat) (stmts : List Stmt) (σ : Sg) (P : Fl × Sg → Prop) : Prop := ∃ r, exs Φ N W hk κ n stmts σ = some r ∧ P r
noncomputable def ST (Φ : Funs) (N W : Nat) (hk : Hook) (κ : Kd) (run : List Stmt → Sg → Option (Fl × Sg)) (st : Stmt) (σ : Sg) (P : Fl × Sg → Prop) : Prop := ∃ r, ex1 Φ N W hk κ run st σ = some r ∧ P r
noncomputable def nx (P : Sg → Prop) (r : Fl × Sg) : Prop := match r with
  | (.next, σ) => P σ
  | _ => False

section
variable {Φ : Funs} {N W n : Nat} {hk : Hook} {κ : Kd} {σ σ' : Sg} {run : List Stmt → Sg → Option (Fl × Sg)} {a b d : Dat} {p pos px pl pi ap : Pos} {st : Stmt} {rest : List Stmt} {P : Fl × Sg → Prop} {Q : Sg → Prop}

theorem rt_nil (h : P (.next, σ)) : RT Φ N W hk κ (n + 1) [] σ P := ⟨_, rfl, h⟩
theorem rt_next (h1 : ex1 Φ N W hk κ (exs Φ N W hk κ n) st σ = some (.next, σ')) (h2 : RT Φ N W hk κ n rest σ' P) : RT Φ N W hk κ (n + 1) (st :: rest) σ P := by
  obtain ⟨r, e, h⟩ := h2
  exact ⟨r, x_next h1 e, h⟩
theorem rt_ret (h1 : ex1 Φ N W hk κ (exs Φ N W hk κ n) st σ = some (.ret d, σ')) (h : P (.ret d, σ')) : RT Φ N W hk κ (n + 1) (st :: rest) σ P := ⟨_, x_ret h1, h⟩
theorem rt_st (h : ST Φ N W hk κ (exs Φ N W hk κ n) st σ (nx fun σ' => RT Φ N W hk κ n rest σ' P)) : RT Φ N W hk κ (n + 1) (st :: rest) σ P := by
  obtain ⟨⟨f, σ'⟩, e, h⟩ := h
  cases f with
  | next => exact rt_next e h
  | ret d => exact h.elim
theorem st_mono {P' : Fl × Sg → Prop} (h : ST Φ N W hk κ run st σ P) (k : ∀ r, P r → P' r) : ST Φ N W hk κ run st σ P' := let ⟨r, e, x⟩ := h; ⟨r, e, k r x⟩
theorem rt_mono {P' : Fl × Sg → Prop} (h : RT Φ N W hk κ n rest σ P) (k : ∀ r, P r → P' r) : RT Φ N W hk κ n rest σ P' := let ⟨r, e, x⟩ := h; ⟨r, e, k r x⟩
theorem nx_mono {Q' : Sg → Prop} {r : Fl × Sg} (h : nx Q r) (k : ∀ σ, Q σ → Q' σ) : nx Q' r := by
  obtain ⟨f, σ⟩ := r
  cases f with
  | next => exact k σ h
  | ret d => exact h.elim
/-- a guard that is not taken -/
theorem st_guard {test : Expr} {body : List Stmt} (h0 : hk κ (.If test body [] pos) σ = none) (h : tst (ev Φ N) κ (ρof σ) test = some false) (h2 : Q σ) : ST Φ N W hk κ (exs Φ N W hk κ (n + 1)) (.If test body [] pos) σ (nx Q) :=
  ⟨(.next, σ), e_if_f h0 h x_nil, h2⟩
theorem rt_guard {test : Expr} {body : List Stmt} (h0 : hk κ (.If test body [] pos) σ = none) (h : tst (ev Φ N) κ (ρof σ) test = some false) (h2 : RT Φ N W hk κ (n + 1) rest σ P) : RT Φ N W hk κ (n + 1 + 1) (.If test body [] pos :: rest) σ P :=
  rt_next (e_if_f h0 h x_nil) h2
theorem st_if_t {test : Expr} {body orelse : List Stmt} (h0 : hk κ (.If test body orelse pos) σ = none) (h : tst (ev Φ N) κ (ρof σ) test = some true) (h2 : RT Φ N W hk κ n body σ P) : ST Φ N W hk κ (exs Φ N W hk κ n) (.If test body orelse pos) σ P := by
  obtain ⟨r, e, x⟩ := h2
  exact ⟨r, e_if_t h0 h e, x⟩
theorem st_if_f {test : Expr} {body orelse : List Stmt} (h0 : hk κ (.If test body orelse pos) σ = none) (h : tst (ev Φ N) κ (ρof σ) test = some false) (h2 : RT Φ N W hk κ n orelse σ P) : ST Φ N W hk κ (exs Φ N W hk κ n) (.If test body orelse pos) σ P := by
  obtain ⟨r, e, x⟩ := h2
  exact ⟨r, e_if_f h0 h e, x⟩

theorem forL_inv {body : Sg → Option (Fl × Sg)} {x : Str} (I : Nat → Sg → Prop) : ∀ (items : List Dat) (i : Nat) (σ : Sg), (∀ j d σ, items[j]? = some d → I (i + j) σ → ∃ σ', body (sv σ x (d, true)) = some (.next, σ') ∧ I (i + j + 1) σ') → I i σ →
    ∃ σ', forL body x items σ = some (.next, σ') ∧ I (i + items.length) σ'
  | [], i, σ, _, h => ⟨σ, rfl, h⟩
  | d :: r, i, σ, hb, h => by
    obtain ⟨σ1, e1, h1⟩ := hb 0 d σ rfl h
    obtain ⟨σ2, e2, h2⟩ := forL_inv I r (i + 1) σ1 (fun j d' σ' e hi => by
      have := hb (j + 1) d' σ' (by simpa using e) (by rw [show i + (j + 1) = i + 1 + j by (first | decide | lia | omega)]; exact hi)
      rw [show i + (j + 1) + 1 = i + 1 + j + 1 by (first | decide | lia | omega)] at this
      exact this) h1
    refine ⟨σ2, f_next e1 e2, ?_⟩
    rw [show i + (d :: r).length = i + 1 + r.length by simp; (first | decide | lia | omega)]
    exact h2
theorem st_for_range {x : Str} {args : List Expr} {body : List Stmt} {vals items : List Dat} (I : Nat → Sg → Prop) (h0 : hk κ (.For (.Name x px) (.Call (.Name "range" pl) args [] pi) body [] pos) σ = none) (hc : canBind κ x = true ∧ isGlob κ ("range" : Str) = true)
    (h1 : allSome (ev Φ N κ (ρof σ)) args = some vals) (h2 : rangeD vals = some items) (hI : I 0 σ) (hb : ∀ j d σ, items[j]? = some d → I j σ → RT Φ N W hk κ n body (sv σ x (d, true)) (nx (I (j + 1)))) (hq : ∀ σ, I items.length σ → Q σ) :
    ST Φ N W hk κ (exs Φ N W hk κ n) (.For (.Name x px) (.Call (.Name "range" pl) args [] pi) body [] pos) σ (nx Q) := by
  obtain ⟨σ', e, h⟩ := forL_inv (body := exs Φ N W hk κ n body) (x := x) I items 0 σ (fun j d σ e hi => by
    obtain ⟨⟨f, σ1⟩, e1, hn⟩ := hb j d σ e (by simpa using hi)
    cases f with
    | next => exact ⟨σ1, e1, by rw [Nat.zero_add]; exact hn⟩
    | ret _ => exact hn.elim) hI
  exact ⟨_, e_for_range h0 hc h1 h2 e, hq σ' (by simpa using h)⟩
theorem st_for_var {x l : Str} {body : List Stmt} {items : List Dat} {o : Bool} (I : Nat → Sg → Prop) (h0 : hk κ (.For (.Name x px) (.Name l pl) body [] pos) σ = none) (hc : canBind κ x = true ∧ isVar κ l = true) (h1 : gv σ l = some (.list items, o)) (hi : items.all imm = true)
    (hI : I 0 (sv σ l (.list items, false))) (hb : ∀ j d σ, items[j]? = some d → I j σ → RT Φ N W hk κ n body (sv σ x (d, true)) (nx (I (j + 1)))) (hq : ∀ σ, I items.length σ → Q σ) :
    ST Φ N W hk κ (exs Φ N W hk κ n) (.For (.Name x px) (.Name l pl) body [] pos) σ (nx Q) := by
  obtain ⟨σ', e, h⟩ := forL_inv (body := exs Φ N W hk κ n body) (x := x) I items 0 _ (fun j d σ e hi => by
    obtain ⟨⟨f, σ1⟩, e1, hn⟩ := hb j d σ e (by simpa using hi)
    cases f with
    | next => exact ⟨σ1, e1, by rw [Nat.zero_add]; exact hn⟩
    | ret _ => exact hn.elim) hI
  exact ⟨_, e_for_var h0 hc h1 hi e, hq σ' (by simpa using h)⟩
theorem st_for_list {x : Str} {es : List Expr} {body : List Stmt} {items : List Dat} (I : Nat → Sg → Prop) (h0 : hk κ (.For (.Name x px) (.List es pl) body [] pos) σ = none) (hc : canBind κ x = true) (h1 : ev Φ N κ (ρof σ) (.List es pl) = some (.list items)) (hi : items.all imm = true)
    (hI : I 0 σ) (hb : ∀ j d σ, items[j]? = some d → I j σ → RT Φ N W hk κ n body (sv σ x (d, true)) (nx (I (j + 1)))) (hq : ∀ σ, I items.length σ → Q σ) :
    ST Φ N W hk κ (exs Φ N W hk κ n) (.For (.Name x px) (.List es pl) body [] pos) σ (nx Q) := by
  obtain ⟨σ', e, h⟩ := forL_inv (body := exs Φ N W hk κ n body) (x := x) I items 0 _ (fun j d σ e hi => by
    obtain ⟨⟨f, σ1⟩, e1, hn⟩ := hb j d σ e (by simpa using hi)
    cases f with
    | next => exact ⟨σ1, e1, by rw [Nat.zero_add]; exact hn⟩
    | ret _ => exact hn.elim) hI
  exact ⟨_, e_for_list h0 hc h1 hi e, hq σ' (by simpa using h)⟩
end

/-! operators -/
theorem o_addi {a b : Int} : binD .Add (.int a) (.int b) = some (.int (a + b)) := rfl
theorem o_subi {a b : Int} : binD .Sub (.int a) (.int b) = some (.int (a - b)) := rfl
theorem o_subb {a b : Bool} : binD .Sub (.bool a) (.bool b) = some (.int (b2i a - b2i b)) := rfl
theorem o_adds {x y : Str} (h : x.length + y.length ≤ 100000) : binD .Add (.str x) (.str y) = some (.str (x ++ y)) := if_pos h
theorem o_addb {x y : Array UInt8} (h : x.size + y.size ≤ 100000) : binD .Add (.bytes x) (.bytes y) = some (.bytes (x ++ y)) := if_pos h
theorem o_addl {xs ys : List Dat} (h : xs.all imm = true ∧ ys.all imm = true ∧ xs.length + ys.length ≤ 100000) : binD .Add (.list xs) (.list ys) = some (.list (xs ++ ys)) := if_pos h
theorem o_fdiv {a b : Int} (h : 0 < b ∧ b < 1073741824) : binD .FloorDiv (.int a) (.int b) = some (.int (a.fdiv b)) := if_pos h
theorem o_mod {a b : Int} (h : 0 < b ∧ b < 1073741824) : binD .Mod (.int a) (.int b) = some (.int (a.fmod b)) := if_pos h
theorem o_muls {x : Str} {n : Int} (h : x.length ≤ 16 ∧ -100 ≤ n ∧ n ≤ 1000) : binD .Mult (.str x) (.int n) = some (.str (Txt.mul x n)) := if_pos h
theorem o_neg {a : Int} : unD .USub (.int a) = some (.int (-a)) := rfl
theorem o_not {a : Bool} : unD .Not (.bool a) = some (.bool (!a)) := rfl
theorem o_lt {a b : Int} : cmpD .Lt (.int a) (.int b) = some (.bool (decide (a < b))) := rfl
theorem o_le {a b : Int} : cmpD .LtE (.int a) (.int b) = some (.bool (decide (a ≤ b))) := rfl
theorem o_gt {a b : Int} : cmpD .Gt (.int a) (.int b) = some (.bool (decide (b < a))) := rfl
theorem o_ge {a b : Int} : cmpD .GtE (.int a) (.int b) = some (.bool (decide (b ≤ a))) := rfl
theorem o_gts {x y : Str} : cmpD .Gt (.str x) (.str y) = some (.bool (decide (y.cps.toList < x.cps.toList))) := rfl
theorem o_lts {x y : Str} : cmpD .Lt (.str x) (.str y) = some (.bool (decide (x.cps.toList < y.cps.toList))) := rfl
theorem o_isb {a b : Bool} : cmpD .Is (.bool a) (.bool b) = some (.bool (a == b)) := rfl
theorem eqv_int (a b : Int) : PyData.eqv (.int a) (.int b) = decide (a = b) := by kernel_rfl
theorem eqv_bool (a b : Bool) : PyData.eqv (.bool a) (.bool b) = (a == b) := by cases a <;> cases b <;> kernel_rfl
theorem o_eqi {a b : Int} : cmpD .Eq (.int a) (.int b) = some (.bool (decide (a = b))) := by
  rw [← eqv_int]; rfl
theorem o_nei {a b : Int} : cmpD .NotEq (.int a) (.int b) = some (.bool (!decide (a = b))) := by
  rw [← eqv_int]; rfl
theorem o_eqb {a b : Bool} : cmpD .Eq (.bool a) (.bool b) = some (.bool (a == b)) := by
  rw [← eqv_bool]; rfl
theorem o_neb {a b : Bool} : cmpD .NotEq (.bool a) (.bool b) = some (.bool (!(a == b))) := by
  rw [← eqv_bool]; rfl
theorem o_len {x : Str} (h : x.length ≤ 100000) : builtD "len" [.str x] = some (.int x.length) := by
  unfold builtD
  rw [if_neg (by decide +kernel), if_pos rfl]
  exact if_pos h
theorem o_lenl {ds : List Dat} (h : ds.length ≤ 100000) : builtD "len" [.list ds] = some (.int ds.length) := by
  unfold builtD
  rw [if_neg (by decide +kernel), if_pos rfl]
  exact if_pos h
theorem o_sum {ds : List Dat} {ns : List Int} (h : ds.length ≤ 100000) (hn : intsOf ds = some ns) : builtD "sum" [.list ds] = some (.int ns.sum) := by
  unfold builtD
  rw [if_pos rfl]
  show (if ds.length ≤ lineMax then (intsOf ds).map _ else none) = _
  rw [if_pos (show ds.length ≤ lineMax from h), hn]; rfl
theorem o_max {a b : Int} : builtD "max" [.int a, .int b] = some (.int (if a < b then b else a)) := by
  unfold builtD
  rw [if_neg (by decide +kernel), if_neg (by decide +kernel), if_neg (by decide +kernel), if_pos rfl]
  rfl
theorem o_lstrip {x y : Str} (h : x.length ≤ 100000) : methD "lstrip" (.str x) [.str y] = some (.str (Txt.lstripChars x y)) := by
  show (if ("lstrip" : Str) = ("lstrip" : Str) then (if x.length ≤ lineMax then some (Dat.str (Txt.lstripChars x y)) else none) else none) = _
  rw [if_pos rfl]; exact if_pos h
theorem o_encode {x : Str} (h : asciiD x = true ∧ x.length ≤ 100000) : methD "encode" (.str x) [] = some (.bytes (x.cps.map (·.toUInt8))) := by
  show (if ("encode" : Str) = ("encode" : Str) then (if asciiD x = true ∧ x.length ≤ lineMax then some (Dat.bytes (x.cps.map (·.toUInt8))) else none) else none) = _
  rw [if_pos rfl]; exact if_pos h
theorem o_auga {a b : Int} : augD .Add (.int a) (.int b) = some (.int (a + b)) := rfl
theorem o_augs {a b : Int} : augD .Sub (.int a) (.int b) = some (.int (a - b)) := rfl

/-- the names that a stage may change -/
noncomputable def Same (js : List Str) (σ σ' : Sg) : Prop := ∀ x, js.contains x = false → gv σ' x = gv σ x
theorem Same.refl {js : List Str} {σ : Sg} : Same js σ σ := fun _ _ => rfl
theorem Same.set {js : List Str} {σ σ' : Sg} {x : Str} {v : Dat × Bool} (h : Same js σ σ') (hx : js.contains x = true) : Same js σ (sv σ' x v) := fun y hy => by
  rw [gv_sv, if_neg (fun e => by rw [e, hx] at hy; cases hy)]
  exact h y hy
theorem Same.get {js : List Str} {σ σ' : Sg} {x : Str} {r : Option (Dat × Bool)} (h : Same js σ σ') (hx : js.contains x = false) (e : gv σ x = r) : gv σ' x = r := (h x hx).trans e
theorem Same.trans {js : List Str} {σ σ' σ'' : Sg} (h : Same js σ σ') (h2 : Same js σ' σ'') : Same js σ σ'' := fun y hy => (h2 y hy).trans (h y hy)
end Mine
end
section
namespace Mine

/-! ## The data of the law -/
noncomputable def nm : Nat → Str
  | 0 => "\""
  | 1 => "("
  | 2 => ")"
  | 3 => "C )"
  | _ => "\\(\\"
noncomputable def line (i a : Nat) : Str := (Txt.mul " " (a : Int) ++ nm i) ++ ("  " : Str)
noncomputable def L5 (f : Nat → Dat) : Dat := .list [f 0, f 1, f 2, f 3, f 4]
noncomputable def l5 (f : Nat → Dat) : List Dat := [f 0, f 1, f 2, f 3, f 4]

theorem lt5_cases {P : Nat → Prop} (h0 : P 0) (h1 : P 1) (h2 : P 2) (h3 : P 3) (h4 : P 4) : ∀ i, i < 5 → P i := fun i h => by
  match i, h with
  | 0, _ => exact h0
  | 1, _ => exact h1
  | 2, _ => exact h2
  | 3, _ => exact h3
  | 4, _ => exact h4
theorem item_L5 {f : Nat → Dat} : ∀ i : Nat, i < 5 → itemD (L5 f) (.int (i : Int)) = some (f i) := lt5_cases rfl rfl rfl rfl rfl
theorem setAt_l5 {f : Nat → Dat} {d : Dat} (hf : ∀ i, i < 5 → imm (f i) = true) : ∀ i : Nat, i < 5 → setAt (.int (i : Int)) (l5 f) d = some (l5 fun j => if j = i then d else f j) := by
  have himm : (l5 f).all imm = true := by
    unfold l5
    simp [hf 0 (by (first | decide | lia | omega)), hf 1 (by (first | decide | lia | omega)), hf 2 (by (first | decide | lia | omega)), hf 3 (by (first | decide | lia | omega)), hf 4 (by (first | decide | lia | omega))]
  have hl : (l5 f).length = 5 := rfl
  intro i hi
  unfold setAt
  dsimp only
  rw [if_pos ⟨by (first | decide | lia | omega), by rw [hl]; (first | decide | lia | omega), by rw [hl]; decide, himm⟩]
  revert i
  exact lt5_cases rfl rfl rfl rfl rfl

/-- closed checks over five players and seven widths -/
noncomputable def okStr (d : Option Dat) (x : Str) : Bool := match d with
  | some (.str y) => y == x
  | _ => false
theorem okStr_is {d : Option Dat} {x : Str} (h : okStr d x = true) : d = some (.str x) := by
  unfold okStr at h
  split at h
  · rename_i y
    have : y = x := by simpa using h
    rw [this]
  · cases h
theorem strip1_chk : ((List.range 5).all fun i => (List.range 4).all fun a => okStr (Φ3.fn "_strip_padding" [.str (line i (a + 1)), .int 1]) (line i a)) = true := by decide +kernel
theorem strip9_chk : ((List.range 5).all fun i => (List.range 7).all fun a => okStr (Φ1.fn "_strip_padding" [.str (line i a), .int 9]) (nm i)) = true := by decide +kernel
theorem stripA_chk : ((List.range 5).all fun i => (List.range 5).all fun a => okStr (Φ3.fn "_strip_padding" [.str (line i a), .int ((a : Int) + 1)]) (nm i ++ " ")) = true := by decide +kernel
theorem lt_chk : ((List.range 5).all fun i => (List.range 7).all fun a => (List.range 5).all fun j => (List.range 7).all fun b => ltS (line i a) (line j b) == decide (b < a ∨ (a = b ∧ i < j))) = true := by decide +kernel
theorem all2 {n m : Nat} {f : Nat → Nat → Bool} (h : ((List.range n).all fun i => (List.range m).all fun a => f i a) = true) {i a : Nat} (hi : i < n) (ha : a < m) : f i a = true := by
  have h1 := List.all_eq_true.mp h i (List.mem_range.mpr hi)
  exact List.all_eq_true.mp h1 a (List.mem_range.mpr ha)
theorem strip1 {i a : Nat} (hi : i < 5) (ha : a < 4) : Φ3.fn "_strip_padding" [.str (line i (a + 1)), .int 1] = some (.str (line i a)) := okStr_is (all2 strip1_chk hi ha)
theorem strip9 {i a : Nat} (hi : i < 5) (ha : a < 7) : Φ1.fn "_strip_padding" [.str (line i a), .int 9] = some (.str (nm i)) := okStr_is (all2 strip9_chk hi ha)
theorem stripA {i a : Nat} (hi : i < 5) (ha : a < 5) : Φ3.fn "_strip_padding" [.str (line i a), .int ((a : Int) + 1)] = some (.str (nm i ++ " ")) := okStr_is (all2 stripA_chk hi ha)
theorem fn32 {f : Str} (h : ¬ f = ("_law_slacks" : Str)) (vals : List Dat) : Φ3.fn f vals = Φ2.fn f vals := by
  show (if f = ("_law_slacks" : Str) then runDef Φ2 8 ["table", "begin"] vals else Φ2.fn f vals) = _
  rw [if_neg h]
theorem fn21 {f : Str} (h : ¬ f = ("_law_text" : Str)) (vals : List Dat) : Φ2.fn f vals = Φ1.fn f vals := by
  show (if f = ("_law_text" : Str) then runDef Φ1 7 ["line", "below"] vals else Φ1.fn f vals) = _
  rw [if_neg h]
theorem fn31 (vals : List Dat) : Φ3.fn "_strip_padding" vals = Φ1.fn "_strip_padding" vals := (fn32 (by decide +kernel) vals).trans (fn21 (by decide +kernel) vals)
theorem lt_line {i a j b : Nat} (hi : i < 5) (ha : a < 7) (hj : j < 5) (hb : b < 7) : ltS (line i a) (line j b) = decide (b < a ∨ (a = b ∧ i < j)) := by
  have h1 := List.all_eq_true.mp lt_chk i (List.mem_range.mpr hi)
  have h2 := List.all_eq_true.mp h1 a (List.mem_range.mpr ha)
  have h3 := List.all_eq_true.mp h2 j (List.mem_range.mpr hj)
  have h4 := List.all_eq_true.mp h3 b (List.mem_range.mpr hb)
  simpa using h4
/-- the small functions -/
theorem fn_coll (x y : Str) : Φ3.fn "_strcoll" [.str x, .str y] = some (.int (b2i (decide (y.cps.toList < x.cps.toList)) - b2i (decide (x.cps.toList < y.cps.toList)))) := by kernel_rfl
theorem fn_xfrm (x : Str) : Φ3.fn "_strxfrm" [.str x] = some (.str x) := by kernel_rfl
theorem fn_term (x : Int) : Φ3.fn "ISTERMINAL" [.int x] = some (.bool (decide (x < 256))) := by kernel_rfl
theorem fn_nonterm (x : Int) : Φ3.fn "ISNONTERMINAL" [.int x] = some (.bool (decide (256 ≤ x))) := by kernel_rfl
theorem fn_eof (x : Int) : Φ3.fn "ISEOF" [.int x] = some (.bool (PyData.eqv (.int x) (.int 0))) := by kernel_rfl
theorem len_app (x y : Str) : (x ++ y).length = x.length + y.length := by
  show (x.cps ++ y.cps).size = x.cps.size + y.cps.size
  simp
theorem foldl_rep (c : Nat) : ∀ (n : Nat) (acc : Array Nat), (List.replicate n #[c]).foldl (· ++ ·) acc = acc ++ (List.replicate n c).toArray
  | 0, acc => by simp
  | n + 1, acc => by
    rw [List.replicate_succ, List.foldl_cons, foldl_rep c n]
    apply Array.toList_inj.mp
    simp [List.replicate_succ]
theorem mul_one (c : Nat) (n : Nat) : (Txt.mul ⟨#[c]⟩ (n : Int)).cps = (List.replicate n c).toArray := by
  unfold Txt.mul
  by_cases h : (n : Int) < 1
  · have : n = 0 := by (first | decide | lia | omega)
    subst this
    rw [if_pos h]; rfl
  · rw [if_neg h]
    by_cases h1 : n = 1
    · subst h1; rfl
    · have hn : ((n : Int) == 1) = false := by simp; (first | decide | lia | omega)
      have hx : ((⟨#[c]⟩ : Str).length == 0) = false := rfl
      rw [hn, hx, Bool.or_false, if_neg (by decide)]
      show (List.replicate ((n : Int)).toNat #[c]).foldl (· ++ ·) #[] = _
      rw [show ((n : Int)).toNat = n by (first | decide | lia | omega), foldl_rep]
      simp
theorem len_mul (c : Nat) (n : Nat) : (Txt.mul ⟨#[c]⟩ (n : Int)).length = n := by
  show (Txt.mul ⟨#[c]⟩ (n : Int)).cps.size = n
  rw [mul_one]; simp
theorem len_mulo (n : Nat) : (Txt.mul "(" (n : Int)).length = n := by
  rw [show ("(" : Str) = ⟨#[40]⟩ by decide +kernel]; exact len_mul _ _
theorem len_mulc (n : Nat) : (Txt.mul ")" (n : Int)).length = n := by
  rw [show (")" : Str) = ⟨#[41]⟩ by decide +kernel]; exact len_mul _ _
end Mine
end
namespace Mine
theorem gv_lit_eq {x : Str} {v : Dat × Bool} {r : Sg} : gv ((x, v) :: r) x = some v := if_pos rfl
theorem gv_lit_ne {x y : Str} {v : Dat × Bool} {r : Sg} {q : Option (Dat × Bool)} (h : (y == x) = false) (h2 : gv r y = q) : gv ((x, v) :: r) y = q := by
  rw [gv, if_neg (by simpa using h)]; exact h2
/-! ## _paren_depth -/
noncomputable def cnt (b : Array UInt8) (c : Nat) : Nat := (((sq (b.map (·.toNat)).toList).map (·.toUInt8)).filter (· == c.toUInt8)).length
theorem sub_size (b : Array UInt8) : (((sq (b.map (·.toNat)).toList).map (·.toUInt8)).toArray).size ≤ b.size := by
  have := sq_len _ (b.map (·.toNat)).toList (Nat.le_refl _)
  simpa using this
theorem meth_count {b : Array UInt8} {u : UInt8} (h : b.size ≤ 100000) : methD "count" (.bytes b) [.bytes #[u]] = some (.int (countB b u)) := by
  show (if ("count" : Str) = ("count" : Str) then (match (#[u] : Array UInt8).toList with | [u] => if b.size ≤ lineMax then some (Dat.int (countB b u)) else none | _ => none) else none) = _
  rw [if_pos rfl]
  exact if_pos h
local macro_rules | `(tactic| walk_at "X.g") => `(tactic| first | with_reducible exact gv_eq | with_reducible exact gv_lit_eq | with_reducible assumption | ((with_reducible refine' gv_ne (by decide +kernel) ?h1); (case h1 => walk_at "X.g")) | ((with_reducible refine' gv_lit_ne (by decide +kernel) ?h1); (case h1 => walk_at "X.g")) | ((with_reducible refine' Same.get ?s ?d ?h1); (case s => with_reducible assumption); (case d => decide +kernel); (case h1 => walk_at "X.g")))
local macro_rules | `(tactic| walk_at "X.b") => `(tactic| first | with_reducible exact b1_eq | ((with_reducible refine' b1_ne (by decide +kernel) ?h1); (case h1 => walk_at "X.b")))
local macro_rules | `(tactic| walk_at "X.v") => `(tactic| first | with_reducible assumption | ((with_reducible refine' ρ_of ?h1); (case h1 => walk_at "X.g")) | ((with_reducible refine' ic_loc (by decide +kernel) ?h1); (case h1 => walk_at "X.b")) | ((with_reducible refine' ic_free (by first | exact .inl (by decide +kernel) | exact .inr (by decide +kernel)) ?h1); (case h1 => walk_at "X.v")))
local macro_rules | `(tactic| walk_at "X.op") => `(tactic| first | with_reducible assumption | with_reducible exact o_addi | with_reducible exact o_subi | with_reducible exact o_subb | with_reducible exact o_neg | with_reducible exact o_not | with_reducible exact o_lt | with_reducible exact o_le | with_reducible exact o_gt | with_reducible exact o_ge | with_reducible exact o_gts | with_reducible exact o_lts | with_reducible exact o_isb | with_reducible exact o_eqi | with_reducible exact o_nei | with_reducible exact o_eqb | with_reducible exact o_neb | with_reducible exact o_auga | with_reducible exact o_augs | with_reducible exact o_max | ((with_reducible refine' o_fdiv ?h); (case h => decide +kernel)) | ((with_reducible refine' o_mod ?h); (case h => decide +kernel)) | ((with_reducible refine' o_adds ?h); (case h => walk_at "X.len")) | ((with_reducible refine' o_muls ?h); (case h => walk_at "X.mul")) | ((with_reducible refine' o_len ?h); (case h => (first | decide | lia | omega))) | ((with_reducible refine' o_lstrip ?h); (case h => (first | decide | lia | omega))) | walk_at "X.op2")
local macro_rules | `(tactic| walk_at "X.op2") => `(tactic| rfl)
local macro_rules | `(tactic| walk_at "X.len") => `(tactic| first | (first | decide | lia | omega) | (simp only [len_app, len_mulo, len_mulc]; (first | decide | lia | omega)))
local macro_rules | `(tactic| walk_at "X.mul") => `(tactic| exact ⟨by decide +kernel, by (first | decide | lia | omega), by (first | decide | lia | omega)⟩)
local macro_rules | `(tactic| walk_at "X.fn") => `(tactic| first | with_reducible assumption | walk_at "X.fn2")
local macro_rules | `(tactic| walk_at "X.rp") => `(tactic| exact ⟨by decide +kernel, by first | assumption | (first | decide | lia | omega), by decide +kernel⟩)
local macro_rules | `(tactic| walk_at "X.as") => `(tactic| first | with_reducible exact as_nil | ((with_reducible refine' as_cons ?h1 ?h2); (case h1 => walk_at "X.e"); (case h2 => walk_at "X.as")))
local macro_rules | `(tactic| walk_at "X.pt") => `(tactic| first | with_reducible exact pt_none | ((with_reducible refine' pt_some ?h1 ?h2); (case h1 => walk_at "X.e"); (case h2 => rfl)))
local macro_rules | `(tactic| walk_at "X.e") => `(tactic| first
  | with_reducible assumption
  | ((with_reducible refine' ev_const ?h1); (case h1 => rfl))
  | ((with_reducible refine' ev_var (by decide +kernel) ?h1); (case h1 => walk_at "X.v"))
  | ((with_reducible refine' ev_glob (by decide +kernel) (by decide +kernel) ?h1); (case h1 => rfl))
  | ((with_reducible refine' ev_bin ?h1 ?h2 ?h3); (case h1 => walk_at "X.e"); (case h2 => walk_at "X.e"); (case h3 => walk_at "X.op"))
  | ((with_reducible refine' ev_un ?h1 ?h3); (case h1 => walk_at "X.e"); (case h3 => walk_at "X.op"))
  | ((with_reducible refine' ev_cmp ?h1 ?h2 ?h3); (case h1 => walk_at "X.e"); (case h2 => walk_at "X.e"); (case h3 => walk_at "X.op"))
  | ((with_reducible refine' ev_and ?h1 ?h2); (case h1 => walk_at "X.e"); (case h2 => walk_at "X.e"))
  | ((with_reducible refine' ev_list ?h1 ?h2); (case h1 => walk_at "X.as"); (case h2 => exact ⟨rfl, by first | decide +kernel | (apply Nat.le_of_ble_eq_true; rfl)⟩))
  | ((with_reducible refine' ev_slice (by decide +kernel) ?h1 ?h2 ?h3 ?h4 ?h5); (case h1 => walk_at "X.v"); (case h2 => walk_at "X.pt"); (case h3 => walk_at "X.pt"); (case h4 => walk_at "X.pt"); (case h5 => walk_at "X.op"))
  | ((with_reducible refine' ev_sub (by decide +kernel) (by decide +kernel) ?h1 ?h2); (case h1 => walk_at "X.e"); (case h2 => walk_at "X.fn"))
  | ((with_reducible refine' ev_replace (by decide +kernel) ?h1 ?h2); (case h1 => walk_at "X.e"); (case h2 => walk_at "X.rp"))
  | ((with_reducible refine' ev_itemv (by decide +kernel) (by decide +kernel) ?h1 ?h2 ?h3); (case h1 => walk_at "X.v"); (case h2 => walk_at "X.e"); (case h3 => walk_at "X.op"))
  | ((with_reducible refine' ev_dct (by decide +kernel) ?h1 ?h2); (case h1 => walk_at "X.e"); (case h2 => walk_at "X.op"))
  | ((with_reducible refine' ev_item (by decide +kernel) ?h1 ?h2 ?h3); (case h1 => walk_at "X.e"); (case h2 => walk_at "X.e"); (case h3 => walk_at "X.op"))
  | ((with_reducible refine' ev_fn (by decide +kernel) (by decide +kernel) (by decide +kernel) ?h1 ?h2); (case h1 => walk_at "X.as"); (case h2 => walk_at "X.fn"))
  | ((with_reducible refine' ev_built (by decide +kernel) (by decide +kernel) (by decide +kernel) ?h1 ?h2); (case h1 => walk_at "X.as"); (case h2 => walk_at "X.op"))
  | ((with_reducible refine' ev_meth (by decide +kernel) (by decide +kernel) ?h1 ?h2 ?h3); (case h1 => walk_at "X.e"); (case h2 => walk_at "X.as"); (case h3 => walk_at "X.op")))
local macro_rules | `(tactic| walk_at "X.tr") => `(tactic| first
  | with_reducible assumption
  | ((with_reducible refine' tr_cmp ?h1 ?h2 ?h3); (case h1 => walk_at "X.e"); (case h2 => walk_at "X.e"); (case h3 => walk_at "X.tst"))
  | ((with_reducible refine' tr_call ?h1 ?h2); (case h1 => walk_at "X.e"); (case h2 => walk_at "X.tst"))
  | ((with_reducible refine' tr_name ?h1 ?h2); (case h1 => walk_at "X.e"); (case h2 => walk_at "X.tst")))
section
local macro_rules | `(tactic| walk_at "X.op2") => `(tactic| ((with_reducible refine' meth_count ?h); (case h => (first | decide | lia | omega))))

theorem paren_run (b : Array UInt8) (d : Int) (hb : b.size ≤ 1000) : Φ3.fn "_paren_depth" [.bytes b, .int d] = some (.int (d + cnt b 40 - cnt b 41)) := by
  have e : Φ3.fn "_paren_depth" [.bytes b, .int d] = runDef Φ0 0 ["data", "depth"] [.bytes b, .int d] := by kernel_rfl
  rw [e]
  have hs : Φ0.sub b = some ((sq (b.map (·.toNat)).toList).map (·.toUInt8)).toArray := if_pos hb
  have hz := sub_size b
  have run : RT Φ0 30 100 (hookAll Φ0 30) (kdOf 0) 100 (bodyOf 0) (lent ["data", "depth"] [.bytes b, .int d]) (fun r => r.1 = .ret (.int (d + cnt b 40 - cnt b 41))) := by
    show RT Φ0 30 100 (hookAll Φ0 30) (kdOf 0) 100 (bodyOf 0) [("data", .bytes b, false), ("depth", .int d, false)] _
    refine' rt_next (e_assign (by kernel_rfl) (by decide +kernel) ?a1 (by rfl)) ?a2
    case a1 => walk_at "X.e"
    case a2 =>
    refine' rt_ret (e_return (by kernel_rfl) ?a3 (by rfl)) ?a4
    case a3 => walk_at "X.e"
    case a4 => rfl
  obtain ⟨⟨r, σ'⟩, run, hr⟩ := run
  have hr' : r = .ret (.int (d + cnt b 40 - cnt b 41)) := hr
  subst hr'
  unfold runDef
  rw [if_pos (by rfl), run]
end
section

/-! ## _law_text -/
noncomputable def esc (i : Nat) : List Nat := match i with
  | 0 => [92, 34]
  | 1 => [40]
  | 2 => [41]
  | 3 => [67, 92, 32, 41]
  | _ => [92, 92, 40, 92, 92]
noncomputable def txtN (i below a : Nat) : List Nat := [91, 123, 92, 34] ++ (esc i ++ (34 :: (List.replicate below 40 ++ List.replicate a 41)))
noncomputable def txt (i below a : Nat) : Array UInt8 := ((txtN i below a).map (·.toUInt8)).toArray
theorem esc_eq : ∀ i, i < 5 → Txt.replace (Txt.replace (Txt.replace (nm i) "\\" "\\\\") "\"" "\\\"") " " "\\ " = ⟨(esc i).toArray⟩ := lt5_cases (by decide +kernel) (by decide +kernel) (by decide +kernel) (by decide +kernel) (by decide +kernel)
theorem blanks_chk : ((List.range 5).all fun i => (List.range 7).all fun a => decide (((line i a).length : Int) - ((Txt.lstripChars (line i a) " ").length : Int) = (a : Int) ∧ (line i a).length ≤ 100 ∧ (Txt.lstripChars (line i a) " ").length ≤ 100)) = true := by decide +kernel
theorem bin_mul1 {c n : Nat} (h : n ≤ 1000) : binD .Mult (.str ⟨#[c]⟩) (.int (n : Int)) = some (.str (Txt.mul ⟨#[c]⟩ (n : Int))) := if_pos ⟨by show 1 ≤ 16; (first | decide | lia | omega), by (first | decide | lia | omega), by (first | decide | lia | omega)⟩
theorem bin_adds {x y : Str} (h : x.length + y.length ≤ 100000) : binD .Add (.str x) (.str y) = some (.str (x ++ y)) := if_pos h
theorem rp1 : ∀ i, i < 5 → (nm i).length ≤ 1000 ∧ (Txt.replace (nm i) "\\" "\\\\").length ≤ 1000 ∧ (Txt.replace (Txt.replace (nm i) "\\" "\\\\") "\"" "\\\"").length ≤ 1000 := lt5_cases (by decide +kernel) (by decide +kernel) (by decide +kernel) (by decide +kernel) (by decide +kernel)
theorem esc_len : ∀ i, i < 5 → (esc i).length ≤ 5 := lt5_cases (by decide) (by decide) (by decide) (by decide) (by decide)

theorem bin_mulo {n : Nat} (h : n ≤ 1000) : binD .Mult (.str "(") (.int (n : Int)) = some (.str (Txt.mul "(" (n : Int))) := if_pos ⟨by decide +kernel, by (first | decide | lia | omega), by (first | decide | lia | omega)⟩
theorem bin_mulc {n : Nat} (h : n ≤ 1000) : binD .Mult (.str ")") (.int (n : Int)) = some (.str (Txt.mul ")" (n : Int))) := if_pos ⟨by decide +kernel, by (first | decide | lia | omega), by (first | decide | lia | omega)⟩
theorem esc_eqlen : ∀ i, i < 5 → (Txt.replace (Txt.replace (Txt.replace (nm i) "\\" "\\\\") "\"" "\\\"") " " "\\ ").length ≤ 5 := lt5_cases (by decide +kernel) (by decide +kernel) (by decide +kernel) (by decide +kernel) (by decide +kernel)
noncomputable def txtS (i below a : Nat) : Str := (((("[{\\\"" : Str) ++ ⟨(esc i).toArray⟩ ++ ("\"" : Str)) ++ Txt.mul "(" (below : Int)) ++ Txt.mul ")" (a : Int))
theorem cps_app (x y : Str) : (x ++ y).cps = x.cps ++ y.cps := rfl
theorem txtS_cps (i below a : Nat) : (txtS i below a).cps = (txtN i below a).toArray := by
  unfold txtS
  rw [cps_app, cps_app, cps_app, cps_app, show ("(" : Str) = ⟨#[40]⟩ by decide +kernel, show (")" : Str) = ⟨#[41]⟩ by decide +kernel, mul_one, mul_one, show ("[{\\\"" : Str) = ⟨#[91, 123, 92, 34]⟩ by decide +kernel, show ("\"" : Str) = ⟨#[34]⟩ by decide +kernel]
  unfold txtN
  simp
theorem esc_small : ∀ i, i < 5 → ∀ c ∈ esc i, c < 128 := lt5_cases (by decide) (by decide) (by decide) (by decide) (by decide)
theorem txtN_small {i below a : Nat} (hi : i < 5) : ∀ c ∈ txtN i below a, c < 128 := fun c hc => by
  unfold txtN at hc
  simp only [List.mem_append, List.mem_cons, List.not_mem_nil, or_false, List.mem_replicate] at hc
  rcases hc with (h | h | h | h) | h | h | h | h
  · (first | decide | lia | omega)
  · (first | decide | lia | omega)
  · (first | decide | lia | omega)
  · (first | decide | lia | omega)
  · exact esc_small i hi c h
  · (first | decide | lia | omega)
  · (first | decide | lia | omega)
  · (first | decide | lia | omega)
theorem txtN_len {i below a : Nat} : (txtN i below a).length = 4 + ((esc i).length + (1 + (below + a))) := by
  unfold txtN
  simp
  (first | decide | lia | omega)
theorem text_encode {i below a : Nat} (hi : i < 5) (hb : below < 5) (ha : a < 7) : methD "encode" (.str (txtS i below a)) [] = some (.bytes (txt i below a)) := by
  rw [o_encode]
  · rw [txtS_cps]
    unfold txt
    simp
  · refine ⟨?_, ?_⟩
    · unfold asciiD
      rw [txtS_cps]
      exact List.all_eq_true.mpr fun c hc => by simpa using txtN_small hi c (by simpa using hc)
    · show (txtS i below a).cps.size ≤ _
      rw [txtS_cps]
      have := esc_len i hi
      simp [txtN_len]
      (first | decide | lia | omega)
local macro_rules | `(tactic| walk_at "X.op2") => `(tactic| first | ((with_reducible refine' bin_mulo ?h); (case h => (first | decide | lia | omega))) | ((with_reducible refine' bin_mulc ?h); (case h => (first | decide | lia | omega))))
theorem text_run {i a below : Nat} (hi : i < 5) (ha : a < 7) (hb : below < 5) : Φ2.fn "_law_text" [.str (line i a), .int (below : Int)] = some (.bytes (txt i below a)) := by
  have e : Φ2.fn "_law_text" [.str (line i a), .int (below : Int)] = runDef Φ1 7 ["line", "below"] [.str (line i a), .int (below : Int)] := by kernel_rfl
  rw [e]
  have hs := strip9 hi ha
  have hbl := all2 blanks_chk hi ha
  simp only [decide_eq_true_eq] at hbl
  obtain ⟨hbl, hl1, hl2⟩ := hbl
  obtain ⟨r1, r2, r3⟩ := rp1 i hi
  have hel := esc_eqlen i hi
  have k1 : ("[{\\\"" : Str).length = 4 := by decide +kernel
  have k2 : ("\"" : Str).length = 1 := by decide +kernel
  have hsub : binD .Sub (.int ((line i a).length : Int)) (.int ((Txt.lstripChars (line i a) " ").length : Int)) = some (.int (a : Int)) := by
    show some (Dat.int _) = _
    rw [hbl]
  have run : RT Φ1 30 100 (hookAll Φ1 30) (kdOf 7) 100 (bodyOf 7) (lent ["line", "below"] [.str (line i a), .int (below : Int)]) (fun r => r.1 = .ret (.bytes (txt i below a))) := by
    show RT Φ1 30 100 (hookAll Φ1 30) (kdOf 7) 100 (bodyOf 7) [("line", .str (line i a), false), ("below", .int (below : Int), false)] _
    refine' rt_next (e_assign (by kernel_rfl) (by decide +kernel) ?a1 (by rfl)) ?a2
    case a1 => walk_at "X.e"
    case a2 =>
      refine' rt_ret (e_return (by kernel_rfl) ?a3 (by rfl)) ?a4
      case a3 =>
        refine' ev_meth (by rfl) (by decide +kernel) ?h1 ?h2 ?h3
        case h1 => walk_at "X.e"
        case h2 => walk_at "X.as"
        case h3 =>
          rw [esc_eq i hi]
          exact text_encode hi hb ha
      case a4 => rfl
  obtain ⟨⟨r, σ'⟩, run, hr⟩ := run
  have hr' : r = .ret (.bytes (txt i below a)) := hr
  subst hr'
  unfold runDef
  rw [if_pos (by rfl), run]
end
section

/-! ## Counting brackets -/
noncomputable def cntN (l : List Nat) (k : Nat) : Nat := (l.filter (· == k)).length
theorem cntN_app (x y : List Nat) (k : Nat) : cntN (x ++ y) k = cntN x k + cntN y k := by unfold cntN; simp
theorem cntN_rep (n c k : Nat) : cntN (List.replicate n c) k = if c = k then n else 0 := by
  unfold cntN
  by_cases h : c = k
  · subst h; simp
  · rw [if_neg h]
    simp [List.filter_replicate, h]
theorem toU_inj {x k : Nat} (hx : x < 256) (hk : k < 256) : (x.toUInt8 == k.toUInt8) = (x == k) := by
  rw [Bool.eq_iff_iff]
  simp only [beq_iff_eq]
  constructor
  · intro h
    have := congrArg UInt8.toNat h
    simp at this
    (first | decide | lia | omega)
  · rintro rfl; rfl
theorem cnt_list : ∀ {l : List Nat} {k : Nat}, (∀ c ∈ l, c < 256) → k < 256 → ((l.map (·.toUInt8)).filter (· == k.toUInt8)).length = cntN l k
  | [], _, _, _ => rfl
  | c :: l, k, h, hk => by
    have ih := cnt_list (l := l) (fun d hd => h d (.tail _ hd)) hk
    unfold cntN at ih ⊢
    rw [List.map_cons, List.filter_cons, List.filter_cons, toU_inj (h c (.head _)) hk]
    by_cases hc : (c == k) = true
    · rw [if_pos hc, if_pos hc]; simp [ih]
    · rw [if_neg hc, if_neg hc, ih]
theorem sq_mem : ∀ (n : Nat) (l : List Nat), l.length ≤ n → ∀ c ∈ sq l, c ∈ l := by
  intro n
  induction n with
  | zero =>
    intro l h c hc
    have : l = [] := List.eq_nil_of_length_eq_zero (by (first | decide | lia | omega))
    subst this; exact hc
  | succ n ih =>
    intro l h c hc
    match l, h with
    | [], _ => exact hc
    | x :: r, h =>
      simp only [List.length_cons] at h
      by_cases h34 : x = 34
      · subst h34
        cases q : sqIn r with
        | none =>
          rw [sq_open q] at hc
          rcases List.mem_cons.mp hc with rfl | hc
          · exact .head _
          · exact .tail _ (ih r (by (first | decide | lia | omega)) c hc)
        | some r' =>
          rw [sq_quote q] at hc
          have h2 := sqIn_len q
          have := ih r' (by (first | decide | lia | omega)) c hc
          rw [sqIn_eq r.length r (Nat.le_refl _)] at q
          split at q
          · cases q
            exact .tail _ (List.mem_of_mem_drop this)
          · cases q
      · rw [sq_other h34] at hc
        rcases List.mem_cons.mp hc with rfl | hc
        · exact .head _
        · exact .tail _ (ih r (by (first | decide | lia | omega)) c hc)
theorem cnt_eq {b : Array UInt8} {l : List Nat} (hb : (b.map (·.toNat)).toList = l) (h : ∀ c ∈ l, c < 256) {k : Nat} (hk : k < 256) : cnt b k = cntN (sq l) k := by
  unfold cnt
  rw [hb]
  exact cnt_list (fun c hc => h c (sq_mem _ l (Nat.le_refl _) c hc)) hk

theorem sqIn_esc : ∀ i, i < 5 → ∀ r, sqIn (esc i ++ 34 :: r) = some r := lt5_cases (fun _ => rfl) (fun _ => rfl) (fun _ => rfl) (fun _ => rfl) (fun _ => rfl)
theorem sq_rep {c : Nat} (hc : c ≠ 34) : ∀ (n : Nat) (r : List Nat), sq (List.replicate n c ++ r) = List.replicate n c ++ sq r
  | 0, r => rfl
  | n + 1, r => by
    rw [List.replicate_succ, List.cons_append, sq_other hc, sq_rep hc n r]; rfl
theorem sq_txt {i below a : Nat} (hi : i < 5) (r : List Nat) : sq (txtN i below a ++ r) = [91, 123, 92] ++ (List.replicate below 40 ++ (List.replicate a 41 ++ sq r)) := by
  unfold txtN
  have e : [91, 123, 92, 34] ++ (esc i ++ 34 :: (List.replicate below 40 ++ List.replicate a 41)) ++ r = 91 :: 123 :: 92 :: 34 :: (esc i ++ 34 :: (List.replicate below 40 ++ (List.replicate a 41 ++ r))) := by simp
  rw [e, sq_other (by decide), sq_other (by decide), sq_other (by decide), sq_quote (sqIn_esc i hi _), sq_rep (by decide), sq_rep (by decide)]
  rfl

/-- texts one behind the other -/
noncomputable def txts : List (Nat × Nat × Nat) → List Nat
  | [] => []
  | (i, b, a) :: r => txtN i b a ++ txts r
theorem cnt_txts : ∀ (l : List (Nat × Nat × Nat)), (∀ x ∈ l, x.1 < 5) → ∀ r, cntN (sq (txts l ++ r)) 40 = (l.map (·.2.1)).sum + cntN (sq r) 40 ∧ cntN (sq (txts l ++ r)) 41 = (l.map (·.2.2)).sum + cntN (sq r) 41
  | [], _, r => by simp [txts]
  | (i, b, a) :: l, h, r => by
    have ih := cnt_txts l (fun x hx => h x (.tail _ hx)) r
    rw [txts, List.append_assoc, sq_txt (h _ (.head _))]
    simp only [cntN_app, cntN_rep, ih.1, ih.2, List.map_cons, List.sum_cons]
    have e1 : cntN [91, 123, 92] 40 = 0 := rfl
    have e2 : cntN [91, 123, 92] 41 = 0 := rfl
    rw [e1, e2]
    simp
    (first | decide | lia | omega)
theorem txts_small : ∀ (l : List (Nat × Nat × Nat)), (∀ x ∈ l, x.1 < 5) → ∀ c ∈ txts l, c < 128
  | [], _, c, hc => nomatch hc
  | (i, b, a) :: l, h, c, hc => by
    rw [txts] at hc
    rcases List.mem_append.mp hc with hc | hc
    · exact txtN_small (h _ (.head _)) c hc
    · exact txts_small l (fun x hx => h x (.tail _ hx)) c hc
theorem txt_back {i below a : Nat} (hi : i < 5) : ((txt i below a).map (·.toNat)).toList = txtN i below a := by
  unfold txt
  simp only [Array.toList_map, List.map_map]
  conv => rhs; rw [← List.map_id (txtN i below a)]
  refine List.map_congr_left fun c hc => ?_
  have := txtN_small hi c hc
  simp
  (first | decide | lia | omega)
theorem txt_size {i below a : Nat} (hi : i < 5) : (txt i below a).size ≤ 10 + below + a := by
  unfold txt
  have := esc_len i hi
  simp [txtN_len]
  (first | decide | lia | omega)
theorem depth_text {i below a : Nat} (hi : i < 5) (hb : below < 5) (ha : a < 7) (d : Int) : Φ3.fn "_paren_depth" [.bytes (txt i below a), .int d] = some (.int (d + below - a)) := by
  have hs := txt_size (below := below) (a := a) hi
  rw [paren_run _ _ (by (first | decide | lia | omega))]
  have h1 := cnt_txts [(i, below, a)] (fun x hx => by rw [List.mem_singleton.mp hx]; exact hi) []
  have e : txts [(i, below, a)] ++ [] = txtN i below a := by simp [txts]
  rw [e] at h1
  have hsm : ∀ c ∈ txtN i below a, c < 256 := fun c hc => by have := txtN_small hi c hc; (first | decide | lia | omega)
  rw [cnt_eq (txt_back hi) hsm (by decide), cnt_eq (txt_back hi) hsm (by decide), h1.1, h1.2]
  have e3 : cntN (sq []) 40 = 0 := rfl
  have e4 : cntN (sq []) 41 = 0 := rfl
  rw [e3, e4]
  simp
end
section

/-! ## _law_slacks -/
noncomputable def sm (m : Nat → Nat) : Nat → Int
  | 0 => 0
  | k + 1 => sm m k + (4 - (k : Int)) - (m k : Int)
noncomputable def R5 : List Dat := (List.range 5).map fun (i : Nat) => .int (i : Int)
theorem R5_at {j : Nat} {d : Dat} (h : R5[j]? = some d) : j < 5 ∧ d = .int (j : Int) := by
  unfold R5 at h
  rw [List.getElem?_map] at h
  have hj : j < 5 := by
    rcases Nat.lt_or_ge j 5 with q | q
    · exact q
    · rw [List.getElem?_eq_none (by simpa using q)] at h; cases h
  rw [List.getElem?_range hj] at h
  cases h
  exact ⟨hj, rfl⟩
theorem range5 : rangeD [.int 5] = some R5 := by kernel_rfl
theorem fn23t (vals : List Dat) : Φ3.fn "_law_text" vals = Φ2.fn "_law_text" vals := fn32 (by decide +kernel) vals
theorem fn23p (vals : List Dat) : Φ3.fn "_paren_depth" vals = Φ2.fn "_paren_depth" vals := fn32 (by decide +kernel) vals

theorem slacks_run {p m : Nat → Nat} (begin : Int) (hp : ∀ k, k < 5 → p k < 5) (hm : ∀ k, k < 5 → m k < 7) :
    Φ3.fn "_law_slacks" [L5 fun k => .str (line (p k) (m k)), .int begin] = some (L5 fun k => .int (sm m (k + 1))) := by
  have e : Φ3.fn "_law_slacks" [L5 fun k => .str (line (p k) (m k)), .int begin] = runDef Φ2 8 ["table", "begin"] [L5 fun k => .str (line (p k) (m k)), .int begin] := by kernel_rfl
  rw [e]
  have run : RT Φ2 30 100 (hookAll Φ2 30) (kdOf 8) 100 (bodyOf 8) (lent ["table", "begin"] [L5 fun k => .str (line (p k) (m k)), .int begin]) (fun r => r.1 = .ret (L5 fun k => .int (sm m (k + 1)))) := by
    show RT Φ2 30 100 (hookAll Φ2 30) (kdOf 8) 100 (bodyOf 8) [("table", L5 fun k => .str (line (p k) (m k)), false), ("begin", .int begin, false)] _
    refine' rt_next (e_assign (by kernel_rfl) (by decide +kernel) ?a1 ?a1f) ?a2
    case a1 => walk_at "X.e"
    case a1f => rfl
    case a2 =>
    refine' rt_next (e_assign (by kernel_rfl) (by decide +kernel) ?a3 (by rfl)) ?a4
    case a3 => walk_at "X.e"
    case a4 =>
    refine' rt_st (st_for_range (items := R5) (fun j σ => gv σ "table" = some (L5 fun k => .str (line (p k) (m k)), false) ∧ gv σ "begin" = some (.int begin, false) ∧ gv σ "depth" = some (.int (begin + sm m j), true) ∧
      gv σ "slacks" = some (.list ((List.range j).map fun k => .int (sm m (k + 1))), true)) (by kernel_rfl) (by decide +kernel) ?b1 range5 ?b2 ?b3 ?b4)
    case b1 => walk_at "X.as"
    case b2 =>
      refine ⟨?_, ?_, ?_, ?_⟩
      · walk_at "X.g"
      · walk_at "X.g"
      · rw [show begin + sm m 0 = begin by simp [sm]]
        walk_at "X.g"
      · exact gv_eq
    case b3 =>
      intro j d σ hjd hI
      obtain ⟨hj, rfl⟩ := R5_at hjd
      obtain ⟨h1, h2, h3, h4⟩ := hI
      have hitem : itemD (L5 fun k => .str (line (p k) (m k))) (.int (j : Int)) = some (.str (line (p j) (m j))) := item_L5 j hj
      have hsub : (4 : Int) - (j : Int) = ((4 - j : Nat) : Int) := by (first | decide | lia | omega)
      have htext : Φ2.fn "_law_text" [.str (line (p j) (m j)), .int (4 - (j : Int))] = some (.bytes (txt (p j) (4 - j) (m j))) := by
        rw [hsub]; exact text_run (hp j hj) (hm j hj) (by (first | decide | lia | omega))
      have hdepth : Φ2.fn "_paren_depth" [.bytes (txt (p j) (4 - j) (m j)), .int (begin + sm m j)] = some (.int (begin + sm m j + ((4 - j : Nat) : Int) - (m j : Int))) := by
        rw [← fn23p]; exact depth_text (hp j hj) (by (first | decide | lia | omega)) (hm j hj) _
      refine' rt_next (e_assign (by kernel_rfl) (by decide +kernel) ?c1 (by rfl)) ?c2
      case c1 => walk_at "X.e"
      case c2 =>
      refine' rt_next (e_append (by kernel_rfl) (by decide +kernel) ?c3 ?c4 ?c5) ?c6
      case c3 => walk_at "X.g"
      case c4 => walk_at "X.e"
      case c5 => exact ⟨rfl, by simp; unfold lineMax; (first | decide | lia | omega), by simp [imm]⟩
      case c6 =>
      refine rt_nil ?_
      show _ ∧ _ ∧ _ ∧ _
      refine ⟨?_, ?_, ?_, ?_⟩
      · walk_at "X.g"
      · walk_at "X.g"
      · rw [show begin + sm m (j + 1) = begin + sm m j + ((4 - j : Nat) : Int) - (m j : Int) by rw [sm]; (first | decide | lia | omega)]
        walk_at "X.g"
      · rw [gv_eq, List.range_succ, List.map_append]
        rw [show begin + sm m j + ((4 - j : Nat) : Int) - (m j : Int) - begin = sm m (j + 1) by rw [sm]; (first | decide | lia | omega)]
        rfl
    case b4 =>
      intro σ hI
      obtain ⟨h1, h2, h3, h4⟩ := hI
      refine' rt_ret (e_return (by kernel_rfl) ?d1 ?d2) ?d3
      case d1 => walk_at "X.e"
      case d2 =>
        have : ownName σ (.Name "slacks" default) = true := by
          show (match gv σ "slacks" with | some (_, true) => true | _ => false) = true
          rw [h4]
        exact this
      case d3 => rfl
  obtain ⟨⟨r, σ'⟩, run, hr⟩ := run
  have hr' : r = .ret (L5 fun k => .int (sm m (k + 1))) := hr
  subst hr'
  unfold runDef
  rw [if_pos (by rfl), run]
end
section
theorem o_listl {ds : List Dat} (h : ds.all imm = true ∧ ds.length ≤ 100000) : builtD "list" [.list ds] = some (.list ds) := by
  unfold builtD
  rw [if_neg (by decide +kernel), if_neg (by decide +kernel), if_pos rfl]
  exact if_pos h
local macro_rules | `(tactic| walk_at "X.tst") => `(tactic| with_reducible assumption)
local macro_rules | `(tactic| walk_at "X.op2") => `(tactic| ((with_reducible refine' o_listl ?h); (case h => exact ⟨rfl, by decide⟩)))
local macro_rules | `(tactic| walk_at "X.cr") => `(tactic| first | exact cr_nil | ((refine' cr_cons ?h1 ?h2 ?h3); (case h1 => walk_at "X.e"); (case h2 => rfl); (case h3 => walk_at "X.cr")))

/-! ## _law_chains -/
noncomputable def bi (b : Bool) : Int := if b then 1 else 0
noncomputable def mrow (c i : Nat) : List Dat := l5 fun j => .int (bi (c.testBit (5 * i + j)))
noncomputable def mrows (c : Nat) : List Dat := l5 fun i => .list (mrow c i)
noncomputable def cst (mid one : Nat) (c other : Nat) : Nat := if c.testBit (5 * one + mid) && c.testBit (5 * mid + other) then c ||| (1 <<< (5 * one + other)) else c
noncomputable def cOther (mid : Nat) (c one : Nat) (j : Nat) : Nat := (List.range j).foldl (cst mid one) c
noncomputable def cOne (c mid : Nat) (j : Nat) : Nat := (List.range j).foldl (fun c one => cOther mid c one 5) c
noncomputable def cMid (c : Nat) (j : Nat) : Nat := (List.range j).foldl (fun c mid => cOne c mid 5) c
theorem fold_succ {f : Nat → Nat → Nat} {c j : Nat} : (List.range (j + 1)).foldl f c = f ((List.range j).foldl f c) j := by
  rw [List.range_succ, List.foldl_append]; rfl
theorem l5_congr {f g : Nat → Dat} (h : ∀ i, i < 5 → f i = g i) : l5 f = l5 g := by
  unfold l5
  rw [h 0 (by (first | decide | lia | omega)), h 1 (by (first | decide | lia | omega)), h 2 (by (first | decide | lia | omega)), h 3 (by (first | decide | lia | omega)), h 4 (by (first | decide | lia | omega))]
theorem set_l5 {f : Nat → Dat} {d : Dat} : ∀ i : Nat, i < 5 → (l5 f).set i d = l5 fun j => if j = i then d else f j := fun i h => by
  match i, h with
  | 0, _ => rfl
  | 1, _ => rfl
  | 2, _ => rfl
  | 3, _ => rfl
  | 4, _ => rfl
theorem mrow_imm (c i : Nat) : (mrow c i).all imm = true := rfl
theorem item_l5 {f : Nat → Dat} (i : Nat) (h : i < 5) : itemD (.list (l5 f)) (.int (i : Int)) = some (f i) := item_L5 i h
theorem item_rows {c i : Nat} (h : i < 5) : itemD (.list (mrows c)) (.int (i : Int)) = some (.list (mrow c i)) := by
  unfold mrows
  rw [item_l5 i h]
theorem item_row {c i j : Nat} (h : j < 5) : itemD (.list (mrow c i)) (.int (j : Int)) = some (.int (bi (c.testBit (5 * i + j)))) := by
  unfold mrow
  rw [item_l5 j h]
theorem set_rows {c one other : Nat} (h1 : one < 5) (h2 : other < 5) : (mrows c).set one (.list (l5 fun j => if j = other then .int 1 else .int (bi (c.testBit (5 * one + j))))) = mrows (c ||| (1 <<< (5 * one + other))) := by
  unfold mrows
  rw [set_l5 one h1]
  refine l5_congr fun i hi => ?_
  have bit : ∀ j, j < 5 → (c ||| (1 <<< (5 * one + other))).testBit (5 * i + j) = (c.testBit (5 * i + j) || decide (i = one ∧ j = other)) := fun j hj => by
    rw [Nat.testBit_or, Nat.testBit_shiftLeft]
    congr 1
    by_cases he : 5 * i + j = 5 * one + other
    · have h3 : i = one ∧ j = other := by (first | decide | lia | omega)
      rw [he]
      simp [h3]
    · have h3 : ¬ (i = one ∧ j = other) := fun h => he (by rw [h.1, h.2])
      rw [decide_eq_false h3]
      rcases Nat.lt_or_ge (5 * i + j) (5 * one + other) with q | q
      · simp; (first | decide | lia | omega)
      · have : (1 : Nat).testBit (5 * i + j - (5 * one + other)) = false := by
          cases hq : (1 : Nat).testBit (5 * i + j - (5 * one + other)) with
          | false => rfl
          | true =>
            have := Nat.testBit_one_eq_true_iff_self_eq_zero.mp hq
            (first | decide | lia | omega)
        rw [this]; simp
  by_cases hio : i = one
  · subst hio
    rw [if_pos rfl]
    unfold mrow
    congr 1
    refine l5_congr fun j hj => ?_
    rw [bit j hj]
    by_cases hjo : j = other
    · rw [if_pos hjo]; simp [hjo, bi]
    · rw [if_neg hjo]; simp [hjo]
  · rw [if_neg hio]
    unfold mrow
    congr 1
    refine l5_congr fun j hj => ?_
    rw [bit j hj]
    simp [hio]

theorem chains_run (c : Nat) : Φ3.fn "_law_chains" [.list (mrows c)] = some (.list (mrows (cMid c 5))) := by
  have e : Φ3.fn "_law_chains" [.list (mrows c)] = runDef Φ0 9 ["won"] [.list (mrows c)] := by kernel_rfl
  rw [e]
  have run : RT Φ0 30 100 (hookAll Φ0 30) (kdOf 9) 100 (bodyOf 9) (lent ["won"] [.list (mrows c)]) (fun r => r.1 = .ret (.list (mrows (cMid c 5)))) := by
    show RT Φ0 30 100 (hookAll Φ0 30) (kdOf 9) 100 (bodyOf 9) [("won", .list (mrows c), false)] _
    refine' rt_next (e_assign (by kernel_rfl) (by decide +kernel) ?a1 ?a1f) ?a2
    case a1 =>
      refine' ev_comp (by decide +kernel) ?u1 ?u2 ?u3
      case u1 =>
        refine' it_var ?u4
        case u4 => walk_at "X.e"
      case u2 =>
        show compRun _ _ _ _ _ _ [.list (mrow c 0), .list (mrow c 1), .list (mrow c 2), .list (mrow c 3), .list (mrow c 4)] = _
        walk_at "X.cr"
      case u3 => (show 5 ≤ 100000; (first | decide | lia | omega))
    case a1f => rfl
    case a2 =>
    refine' rt_st (st_for_range (items := R5) (fun j σ => gv σ "chains" = some (.list (mrows (cMid c j)), true)) (by kernel_rfl) (by decide +kernel) ?b1 range5 ?b2 ?b3 ?b4)
    case b1 => walk_at "X.as"
    case b2 => exact gv_eq
    case b4 =>
      intro σ hI
      refine' rt_ret (e_return (by kernel_rfl) ?d1 ?d2) ?d3
      case d1 => walk_at "X.e"
      case d2 =>
        have : ownName σ (.Name "chains" default) = true := by
          show (match gv σ "chains" with | some (_, true) => true | _ => false) = true
          rw [hI]
        exact this
      case d3 => rfl
    case b3 =>
      intro mid d σ hmd hI
      obtain ⟨hmid, rfl⟩ := R5_at hmd
      refine' rt_st (st_for_range (items := R5) (fun j σ' => gv σ' "chains" = some (.list (mrows (cOne (cMid c mid) mid j)), true) ∧ gv σ' "middle" = some (.int (mid : Int), true)) (by kernel_rfl) (by decide +kernel) ?e1 range5 ?e2 ?e3 ?e4)
      case e1 => walk_at "X.as"
      case e2 =>
        refine ⟨?_, gv_eq⟩
        rw [show cOne (cMid c mid) mid 0 = cMid c mid from rfl]
        walk_at "X.g"
      case e4 =>
        intro σ' hI'
        refine rt_nil ?_
        show gv σ' "chains" = _
        rw [hI'.1]
        unfold cMid
        rw [fold_succ]
        rfl
      case e3 =>
        intro one d σ1 hod hI1
        obtain ⟨hone, rfl⟩ := R5_at hod
        obtain ⟨g1, g2⟩ := hI1
        refine' rt_st (st_for_range (items := R5) (fun j σ' => gv σ' "chains" = some (.list (mrows (cOther mid (cOne (cMid c mid) mid one) one j)), true) ∧ gv σ' "middle" = some (.int (mid : Int), true) ∧ gv σ' "one" = some (.int (one : Int), true)) (by kernel_rfl) (by decide +kernel) ?f1 range5 ?f2 ?f3 ?f4)
        case f1 => walk_at "X.as"
        case f2 =>
          refine ⟨?_, ?_, gv_eq⟩
          · rw [show ∀ x, cOther mid x one 0 = x from fun _ => rfl]
            walk_at "X.g"
          · walk_at "X.g"
        case f4 =>
          intro σ' hI'
          refine rt_nil ?_
          refine ⟨?_, hI'.2.1⟩
          rw [hI'.1]
          unfold cOne
          rw [fold_succ]
          rfl
        case f3 =>
          intro other d σ2 htd hI2
          obtain ⟨hoth, rfl⟩ := R5_at htd
          obtain ⟨k1, k2, k3⟩ := hI2
          generalize hc : cOther mid (cOne (cMid c mid) mid one) one other = c1 at k1
          have hnext : cOther mid (cOne (cMid c mid) mid one) one (other + 1) = cst mid one c1 other := by
            unfold cOther at hc ⊢
            rw [fold_succ, hc]
          rw [hnext]
          have a1 : itemD (.list (mrows c1)) (.int (one : Int)) = some (.list (mrow c1 one)) := item_rows hone
          have a2 : itemD (.list (mrow c1 one)) (.int (mid : Int)) = some (.int (bi (c1.testBit (5 * one + mid)))) := item_row hmid
          have a3 : itemD (.list (mrows c1)) (.int (mid : Int)) = some (.list (mrow c1 mid)) := item_rows hmid
          have a4 : itemD (.list (mrow c1 mid)) (.int (other : Int)) = some (.int (bi (c1.testBit (5 * mid + other)))) := item_row hoth
          have bit : ∀ b : Bool, cmpD .Eq (.int (bi b)) (.int 1) = some (.bool b) := fun b => by rw [o_eqi]; cases b <;> rfl
          unfold cst
          cases hb1 : c1.testBit (5 * one + mid) with
          | false =>
            rw [hb1] at a2
            rw [Bool.false_and, if_neg (by decide)]
            have b1 := bit false
            refine' rt_guard (by kernel_rfl) ?g1 (rt_nil ?g2)
            case g1 =>
              refine' ts_and (al_no ?g3)
              case g3 => walk_at "X.tr"
            case g2 =>
              refine ⟨?_, ?_, ?_⟩
              · walk_at "X.g"
              · walk_at "X.g"
              · walk_at "X.g"
          | true =>
            rw [hb1] at a2
            have b1 := bit true
            cases hb2 : c1.testBit (5 * mid + other) with
            | false =>
              rw [hb2] at a4
              rw [Bool.and_false, if_neg (by decide)]
              have b0 := bit false
              refine' rt_guard (by kernel_rfl) ?g1 (rt_nil ?g2)
              case g1 =>
                refine' ts_and (al_yes ?g3 (al_no ?g4))
                case g3 => walk_at "X.tr"
                case g4 => walk_at "X.tr"
              case g2 =>
                refine ⟨?_, ?_, ?_⟩
                · walk_at "X.g"
                · walk_at "X.g"
                · walk_at "X.g"
            | true =>
              rw [hb2] at a4
              rw [Bool.and_true, if_pos rfl]
              refine' rt_st (st_if_t (by kernel_rfl) ?g1 ?g2)
              case g1 =>
                refine' ts_and (al_yes ?g3 (al_yes ?g4 al_nil))
                case g3 => walk_at "X.tr"
                case g4 => walk_at "X.tr"
              case g2 =>
                refine' rt_next (e_set2 (rows := mrows c1) (row := mrow c1 one) (by kernel_rfl) (by decide +kernel) ?h1 ?h2 ?h3 ?h4 ?h5 ?h6 ?h7) (rt_nil ?h8)
                case h1 => walk_at "X.e"
                case h2 => walk_at "X.g"
                case h3 => walk_at "X.e"
                case h4 => walk_at "X.e"
                case h5 => rfl
                case h6 => exact a1
                case h7 => exact setAt_l5 (fun _ _ => rfl) other hoth
                case h8 =>
                  refine rt_nil ?_
                  refine ⟨?_, ?_, ?_⟩
                  · rw [gv_eq, show ((one : Int)).toNat = one by (first | decide | lia | omega), set_rows hone hoth]
                  · walk_at "X.g"
                  · walk_at "X.g"
  obtain ⟨⟨r, σ'⟩, run, hr⟩ := run
  have hr' : r = .ret (.list (mrows (cMid c 5))) := hr
  subst hr'
  unfold runDef
  rw [if_pos (by rfl), run]
end
section

section
variable {Φ : Funs} {N W n : Nat} {κ : Kd} {σ σ' : Sg} {run : List Stmt → Sg → Option (Fl × Sg)} {a b d : Dat} {p pos px pl pi ap spos pf : Pos}
theorem e_pop {x l : Str} {ds : List Dat} (hc : canBind κ x = true ∧ isVar κ l = true ∧ (ap.endLine == pos.line) = true ∧ (x == l) = false) (h1 : gv σ l = some (.list ds, true)) (h2 : ds.getLast? = some d) (h3 : imm d = true ∧ ds.dropLast.all imm = true ∧ ds.dropLast.length ≤ 100000) :
    ex1 Φ N W (hookAll Φ N) κ run (.Assign [.Name x px] (.Call (.Attribute (.Name l pl) "pop" ap) [] [] pos) spos) σ = some (.next, sv (sv σ l (.list ds.dropLast, true)) x (d, true)) := by
  refine e_hook ?_
  have : hookPop κ (.Assign [.Name x px] (.Call (.Attribute (.Name l pl) "pop" ap) [] [] pos) spos) σ = some (sv (sv σ l (.list ds.dropLast, true)) x (d, true)) := by
    exact (if_pos ⟨⟨rfl, rfl⟩, rfl, hc⟩).trans (bind_eq (bind_eq h1 rfl) (bind_eq h2 (if_pos h3)))
  unfold hookAll orHook
  rw [this]
theorem e_sorti {x : Str} {e : Expr} {ds : List Dat} {ns : List Int} (hc : canBind κ x = true ∧ isGlob κ ("sorted" : Str) = true) (h1 : ev Φ N κ (ρof σ) e = some (.list ds)) (h2 : intsOf ds = some ns) (h3 : ns.length < 64) :
    ex1 Φ N W (hookAll Φ N) κ run (.Assign [.Name x px] (.Call (.Name "sorted" pf) [e] [] pos) spos) σ = some (.next, sv σ x (.list ((srtI ns).map .int), true)) := by
  refine e_hook ?_
  have : hookInts Φ N κ (.Assign [.Name x px] (.Call (.Name "sorted" pf) [e] [] pos) spos) σ = some (sv σ x (.list ((srtI ns).map .int), true)) := by
    exact (if_pos ⟨rfl, rfl, hc⟩).trans (bind_eq (bind_eq h1 rfl) (bind_eq h2 (if_pos h3)))
  unfold hookAll orHook
  rw [show hookPop κ (.Assign [.Name x px] (.Call (.Name "sorted" pf) [e] [] pos) spos) σ = none from rfl]
  dsimp only
  rw [this]
theorem e_sorts {x g : Str} {e : Expr} {ds : List Dat} {ss ss' : List Str} {pk kp : Pos} (hc : canBind κ x = true ∧ isGlob κ ("sorted" : Str) = true ∧ isGlob κ g = true) (h1 : ev Φ N κ (ρof σ) e = some (.list ds)) (h2 : strsOf ds = some ss) (h3 : 2 ≤ ss.length ∧ ss.length < 64)
    (h4 : ∀ y, Φ.fn g [.str y] = some (.str y)) (h5 : sortS ss = some ss') :
    ex1 Φ N W (hookAll Φ N) κ run (.Assign [.Name x px] (.Call (.Name "sorted" pf) [e] [⟨some "key", .Name g pk, kp⟩] pos) spos) σ = some (.next, sv σ x (.list (ss'.map .str), true)) := by
  refine e_hook ?_
  have hall : (ss.all fun x => ((Φ.fn g [.str x]).bind strOf) == some x) = true := List.all_eq_true.mpr fun y _ => by rw [h4]; exact beq_iff_eq.mpr rfl
  have : hookStrs Φ N κ (.Assign [.Name x px] (.Call (.Name "sorted" pf) [e] [⟨some "key", .Name g pk, kp⟩] pos) spos) σ = some (sv σ x (.list (ss'.map .str), true)) := by
    exact (if_pos ⟨rfl, hc⟩).trans (bind_eq (bind_eq h1 rfl) (bind_eq h2 ((if_pos ⟨h3.1, h3.2, hall⟩).trans (bind_eq h5 rfl))))
  unfold hookAll orHook
  rw [show hookPop κ (.Assign [.Name x px] (.Call (.Name "sorted" pf) [e] [⟨some "key", .Name g pk, kp⟩] pos) spos) σ = none from rfl, show hookInts Φ N κ (.Assign [.Name x px] (.Call (.Name "sorted" pf) [e] [⟨some "key", .Name g pk, kp⟩] pos) spos) σ = none from rfl]
  exact this
theorem intsOf_map : ∀ ns : List Int, intsOf (ns.map .int) = some ns
  | [] => rfl
  | n :: r => by rw [List.map_cons, intsOf, intsOf_map r]; rfl
theorem ints_imm (ns : List Int) : (ns.map Dat.int).all imm = true := List.all_eq_true.mpr fun d hd => by
  obtain ⟨i, _, rfl⟩ := List.mem_map.mp hd
  rfl
theorem cr_map {rec : Kd → Vs → Expr → Option Dat} {κ' : Kd} {ρ : Vs} {x : Str} {elt : Expr} {g : Dat → Dat} : ∀ {l : List Dat}, (∀ d ∈ l, rec κ' (inComp κ' ρ (bind1 x d nob)) elt = some (g d) ∧ (freshE elt || imm (g d)) = true) → compRun rec κ' ρ x elt [] l = some (l.map g)
  | [], _ => rfl
  | d :: l, h => by
    have h1 := h d (.head _)
    rw [List.map_cons]
    exact cr_cons h1.1 h1.2 (cr_map fun d' hd => h d' (.tail _ hd))
theorem it_sub {o i : Expr} {ρ : Vs} {ds : List Dat} (h : ev Φ n κ ρ (.Subscript o i p) = some (.list ds)) : iterE (ev Φ n) κ ρ (.Subscript o i p) = some ds := by
  show itemsD _ = _
  rw [h]; rfl
end

theorem pick_take : ∀ (ds : List Dat) (t : Nat), ds.length ≤ 4 → t ≤ ds.length → pickD ds none (some (t : Int)) none = ds.take t ∧ pickD ds (some (t : Int)) none none = ds.drop t := fun ds t h ht => by
  match ds, h with
  | [], _ => match t, ht with
    | 0, _ => exact ⟨by kernel_rfl, by kernel_rfl⟩
  | [a], _ => match t, ht with
    | 0, _ => exact ⟨by kernel_rfl, by kernel_rfl⟩
    | 1, _ => exact ⟨by kernel_rfl, by kernel_rfl⟩
  | [a, b], _ => match t, ht with
    | 0, _ => exact ⟨by kernel_rfl, by kernel_rfl⟩
    | 1, _ => exact ⟨by kernel_rfl, by kernel_rfl⟩
    | 2, _ => exact ⟨by kernel_rfl, by kernel_rfl⟩
  | [a, b, c], _ => match t, ht with
    | 0, _ => exact ⟨by kernel_rfl, by kernel_rfl⟩
    | 1, _ => exact ⟨by kernel_rfl, by kernel_rfl⟩
    | 2, _ => exact ⟨by kernel_rfl, by kernel_rfl⟩
    | 3, _ => exact ⟨by kernel_rfl, by kernel_rfl⟩
  | [a, b, c, d], _ => match t, ht with
    | 0, _ => exact ⟨by kernel_rfl, by kernel_rfl⟩
    | 1, _ => exact ⟨by kernel_rfl, by kernel_rfl⟩
    | 2, _ => exact ⟨by kernel_rfl, by kernel_rfl⟩
    | 3, _ => exact ⟨by kernel_rfl, by kernel_rfl⟩
    | 4, _ => exact ⟨by kernel_rfl, by kernel_rfl⟩
theorem o_slice {ds : List Dat} {lo hi : Option Int} (h : ds.all imm = true ∧ ds.length ≤ 100000) : sliceD (.list ds) (lo.map .int) (hi.map .int) none = some (.list (pickD ds lo hi none)) := by
  have e : ∀ x : Option Int, partD (x.map .int) = some x := fun x => by cases x <;> rfl
  show (match partD (lo.map .int), partD (hi.map .int), partD none with | some l, some u, some k => (if ds.all imm = true ∧ ds.length ≤ lineMax ∧ (k == some 0) = false then some (Dat.list (pickD ds l u k)) else none) | _, _, _ => none) = _
  rw [e, e]
  show (if ds.all imm = true ∧ ds.length ≤ lineMax ∧ ((none : Option Int) == some 0) = false then some (Dat.list (pickD ds lo hi none)) else none) = _
  exact if_pos ⟨h.1, h.2, rfl⟩
theorem o_eql {xs ys : List Dat} (hx : xs.all flatOk = true) (hy : ys.all flatOk = true) : cmpD .Eq (.list xs) (.list ys) = some (.bool (PyData.eqvAll (toPys xs) (toPys ys))) := by
  show (if xs.all flatOk = true ∧ ys.all flatOk = true then some (Dat.bool (PyData.eqv (toPy (.list xs)) (toPy (.list ys)))) else none) = _
  rw [if_pos ⟨hx, hy⟩, toPy, toPy, PyData.eqv]
theorem o_nel {xs ys : List Dat} (hx : xs.all flatOk = true) (hy : ys.all flatOk = true) : cmpD .NotEq (.list xs) (.list ys) = some (.bool (!PyData.eqvAll (toPys xs) (toPys ys))) := by
  show (if xs.all flatOk = true ∧ ys.all flatOk = true then some (Dat.bool (!PyData.eqv (toPy (.list xs)) (toPy (.list ys)))) else none) = _
  rw [if_pos ⟨hx, hy⟩, toPy, toPy, PyData.eqv]
theorem flat_refl {d : Dat} (h : flatOk d = true) : PyData.eqv (toPy d) (toPy d) = true := by
  cases d <;> simp_all [flatOk, toPy, PyData.eqv]
theorem eqvAll_refl : ∀ {xs : List Dat}, xs.all flatOk = true → PyData.eqvAll (toPys xs) (toPys xs) = true
  | [], _ => by rw [toPys, PyData.eqvAll]
  | d :: r, h => by
    rw [List.all_cons, Bool.and_eq_true] at h
    rw [toPys, PyData.eqvAll, flat_refl h.1, eqvAll_refl h.2]; rfl
theorem o_nel_same {xs : List Dat} (h : xs.all flatOk = true) : cmpD .NotEq (.list xs) (.list xs) = some (.bool false) := by
  rw [o_nel h h, eqvAll_refl h]; rfl
theorem o_eql_same {xs : List Dat} (h : xs.all flatOk = true) : cmpD .Eq (.list xs) (.list xs) = some (.bool true) := by
  rw [o_eql h h, eqvAll_refl h]
local macro_rules | `(tactic| walk_at "X.tst") => `(tactic| with_reducible assumption)

/-! ## _law_dealt -/
noncomputable def dStep (ns : List Int) : List Int := srtI (ns.dropLast.take (ns.getLastD 0).toNat ++ (ns.dropLast.drop (ns.getLastD 0).toNat).map (· - 1))
noncomputable def dealtP : Nat → List Int → Bool
  | 0, _ => false
  | f + 1, ns => if ns.length ≤ 1 then decide (ns = [0]) else if ns.getLastD 0 > (ns.dropLast.length : Int) then false else if (dStep ns).headD 0 < 0 then false else dealtP f (dStep ns)
noncomputable def whTest (i k : Nat) : Expr := match (bodyOf i)[k]? with
  | some (.While t _ _ _) => t
  | _ => .Constant .none 0 default
noncomputable def whBody (i k : Nat) : List Stmt := match (bodyOf i)[k]? with
  | some (.While _ b _ _) => b
  | _ => []
theorem srtI_len (ns : List Int) : (srtI ns).length = ns.length := (srtI_perm ns).length_eq
theorem dStep_len {ns : List Int} : (dStep ns).length = ns.length - 1 := by
  unfold dStep
  rw [srtI_len, List.length_append, List.length_map, ← List.length_append, List.take_append_drop, List.length_dropLast]
theorem dStep_nonneg {ns : List Int} (h : ¬ (dStep ns).headD 0 < 0) : ∀ x ∈ dStep ns, 0 ≤ x := fun x hx => by
  have hs : (dStep ns).Pairwise (· ≤ ·) := srtI_sorted _
  cases q : dStep ns with
  | nil => rw [q] at hx; cases hx
  | cons a r =>
    rw [q] at hx hs h
    have ha : 0 ≤ a := by simpa using h
    rcases List.mem_cons.mp hx with rfl | hx
    · exact ha
    · have := (List.pairwise_cons.mp hs).1 x hx
      (first | decide | lia | omega)

theorem dealt_loop : ∀ (f : Nat) (ns : List Int) (σ : Sg), ns.length ≤ f → 1 ≤ ns.length → ns.length ≤ 5 → (∀ x ∈ ns, 0 ≤ x) → gv σ "rest" = some (.list (ns.map .int), true) → ∀ Wf, f ≤ Wf →
    ∃ r, whileL (fun σ => tst (ev Φ0 30) (kdOf 10) (ρof σ) (whTest 10 1)) (exs Φ0 30 100 (hookAll Φ0 30) (kdOf 10) 98 (whBody 10 1)) Wf σ = some r ∧
      ((∃ σ', r = (.ret (.bool false), σ') ∧ dealtP f ns = false) ∨ ∃ σ' x, r = (.next, σ') ∧ gv σ' "rest" = some (.list [.int x], true) ∧ dealtP f ns = decide (x = 0)) := by
  intro f
  induction f with
  | zero => intro ns σ h1 h2; (first | decide | lia | omega)
  | succ f ih =>
    intro ns σ h1 h2 h5 hnn hr Wf hW
    obtain ⟨W', rfl⟩ : ∃ W', Wf = W' + 1 := ⟨Wf - 1, by (first | decide | lia | omega)⟩
    have himm := ints_imm ns
    have hl : builtD "len" [.list (ns.map .int)] = some (.int (ns.length : Int)) := by
      rw [o_lenl (by simp; (first | decide | lia | omega))]; simp
    by_cases hone : ns.length ≤ 1
    · have hgt : cmpD .Gt (.int (ns.length : Int)) (.int 1) = some (.bool false) := by rw [o_gt, decide_eq_false (by (first | decide | lia | omega))]
      obtain ⟨x, rfl⟩ := len1 (show ns.length = 1 by (first | decide | lia | omega))
      refine ⟨(.next, σ), w_no ?_, .inr ⟨σ, x, rfl, hr, ?_⟩⟩
      · refine' ts_cmp ?g1
        case g1 => walk_at "X.tr"
      · unfold dealtP
        rw [if_pos hone]
        by_cases hx : x = 0
        · subst hx; rfl
        · rw [decide_eq_false hx]; simp [hx]
    · have hgt : cmpD .Gt (.int (ns.length : Int)) (.int 1) = some (.bool true) := by rw [o_gt, decide_eq_true (by (first | decide | lia | omega))]
      have htest : tst (ev Φ0 30) (kdOf 10) (ρof σ) (whTest 10 1) = some true := by
        refine' ts_cmp ?g1
        case g1 => walk_at "X.tr"
      obtain ⟨r, t, hrt⟩ : ∃ r t, ns = r ++ [t] := ⟨ns.dropLast, ns.getLast (by rintro rfl; simp at h2), (List.dropLast_concat_getLast _).symm⟩
      have hrl : r.length = ns.length - 1 := by rw [hrt]; simp
      have ht0 : 0 ≤ t := hnn t (by rw [hrt]; simp)
      have hdl : ns.dropLast = r := by rw [hrt]; simp
      have hgl : ns.getLastD 0 = t := by rw [hrt, List.getLastD_eq_getLast?]; simp
      have hpop : (ns.map Dat.int).getLast? = some (.int t) := by rw [hrt]; simp
      have hdrop : (ns.map Dat.int).dropLast = r.map .int := by rw [hrt]; simp
      have hdP : dealtP (f + 1) ns = if t > (r.length : Int) then false else if (dStep ns).headD 0 < 0 then false else dealtP f (dStep ns) := by
        rw [dealtP, if_neg hone, hgl, hdl]
      have hl2 : builtD "len" [.list (r.map .int)] = some (.int (r.length : Int)) := by
        rw [o_lenl (by simp; (first | decide | lia | omega))]; simp
      have body : RT Φ0 30 100 (hookAll Φ0 30) (kdOf 10) 98 (whBody 10 1) σ (fun x => match x with
          | (.ret d, _) => d = .bool false ∧ dealtP (f + 1) ns = false
          | (.next, σ') => gv σ' "rest" = some (.list ((dStep ns).map .int), true) ∧ ¬ t > (r.length : Int) ∧ ¬ (dStep ns).headD 0 < 0) := by
        refine' rt_next (e_pop (d := .int t) (by decide +kernel) ?p1 hpop ?p2) ?p3
        case p1 => exact hr
        case p2 => exact ⟨rfl, by rw [hdrop]; exact ints_imm r, by rw [hdrop]; simp; (first | decide | lia | omega)⟩
        case p3 =>
        rw [hdrop]
        by_cases htop : t > (r.length : Int)
        · have hgt2 : cmpD .Gt (.int t) (.int (r.length : Int)) = some (.bool true) := by rw [o_gt, decide_eq_true htop]
          refine' rt_ret (e_if_t (by kernel_rfl) ?q1 (x_ret (e_return (by kernel_rfl) ?q2 ?q3))) ?q4
          case q1 =>
            refine' ts_cmp ?g2
            case g2 => walk_at "X.tr"
          case q2 => walk_at "X.e"
          case q3 => rfl
          case q4 => exact ⟨rfl, by rw [hdP, if_pos htop]⟩
        · have hgt2 : cmpD .Gt (.int t) (.int (r.length : Int)) = some (.bool false) := by rw [o_gt, decide_eq_false htop]
          refine' rt_guard (by kernel_rfl) ?q1 ?q5
          case q1 =>
            refine' ts_cmp ?g2
            case g2 => walk_at "X.tr"
          case q5 =>
          have htn : t = (t.toNat : Int) := by (first | decide | lia | omega)
          have htl : t.toNat ≤ r.length := by (first | decide | lia | omega)
          have hpk := pick_take (r.map .int) t.toNat (by simp; (first | decide | lia | omega)) (by simpa using htl)
          have hs1 : sliceD (.list (r.map .int)) none (some (.int t)) none = some (.list ((r.take t.toNat).map .int)) := by
            have := o_slice (ds := r.map .int) (lo := none) (hi := some t) ⟨ints_imm r, by simp; (first | decide | lia | omega)⟩
            rw [List.map_take, ← hpk.1, ← htn]; exact this
          have hs2 : sliceD (.list (r.map .int)) (some (.int t)) none none = some (.list ((r.drop t.toNat).map .int)) := by
            have := o_slice (ds := r.map .int) (lo := some t) (hi := none) ⟨ints_imm r, by simp; (first | decide | lia | omega)⟩
            rw [List.map_drop, ← hpk.2, ← htn]; exact this
          have happ : binD .Add (.list ((r.take t.toNat).map .int)) (.list (((r.drop t.toNat).map (· - 1)).map .int)) = some (.list ((r.take t.toNat ++ (r.drop t.toNat).map (· - 1)).map .int)) := by
            rw [o_addl ⟨ints_imm _, ints_imm _, by simp; (first | decide | lia | omega)⟩, List.map_append]
          have hcomp : ∀ (n : Nat) (ρ : Vs) (κ' : Kd) (x : Str) (elt : Expr), (∀ i : Int, ev Φ0 n κ' (inComp κ' ρ (bind1 x (.int i) nob)) elt = some (.int (i - 1))) → compRun (ev Φ0 n) κ' ρ x elt [] ((r.drop t.toNat).map .int) = some (((r.drop t.toNat).map (· - 1)).map .int) := fun n ρ κ' x elt h => by
            have := cr_map (rec := ev Φ0 n) (κ' := κ') (ρ := ρ) (x := x) (elt := elt) (g := fun d => match d with | .int i => .int (i - 1) | d => d) (l := (r.drop t.toNat).map .int) fun d hd => by
              obtain ⟨i, _, rfl⟩ := List.mem_map.mp hd
              exact ⟨h i, by rw [show imm (Dat.int (i - 1)) = true from rfl, Bool.or_true]⟩
            rw [this, List.map_map, List.map_map]
            rfl
          refine' rt_next (e_sorti (ns := r.take t.toNat ++ (r.drop t.toNat).map (· - 1)) (by decide +kernel) ?s1 (intsOf_map _) ?s2) ?s3
          case s2 => simp; (first | decide | lia | omega)
          case s1 =>
            refine' ev_bin ?t1 ?t2 happ
            case t1 => walk_at "X.e"
            case t2 =>
              refine' ev_comp (by decide +kernel) ?u1 (hcomp _ _ _ _ _ ?u2) ?u3
              case u1 =>
                refine' it_sub ?u4
                case u4 => walk_at "X.e"
              case u2 =>
                intro i
                walk_at "X.e"
              case u3 => (unfold lineMax; simp; (first | decide | lia | omega))
          case s3 =>
          have hds : srtI (r.take t.toNat ++ (r.drop t.toNat).map (· - 1)) = dStep ns := by unfold dStep; rw [hgl, hdl]
          rw [hds]
          have hdl2 : (dStep ns).length = ns.length - 1 := dStep_len
          obtain ⟨y, ys, hys⟩ : ∃ y ys, dStep ns = y :: ys := by
            cases q : dStep ns with
            | nil => rw [q] at hdl2; simp at hdl2; (first | decide | lia | omega)
            | cons y ys => exact ⟨y, ys, rfl⟩
          have hhead : (dStep ns).headD 0 = y := by rw [hys]; rfl
          have hitem : itemD (.list ((dStep ns).map .int)) (.int 0) = some (.int y) := by rw [hys]; rfl
          by_cases hneg : y < 0
          · have hlt : cmpD .Lt (.int y) (.int 0) = some (.bool true) := by rw [o_lt, decide_eq_true hneg]
            refine' rt_ret (e_if_t (by kernel_rfl) ?v1 (x_ret (e_return (by kernel_rfl) ?v2 ?v3))) ?v4
            case v1 =>
              refine' ts_cmp ?g3
              case g3 => walk_at "X.tr"
            case v2 => walk_at "X.e"
            case v3 => rfl
            case v4 => exact ⟨rfl, by rw [hdP, if_neg htop, hhead, if_pos hneg]⟩
          · have hlt : cmpD .Lt (.int y) (.int 0) = some (.bool false) := by rw [o_lt, decide_eq_false hneg]
            refine' rt_guard (by kernel_rfl) ?v1 (rt_nil ?v5)
            case v1 =>
              refine' ts_cmp ?g3
              case g3 => walk_at "X.tr"
            case v5 => exact ⟨by walk_at "X.g", htop, by rw [hhead]; exact hneg⟩
      obtain ⟨⟨fl, σ'⟩, e1, hbody⟩ := body
      cases fl with
      | ret d =>
        obtain ⟨rfl, hd⟩ := hbody
        exact ⟨(.ret (.bool false), σ'), w_ret htest e1, .inl ⟨σ', rfl, hd⟩⟩
      | next =>
        obtain ⟨b1, b2, b3⟩ := hbody
        have hdl2 : (dStep ns).length = ns.length - 1 := dStep_len
        obtain ⟨r2, e2, h2'⟩ := ih (dStep ns) σ' (by (first | decide | lia | omega)) (by (first | decide | lia | omega)) (by (first | decide | lia | omega)) (dStep_nonneg b3) b1 W' (by (first | decide | lia | omega))
        refine ⟨r2, w_yes htest e1 e2, ?_⟩
        rw [hdP, if_neg b2, if_neg b3]
        exact h2'
theorem dealt_run {ns : List Int} (h5 : ns.length = 5) (hnn : ∀ x ∈ ns, 0 ≤ x) : Φ3.fn "_law_dealt" [.list (ns.map .int)] = some (.bool (dealtP 5 (srtI ns))) := by
  have e : Φ3.fn "_law_dealt" [.list (ns.map .int)] = runDef Φ0 10 ["points"] [.list (ns.map .int)] := by kernel_rfl
  rw [e]
  have run : RT Φ0 30 100 (hookAll Φ0 30) (kdOf 10) 100 (bodyOf 10) (lent ["points"] [.list (ns.map .int)]) (fun r => r.1 = .ret (.bool (dealtP 5 (srtI ns)))) := by
    show RT Φ0 30 100 (hookAll Φ0 30) (kdOf 10) 100 (bodyOf 10) [("points", .list (ns.map .int), false)] _
    refine' rt_next (e_sorti (ns := ns) (by decide +kernel) ?a1 (intsOf_map _) ?a2) ?a3
    case a1 => walk_at "X.e"
    case a2 => (first | decide | lia | omega)
    case a3 =>
    have hlen := srtI_len ns
    obtain ⟨r, e1, hr⟩ := dealt_loop 5 (srtI ns) (sv [("points", .list (ns.map .int), false)] "rest" (.list ((srtI ns).map .int), true)) (by (first | decide | lia | omega)) (by (first | decide | lia | omega)) (by (first | decide | lia | omega)) (fun x hx => hnn x ((srtI_perm ns).mem_iff.mp hx)) gv_eq 100 (by (first | decide | lia | omega))
    rcases hr with ⟨σ', rfl, hd⟩ | ⟨σ', x, rfl, hg, hd⟩
    · refine' rt_ret (e_while (by kernel_rfl) e1) ?b1
      case b1 => rw [hd]
    · refine' rt_next (e_while (by kernel_rfl) e1) ?c1
      case c1 =>
      have heq : cmpD .Eq (.list [.int x]) (.list [.int 0]) = some (.bool (decide (x = 0))) := by
        rw [o_eql (by rfl) (by rfl)]
        simp [toPys, toPy, PyData.eqvAll, eqv_int]
      refine' rt_ret (e_return (by kernel_rfl) ?c2 ?c3) ?c4
      case c2 => walk_at "X.e"
      case c3 => rfl
      case c4 => rw [hd]
  obtain ⟨⟨r, σ'⟩, run, hr⟩ := run
  have hr' : r = .ret (.bool (dealtP 5 (srtI ns))) := hr
  subst hr'
  unfold runDef
  rw [if_pos (by rfl), run]
end
section

theorem cr5 {rec : Kd → Vs → Expr → Option Dat} {κ' : Kd} {ρ : Vs} {x : Str} {elt : Expr} {f g : Nat → Dat} (h : ∀ i, i < 5 → rec κ' (inComp κ' ρ (bind1 x (f i) nob)) elt = some (g i)) (hf : ∀ i, i < 5 → (freshE elt || imm (g i)) = true) : compRun rec κ' ρ x elt [] (l5 f) = some (l5 g) :=
  cr_cons (h 0 (by (first | decide | lia | omega))) (hf 0 (by (first | decide | lia | omega))) (cr_cons (h 1 (by (first | decide | lia | omega))) (hf 1 (by (first | decide | lia | omega))) (cr_cons (h 2 (by (first | decide | lia | omega))) (hf 2 (by (first | decide | lia | omega))) (cr_cons (h 3 (by (first | decide | lia | omega))) (hf 3 (by (first | decide | lia | omega))) (cr_cons (h 4 (by (first | decide | lia | omega))) (hf 4 (by (first | decide | lia | omega))) cr_nil))))
theorem o_pow {a n : Int} (h : a.natAbs < 2 ^ 60 ∧ 0 ≤ n ∧ n ≤ 1000) : binD .Pow (.int a) (.int n) = some (.int (a ^ n.toNat)) := if_pos h
noncomputable def pickN (ns : List Int) (lo hi st : Option Int) : List Int := (sliceRange (sliceBounds lo hi st ns.length).1 (sliceBounds lo hi st ns.length).2.1 (sliceBounds lo hi st ns.length).2.2).filterMap (ns[·]?)
theorem pickD_ints (ns : List Int) (lo hi st : Option Int) : pickD (ns.map .int) lo hi st = (pickN ns lo hi st).map .int := by
  unfold pickD pickN
  rw [List.length_map]
  generalize sliceRange _ _ _ = idx
  induction idx with
  | nil => rfl
  | cons i r ih =>
    rw [List.filterMap_cons, List.filterMap_cons, List.getElem?_map]
    cases ns[i]? with
    | none => exact ih
    | some v => simp only [Option.map_some, List.map_cons]; rw [ih]
theorem o_slice3 {ns : List Int} {lo : Option Int} (h : ns.length ≤ 1000) : sliceD (.list (ns.map .int)) (lo.map .int) none (some (.int 3)) = some (.list ((pickN ns lo none (some 3)).map .int)) := by
  have e : ∀ x : Option Int, partD (x.map .int) = some x := fun x => by cases x <;> rfl
  show (match partD (lo.map .int), partD none, partD (some (.int 3)) with | some l, some u, some k => (if (ns.map Dat.int).all imm = true ∧ (ns.map Dat.int).length ≤ lineMax ∧ (k == some 0) = false then some (Dat.list (pickD (ns.map .int) l u k)) else none) | _, _, _ => none) = _
  rw [e]
  show (if (ns.map Dat.int).all imm = true ∧ (ns.map Dat.int).length ≤ lineMax ∧ ((some 3 : Option Int) == some 0) = false then some (Dat.list (pickD (ns.map .int) lo none (some 3))) else none) = _
  rw [if_pos ⟨ints_imm ns, by rw [List.length_map]; unfold lineMax; (first | decide | lia | omega), by decide⟩, pickD_ints]
theorem pick_len_chk : ((List.range 64).all fun n => decide ((sliceRange (sliceBounds none none (some 3) n).1 (sliceBounds none none (some 3) n).2.1 (sliceBounds none none (some 3) n).2.2).length ≤ 100 ∧
  (sliceRange (sliceBounds (some 1) none (some 3) n).1 (sliceBounds (some 1) none (some 3) n).2.1 (sliceBounds (some 1) none (some 3) n).2.2).length ≤ 100 ∧
  (sliceRange (sliceBounds (some 2) none (some 3) n).1 (sliceBounds (some 2) none (some 3) n).2.1 (sliceBounds (some 2) none (some 3) n).2.2).length ≤ 100)) = true := by decide +kernel
theorem pick_len {ns : List Int} (h : ns.length < 64) : (pickN ns none none (some 3)).length ≤ 100 ∧ (pickN ns (some 1) none (some 3)).length ≤ 100 ∧ (pickN ns (some 2) none (some 3)).length ≤ 100 := by
  have := List.all_eq_true.mp pick_len_chk ns.length (List.mem_range.mpr h)
  simp only [decide_eq_true_eq] at this
  unfold pickN
  exact ⟨Nat.le_trans (List.length_filterMap_le ..) this.1, Nat.le_trans (List.length_filterMap_le ..) this.2.1, Nat.le_trans (List.length_filterMap_le ..) this.2.2⟩
local macro_rules | `(tactic| walk_at "X.tst") => `(tactic| with_reducible assumption)
local macro_rules | `(tactic| walk_at "X.op2") => `(tactic| ((with_reducible refine' o_pow ?h); (case h => decide +kernel)))

/-! ## The law: the first nine statements -/
noncomputable abbrev κL : Kd := kdOf 11
noncomputable def lawA : List Stmt := (bodyOf 11).take 10
noncomputable def lawD : List Stmt := (bodyOf 11).drop 11
noncomputable abbrev hL : Hook := hookAll Φ3 30
noncomputable def wnames : Dat := .list (l5 fun i => .str (nm i))
noncomputable def wlines (a : Nat → Nat) : Dat := .list (l5 fun i => .str (line i (a i)))

structure FA (σ : Sg) (F S T b : Int) : Prop where
  first : gv σ "first" = some (.int F, true)
  second : gv σ "second" = some (.int S, true)
  third : gv σ "third" = some (.int T, true)
  begin : gv σ "begin" = some (.int b, true)
  names : gv σ "names" = some (wnames, true)

theorem line4 : ∀ i, i < 5 → (("    " : Str) ++ nm i) ++ ("  " : Str) = line i 4 := lt5_cases (by decide +kernel) (by decide +kernel) (by decide +kernel) (by decide +kernel) (by decide +kernel)
theorem nm_len : ∀ i, i < 5 → (nm i).length ≤ 3 := lt5_cases (by decide +kernel) (by decide +kernel) (by decide +kernel) (by decide +kernel) (by decide +kernel)

theorem stageA {ns : List Int} (h63 : ns.length < 64) {P : Fl × Sg → Prop}
    (next : ∀ σ F S T b, FA σ F S T b → gv σ "lines" = some (wlines fun _ => 4, true) → gv σ "won" = some (.list (mrows 0), true) → gv σ "place" = some (.int 0, true) → RT Φ3 30 100 hL κL 92 (lawA.drop 8) σ P) :
    RT Φ3 30 100 hL κL 100 lawA [("script", .list (ns.map .int), false)] P := by
  obtain ⟨l1, l2, l3⟩ := pick_len h63
  have s1 : sliceD (.list (ns.map .int)) none none (some (.int 3)) = some (.list ((pickN ns none none (some 3)).map .int)) := o_slice3 (lo := none) (by (first | decide | lia | omega))
  have s2 : sliceD (.list (ns.map .int)) (some (.int 1)) none (some (.int 3)) = some (.list ((pickN ns (some 1) none (some 3)).map .int)) := o_slice3 (lo := some 1) (by (first | decide | lia | omega))
  have s3 : sliceD (.list (ns.map .int)) (some (.int 2)) none (some (.int 3)) = some (.list ((pickN ns (some 2) none (some 3)).map .int)) := o_slice3 (lo := some 2) (by (first | decide | lia | omega))
  have u1 := o_sum (ds := (pickN ns none none (some 3)).map .int) (by simp; (first | decide | lia | omega)) (intsOf_map _)
  have u2 := o_sum (ds := (pickN ns (some 1) none (some 3)).map .int) (by simp; (first | decide | lia | omega)) (intsOf_map _)
  have u3 := o_sum (ds := (pickN ns (some 2) none (some 3)).map .int) (by simp; (first | decide | lia | omega)) (intsOf_map _)
  refine' rt_next (e_assign (by kernel_rfl) (by decide +kernel) ?a1 ?a2) ?a3
  case a1 => walk_at "X.e"
  case a2 => rfl
  case a3 =>
  refine' rt_next (e_assign (by kernel_rfl) (by decide +kernel) ?b1 ?b2) ?b3
  case b1 => walk_at "X.e"
  case b2 => rfl
  case b3 =>
  refine' rt_next (e_assign (by kernel_rfl) (by decide +kernel) ?c1 ?c2) ?c3
  case c1 => walk_at "X.e"
  case c2 => rfl
  case c3 =>
  refine' rt_next (e_assign (by kernel_rfl) (by decide +kernel) ?d1 ?d2) ?d3
  case d1 => walk_at "X.e"
  case d2 => rfl
  case d3 =>
  refine' rt_next (e_assign (by kernel_rfl) (by decide +kernel) ?e1 ?e2) ?e3
  case e1 => walk_at "X.e"
  case e2 => rfl
  case e3 =>
  refine' rt_next (e_assign (by kernel_rfl) (by decide +kernel) ?g1 ?g2) ?g3
  case g1 =>
    refine' ev_comp (ds := l5 fun i => .str (line i 4)) (by decide +kernel) (it_var ?i1) ?i2 (by decide)
    case i1 => walk_at "X.e"
    case i2 =>
      show compRun _ _ _ _ _ [] (l5 fun i => .str (nm i)) = _
      refine' cr5 (fun i hi => ?j1) (fun _ _ => rfl)
      have q := line4 i hi
      have q1 := nm_len i hi
      have q2 : binD .Add (.str "    ") (.str (nm i)) = some (.str (("    " : Str) ++ nm i)) := o_adds (by rw [show ("    " : Str).length = 4 from rfl]; (first | decide | lia | omega))
      have q3 : binD .Add (.str (("    " : Str) ++ nm i)) (.str "  ") = some (.str (line i 4)) := (o_adds (by rw [len_app, show ("    " : Str).length = 4 from rfl, show ("  " : Str).length = 2 from rfl]; (first | decide | lia | omega))).trans (by rw [q])
      walk_at "X.e"
  case g2 => rfl
  case g3 =>
  refine' rt_next (e_assign (by kernel_rfl) (by decide +kernel) ?k1 ?k2) ?k3
  case k1 =>
    refine' ev_comp (ds := mrows 0) (by decide +kernel) (it_var ?l1) ?l2 (by decide)
    case l1 => walk_at "X.e"
    case l2 =>
      show compRun _ _ _ _ _ [] (l5 fun i => .str (nm i)) = _
      refine' cr5 (fun i hi => ?m1) (fun _ _ => rfl)
      have q : binD .Mult (.list [.int 0]) (.int 5) = some (.list (mrow 0 i)) := by
        rw [show mrow 0 i = mrow 0 0 from l5_congr fun j _ => by simp [bi]]
        kernel_rfl
      walk_at "X.e"
  case k2 => rfl
  case k3 =>
  refine' rt_next (e_assign (by kernel_rfl) (by decide +kernel) ?n1 ?n2) ?n3
  case n1 => walk_at "X.e"
  case n2 => rfl
  case n3 =>
  refine next _ (560 + (pickN ns none none (some 3)).sum) (-3024719 + (pickN ns (some 1) none (some 3)).sum) (1268 + (pickN ns (some 2) none (some 3)).sum) ((-3024719 + (pickN ns (some 1) none (some 3)).sum).fdiv (4 ^ Int.toNat 10)) ⟨?_, ?_, ?_, ?_, ?_⟩ ?_ ?_ ?_
  · walk_at "X.g"
  · walk_at "X.g"
  · walk_at "X.g"
  · walk_at "X.g"
  · show gv _ _ = some (.list [.str "\"", .str "(", .str ")", .str "C )", .str "\\(\\"], true)
    walk_at "X.g"
  · unfold wlines
    walk_at "X.g"
  · walk_at "X.g"
  · walk_at "X.g"
end
section
local macro_rules | `(tactic| walk_at "X.tst") => `(tactic| with_reducible assumption)
local macro_rules | `(tactic| walk_at "X.op2") => `(tactic| fail)

/-! ## The games -/
noncomputable def firstAt : Nat → Nat
  | 0 => 0
  | 1 => 4
  | 2 => 7
  | 3 => 9
  | _ => 10
noncomputable def pair : Nat → Nat × Nat
  | 0 => (0, 1)
  | 1 => (0, 2)
  | 2 => (0, 3)
  | 3 => (0, 4)
  | 4 => (1, 2)
  | 5 => (1, 3)
  | 6 => (1, 4)
  | 7 => (2, 3)
  | 8 => (2, 4)
  | _ => (3, 4)
noncomputable def winner (t q : Nat) : Nat := if t.testBit q then (pair q).1 else (pair q).2
noncomputable def loser (t q : Nat) : Nat := if t.testBit q then (pair q).2 else (pair q).1
noncomputable def aS (t : Nat) : Nat → Nat → Nat
  | 0 => fun _ => 4
  | q + 1 => fun k => if k = loser t q then aS t q k - 1 else aS t q k
noncomputable def cS (t : Nat) : Nat → Nat
  | 0 => 0
  | q + 1 => cS t q ||| (1 <<< (5 * winner t q + loser t q))
noncomputable def wl (a : Nat → Nat) : List Dat := l5 fun i => .str (line i (a i))
noncomputable def tOf (F : Int) : Nat := (F.fmod 1024).toNat
theorem tOf_lt (F : Int) : tOf F < 1024 := by
  unfold tOf
  rw [Int.fmod_eq_emod_of_nonneg _ (by (first | decide | lia | omega))]
  (first | decide | lia | omega)
theorem aS_chk : ((List.range 1024).all fun t => (List.range 10).all fun q => Nat.ble 1 (aS t q (loser t q)) && Nat.ble (aS t q (loser t q)) 4) = true := by decide +kernel
theorem aS_ok {t q : Nat} (ht : t < 1024) (hq : q < 10) : 1 ≤ aS t q (loser t q) ∧ aS t q (loser t q) ≤ 4 := by
  have h := all2 aS_chk ht hq
  rw [Bool.and_eq_true] at h
  exact ⟨Nat.le_of_ble_eq_true h.1, Nat.le_of_ble_eq_true h.2⟩
theorem pair_at : ∀ i, i < 5 → ∀ j, j < 4 - i → pair (firstAt i + j) = (i, i + 1 + j) := lt5_cases (by decide) (by decide) (by decide) (by decide) (by decide)
theorem firstAt_next : ∀ i, i < 5 → firstAt i + (4 - i) = firstAt (i + 1) := lt5_cases rfl rfl rfl rfl rfl
theorem firstAt_lt : ∀ i, i < 5 → ∀ j, j < 4 - i → firstAt i + j < 10 := lt5_cases (by decide) (by decide) (by decide) (by decide) (by decide)

theorem bit_m (F : Int) {m d : Nat} (hm : m ≠ 0) (h : (m : Int) * (2 * (d : Int)) = 1024) : (F / (m : Int)) % 2 = (((tOf F / m % 2 : Nat)) : Int) := by
  have ht : ((tOf F : Nat) : Int) = F % 1024 := by
    unfold tOf
    rw [Int.fmod_eq_emod_of_nonneg _ (by decide)]
    exact Int.toNat_of_nonneg (Int.emod_nonneg _ (by decide))
  have hF : F = (tOf F : Int) + (m : Int) * (2 * ((d : Int) * (F / 1024))) := by
    have e := Int.emod_add_mul_ediv F 1024
    rw [← ht, ← h] at e
    rw [← Int.mul_assoc 2, ← Int.mul_assoc]
    rw [h] at e ⊢
    exact e.symm
  have hz : (m : Int) ≠ 0 := Int.natCast_ne_zero.mpr hm
  have e2 : F / (m : Int) = (tOf F : Int) / (m : Int) + 2 * ((d : Int) * (F / 1024)) := by
    conv => lhs; rw [hF]
    exact Int.add_mul_ediv_left _ _ hz
  rw [e2, Int.add_mul_emod_self_left]
  rfl
theorem pow_10 : ∀ q, q < 10 → 2 ^ q * (2 * 2 ^ (9 - q)) = 1024 := by decide
theorem bit_at (F : Int) {q : Nat} (hq : q < 10) : (F.fdiv ((2 : Int) ^ (Int.toNat (q : Int)))).fmod 2 = bi ((tOf F).testBit q) := by
  have hp : (((2 ^ q : Nat) : Int)) * (2 * ((2 ^ (9 - q) : Nat) : Int)) = 1024 := by exact_mod_cast pow_10 q hq
  have hm : (2 ^ q : Nat) ≠ 0 := Nat.pos_iff_ne_zero.mp (Nat.two_pow_pos q)
  have e2 : ((2 : Int) ^ (Int.toNat (q : Int))) = ((2 ^ q : Nat) : Int) := by rw [Int.toNat_natCast]; exact (Int.natCast_pow 2 q).symm
  rw [Nat.testBit_eq_decide_div_mod_eq, e2, Int.fmod_eq_emod_of_nonneg _ (by decide), Int.fdiv_eq_ediv_of_nonneg _ (Int.natCast_nonneg _), bit_m F hm hp]
  rcases Nat.mod_two_eq_zero_or_one (tOf F / 2 ^ q) with e | e <;> rw [e] <;> rfl

noncomputable def ch (b : Bool) : Str := if b then ">" else "<"
noncomputable def bs : Nat → Int
  | 0 => 20
  | 1 => 29
  | 2 => 33
  | _ => 44
noncomputable def s1 (b : Bool) (k : Nat) : Str := Txt.mul (ch b) (1 + (k : Int).fdiv 2)
noncomputable def s2 (k : Nat) : Str := Txt.mul "=" ((k : Int).fmod 2)
theorem lt4_cases {P : Nat → Prop} (h0 : P 0) (h1 : P 1) (h2 : P 2) (h3 : P 3) : ∀ i, i < 4 → P i := fun i h => by
  match i, h with
  | 0, _ => exact h0
  | 1, _ => exact h1
  | 2, _ => exact h2
  | 3, _ => exact h3
theorem m_base : ∀ k, k < 4 → itemD (.list [.int 20, .int 29, .int 33, .int 44]) (.int ((k : Nat) : Int)) = some (.int (bs k)) := lt4_cases rfl rfl rfl rfl
theorem m_ch (b : Bool) : itemD (.str "<>") (.int (bi b)) = some (.str (ch b)) := by cases b <;> kernel_rfl
theorem m_1 (b : Bool) : ∀ k, k < 4 → binD .Mult (.str (ch b)) (.int (1 + ((k : Nat) : Int).fdiv 2)) = some (.str (s1 b k)) := lt4_cases (by cases b <;> kernel_rfl) (by cases b <;> kernel_rfl) (by cases b <;> kernel_rfl) (by cases b <;> kernel_rfl)
theorem m_2 : ∀ k, k < 4 → binD .Mult (.str "=") (.int (((k : Nat) : Int).fmod 2)) = some (.str (s2 k)) := lt4_cases (by kernel_rfl) (by kernel_rfl) (by kernel_rfl) (by kernel_rfl)
theorem m_3 (b : Bool) : ∀ k, k < 4 → binD .Add (.str (s1 b k)) (.str (s2 k)) = some (.str (s1 b k ++ s2 k)) := lt4_cases (by cases b <;> kernel_rfl) (by cases b <;> kernel_rfl) (by cases b <;> kernel_rfl) (by cases b <;> kernel_rfl)
theorem m_4 (b : Bool) : ∀ k, k < 4 → Φ3.dct "EXACT_TOKEN_TYPES" (.str (s1 b k ++ s2 k)) = some (.int (bs k + bi b)) := lt4_cases (by cases b <;> kernel_rfl) (by cases b <;> kernel_rfl) (by cases b <;> kernel_rfl) (by cases b <;> kernel_rfl)
theorem m_item {x y : Dat} (b : Bool) : itemD (.list [x, y]) (.int (bi b)) = some (if b then y else x) := by cases b <;> rfl
theorem rng_at : ∀ i, i < 5 → rangeD [.int (((i : Nat) : Int) + 1), .int 5] = some ((List.range (4 - i)).map fun d => .int (((i + 1 + d : Nat)) : Int)) := lt5_cases (by kernel_rfl) (by kernel_rfl) (by kernel_rfl) (by kernel_rfl) (by kernel_rfl)
theorem m_set {a : Nat → Nat} {lo : Nat} (h : lo < 5) : setAt (.int (lo : Int)) (wl a) (.str (line lo (a lo - 1))) = some (wl fun k => if k = lo then a k - 1 else a k) := by
  unfold wl
  rw [setAt_l5 (fun _ _ => rfl) lo h]
  congr 1
  refine l5_congr fun i _ => ?_
  show _ = Dat.str (line i (if i = lo then a i - 1 else a i))
  by_cases hi : i = lo
  · rw [if_pos hi, if_pos hi, hi]
  · rw [if_neg hi, if_neg hi]
noncomputable def jsB : List Str := ["one", "other", "bit", "kind", "base", "number", "loser", "lines", "won", "place"]

theorem pick2 (b : Bool) (x y : Nat) : (if b then Dat.int (y : Int) else Dat.int (x : Int)) = .int ((if b then y else x : Nat) : Int) := by cases b <;> rfl
theorem stageB {σ0 : Sg} {F S T b : Int} {P : Fl × Sg → Prop} (fa : FA σ0 F S T b) (hl : gv σ0 "lines" = some (wlines fun _ => 4, true)) (hw : gv σ0 "won" = some (.list (mrows 0), true)) (hp : gv σ0 "place" = some (.int 0, true))
    (next : ∀ σ, Same jsB σ0 σ → gv σ "lines" = some (.list (wl (aS (tOf F) 10)), true) → gv σ "won" = some (.list (mrows (cS (tOf F) 10)), true) → RT Φ3 30 100 hL κL 91 (lawA.drop 9) σ P) :
    RT Φ3 30 100 hL κL 92 (lawA.drop 8) σ0 P := by
  obtain ⟨n1, n2, n3, n4, n5⟩ := fa
  have ht := tOf_lt F
  generalize hT : tOf F = t at *
  refine' rt_st (st_for_range (items := R5) (fun i σ => Same jsB σ0 σ ∧ gv σ "lines" = some (.list (wl (aS t (firstAt i))), true) ∧ gv σ "won" = some (.list (mrows (cS t (firstAt i))), true) ∧ gv σ "place" = some (.int (firstAt i : Nat), true)) (by kernel_rfl) (by decide +kernel) ?b1 range5 ?b2 ?b3 ?b4)
  case b1 => walk_at "X.as"
  case b2 => exact ⟨Same.refl, hl, hw, hp⟩
  case b4 => exact fun σ h => next σ h.1 h.2.1 h.2.2.1
  case b3 =>
    intro i d σ hid hI
    obtain ⟨hi, rfl⟩ := R5_at hid
    obtain ⟨hs, g1, g2, g3⟩ := hI
    have hr := rng_at i hi
    refine' rt_st (st_for_range (items := (List.range (4 - i)).map fun d => .int (((i + 1 + d : Nat)) : Int)) (fun j σ => Same jsB σ0 σ ∧ gv σ "one" = some (.int (i : Int), true) ∧ gv σ "lines" = some (.list (wl (aS t (firstAt i + j))), true) ∧ gv σ "won" = some (.list (mrows (cS t (firstAt i + j))), true) ∧ gv σ "place" = some (.int ((firstAt i + j : Nat) : Int), true)) (by kernel_rfl) (by decide +kernel) ?c1 hr ?c2 ?c3 ?c4)
    case c1 => walk_at "X.as"
    case c2 => exact ⟨hs.set (by decide +kernel), gv_eq, gv_ne (by decide +kernel) g1, gv_ne (by decide +kernel) g2, gv_ne (by decide +kernel) g3⟩
    case c4 =>
      intro σ' hI'
      refine rt_nil ?_
      obtain ⟨k0, _, k1, k2, k3⟩ := hI'
      rw [List.length_map, List.length_range, firstAt_next i hi] at k1 k2 k3
      exact ⟨k0, k1, k2, k3⟩
    case c3 =>
      intro j d σ1 hjd hI1
      obtain ⟨hs1, o1, o2, o3, o4⟩ := hI1
      have hj : j < 4 - i := by
        rcases Nat.lt_or_ge j (4 - i) with q | q
        · exact q
        · rw [List.getElem?_eq_none (by simpa using q)] at hjd; cases hjd
      rw [List.getElem?_map, List.getElem?_range hj] at hjd
      obtain rfl : Dat.int ((i + 1 + j : Nat) : Int) = d := by simpa using hjd
      have hq := firstAt_lt i hi j hj
      have hpr := pair_at i hi j hj
      have eS1 : cS t (firstAt i + (j + 1)) = cS t (firstAt i + j) ||| (1 <<< (5 * winner t (firstAt i + j) + loser t (firstAt i + j))) := rfl
      have eS2 : aS t (firstAt i + (j + 1)) = fun k => if k = loser t (firstAt i + j) then aS t (firstAt i + j) k - 1 else aS t (firstAt i + j) k := rfl
      have eS3 : ((firstAt i + (j + 1) : Nat) : Int) = ((firstAt i + j : Nat) : Int) + 1 := rfl
      rw [eS1, eS2, eS3]
      generalize firstAt i + j = q at hq hpr o2 o3 o4 ⊢
      have ⟨ha1, ha2⟩ := aS_ok (t := t) (q := q) (by (first | decide | lia | omega)) hq
      have hbit := bit_at F hq
      rw [hT] at hbit
      have ew : winner t q = if t.testBit q then i else i + 1 + j := by unfold winner; rw [hpr]
      have el : loser t q = if t.testBit q then i + 1 + j else i := by unfold loser; rw [hpr]
      have hlo : loser t q < 5 := by rw [el]; split <;> (first | decide | lia | omega)
      have hwi : winner t q < 5 := by rw [ew]; split <;> (first | decide | lia | omega)
      generalize winner t q = wi at *
      generalize loser t q = lo at *
      generalize aS t q = a at *
      generalize cS t q = c at *
      generalize t.testBit q = bt at *
      generalize i + 1 + j = o at *
      obtain ⟨kd, hkd, hkd4⟩ : ∃ kd : Nat, (S.fdiv ((4 : Int) ^ (Int.toNat (q : Int)))).fmod 4 = (kd : Int) ∧ kd < 4 := by
        refine ⟨((S.fdiv ((4 : Int) ^ (Int.toNat (q : Int)))).fmod 4).toNat, ?_, ?_⟩ <;> (rw [Int.fmod_eq_emod_of_nonneg _ (by (first | decide | lia | omega))]; (first | decide | lia | omega))
      have p1 : binD .Pow (.int 2) (.int (q : Int)) = some (.int ((2 : Int) ^ (Int.toNat (q : Int)))) := o_pow ⟨by decide, by (first | decide | lia | omega), by (first | decide | lia | omega)⟩
      have p2 : binD .Pow (.int 4) (.int (q : Int)) = some (.int ((4 : Int) ^ (Int.toNat (q : Int)))) := o_pow ⟨by decide, by (first | decide | lia | omega), by (first | decide | lia | omega)⟩
      have z2 : ∀ q, q < 10 → (0 : Int) < (2 : Int) ^ (Int.toNat ((q : Nat) : Int)) ∧ (2 : Int) ^ (Int.toNat ((q : Nat) : Int)) < 1073741824 := by decide
      have z4 : ∀ q, q < 10 → (0 : Int) < (4 : Int) ^ (Int.toNat ((q : Nat) : Int)) ∧ (4 : Int) ^ (Int.toNat ((q : Nat) : Int)) < 1073741824 := by decide
      have p3 := o_fdiv (a := F) (z2 q hq)
      have p4 := o_fdiv (a := S) (z4 q hq)
      have p5 : binD .Mod (.int (F.fdiv ((2 : Int) ^ (Int.toNat (q : Int))))) (.int 2) = some (.int (bi bt)) := by rw [← hbit]; exact o_mod (by decide)
      have p6 : binD .Mod (.int (S.fdiv ((4 : Int) ^ (Int.toNat (q : Int))))) (.int 4) = some (.int (kd : Int)) := by rw [← hkd]; exact o_mod (by decide)
      have f1 := m_base kd hkd4
      have f2 := m_ch bt
      have f3 := m_1 bt kd hkd4
      have f4 := m_2 kd hkd4
      have f5 := m_3 bt kd hkd4
      have f6 := m_4 bt kd hkd4
      have f7 : cmpD .NotEq (.int (bs kd + bi bt)) (.int (bs kd + bi bt)) = some (.bool false) := by rw [o_nei]; simp
      have f8 : itemD (.list [.int (i : Int), .int (o : Int)]) (.int (bs kd + bi bt - bs kd)) = some (.int (lo : Int)) := by
        rw [show bs kd + bi bt - bs kd = bi bt by (first | decide | lia | omega), m_item, pick2, el]
      have f9 : itemD (.list (wl a)) (.int (lo : Int)) = some (.str (line lo (a lo))) := item_l5 lo hlo
      have f10 : Φ3.fn "_strip_padding" [.str (line lo (a lo)), .int 1] = some (.str (line lo (a lo - 1))) := by
        have := strip1 (i := lo) (a := a lo - 1) hlo (by (first | decide | lia | omega))
        rw [show a lo - 1 + 1 = a lo by (first | decide | lia | omega)] at this
        exact this
      have f11 : itemD (.list [.int (o : Int), .int (i : Int)]) (.int (bi bt)) = some (.int (wi : Int)) := by rw [m_item, pick2, ew]
      have f12 : itemD (.list [.int (i : Int), .int (o : Int)]) (.int (bi bt)) = some (.int (lo : Int)) := by rw [m_item, pick2, el]
      refine' rt_next (e_assign (by kernel_rfl) (by decide +kernel) ?d1 ?d2) ?d3
      case d1 => walk_at "X.e"
      case d2 => rfl
      case d3 =>
      refine' rt_next (e_assign (by kernel_rfl) (by decide +kernel) ?e1 ?e2) ?e3
      case e1 => walk_at "X.e"
      case e2 => rfl
      case e3 =>
      refine' rt_next (e_assign (by kernel_rfl) (by decide +kernel) ?h1 ?h2) ?h3
      case h1 => walk_at "X.e"
      case h2 => rfl
      case h3 =>
      refine' rt_next (e_assign (by kernel_rfl) (by decide +kernel) ?i1 ?i2) ?i3
      case i1 => walk_at "X.e"
      case i2 => rfl
      case i3 =>
      refine' rt_guard (by kernel_rfl) ?j1 ?j3
      case j1 =>
        refine' ts_cmp ?j2
        case j2 => walk_at "X.tr"
      case j3 =>
      refine' rt_next (e_assign (by kernel_rfl) (by decide +kernel) ?k1 ?k2) ?k3
      case k1 => walk_at "X.e"
      case k2 => rfl
      case k3 =>
      refine' rt_next (e_set (ds := wl a) (by kernel_rfl) (by decide +kernel) ?l1 ?l2 ?l3 ?l4 (m_set hlo)) ?l5
      case l1 => walk_at "X.e"
      case l2 => walk_at "X.g"
      case l3 => walk_at "X.e"
      case l4 => rfl
      case l5 =>
      refine' rt_next (e_set2 (rows := mrows c) (row := mrow c wi) (by kernel_rfl) (by decide +kernel) ?m1 ?m2 ?m3 ?m4 ?m5 (item_rows hwi) (setAt_l5 (fun _ _ => rfl) lo hlo)) ?m6
      case m1 => walk_at "X.e"
      case m2 => walk_at "X.g"
      case m3 => walk_at "X.e"
      case m4 => walk_at "X.e"
      case m5 => rfl
      case m6 =>
      rw [show ((wi : Int)).toNat = wi by (first | decide | lia | omega), set_rows hwi hlo]
      refine' rt_next (e_aug (by kernel_rfl) (by decide +kernel) ?n1 ?n2 o_auga) (rt_nil ?n3)
      case n1 => walk_at "X.g"
      case n2 => walk_at "X.e"
      case n3 =>
      refine ⟨?_, ?_, ?_, ?_, ?_⟩
      · repeat first
          | exact hs1
          | refine Same.set ?_ (by decide +kernel)
      · walk_at "X.g"
      · walk_at "X.g"
      · walk_at "X.g"
      · walk_at "X.g"
end
section
local macro_rules | `(tactic| walk_at "X.tst") => `(tactic| with_reducible assumption)
local macro_rules | `(tactic| walk_at "X.op2") => `(tactic| fail)

/-! ## Sorting five -/
theorem evalT_congr {α : Type} {lt lt' : Nat → Nat → Bool} {n : Nat} (h : ∀ i, i < n → ∀ j, j < n → lt i j = lt' i j) : ∀ t : KasT α, evalT lt n t = evalT lt' n t
  | .ret a => rfl
  | .ask i j k => by
    rw [evalT, evalT]
    by_cases hc : i < n ∧ j < n
    · rw [if_pos hc, if_pos hc, h i hc.1 j hc.2]
      exact evalT_congr h _
    · rw [if_neg hc, if_neg hc]
noncomputable def ltb (b0 b1 b2 b3 b4 b5 b6 b7 b8 b9 : Bool) (i j : Nat) : Bool := match i, j with
  | 0, 1 => b0
  | 0, 2 => b1
  | 0, 3 => b2
  | 0, 4 => b3
  | 1, 2 => b4
  | 1, 3 => b5
  | 1, 4 => b6
  | 2, 3 => b7
  | 2, 4 => b8
  | 3, 4 => b9
  | 1, 0 => !b0
  | 2, 0 => !b1
  | 3, 0 => !b2
  | 4, 0 => !b3
  | 2, 1 => !b4
  | 3, 1 => !b5
  | 4, 1 => !b6
  | 3, 2 => !b7
  | 4, 2 => !b8
  | 4, 3 => !b9
  | _, _ => false
noncomputable def okP (lt : Nat → Nat → Bool) (p : Option (Array Nat)) : Bool := match p with
  | some p => match p.toList with
    | [a, b, c, d, e] => [a, b, c, d, e].isPerm [0, 1, 2, 3, 4] && (lt a b && (lt b c && (lt c d && lt d e)))
    | _ => false
  | none => false
noncomputable def noCyc (lt : Nat → Nat → Bool) (i j k : Nat) : Bool := !(lt i j && (lt j k && lt k i)) && !(lt j i && (lt k j && lt i k))
theorem noCyc_of {lt : Nat → Nat → Bool} {i j k : Nat} (t1 : lt i j = true → lt j k = true → lt k i = true → False) (t2 : lt j i = true → lt i k = true → lt k j = true → False) : noCyc lt i j k = true := by
  unfold noCyc
  revert t1 t2
  generalize lt i j = b1; generalize lt j k = b2; generalize lt k i = b3; generalize lt j i = b4; generalize lt k j = b5; generalize lt i k = b6
  revert b1 b2 b3 b4 b5 b6
  decide
noncomputable def noCycs (lt : Nat → Nat → Bool) : Bool := noCyc lt 0 1 2 && (noCyc lt 0 1 3 && (noCyc lt 0 1 4 && (noCyc lt 0 2 3 && (noCyc lt 0 2 4 && (noCyc lt 0 3 4 && (noCyc lt 1 2 3 && (noCyc lt 1 2 4 && (noCyc lt 1 3 4 && noCyc lt 2 3 4))))))))
theorem sort5_chk : ∀ b0 b1 b2 b3 b4 b5 b6 b7 b8 b9 : Bool, (!noCycs (ltb b0 b1 b2 b3 b4 b5 b6 b7 b8 b9) || okP (ltb b0 b1 b2 b3 b4 b5 b6 b7 b8 b9) (evalT (ltb b0 b1 b2 b3 b4 b5 b6 b7 b8 b9) 5 (kas_sort 5))) = true := by decide +kernel
theorem sort5 {lt : Nat → Nat → Bool} (irr : ∀ i, i < 5 → lt i i = false) (anti : ∀ i, i < 5 → ∀ j, j < 5 → i ≠ j → lt i j = !lt j i) (tr : ∀ i, i < 5 → ∀ j, j < 5 → ∀ k, k < 5 → lt i j = true → lt j k = true → lt k i = true → False) :
    ∃ p : Array Nat, evalT lt 5 (kas_sort 5) = some p ∧ ∃ a b c d e, p.toList = [a, b, c, d, e] ∧ [a, b, c, d, e].Perm [0, 1, 2, 3, 4] ∧ lt a b = true ∧ lt b c = true ∧ lt c d = true ∧ lt d e = true := by
  have hb : ∀ i, i < 5 → ∀ j, j < 5 → lt i j = ltb (lt 0 1) (lt 0 2) (lt 0 3) (lt 0 4) (lt 1 2) (lt 1 3) (lt 1 4) (lt 2 3) (lt 2 4) (lt 3 4) i j := by
    refine lt5_cases ?_ ?_ ?_ ?_ ?_ <;> refine lt5_cases ?_ ?_ ?_ ?_ ?_ <;> first
      | rfl
      | exact irr _ (by decide)
      | exact anti _ (by decide) _ (by decide) (by decide)
  have h := sort5_chk (lt 0 1) (lt 0 2) (lt 0 3) (lt 0 4) (lt 1 2) (lt 1 3) (lt 1 4) (lt 2 3) (lt 2 4) (lt 3 4)
  rw [← evalT_congr hb] at h
  have hn : ∀ i, i < 5 → ∀ j, j < 5 → ∀ k, k < 5 → noCyc (ltb (lt 0 1) (lt 0 2) (lt 0 3) (lt 0 4) (lt 1 2) (lt 1 3) (lt 1 4) (lt 2 3) (lt 2 4) (lt 3 4)) i j k = true := fun i hi j hj k hk => by
    exact noCyc_of (by rw [← hb i hi j hj, ← hb j hj k hk, ← hb k hk i hi]; exact tr i hi j hj k hk) (by rw [← hb j hj i hi, ← hb i hi k hk, ← hb k hk j hj]; exact tr j hj i hi k hk)
  have hns : noCycs (ltb (lt 0 1) (lt 0 2) (lt 0 3) (lt 0 4) (lt 1 2) (lt 1 3) (lt 1 4) (lt 2 3) (lt 2 4) (lt 3 4)) = true := by
    unfold noCycs
    simp only [hn 0 (by (first | decide | lia | omega)) 1 (by (first | decide | lia | omega)) 2 (by (first | decide | lia | omega)), hn 0 (by (first | decide | lia | omega)) 1 (by (first | decide | lia | omega)) 3 (by (first | decide | lia | omega)), hn 0 (by (first | decide | lia | omega)) 1 (by (first | decide | lia | omega)) 4 (by (first | decide | lia | omega)), hn 0 (by (first | decide | lia | omega)) 2 (by (first | decide | lia | omega)) 3 (by (first | decide | lia | omega)), hn 0 (by (first | decide | lia | omega)) 2 (by (first | decide | lia | omega)) 4 (by (first | decide | lia | omega)), hn 0 (by (first | decide | lia | omega)) 3 (by (first | decide | lia | omega)) 4 (by (first | decide | lia | omega)), hn 1 (by (first | decide | lia | omega)) 2 (by (first | decide | lia | omega)) 3 (by (first | decide | lia | omega)), hn 1 (by (first | decide | lia | omega)) 2 (by (first | decide | lia | omega)) 4 (by (first | decide | lia | omega)), hn 1 (by (first | decide | lia | omega)) 3 (by (first | decide | lia | omega)) 4 (by (first | decide | lia | omega)), hn 2 (by (first | decide | lia | omega)) 3 (by (first | decide | lia | omega)) 4 (by (first | decide | lia | omega))]
    rfl
  rw [hns, Bool.not_true, Bool.false_or] at h
  cases he : evalT lt 5 (kas_sort 5) with
  | none => rw [he] at h; cases h
  | some p =>
    rw [he] at h
    refine ⟨p, rfl, ?_⟩
    unfold okP at h
    dsimp only at h
    split at h
    · rename_i a b c d e hp
      simp only [Bool.and_eq_true] at h
      obtain ⟨h1, h2, h3, h4, h5⟩ := h
      have hperm := List.isPerm_iff.mp h1
      have hm : ∀ x ∈ [a, b, c, d, e], x < 5 := fun x hx => by
        have := hperm.mem_iff.mp hx
        simp at this; (first | decide | lia | omega)
      have ha := hm a (by simp)
      have hb' := hm b (by simp)
      have hc := hm c (by simp)
      have hd := hm d (by simp)
      have he := hm e (by simp)
      rw [← hb a ha b hb'] at h2
      rw [← hb b hb' c hc] at h3
      rw [← hb c hc d hd] at h4
      rw [← hb d hd e he] at h5
      exact ⟨a, b, c, d, e, hp, hperm, h2, h3, h4, h5⟩
    · cases h

/-- the order of the table: more blanks first, then the player's number -/
noncomputable def ltA (a : Nat → Nat) (i j : Nat) : Bool := decide (a j < a i ∨ (a i = a j ∧ i < j))
theorem ltA_irr {a : Nat → Nat} : ∀ i, i < 5 → ltA a i i = false := fun i _ => by unfold ltA; simp
theorem ltA_anti {a : Nat → Nat} : ∀ i, i < 5 → ∀ j, j < 5 → i ≠ j → ltA a i j = !ltA a j i := fun i _ j _ h => by
  unfold ltA
  rw [← decide_not]
  exact decide_eq_decide.mpr (by (first | decide | lia | omega))
structure Ord (a p : Nat → Nat) : Prop where
  lt : ∀ k, k < 5 → p k < 5
  perm : [p 0, p 1, p 2, p 3, p 4].Perm [0, 1, 2, 3, 4]
  ord : ∀ j, j < 5 → ∀ k, k < 5 → ltA a (p j) (p k) = decide (j < k)
theorem ltA_tr {a : Nat → Nat} {i j k : Nat} (h1 : ltA a i j = true) (h2 : ltA a j k = true) : ltA a i k = true := by
  unfold ltA at *
  simp only [decide_eq_true_eq] at *
  (first | decide | lia | omega)
theorem ltA_ant {a : Nat → Nat} {i j : Nat} (h1 : ltA a i j = true) : ltA a j i = false := by
  unfold ltA at *
  simp only [decide_eq_true_eq, decide_eq_false_iff_not] at *
  (first | decide | lia | omega)
theorem ltA_self {a : Nat → Nat} (i : Nat) : ltA a i i = false := by unfold ltA; simp
theorem order (a : Nat → Nat) : ∃ (q : Array Nat) (p : Nat → Nat), evalT (ltA a) 5 (kas_sort 5) = some q ∧ q.toList = [p 0, p 1, p 2, p 3, p 4] ∧ Ord a p := by
  obtain ⟨q, e, x0, x1, x2, x3, x4, hq, hperm, h1, h2, h3, h4⟩ := sort5 (lt := ltA a) ltA_irr ltA_anti (fun i _ j _ k _ h1 h2 h3 => by
    rw [ltA_ant (ltA_tr h1 h2)] at h3; cases h3)
  have hlt : ∀ x ∈ [x0, x1, x2, x3, x4], x < 5 := fun x hx => List.mem_range.mp (show x ∈ List.range 5 from hperm.mem_iff.mp hx)
  have h02 := ltA_tr h1 h2
  have h13 := ltA_tr h2 h3
  have h24 := ltA_tr h3 h4
  have h03 := ltA_tr h02 h3
  have h14 := ltA_tr h13 h4
  have h04 := ltA_tr h03 h4
  refine ⟨q, fun k => match k with | 0 => x0 | 1 => x1 | 2 => x2 | 3 => x3 | _ => x4, e, hq, ?_, hperm, ?_⟩
  · exact lt5_cases (hlt x0 (.head _)) (hlt x1 (.tail _ (.head _))) (hlt x2 (.tail _ (.tail _ (.head _)))) (hlt x3 (.tail _ (.tail _ (.tail _ (.head _))))) (hlt x4 (.tail _ (.tail _ (.tail _ (.tail _ (.head _))))))
  · exact lt5_cases (lt5_cases (ltA_self x0) h1 h02 h03 h04) (lt5_cases (ltA_ant h1) (ltA_self x1) h2 h13 h14) (lt5_cases (ltA_ant h02) (ltA_ant h2) (ltA_self x2) h3 h24) (lt5_cases (ltA_ant h03) (ltA_ant h13) (ltA_ant h3) (ltA_self x3) h4) (lt5_cases (ltA_ant h04) (ltA_ant h14) (ltA_ant h24) (ltA_ant h4) (ltA_self x4))

theorem sortS_lines {a : Nat → Nat} (h7 : ∀ i, i < 5 → a i < 7) {q : Array Nat} {p : Nat → Nat} (he : evalT (ltA a) 5 (kas_sort 5) = some q) (hq : q.toList = [p 0, p 1, p 2, p 3, p 4]) (ho : Ord a p) :
    sortS [line 0 (a 0), line 1 (a 1), line 2 (a 2), line 3 (a 3), line 4 (a 4)] = some [line (p 0) (a (p 0)), line (p 1) (a (p 1)), line (p 2) (a (p 2)), line (p 3) (a (p 3)), line (p 4) (a (p 4))] := by
  have hg : ∀ i, i < 5 → [line 0 (a 0), line 1 (a 1), line 2 (a 2), line 3 (a 3), line 4 (a 4)].getD i default = line i (a i) := lt5_cases rfl rfl rfl rfl rfl
  unfold sortS
  show Option.bind (evalT (fun i j => ltS ([line 0 (a 0), line 1 (a 1), line 2 (a 2), line 3 (a 3), line 4 (a 4)].getD i default) ([line 0 (a 0), line 1 (a 1), line 2 (a 2), line 3 (a 3), line 4 (a 4)].getD j default)) 5 (kas_sort 5)) _ = _
  rw [evalT_congr (lt' := ltA a) (fun i hi j hj => by rw [hg i hi, hg j hj, lt_line hi (h7 i hi) hj (h7 j hj)]; rfl), he]
  show (if q.toList.all (fun i => decide (i < 5)) = true then some (q.toList.map fun i => [line 0 (a 0), line 1 (a 1), line 2 (a 2), line 3 (a 3), line 4 (a 4)].getD i default) else none) = _
  rw [hq, if_pos (by simp [ho.lt 0 (by (first | decide | lia | omega)), ho.lt 1 (by (first | decide | lia | omega)), ho.lt 2 (by (first | decide | lia | omega)), ho.lt 3 (by (first | decide | lia | omega)), ho.lt 4 (by (first | decide | lia | omega))])]
  simp only [List.map_cons, List.map_nil, hg _ (ho.lt 0 (by (first | decide | lia | omega))), hg _ (ho.lt 1 (by (first | decide | lia | omega))), hg _ (ho.lt 2 (by (first | decide | lia | omega))), hg _ (ho.lt 3 (by (first | decide | lia | omega))), hg _ (ho.lt 4 (by (first | decide | lia | omega)))]

theorem keys_due {a : Nat → Nat} : evalT (fun i j => ltK (((List.range 5).map fun i => (-(a i : Int), (i : Int))).getD i (0, 0)) (((List.range 5).map fun i => (-(a i : Int), (i : Int))).getD j (0, 0))) 5 (kas_sort 5) = evalT (ltA a) 5 (kas_sort 5) := by
  have hg : ∀ i, i < 5 → ((List.range 5).map fun i => (-(a i : Int), (i : Int))).getD i (0, 0) = (-(a i : Int), (i : Int)) := lt5_cases rfl rfl rfl rfl rfl
  refine evalT_congr (fun i hi j hj => ?_) _
  show ltK _ _ = _
  rw [hg i hi, hg j hj]
  unfold ltK ltA
  exact decide_eq_decide.mpr (by simp only []; (first | decide | lia | omega))

/-! ## The points -/
noncomputable def bN (c i : Nat) : Nat := (c >>> i) &&& 1
theorem bi_N (c i : Nat) : bi (c.testBit i) = (bN c i : Int) := by
  unfold bi bN Nat.testBit
  rw [Nat.and_comm 1, Nat.and_one_is_mod]
  rcases Nat.mod_two_eq_zero_or_one (c >>> i) with h | h <;> rw [h] <;> rfl
theorem wins_chk : ((List.range 1024).all fun t => (List.range 5).all fun i => Nat.beq (bN (cS t 10) (5 * i) + bN (cS t 10) (5 * i + 1) + bN (cS t 10) (5 * i + 2) + bN (cS t 10) (5 * i + 3) + bN (cS t 10) (5 * i + 4)) (aS t 10 i) && Nat.ble (aS t 10 i) 4) = true := by decide +kernel
theorem wins {t i : Nat} (ht : t < 1024) (hi : i < 5) : bi ((cS t 10).testBit (5 * i)) + bi ((cS t 10).testBit (5 * i + 1)) + bi ((cS t 10).testBit (5 * i + 2)) + bi ((cS t 10).testBit (5 * i + 3)) + bi ((cS t 10).testBit (5 * i + 4)) = ((aS t 10 i : Nat) : Int) ∧ aS t 10 i ≤ 4 := by
  have h := all2 wins_chk ht hi
  rw [Bool.and_eq_true] at h
  refine ⟨?_, Nat.le_of_ble_eq_true h.2⟩
  rw [← Nat.eq_of_beq_eq_true h.1]
  simp only [bi_N]
  (first | decide | lia | omega)
theorem row_sum {t i : Nat} (ht : t < 1024) (hi : i < 5) : builtD "sum" [.list (mrow (cS t 10) i)] = some (.int ((aS t 10 i : Nat) : Int)) := by
  rw [← (wins ht hi).1]
  rw [o_sum (ns := [bi ((cS t 10).testBit (5 * i)), bi ((cS t 10).testBit (5 * i + 1)), bi ((cS t 10).testBit (5 * i + 2)), bi ((cS t 10).testBit (5 * i + 3)), bi ((cS t 10).testBit (5 * i + 4))]) (by show 5 ≤ 100000; (first | decide | lia | omega)) rfl]
  congr 2
  simp only [List.sum_cons, List.sum_nil]
  (first | decide | lia | omega)

structure FP (σ : Sg) (t : Nat) (T b : Int) : Prop where
  third : gv σ "third" = some (.int T, true)
  begin : gv σ "begin" = some (.int b, true)
  names : gv σ "names" = some (wnames, true)
  lines : gv σ "lines" = some (.list (wl (aS t 10)), true)
  won : gv σ "won" = some (.list (mrows (cS t 10)), true)
  points : gv σ "points" = some (.list (l5 fun i => .int ((aS t 10 i : Nat) : Int)), true)
theorem lawA_run {ns : List Int} (h63 : ns.length < 64) : RT Φ3 30 100 hL κL 100 lawA [("script", .list (ns.map .int), false)] (nx fun σ => ∃ t T b, t < 1024 ∧ FP σ t T b) := by
  refine stageA h63 fun σ F S T b fa hl hw hp => ?_
  refine stageB fa hl hw hp fun σ' hs g1 g2 => ?_
  obtain ⟨n1, n2, n3, n4, n5⟩ := fa
  have ht := tOf_lt F
  generalize tOf F = t at *
  refine' rt_next (e_assign (by kernel_rfl) (by decide +kernel) ?a1 ?a2) ?a3
  case a1 =>
    refine' ev_comp (ds := l5 fun i => .int ((aS t 10 i : Nat) : Int)) (by decide +kernel) (it_var ?b1) ?b2 (by apply Nat.le_of_ble_eq_true; rfl)
    case b1 => walk_at "X.e"
    case b2 =>
      show compRun _ _ _ _ _ [] (l5 fun i => .list (mrow (cS t 10) i)) = _
      refine' cr5 (fun i hi => ?b3) (fun _ _ => rfl)
      have := row_sum ht hi
      walk_at "X.e"
  case a2 => rfl
  case a3 =>
  refine rt_nil ⟨t, T, b, ht, ?_, ?_, ?_, ?_, ?_, ?_⟩
  · walk_at "X.g"
  · walk_at "X.g"
  · walk_at "X.g"
  · walk_at "X.g"
  · walk_at "X.g"
  · walk_at "X.g"
end
section
local macro_rules | `(tactic| walk_at "X.tst") => `(tactic| with_reducible assumption)
local macro_rules | `(tactic| walk_at "X.op2") => `(tactic| fail)

/-! ## The table -/
noncomputable def l5s (f : Nat → Str) : List Dat := l5 fun k => .str (f k)
noncomputable def l5i (f : Nat → Int) : List Dat := l5 fun k => .int (f k)
noncomputable def tab (a p : Nat → Nat) (k : Nat) : Str := line (p k) (a (p k))
theorem cr5no {rec : Kd → Vs → Expr → Option Dat} {κ' : Kd} {ρ : Vs} {x : Str} {elt c : Expr} {f : Nat → Dat} (h : ∀ i, i < 5 → truE rec κ' (inComp κ' ρ (bind1 x (f i) nob)) c = some false) : compRun rec κ' ρ x elt [c] (l5 f) = some [] :=
  cr_no (h 0 (by (first | decide | lia | omega))) (cr_no (h 1 (by (first | decide | lia | omega))) (cr_no (h 2 (by (first | decide | lia | omega))) (cr_no (h 3 (by (first | decide | lia | omega))) (cr_no (h 4 (by (first | decide | lia | omega))) rfl))))
theorem it5s {f : Nat → Str} {i : Nat} (h : i < 5) : itemD (.list (l5s f)) (.int (i : Int)) = some (.str (f i)) := item_l5 i h
theorem it5i {f : Nat → Int} {i : Nat} (h : i < 5) : itemD (.list (l5i f)) (.int (i : Int)) = some (.int (f i)) := item_l5 i h
theorem itnm {i : Nat} (h : i < 5) : itemD wnames (.int (i : Int)) = some (.str (nm i)) := item_l5 i h
theorem ne5s {f : Nat → Str} (h : ∀ i, i < 5 → PyData.strOk (f i) = true) : cmpD .NotEq (.list (l5s f)) (.list (l5s f)) = some (.bool false) := o_nel_same (by
  have e : ∀ x, flatOk (.str x) = PyData.strOk x := fun _ => rfl
  unfold l5s l5
  simp only [List.all_cons, List.all_nil, e, h 0 (by (first | decide | lia | omega)), h 1 (by (first | decide | lia | omega)), h 2 (by (first | decide | lia | omega)), h 3 (by (first | decide | lia | omega)), h 4 (by (first | decide | lia | omega)), Bool.and_self])
theorem okl_chk : ((List.range 5).all fun i => (List.range 7).all fun a => PyData.strOk (line i a) && (PyData.strOk (nm i) && PyData.strOk (nm i ++ " "))) = true := by decide +kernel
theorem okl {i a : Nat} (hi : i < 5) (ha : a < 7) : PyData.strOk (line i a) = true ∧ PyData.strOk (nm i) = true ∧ PyData.strOk (nm i ++ " ") = true := by simpa using all2 okl_chk hi ha
theorem ne5i {f : Nat → Int} : cmpD .NotEq (.list (l5i f)) (.list (l5i f)) = some (.bool false) := o_nel_same (by kernel_rfl)
theorem mulb {n : Nat} (h : n ≤ 1000) : binD .Mult (.str " ") (.int (n : Int)) = some (.str (Txt.mul " " (n : Int))) := if_pos ⟨by decide +kernel, by (first | decide | lia | omega), by (first | decide | lia | omega)⟩
theorem mulb_len (n : Nat) : (Txt.mul " " (n : Int)).length = n := len_mul 32 n
theorem row_add1 {i n : Nat} (hi : i < 5) (h : n ≤ 100) : binD .Add (.str (Txt.mul " " (n : Int))) (.str (nm i)) = some (.str (Txt.mul " " (n : Int) ++ nm i)) := o_adds (by have := nm_len i hi; rw [mulb_len]; (first | decide | lia | omega))
theorem row_add2 {i n : Nat} (hi : i < 5) (h : n ≤ 100) : binD .Add (.str (Txt.mul " " (n : Int) ++ nm i)) (.str "  ") = some (.str (line i n)) := o_adds (by have := nm_len i hi; rw [len_app, mulb_len, show ("  " : Str).length = 2 from rfl]; (first | decide | lia | omega))

structure FD (σ : Sg) (t : Nat) (p : Nat → Nat) (T b : Int) : Prop where
  third : gv σ "third" = some (.int T, true)
  begin : gv σ "begin" = some (.int b, true)
  names : gv σ "names" = some (wnames, true)
  won : gv σ "won" = some (.list (mrows (cS t 10)), true)
  points : gv σ "points" = some (.list (l5i fun i => ((aS t 10 i : Nat) : Int)), true)
  due : gv σ "due" = some (.list (l5i fun k => (p k : Int)), true)
noncomputable def tv (k j : Nat) : Int := if j < k then 1 else if j = k then 0 else -1
theorem told_list : ∀ k, k < 5 → binD .Mult (.list [.int 1]) (.int ((k : Nat) : Int)) = some (.list (List.replicate k (.int 1))) ∧ binD .Mult (.list [.int (-1)]) (.int (4 - ((k : Nat) : Int))) = some (.list (List.replicate (4 - k) (.int (-1)))) ∧ binD .Add (.list (List.replicate k (.int 1))) (.list [.int 0]) = some (.list (List.replicate k (.int 1) ++ [.int 0])) ∧
    binD .Add (.list (List.replicate k (.int 1) ++ [.int 0])) (.list (List.replicate (4 - k) (.int (-1)))) = some (.list (l5i (tv k))) :=
  lt5_cases ⟨by kernel_rfl, by kernel_rfl, by kernel_rfl, by kernel_rfl⟩ ⟨by kernel_rfl, by kernel_rfl, by kernel_rfl, by kernel_rfl⟩ ⟨by kernel_rfl, by kernel_rfl, by kernel_rfl, by kernel_rfl⟩ ⟨by kernel_rfl, by kernel_rfl, by kernel_rfl, by kernel_rfl⟩ ⟨by kernel_rfl, by kernel_rfl, by kernel_rfl, by kernel_rfl⟩
theorem coll_at {a p : Nat → Nat} (h7 : ∀ i, i < 5 → a i < 7) (ho : Ord a p) {k j : Nat} (hk : k < 5) (hj : j < 5) : Φ3.fn "_strcoll" [.str (tab a p k), .str (tab a p j)] = some (.int (tv k j)) := by
  rw [fn_coll]
  have e1 : decide ((tab a p j).cps.toList < (tab a p k).cps.toList) = decide (j < k) := by
    rw [← ho.ord j hj k hk]
    exact lt_line (ho.lt j hj) (h7 _ (ho.lt j hj)) (ho.lt k hk) (h7 _ (ho.lt k hk))
  have e2 : decide ((tab a p k).cps.toList < (tab a p j).cps.toList) = decide (k < j) := by
    rw [← ho.ord k hk j hj]
    exact lt_line (ho.lt k hk) (h7 _ (ho.lt k hk)) (ho.lt j hj) (h7 _ (ho.lt j hj))
  rw [e1, e2]
  unfold tv
  rcases Nat.lt_trichotomy j k with h | h | h
  · rw [decide_eq_true h, decide_eq_false (show ¬ k < j by (first | decide | lia | omega)), if_pos h]; rfl
  · subst h; rw [decide_eq_false (Nat.lt_irrefl j), if_neg (Nat.lt_irrefl j), if_pos rfl]; rfl
  · rw [decide_eq_true h, decide_eq_false (show ¬ j < k by (first | decide | lia | omega)), if_neg (by (first | decide | lia | omega)), if_neg (by (first | decide | lia | omega))]; rfl
noncomputable def jsD : List Str := ["k", "bare", "told", "table"]

theorem stageD1 {σ0 : Sg} {t : Nat} {p : Nat → Nat} {q : Array Nat} {T b : Int} {P : Fl × Sg → Prop} (ht : t < 1024) (fd : FD σ0 t p T b) (hlines : gv σ0 "lines" = some (.list (wl (aS t 10)), true)) (he : evalT (ltA (aS t 10)) 5 (kas_sort 5) = some q) (hq : q.toList = [p 0, p 1, p 2, p 3, p 4]) (ho : Ord (aS t 10) p)
    (next : ∀ σ, Same jsD σ0 σ → gv σ "table" = some (.list (l5s (tab (aS t 10) p)), true) → RT Φ3 30 100 hL κL 97 (lawD.drop 3) σ P) : RT Φ3 30 100 hL κL 100 lawD σ0 P := by
  have h4 : ∀ i, i < 5 → aS t 10 i ≤ 4 := fun i hi => (wins ht hi).2
  obtain ⟨n1, n2, n3, n4, n5, n6⟩ := fd
  generalize aS t 10 = a at *
  have hp := ho.lt
  have hsame : Same jsD σ0 σ0 := Same.refl
  refine' rt_next (e_sorts (ds := wl a) (ss := [line 0 (a 0), line 1 (a 1), line 2 (a 2), line 3 (a 3), line 4 (a 4)]) (by decide +kernel) ?a1 (by rfl) ⟨by apply Nat.le_of_ble_eq_true; rfl, by apply Nat.le_of_ble_eq_true; rfl⟩ fn_xfrm (sortS_lines (fun i hi => by have := h4 i hi; (first | decide | lia | omega)) he hq ho)) ?a2
  case a1 => walk_at "X.e"
  case a2 =>
  rw [show (Dat.list (List.map Dat.str [line (p 0) (a (p 0)), line (p 1) (a (p 1)), line (p 2) (a (p 2)), line (p 3) (a (p 3)), line (p 4) (a (p 4))])) = .list (l5s (tab a p)) from rfl]
  have hne := ne5s (f := tab a p) fun i hi => (okl (hp i hi) (by have := h4 _ (hp i hi); (first | decide | lia | omega))).1
  refine' rt_guard (by kernel_rfl) ?b1 ?b2
  case b1 =>
    refine' ts_cmp (tr_cmp ?b3 ?b4 hne)
    case b3 => walk_at "X.e"
    case b4 =>
      refine' ev_comp (by decide +kernel) (it_var ?c1) ?c2 (by apply Nat.le_of_ble_eq_true; rfl)
      case c1 => walk_at "X.e"
      case c2 =>
        show compRun _ _ _ _ _ [] (l5 fun k => .int (p k : Int)) = _
        refine' cr5 (g := fun k => .str (tab a p k)) (fun k hk => ?c3) (fun _ _ => rfl)
        have f1 := it5i (f := fun i => ((a i : Nat) : Int)) (hp k hk)
        have f2 := itnm (hp k hk)
        have f3 := mulb (n := a (p k)) (by have := h4 _ (hp k hk); (first | decide | lia | omega))
        have f4 := row_add1 (hp k hk) (show a (p k) ≤ 100 by have := h4 _ (hp k hk); (first | decide | lia | omega))
        have f5 := row_add2 (hp k hk) (show a (p k) ≤ 100 by have := h4 _ (hp k hk); (first | decide | lia | omega))
        show _ = some (Dat.str (line (p k) (a (p k))))
        walk_at "X.e"
  case b2 =>
  refine' rt_st (st_for_range (items := R5) (fun _ σ => Same jsD σ0 σ ∧ gv σ "table" = some (.list (l5s (tab a p)), true)) (by kernel_rfl) (by decide +kernel) ?d1 range5 ?d2 ?d3 ?d4)
  case d1 => walk_at "X.as"
  case d2 => exact ⟨hsame.set (by decide +kernel), gv_eq⟩
  case d4 => exact fun σ h => next σ h.1 h.2
  case d3 =>
    intro k d σ hkd hI
    obtain ⟨hk, rfl⟩ := R5_at hkd
    obtain ⟨hs, g1⟩ := hI
    have f1 := it5i (f := fun k => (p k : Int)) hk
    have f2 := itnm (hp k hk)
    have f3 := it5i (f := fun i => ((a i : Nat) : Int)) (hp k hk)
    have f4 := it5s (f := tab a p) hk
    have f5 : Φ3.fn "_strip_padding" [.str (tab a p k), .int ((a (p k) : Int) + 1)] = some (.str (nm (p k) ++ " ")) := stripA (hp k hk) (by have := h4 _ (hp k hk); (first | decide | lia | omega))
    have f6 : Φ3.fn "_strip_padding" [.str (tab a p k), .int 9] = some (.str (nm (p k))) := by
      rw [fn31]; exact strip9 (hp k hk) (by have := h4 _ (hp k hk); (first | decide | lia | omega))
    have f7 : binD .Add (.str (nm (p k))) (.str " ") = some (.str (nm (p k) ++ " ")) := o_adds (by have := nm_len _ (hp k hk); rw [show (" " : Str).length = 1 from rfl]; (first | decide | lia | omega))
    have ⟨w1, w2, w3⟩ := okl (i := p k) (a := 0) (hp k hk) (by (first | decide | lia | omega))
    have f8 : cmpD .NotEq (.list [.str (nm (p k) ++ " "), .str (nm (p k))]) (.list [.str (nm (p k) ++ " "), .str (nm (p k))]) = some (.bool false) := o_nel_same (by
      have e : ∀ x, flatOk (.str x) = PyData.strOk x := fun _ => rfl
      simp only [List.all_cons, List.all_nil, e, w2, w3, Bool.and_self])
    obtain ⟨m1, m2, m3, m4⟩ := told_list k hk
    refine' rt_next (e_assign (by kernel_rfl) (by decide +kernel) ?e1 ?e2) ?e3
    case e1 => walk_at "X.e"
    case e2 => rfl
    case e3 =>
    refine' rt_guard (by kernel_rfl) ?g1 ?g2
    case g1 =>
      refine' ts_cmp (tr_cmp ?g3 ?g4 f8)
      case g4 => walk_at "X.e"
      case g3 =>
        refine' ev_comp (by decide +kernel) (it_list ?h1) ?h2 (by apply Nat.le_of_ble_eq_true; rfl)
        case h1 => walk_at "X.e"
        case h2 =>
          refine' cr_cons ?h3 rfl (cr_cons ?h4 rfl cr_nil)
          case h3 => walk_at "X.e"
          case h4 => walk_at "X.e"
    case g2 =>
    refine' rt_next (e_assign (by kernel_rfl) (by decide +kernel) (d := .list (l5i (tv k))) ?i1 ?i2) ?i3
    case i1 =>
      refine' ev_comp (by decide +kernel) (it_var ?j1) ?j2 (by apply Nat.le_of_ble_eq_true; rfl)
      case j1 => walk_at "X.e"
      case j2 =>
        show compRun _ _ _ _ _ [] (l5 fun k => .str (tab a p k)) = _
        refine' cr5 (g := fun j => .int (tv k j)) (fun j hj => ?j3) (fun _ _ => rfl)
        have q1 := coll_at (fun i hi => by have := h4 i hi; (first | decide | lia | omega)) ho hk hj
        walk_at "X.e"
    case i2 => rfl
    case i3 =>
    have f9 := ne5i (f := tv k)
    refine' rt_guard (by kernel_rfl) ?k1 ?k2
    case k1 =>
      refine' ts_or (an_no ?k3 (an_no ?k4 an_nil))
      case k3 => walk_at "X.tr"
      case k4 =>
        refine' tr_cmp (a := .list []) (b := .list []) ?l1 ?l2 (by kernel_rfl)
        case l2 => walk_at "X.e"
        case l1 =>
          refine' ev_comp (by decide +kernel) (it_var ?l3) ?l4 (by apply Nat.le_of_ble_eq_true; rfl)
          case l3 => walk_at "X.e"
          case l4 =>
            show compRun _ _ _ _ _ _ (l5 fun j => .int (tv k j)) = _
            refine' cr5no (fun j hj => ?l5)
            refine' tr_call (ev_isinst (a := .int (tv k j)) (t := false) (by decide +kernel) (by decide +kernel) ?l6 ?l7) ?l8
            case l6 => walk_at "X.e"
            case l7 => rfl
            case l8 => rfl
    case k2 =>
    refine rt_nil ⟨?_, ?_⟩
    · repeat first
        | exact hs
        | refine Same.set ?_ (by decide +kernel)
    · walk_at "X.g"
end
section

/-! ## The order, computed -/
noncomputable def ltB (a : Nat → Nat) (i j : Nat) : Bool := Nat.ble (a j + 1) (a i) || (Nat.beq (a i) (a j) && Nat.ble (i + 1) j)
theorem ltA_eq (a : Nat → Nat) (i j : Nat) : ltA a i j = ltB a i j := by
  unfold ltA ltB
  rw [Bool.eq_iff_iff]
  simp only [decide_eq_true_eq, Bool.or_eq_true, Bool.and_eq_true, Nat.ble_eq, Nat.beq_eq]
  (first | decide | lia | omega)
noncomputable def rk (a : Nat → Nat) (i : Nat) : Nat := (ltB a 0 i).toNat + (ltB a 1 i).toNat + (ltB a 2 i).toNat + (ltB a 3 i).toNat + (ltB a 4 i).toNat
noncomputable def pS (a : Nat → Nat) (k : Nat) : Nat := bif Nat.beq (rk a 0) k then 0 else bif Nat.beq (rk a 1) k then 1 else bif Nat.beq (rk a 2) k then 2 else bif Nat.beq (rk a 3) k then 3 else 4
theorem rk_p {a p : Nat → Nat} (ho : Ord a p) : ∀ k, k < 5 → rk a (p k) = k := fun k hk => by
  have e : rk a (p k) = [0, 1, 2, 3, 4].countP fun j => ltA a j (p k) := by
    unfold rk
    simp only [List.countP_cons, List.countP_nil, ltA_eq]
    have : ∀ b : Bool, b.toNat = if b = true then 1 else 0 := fun b => by cases b <;> rfl
    simp only [this]
    (first | decide | lia | omega)
  rw [e, ← ho.perm.countP_eq]
  have h := fun j hj => ho.ord j hj k hk
  simp only [List.countP_cons, List.countP_nil, h 0 (by (first | decide | lia | omega)), h 1 (by (first | decide | lia | omega)), h 2 (by (first | decide | lia | omega)), h 3 (by (first | decide | lia | omega)), h 4 (by (first | decide | lia | omega)), decide_eq_true_eq]
  clear e h
  revert k
  exact fun k hk => (lt5_cases (P := fun k => (((((0 + if 4 < k then 1 else 0) + if 3 < k then 1 else 0) + if 2 < k then 1 else 0) + if 1 < k then 1 else 0) + if 0 < k then 1 else 0) = k) (by decide) (by decide) (by decide) (by decide) (by decide)) k hk
theorem pS_eq {a p : Nat → Nat} (ho : Ord a p) : ∀ k, k < 5 → p k = pS a k := fun k hk => by
  have hmem : p k ∈ [0, 1, 2, 3, 4] := ho.perm.mem_iff.mp (by
    revert k; exact fun k hk => lt5_cases (P := fun k => p k ∈ [p 0, p 1, p 2, p 3, p 4]) (by simp) (by simp) (by simp) (by simp) (by simp) k hk)
  have inj : ∀ x, x ∈ [0, 1, 2, 3, 4] → rk a x = k → x = p k := fun x hx hr => by
    have h3 := ho.perm.mem_iff.mpr hx
    have hx : ∃ j, j < 5 ∧ x = p j := by
      simp only [List.mem_cons, List.not_mem_nil, or_false] at h3
      rcases h3 with h | h | h | h | h
      · exact ⟨0, by (first | decide | lia | omega), h⟩
      · exact ⟨1, by (first | decide | lia | omega), h⟩
      · exact ⟨2, by (first | decide | lia | omega), h⟩
      · exact ⟨3, by (first | decide | lia | omega), h⟩
      · exact ⟨4, by (first | decide | lia | omega), h⟩
    obtain ⟨j, hj, rfl⟩ := hx
    rw [rk_p ho j hj] at hr
    rw [hr]
  have hk' := rk_p ho k hk
  unfold pS
  simp only [cond_eq_ite, Nat.beq_eq]
  split
  · rename_i h; exact (inj 0 (by simp) h).symm
  · split
    · rename_i h; exact (inj 1 (by simp) h).symm
    · split
      · rename_i h; exact (inj 2 (by simp) h).symm
      · split
        · rename_i h; exact (inj 3 (by simp) h).symm
        · rename_i h0 h1 h2 h3
          simp only [List.mem_cons, List.not_mem_nil, or_false] at hmem
          rcases hmem with h | h | h | h | h
          · exact absurd (h ▸ hk') h0
          · exact absurd (h ▸ hk') h1
          · exact absurd (h ▸ hk') h2
          · exact absurd (h ▸ hk') h3
          · exact h

noncomputable def lev (m : Nat → Nat) : Nat → Nat
  | 0 => 0
  | j + 1 => lev m j + (if sm m (j + 1) = 0 then 1 else 0)
/-- how many games someone further down than `k` won against someone up to there -/
noncomputable def acr (c : Nat) (p : Nat → Nat) (k : Nat) : Int := (((List.range 5).drop (k + 1)).map fun l => (((List.range 5).take (k + 1)).map fun h => bi (c.testBit (5 * p l + p h))).sum).sum
noncomputable def mS (t : Nat) (k : Nat) : Nat := aS t 10 (pS (aS t 10) k)
/-! in natural numbers -/
noncomputable def tri : Nat → Nat
  | 0 => 0
  | 1 => 4
  | 2 => 7
  | 3 => 9
  | _ => 10
noncomputable def psum (m : Nat → Nat) : Nat → Nat
  | 0 => 0
  | k + 1 => psum m k + m k
theorem sm_tri (m : Nat → Nat) : ∀ k, k ≤ 5 → sm m k = (tri k : Int) - (psum m k : Int) := by
  have h : ∀ k, sm m k = (4 * k - (k * (k - 1) / 2 : Int)) - (psum m k : Int) ∨ True := fun _ => .inr trivial
  clear h
  intro k hk
  match k, hk with
  | 0, _ => simp [sm, psum, tri]
  | 1, _ => simp [sm, psum, tri]
  | 2, _ => simp [sm, psum, tri]; (first | decide | lia | omega)
  | 3, _ => simp [sm, psum, tri]; (first | decide | lia | omega)
  | 4, _ => simp [sm, psum, tri]; (first | decide | lia | omega)
  | 5, _ => simp [sm, psum, tri]; (first | decide | lia | omega)
noncomputable def levN (m : Nat → Nat) : Nat → Nat
  | 0 => 0
  | j + 1 => levN m j + bif Nat.beq (tri (j + 1)) (psum m (j + 1)) then 1 else 0
theorem lev_N (m : Nat → Nat) : ∀ k, k ≤ 5 → lev m k = levN m k
  | 0, _ => rfl
  | j + 1, h => by
    rw [lev, levN, lev_N m j (by (first | decide | lia | omega)), sm_tri m (j + 1) h]
    simp only [cond_eq_ite, Nat.beq_eq]
    congr 1
    have : ((tri (j + 1) : Int) - (psum m (j + 1) : Int) = 0) ↔ tri (j + 1) = psum m (j + 1) := by (first | decide | lia | omega)
    simp only [this]
theorem bit_N (c i : Nat) : c.testBit i = Nat.beq (bN c i) 1 := by
  unfold bN Nat.testBit
  rw [Nat.and_comm 1, Nat.and_one_is_mod]
  rcases Nat.mod_two_eq_zero_or_one (c >>> i) with h | h <;> rw [h] <;> rfl
noncomputable def acrN (c : Nat) (p : Nat → Nat) : Nat → Nat
  | 0 => bN c (5 * p 1 + p 0) + bN c (5 * p 2 + p 0) + bN c (5 * p 3 + p 0) + bN c (5 * p 4 + p 0)
  | 1 => bN c (5 * p 2 + p 0) + bN c (5 * p 2 + p 1) + bN c (5 * p 3 + p 0) + bN c (5 * p 3 + p 1) + bN c (5 * p 4 + p 0) + bN c (5 * p 4 + p 1)
  | 2 => bN c (5 * p 3 + p 0) + bN c (5 * p 3 + p 1) + bN c (5 * p 3 + p 2) + bN c (5 * p 4 + p 0) + bN c (5 * p 4 + p 1) + bN c (5 * p 4 + p 2)
  | 3 => bN c (5 * p 4 + p 0) + bN c (5 * p 4 + p 1) + bN c (5 * p 4 + p 2) + bN c (5 * p 4 + p 3)
  | _ => 0
theorem acr_N (c : Nat) (p : Nat → Nat) : ∀ k, k < 5 → acr c p k = (acrN c p k : Int) := by
  refine lt5_cases ?_ ?_ ?_ ?_ ?_ <;> (simp [acr, acrN, List.range_succ, bi_N]; try (first | decide | lia | omega))
noncomputable def cstB (mid one : Nat) (c other : Nat) : Nat := bif Nat.beq (((c >>> (5 * one + mid)) &&& (c >>> (5 * mid + other))) &&& 1) 0 then c else c ||| (1 <<< (5 * one + other))
theorem cst_B (mid one c other : Nat) : cst mid one c other = cstB mid one c other := by
  unfold cst cstB Nat.testBit
  have : ∀ x y : Nat, (((1 &&& x) != 0) && ((1 &&& y) != 0)) = !(Nat.beq ((x &&& y) &&& 1) 0) := fun x y => by
    have e : (x &&& y) &&& 1 = (1 &&& x) &&& (1 &&& y) := by
      have h : (1 &&& x) &&& (1 &&& y) = (x &&& y) &&& (1 &&& 1) := by ac_rfl
      rw [h, Nat.and_self]
    rw [e, Nat.and_comm 1 x, Nat.and_comm 1 y, Nat.and_one_is_mod, Nat.and_one_is_mod]
    rcases Nat.mod_two_eq_zero_or_one x with h | h <;> rcases Nat.mod_two_eq_zero_or_one y with h' | h' <;> rw [h, h'] <;> rfl
  rw [this]
  cases Nat.beq _ 0 <;> rfl
noncomputable def cOtherB (mid c one : Nat) : Nat := cstB mid one (cstB mid one (cstB mid one (cstB mid one (cstB mid one c 0) 1) 2) 3) 4
noncomputable def cOneB (c mid : Nat) : Nat := cOtherB mid (cOtherB mid (cOtherB mid (cOtherB mid (cOtherB mid c 0) 1) 2) 3) 4
noncomputable def cMidB (c : Nat) : Nat := cOneB (cOneB (cOneB (cOneB (cOneB c 0) 1) 2) 3) 4
theorem cMid_B (c : Nat) : cMid c 5 = cMidB c := by
  have e1 : ∀ mid c one, cOther mid c one 5 = cOtherB mid c one := fun mid c one => by
    unfold cOtherB
    simp only [← cst_B]
    rfl
  have e2 : ∀ c mid, cOne c mid 5 = cOneB c mid := fun c mid => by
    unfold cOneB
    simp only [← e1]
    rfl
  unfold cMidB
  simp only [← e2]
  rfl
noncomputable def all5 (f : Nat → Bool) : Bool := f 0 && (f 1 && (f 2 && (f 3 && f 4)))
theorem all5_at {f : Nat → Bool} (h : all5 f = true) : ∀ k, k < 5 → f k = true := by
  unfold all5 at h
  simp only [Bool.and_eq_true] at h
  exact lt5_cases h.1 h.2.1 h.2.2.1 h.2.2.2.1 h.2.2.2.2
noncomputable def tourB (c C : Nat) (p m : Nat → Nat) : Bool := Nat.beq (psum m 5) 10 && all5 fun k => Nat.beq (tri (k + 1)) (psum m (k + 1) + acrN c p k) && all5 fun j => Nat.beq k j || Nat.beq (bN C (5 * p k + p j)) (bif Nat.ble (levN m k) (levN m j) then 1 else 0)
noncomputable def tourAt (t : Nat) : Bool := tourB (cS t 10) (cMidB (cS t 10)) (pS (aS t 10)) (mS t)
theorem tour_chk0 : ((List.range 128).all fun t => tourAt (0 + t)) = true := by decide +kernel
theorem tour_chk1 : ((List.range 128).all fun t => tourAt (128 + t)) = true := by decide +kernel
theorem tour_chk2 : ((List.range 128).all fun t => tourAt (256 + t)) = true := by decide +kernel
theorem tour_chk3 : ((List.range 128).all fun t => tourAt (384 + t)) = true := by decide +kernel
theorem tour_chk4 : ((List.range 128).all fun t => tourAt (512 + t)) = true := by decide +kernel
theorem tour_chk5 : ((List.range 128).all fun t => tourAt (640 + t)) = true := by decide +kernel
theorem tour_chk6 : ((List.range 128).all fun t => tourAt (768 + t)) = true := by decide +kernel
theorem tour_chk7 : ((List.range 128).all fun t => tourAt (896 + t)) = true := by decide +kernel
theorem tour_q : ∀ q, q < 8 → ((List.range 128).all fun t => tourAt (128 * q + t)) = true := fun q h => match q, h with
  | 0, _ => tour_chk0
  | 1, _ => tour_chk1
  | 2, _ => tour_chk2
  | 3, _ => tour_chk3
  | 4, _ => tour_chk4
  | 5, _ => tour_chk5
  | 6, _ => tour_chk6
  | 7, _ => tour_chk7
theorem tour_all {t : Nat} (ht : t < 1024) : tourAt t = true := by
  have h := List.all_eq_true.mp (tour_q (t / 128) (Nat.div_lt_of_lt_mul (show t < 128 * 8 from ht))) (t % 128) (List.mem_range.mpr (Nat.mod_lt _ (by decide)))
  rwa [Nat.div_add_mod] at h
end
section
local macro_rules | `(tactic| walk_at "X.tst") => `(tactic| with_reducible assumption)
local macro_rules | `(tactic| walk_at "X.op2") => `(tactic| fail)

/-! ## Slacks, levels, chains -/
theorem sm_congr {m m' : Nat → Nat} (h : ∀ i, i < 5 → m i = m' i) : ∀ k, k ≤ 5 → sm m k = sm m' k
  | 0, _ => rfl
  | k + 1, hk => by rw [sm, sm, sm_congr h k (by (first | decide | lia | omega)), h k (by (first | decide | lia | omega))]
theorem lev_congr {m m' : Nat → Nat} (h : ∀ i, i < 5 → m i = m' i) : ∀ k, k ≤ 5 → lev m k = lev m' k
  | 0, _ => rfl
  | k + 1, hk => by rw [lev, lev, lev_congr h k (by (first | decide | lia | omega)), sm_congr h (k + 1) hk]
theorem acr_congr {c : Nat} {p p' : Nat → Nat} (h : ∀ i, i < 5 → p i = p' i) (k : Nat) : acr c p k = acr c p' k := by
  have hm : ∀ l, l ∈ List.range 5 → p l = p' l := fun l hl => h l (List.mem_range.mp hl)
  unfold acr
  congr 1
  refine List.map_congr_left fun l hl => ?_
  congr 1
  refine List.map_congr_left fun x hx => ?_
  rw [hm l (List.mem_of_mem_drop hl), hm x (List.mem_of_mem_take hx)]
structure Tour (t : Nat) (p : Nat → Nat) : Prop where
  slack : ∀ k, k < 5 → sm (fun k => aS t 10 (p k)) (k + 1) = acr (cS t 10) p k
  zero : sm (fun k => aS t 10 (p k)) 5 = 0
  chain : ∀ k, k < 5 → ∀ j, j < 5 → k ≠ j → (cMid (cS t 10) 5).testBit (5 * p k + p j) = decide (lev (fun k => aS t 10 (p k)) k ≤ lev (fun k => aS t 10 (p k)) j)
theorem tour {t : Nat} {p : Nat → Nat} (ht : t < 1024) (ho : Ord (aS t 10) p) : Tour t p := by
  have hp := pS_eq ho
  have hm : ∀ i, i < 5 → (fun k => aS t 10 (p k)) i = mS t i := fun i hi => by show aS t 10 (p i) = _; rw [hp i hi]; rfl
  have h := tour_all ht
  unfold tourAt tourB at h
  rw [Bool.and_eq_true] at h
  have h0 := Nat.eq_of_beq_eq_true h.1
  have h1 := fun k hk => all5_at h.2 k hk
  simp only [Bool.and_eq_true] at h1
  refine ⟨fun k hk => ?_, ?_, fun k hk j hj hkj => ?_⟩
  · have := Nat.eq_of_beq_eq_true (h1 k hk).1
    rw [sm_congr hm (k + 1) (by (first | decide | lia | omega)), acr_congr hp k, sm_tri _ _ (by (first | decide | lia | omega)), acr_N _ _ k hk]
    (first | decide | lia | omega)
  · rw [sm_congr hm 5 (by (first | decide | lia | omega)), sm_tri _ _ (by (first | decide | lia | omega)), h0]; rfl
  · have := all5_at (h1 k hk).2 j hj
    rw [show Nat.beq k j = false from by cases e : Nat.beq k j with | false => rfl | true => exact absurd (Nat.eq_of_beq_eq_true e) hkj, Bool.false_or] at this
    have := Nat.eq_of_beq_eq_true this
    rw [lev_congr hm k (by (first | decide | lia | omega)), lev_congr hm j (by (first | decide | lia | omega)), hp k hk, hp j hj, cMid_B, bit_N, this, lev_N _ k (by (first | decide | lia | omega)), lev_N _ j (by (first | decide | lia | omega))]
    by_cases hle : levN (mS t) k ≤ levN (mS t) j
    · rw [Nat.ble_eq_true_of_le hle, decide_eq_true hle]; rfl
    · have e : Nat.ble (levN (mS t) k) (levN (mS t) j) = false := by
        cases e : Nat.ble (levN (mS t) k) (levN (mS t) j) with
        | false => rfl
        | true => exact absurd (Nat.le_of_ble_eq_true e) hle
      rw [e, decide_eq_false hle]; rfl
theorem l5_at {f : Nat → Dat} {j : Nat} {d : Dat} (h : (l5 f)[j]? = some d) : j < 5 ∧ d = f j := by
  have hj : j < 5 := by
    rcases Nat.lt_or_ge j 5 with q | q
    · exact q
    · rw [List.getElem?_eq_none (show (l5 f).length ≤ j from q)] at h; cases h
  refine ⟨hj, ?_⟩
  revert j
  exact fun h hj => (lt5_cases (P := fun j => (l5 f)[j]? = some d → d = f j) (fun h => by cases h; rfl) (fun h => by cases h; rfl) (fun h => by cases h; rfl) (fun h => by cases h; rfl) (fun h => by cases h; rfl)) _ hj h
theorem eof_at (s : Int) : Φ3.fn "ISEOF" [.int s] = some (.bool (decide (s = 0))) := by rw [fn_eof, eqv_int]
noncomputable def sk (a p : Nat → Nat) (k : Nat) : Int := sm (fun k => a (p k)) (k + 1)
noncomputable def lv (a p : Nat → Nat) (k : Nat) : Int := (lev (fun k => a (p k)) k : Nat)
theorem slacks_at {a p : Nat → Nat} (b : Int) (hp : ∀ k, k < 5 → p k < 5) (h7 : ∀ i, i < 5 → a i < 7) : Φ3.fn "_law_slacks" [.list (l5s (tab a p)), .int b] = some (.list (l5i (sk a p))) :=
  slacks_run (p := p) (m := fun k => a (p k)) b hp (fun k hk => h7 _ (hp k hk))
noncomputable def jsE : List Str := ["k", "j", "slacks", "ended", "levels", "slack", "chains"]

theorem stageD2 {σ0 : Sg} {t : Nat} {p : Nat → Nat} {T b : Int} {P : Fl × Sg → Prop} (ht : t < 1024) (fd : FD σ0 t p T b) (ho : Ord (aS t 10) p) (htab : gv σ0 "table" = some (.list (l5s (tab (aS t 10) p)), true))
    (next : ∀ σ, Same jsE σ0 σ → gv σ "slacks" = some (.list (l5i (sk (aS t 10) p)), false) → RT Φ3 30 100 hL κL 91 (lawD.drop 9) σ P) : RT Φ3 30 100 hL κL 97 (lawD.drop 3) σ0 P := by
  have h4 : ∀ i, i < 5 → aS t 10 i ≤ 4 := fun i hi => (wins ht hi).2
  have hT := (tour ht ho).chain
  obtain ⟨n1, n2, n3, n4, n5, n6⟩ := fd
  generalize aS t 10 = a at *
  generalize cS t 10 = c at *
  have hp := ho.lt
  have hsame : Same jsE σ0 σ0 := Same.refl
  have f1 := slacks_at b hp (fun i hi => show a i < 7 by have := h4 i hi; (first | decide | lia | omega))
  refine' rt_next (e_assign (by kernel_rfl) (by decide +kernel) ?a1 ?a2) ?a3
  case a1 => walk_at "X.e"
  case a2 => rfl
  case a3 =>
  refine' rt_next (e_assign (by kernel_rfl) (by decide +kernel) ?b1 ?b2) ?b3
  case b1 => walk_at "X.e"
  case b2 => rfl
  case b3 =>
  refine' rt_next (e_assign (by kernel_rfl) (by decide +kernel) ?c1 ?c2) ?c3
  case c1 => walk_at "X.e"
  case c2 => rfl
  case c3 =>
  refine' rt_st (st_for_var (items := l5i (sk a p)) (fun j σ => Same jsE σ0 σ ∧ gv σ "slacks" = some (.list (l5i (sk a p)), false) ∧ gv σ "ended" = some (.int (lv a p j), true) ∧ gv σ "levels" = some (.list ((List.range j).map fun k => .int (lv a p k)), true)) (by kernel_rfl) (by decide +kernel) ?d1 (by rfl) ?d2 ?d3 ?d4)
  case d1 => walk_at "X.g"
  case d2 =>
    refine ⟨?_, gv_eq, ?_, ?_⟩
    · repeat first
        | exact hsame
        | refine Same.set ?_ (by decide +kernel)
    · show gv _ _ = some (Dat.int 0, true)
      walk_at "X.g"
    · show gv _ _ = some (Dat.list [], true)
      walk_at "X.g"
  case d3 =>
    intro j d σ hjd hI
    obtain ⟨hj, rfl⟩ := l5_at hjd
    obtain ⟨hs, g1, g2, g3⟩ := hI
    refine' rt_next (e_append (by kernel_rfl) (by decide +kernel) ?e1 ?e2 ?e3) ?e4
    case e1 => walk_at "X.g"
    case e2 => walk_at "X.e"
    case e3 => exact ⟨rfl, by rw [List.length_map, List.length_range]; unfold lineMax; (first | decide | lia | omega), List.all_eq_true.mpr fun d hd => by
      obtain ⟨i, _, rfl⟩ := List.mem_map.mp hd; rfl⟩
    case e4 =>
    have q1 := eof_at (sk a p j)
    have hstep : lv a p (j + 1) = lv a p j + (if sk a p j = 0 then 1 else 0) := by
      unfold lv sk
      rw [lev]
      split <;> (first | decide | lia | omega)
    have hlist : (List.range (j + 1)).map (fun k => Dat.int (lv a p k)) = (List.range j).map (fun k => Dat.int (lv a p k)) ++ [.int (lv a p j)] := by
      rw [List.range_succ, List.map_append]; rfl
    rw [hlist]
    by_cases hz : sk a p j = 0
    · rw [decide_eq_true hz] at q1
      rw [if_pos hz] at hstep
      rw [hstep]
      have q2 : truD (.bool true) = some true := rfl
      refine' rt_st (st_if_t (by kernel_rfl) ?g1 ?g2)
      case g1 =>
        refine' ts_call ?g3
        case g3 => walk_at "X.tr"
      case g2 =>
        refine' rt_next (e_aug (by kernel_rfl) (by decide +kernel) ?h1 ?h2 o_auga) (rt_nil ?h3)
        case h1 => walk_at "X.g"
        case h2 => walk_at "X.e"
        case h3 =>
        refine rt_nil ⟨?_, ?_, ?_, ?_⟩
        · repeat first
            | exact hs
            | refine Same.set ?_ (by decide +kernel)
        · walk_at "X.g"
        · walk_at "X.g"
        · walk_at "X.g"
    · rw [decide_eq_false hz] at q1
      rw [if_neg hz, Int.add_zero] at hstep
      rw [hstep]
      have q2 : truD (.bool false) = some false := rfl
      refine' rt_guard (by kernel_rfl) ?g1 ?g2
      case g1 =>
        refine' ts_call ?g3
        case g3 => walk_at "X.tr"
      case g2 =>
        refine rt_nil ⟨?_, ?_, ?_, ?_⟩
        · repeat first
            | exact hs
            | refine Same.set ?_ (by decide +kernel)
        · walk_at "X.g"
        · walk_at "X.g"
        · walk_at "X.g"
  case d4 =>
  intro σ1 hI
  obtain ⟨hs, g1, g2, g3⟩ := hI
  have g3 : gv σ1 "levels" = some (.list (l5i (lv a p)), true) := g3
  have f2 := chains_run c
  refine' rt_next (e_assign (by kernel_rfl) (by decide +kernel) ?i1 ?i2) ?i3
  case i1 => walk_at "X.e"
  case i2 => rfl
  case i3 =>
  generalize cMid c 5 = C at *
  refine' rt_st (st_for_range (items := R5) (fun _ σ => Same jsE σ0 σ ∧ gv σ "slacks" = some (.list (l5i (sk a p)), false) ∧ gv σ "levels" = some (.list (l5i (lv a p)), true) ∧ gv σ "chains" = some (.list (mrows C), true)) (by kernel_rfl) (by decide +kernel) ?j1 range5 ?j2 ?j3 ?j4)
  case j1 => walk_at "X.as"
  case j2 =>
    refine ⟨?_, ?_, ?_, gv_eq⟩
    · repeat first
        | exact hs
        | refine Same.set ?_ (by decide +kernel)
    · walk_at "X.g"
    · walk_at "X.g"
  case j4 => exact fun σ h => next σ h.1 h.2.1
  case j3 =>
  intro k d σ2 hkd hI
  obtain ⟨hk, rfl⟩ := R5_at hkd
  obtain ⟨hs2, k1, k2, k3⟩ := hI
  refine' rt_st (st_for_range (items := R5) (fun _ σ => Same jsE σ0 σ ∧ gv σ "slacks" = some (.list (l5i (sk a p)), false) ∧ gv σ "levels" = some (.list (l5i (lv a p)), true) ∧ gv σ "chains" = some (.list (mrows C), true) ∧ gv σ "k" = some (.int (k : Int), true)) (by kernel_rfl) (by decide +kernel) ?l1 range5 ?l2 ?l3 ?l4)
  case l1 => walk_at "X.as"
  case l2 =>
    refine ⟨?_, ?_, ?_, ?_, gv_eq⟩
    · repeat first
        | exact hs2
        | refine Same.set ?_ (by decide +kernel)
    · walk_at "X.g"
    · walk_at "X.g"
    · walk_at "X.g"
  case l4 => exact fun σ h => rt_nil ⟨h.1, h.2.1, h.2.2.1, h.2.2.2.1⟩
  case l3 =>
  intro j d σ3 hjd hI
  obtain ⟨hj, rfl⟩ := R5_at hjd
  obtain ⟨hs3, m1, m2, m3, m4⟩ := hI
  have q1 := it5i (f := fun k => (p k : Int)) hk
  have q2 := it5i (f := fun k => (p k : Int)) hj
  have q3 := item_rows (c := C) (hp k hk)
  have q4 := item_row (c := C) (i := p k) (hp j hj)
  have q5 := it5i (f := lv a p) hk
  have q6 := it5i (f := lv a p) hj
  have bit : ∀ b : Bool, cmpD .Eq (.int (bi b)) (.int 1) = some (.bool b) := fun b => by rw [o_eqi]; cases b <;> rfl
  by_cases hjk : j = k
  · subst hjk
    have q7 : cmpD .NotEq (.int (j : Int)) (.int (j : Int)) = some (.bool false) := by rw [o_nei]; simp
    refine' rt_guard (by kernel_rfl) ?n1 ?n2
    case n1 =>
      refine' ts_and (al_no ?n3)
      case n3 => walk_at "X.tr"
    case n2 =>
      refine rt_nil ⟨?_, ?_, ?_, ?_, ?_⟩
      · repeat first
          | exact hs3
          | refine Same.set ?_ (by decide +kernel)
      · walk_at "X.g"
      · walk_at "X.g"
      · walk_at "X.g"
      · walk_at "X.g"
  · have q7 : cmpD .NotEq (.int (j : Int)) (.int (k : Int)) = some (.bool true) := by rw [o_nei, decide_eq_false (by (first | decide | lia | omega))]; rfl
    have hb := hT k hk j hj (Ne.symm hjk)
    have q8 := bit (C.testBit (5 * p k + p j))
    have q9 : cmpD .NotEq (.bool (C.testBit (5 * p k + p j))) (.bool (decide (lv a p k ≤ lv a p j))) = some (.bool false) := by
      have e : decide (lv a p k ≤ lv a p j) = C.testBit (5 * p k + p j) := by
        rw [hb]
        exact decide_eq_decide.mpr Int.ofNat_le
      rw [e, o_neb, beq_self_eq_true]; rfl
    refine' rt_guard (by kernel_rfl) ?n1 ?n2
    case n1 =>
      refine' ts_and (al_yes ?n3 (al_no ?n4))
      case n3 => walk_at "X.tr"
      case n4 => walk_at "X.tr"
    case n2 =>
      refine rt_nil ⟨?_, ?_, ?_, ?_, ?_⟩
      · repeat first
          | exact hs3
          | refine Same.set ?_ (by decide +kernel)
      · walk_at "X.g"
      · walk_at "X.g"
      · walk_at "X.g"
      · walk_at "X.g"
end
section
local macro_rules | `(tactic| walk_at "X.tst") => `(tactic| with_reducible assumption)
local macro_rules | `(tactic| walk_at "X.op2") => `(tactic| fail)

/-! ## Across -/
theorem c2b {rec : Kd → Vs → Expr → Option Dat} {κ' : Kd} {ρ : Vs} {x y : Str} {v : Dat} {elt : Expr} {h : Dat → Dat} : ∀ {us : List Dat}, (∀ u ∈ us, rec κ' (inComp κ' ρ (bind1 y u (bind1 x v nob))) elt = some (h u) ∧ imm (h u) = true) → compRun2b rec κ' ρ x v y elt us = some (us.map h)
  | [], _ => rfl
  | u :: r, hu => by
    obtain ⟨h1, h2⟩ := hu u (.head _)
    rw [compRun2b, h1]
    dsimp only
    rw [if_pos h2, c2b (us := r) fun u' hu' => hu u' (.tail _ hu')]
    rfl
theorem c2 {rec : Kd → Vs → Expr → Option Dat} {κ' : Kd} {ρ : Vs} {x y : Str} {iter2 elt : Expr} {g : Dat → Dat → Dat} {us : List Dat} (hu : us.all imm = true) (hf : freshE iter2 = true) : ∀ {items : List Dat}, (∀ v ∈ items, rec κ' (inComp κ' ρ (bind1 x v nob)) iter2 = some (.list us) ∧ imm v = true) →
    (∀ v ∈ items, ∀ u ∈ us, rec κ' (inComp κ' ρ (bind1 y u (bind1 x v nob))) elt = some (g v u) ∧ imm (g v u) = true) → compRun2 rec κ' ρ x y iter2 elt items = some (items.flatMap fun v => us.map (g v))
  | [], _, _ => rfl
  | v :: r, h1, h2 => by
    obtain ⟨q1, q2⟩ := h1 v (.head _)
    rw [compRun2, q1]
    dsimp only [itemsD]
    rw [if_pos ⟨hu, hf, q2⟩, c2b (h2 v (.head _))]
    dsimp only
    rw [c2 hu hf (items := r) (fun v' hv' => h1 v' (.tail _ hv')) (fun v' hv' => h2 v' (.tail _ hv'))]
    rfl
noncomputable def aftr (p : Nat → Nat) (k : Nat) : List Dat := ((List.range 5).drop (k + 1)).map fun l => .int (p l : Int)
noncomputable def upto (p : Nat → Nat) (k : Nat) : List Dat := ((List.range 5).take (k + 1)).map fun l => .int (p l : Int)
noncomputable def gW (c : Nat) (v u : Dat) : Dat := match v, u with
  | .int x, .int y => .int (bi (c.testBit (5 * x.toNat + y.toNat)))
  | _, _ => .int 0
theorem sl_after (p : Nat → Nat) : ∀ k, k < 5 → sliceD (.list (l5i fun k => (p k : Int))) (some (.int (((k : Nat) : Int) + 1))) none none = some (.list (aftr p k)) := lt5_cases (by kernel_rfl) (by kernel_rfl) (by kernel_rfl) (by kernel_rfl) (by kernel_rfl)
theorem sl_upto (p : Nat → Nat) : ∀ k, k < 5 → sliceD (.list (l5i fun k => (p k : Int))) none (some (.int (((k : Nat) : Int) + 1))) none = some (.list (upto p k)) := lt5_cases (by kernel_rfl) (by kernel_rfl) (by kernel_rfl) (by kernel_rfl) (by kernel_rfl)
theorem upto_imm (p : Nat → Nat) : ∀ k, k < 5 → (upto p k).all imm = true := lt5_cases (by rfl) (by rfl) (by rfl) (by rfl) (by rfl)
theorem in_aftr {p : Nat → Nat} {k : Nat} {d : Dat} (h : d ∈ aftr p k) : ∃ l, l < 5 ∧ d = .int (p l : Int) := by
  obtain ⟨l, hl, rfl⟩ := List.mem_map.mp h
  exact ⟨l, List.mem_range.mp (List.mem_of_mem_drop hl), rfl⟩
theorem in_upto {p : Nat → Nat} {k : Nat} {d : Dat} (h : d ∈ upto p k) : ∃ l, l < 5 ∧ d = .int (p l : Int) := by
  obtain ⟨l, hl, rfl⟩ := List.mem_map.mp h
  exact ⟨l, List.mem_range.mp (List.mem_of_mem_take hl), rfl⟩
noncomputable def acl (c : Nat) (p : Nat → Nat) (k : Nat) : List Int := ((List.range 5).drop (k + 1)).flatMap fun l => ((List.range 5).take (k + 1)).map fun h => bi (c.testBit (5 * p l + p h))
theorem across_ints (c : Nat) (p : Nat → Nat) : ∀ k, k < 5 → ((aftr p k).flatMap fun v => (upto p k).map (gW c v)).length ≤ 100000 ∧ ∃ ns, intsOf ((aftr p k).flatMap fun v => (upto p k).map (gW c v)) = some ns ∧ ns.sum = acr c p k :=
  lt5_cases ⟨by apply Nat.le_of_ble_eq_true; rfl, acl c p 0, by kernel_rfl, by simp [acl, acr, List.range_succ]; try (first | decide | lia | omega)⟩ ⟨by apply Nat.le_of_ble_eq_true; rfl, acl c p 1, by kernel_rfl, by simp [acl, acr, List.range_succ]; try (first | decide | lia | omega)⟩ ⟨by apply Nat.le_of_ble_eq_true; rfl, acl c p 2, by kernel_rfl, by simp [acl, acr, List.range_succ]; try (first | decide | lia | omega)⟩ ⟨by apply Nat.le_of_ble_eq_true; rfl, acl c p 3, by kernel_rfl, by simp [acl, acr, List.range_succ]; try (first | decide | lia | omega)⟩ ⟨by apply Nat.le_of_ble_eq_true; rfl, acl c p 4, by kernel_rfl, by simp [acl, acr, List.range_succ]; try (first | decide | lia | omega)⟩
theorem sum_nn : ∀ {l : List Int}, (∀ x ∈ l, 0 ≤ x) → 0 ≤ l.sum
  | [], _ => by simp
  | a :: r, h => by
    have h1 := h a (.head _)
    have h2 := sum_nn (l := r) fun x hx => h x (.tail _ hx)
    rw [List.sum_cons]; (first | decide | lia | omega)
theorem acr_nn (c : Nat) (p : Nat → Nat) (k : Nat) : 0 ≤ acr c p k := by
  unfold acr
  refine sum_nn fun x hx => ?_
  obtain ⟨l, _, rfl⟩ := List.mem_map.mp hx
  refine sum_nn fun y hy => ?_
  obtain ⟨h, _, rfl⟩ := List.mem_map.mp hy
  unfold bi
  split <;> (first | decide | lia | omega)
noncomputable def tb (f : Bool → Bool) (e : Bool) : List Dat := [.bool (f e), .bool (f e), .bool (f true), .bool (f false), .bool (f e), .bool (f (!e)), .bool (f false), .bool (f true)]
theorem cr8 {rec : Kd → Vs → Expr → Option Dat} {κ' : Kd} {ρ : Vs} {x : Str} {elt : Expr} {f : Bool → Bool} {e : Bool} (h : ∀ b, rec κ' (inComp κ' ρ (bind1 x (.bool b) nob)) elt = some (.bool (f b))) (hf : ∀ b, (freshE elt || imm (.bool (f b))) = true) : compRun rec κ' ρ x elt [] (tb (fun b => b) e) = some (tb f e) :=
  cr_cons (h _) (hf _) (cr_cons (h _) (hf _) (cr_cons (h _) (hf _) (cr_cons (h _) (hf _) (cr_cons (h _) (hf _) (cr_cons (h _) (hf _) (cr_cons (h _) (hf _) (cr_cons (h _) (hf _) cr_nil)))))))
theorem netb {f : Bool → Bool} {e : Bool} : cmpD .NotEq (.list (tb f e)) (.list (tb f e)) = some (.bool false) := o_nel_same rfl
noncomputable def tl (e : Bool) : Nat → List Dat
  | 0 => [.bool e, .bool e]
  | 1 => [.bool e, .bool e, .bool true, .bool false]
  | 2 => [.bool e, .bool e, .bool true, .bool false, .bool e, .bool (!e)]
  | _ => tb (fun b => b) e
noncomputable def jsF : List Str := ["k", "slack", "across", "ends", "told", "at", "right"]
theorem stageD3 {σ0 : Sg} {t : Nat} {p : Nat → Nat} {T b : Int} {P : Fl × Sg → Prop} (ht : t < 1024) (fd : FD σ0 t p T b) (ho : Ord (aS t 10) p) (hsl : gv σ0 "slacks" = some (.list (l5i (sk (aS t 10) p)), false))
    (next : ∀ σ, Same jsF σ0 σ → RT Φ3 30 100 hL κL 90 (lawD.drop 10) σ P) : RT Φ3 30 100 hL κL 91 (lawD.drop 9) σ0 P := by
  have hT : ∀ k, k < 5 → sk (aS t 10) p k = acr (cS t 10) p k := (tour ht ho).slack
  obtain ⟨n1, n2, n3, n4, n5, n6⟩ := fd
  generalize aS t 10 = a at *
  generalize cS t 10 = c at *
  have hp := ho.lt
  refine' rt_st (st_for_range (items := R5) (fun _ σ => Same jsF σ0 σ) (by kernel_rfl) (by decide +kernel) ?a1 range5 ?a2 ?a3 ?a4)
  case a1 => walk_at "X.as"
  case a2 => exact Same.refl
  case a4 => exact next
  case a3 =>
  intro k d σ hkd hs
  obtain ⟨hk, rfl⟩ := R5_at hkd
  have f1 := it5i (f := sk a p) hk
  have f2 := sl_after p k hk
  have f3 := sl_upto p k hk
  obtain ⟨f4, ns, f5, f6⟩ := across_ints c p k hk
  have f7 := o_sum f4 f5
  rw [f6, ← hT k hk] at f7
  have hnn : 0 ≤ sk a p k := by rw [hT k hk]; exact acr_nn c p k
  generalize sk a p k = s at *
  refine' rt_next (e_assign (by kernel_rfl) (by decide +kernel) ?b1 ?b2) ?b3
  case b1 => walk_at "X.e"
  case b2 => rfl
  case b3 =>
  refine' rt_next (e_assign (by kernel_rfl) (by decide +kernel) (d := .int s) ?c1 ?c2) ?c3
  case c1 =>
    refine' ev_built (by decide +kernel) (by decide +kernel) (by decide +kernel) (as_cons ?d1 as_nil) f7
    refine' ev_comp2 (items := aftr p k) (by decide +kernel) ?d2 ?d3 f4
    case d2 =>
      have q : ∀ e, e = some (Dat.list (aftr p k)) → itemsD e = some (aftr p k) := fun e h => by rw [h]; rfl
      refine' q _ ?d4
      case d4 => walk_at "X.e"
    case d3 =>
      refine' c2 (g := gW c) (upto_imm p k hk) (by rfl) ?d5 ?d6
      case d5 =>
        intro v hv
        obtain ⟨l, hl, rfl⟩ := in_aftr hv
        refine' ⟨?d7, rfl⟩
        case d7 => walk_at "X.e"
      case d6 =>
        intro v hv u hu
        obtain ⟨l, hl, rfl⟩ := in_aftr hv
        obtain ⟨h, hh, rfl⟩ := in_upto hu
        have g1 := item_rows (c := c) (hp l hl)
        have g2 := item_row (c := c) (i := p l) (hp h hh)
        refine' ⟨?d8, rfl⟩
        case d8 =>
        show _ = some (Dat.int (bi (c.testBit (5 * p l + p h))))
        walk_at "X.e"
  case c2 => rfl
  case c3 =>
  generalize he : decide (s = 0) = e
  have g0 : cmpD .Eq (.int s) (.int 0) = some (.bool e) := by rw [o_eqi, he]
  refine' rt_next (e_assign (by kernel_rfl) (by decide +kernel) ?e1 ?e2) ?e3
  case e1 => walk_at "X.e"
  case e2 => rfl
  case e3 =>
  have g1 : Φ3.fn "ISEOF" [.int s] = some (.bool e) := by rw [eof_at, he]
  have g2 : Φ3.fn "ISEOF" [.int (-s)] = some (.bool e) := by rw [eof_at, show decide (-s = 0) = e by rw [← he]; exact decide_eq_decide.mpr (by (first | decide | lia | omega))]
  refine' rt_next (e_assign (by kernel_rfl) (by decide +kernel) ?h1 ?h2) ?h3
  case h1 => walk_at "X.e"
  case h2 => rfl
  case h3 =>
  have key : ∀ j d, ([.int (255 - s), .int (255 + s), .int (256 + s)] : List Dat)[j]? = some d → ∃ b1 b2, Φ3.fn "ISTERMINAL" [d] = some (.bool b1) ∧ Φ3.fn "ISNONTERMINAL" [d] = some (.bool b2) ∧ tl e (j + 1) = tl e j ++ [.bool b1, .bool b2] ∧ (tl e j).all imm = true ∧ (tl e j).length ≤ 10 := by
    intro j d hd
    match j, hd with
    | 0, hd => cases hd; exact ⟨true, false, by rw [fn_term, decide_eq_true (by (first | decide | lia | omega))], by rw [fn_nonterm, decide_eq_false (by (first | decide | lia | omega))], rfl, rfl, by show 2 ≤ 10; (first | decide | lia | omega)⟩
    | 1, hd => cases hd; exact ⟨e, !e, by rw [fn_term, show decide (255 + s < 256) = e by rw [← he]; exact decide_eq_decide.mpr (by (first | decide | lia | omega))], by rw [fn_nonterm, show decide (256 ≤ 255 + s) = !e by rw [← he, ← decide_not]; exact decide_eq_decide.mpr (by (first | decide | lia | omega))], rfl, rfl, by show 4 ≤ 10; (first | decide | lia | omega)⟩
    | 2, hd => cases hd; exact ⟨false, true, by rw [fn_term, decide_eq_false (by (first | decide | lia | omega))], by rw [fn_nonterm, decide_eq_true (by (first | decide | lia | omega))], rfl, rfl, by show 6 ≤ 10; (first | decide | lia | omega)⟩
    | j + 3, hd => simp at hd
  refine' rt_st (st_for_list (items := [.int (255 - s), .int (255 + s), .int (256 + s)]) (fun j σ => Same jsF σ0 σ ∧ gv σ "slack" = some (.int s, true) ∧ gv σ "across" = some (.int s, true) ∧ gv σ "ends" = some (.bool e, true) ∧ gv σ "told" = some (.list (tl e j), true)) (by kernel_rfl) (by decide +kernel) ?i1 (by rfl) ?i2 ?i3 ?i4)
  case i1 => walk_at "X.e"
  case i2 =>
    refine ⟨?_, ?_, ?_, ?_, ?_⟩
    · repeat first
        | exact hs
        | refine Same.set ?_ (by decide +kernel)
    · walk_at "X.g"
    · walk_at "X.g"
    · walk_at "X.g"
    · exact gv_eq
  case i3 =>
    intro j d σ1 hjd hI
    obtain ⟨hs1, k1, k2, k3, k4⟩ := hI
    obtain ⟨b1, b2, u1, u2, u3, u4, u5⟩ := key j d hjd
    refine' rt_next (e_extend (es := [.bool b1, .bool b2]) (by kernel_rfl) (by decide +kernel) ?j1 ?j2 ?j3) (rt_nil ?j4)
    case j1 => walk_at "X.g"
    case j2 => walk_at "X.e"
    case j3 => exact ⟨rfl, rfl, by show (tl e j).length + 2 ≤ 100000; (first | decide | lia | omega), u4⟩
    case j4 =>
      rw [u3]
      refine ⟨?_, ?_, ?_, ?_, gv_eq⟩
      · repeat first
          | exact hs1
          | refine Same.set ?_ (by decide +kernel)
      · walk_at "X.g"
      · walk_at "X.g"
      · walk_at "X.g"
  case i4 =>
  intro σ1 hI
  obtain ⟨hs1, k1, k2, k3, k4⟩ := hI
  have k4 : gv σ1 "told" = some (.list (tb (fun b => b) e), true) := k4
  refine' rt_next (e_assign (by kernel_rfl) (by decide +kernel) (d := .list (tb (fun b => b) e)) ?l1 ?l2) ?l3
  case l1 =>
    show _ = some (Dat.list [.bool e, .bool e, .bool true, .bool false, .bool e, .bool (!e), .bool false, .bool true])
    walk_at "X.e"
  case l2 => rfl
  case l3 =>
  have m1 : cmpD .NotEq (.int s) (.int s) = some (.bool false) := by rw [o_nei]; simp
  have m2 := netb (f := fun b => b) (e := e)
  have m3 := netb (f := fun b => !b) (e := e)
  refine' rt_guard (by kernel_rfl) ?n1 ?n2
  case n1 =>
    refine' ts_or (an_no ?n3 (an_no ?n4 an_nil))
    case n3 => walk_at "X.tr"
    case n4 =>
      refine' tr_cmp ?n5 ?n6 m2
      case n6 => walk_at "X.e"
      case n5 =>
        refine' ev_comp (by decide +kernel) (it_var ?n7) (cr8 (f := fun b => b) (fun bb => ?n8) (fun _ => rfl)) (by apply Nat.le_of_ble_eq_true; rfl)
        case n7 => walk_at "X.e"
        case n8 =>
        have q : cmpD .Is (.bool bb) (.bool true) = some (.bool bb) := by rw [o_isb]; simp
        walk_at "X.e"
  case n2 =>
  refine' rt_guard (by kernel_rfl) ?o1 ?o2
  case o1 =>
    refine' ts_cmp (tr_cmp ?o5 ?o6 m3)
    case o5 =>
      refine' ev_comp (by decide +kernel) (it_var ?o7) (cr8 (f := fun b => !b) (fun bb => ?o8) (fun _ => rfl)) (by apply Nat.le_of_ble_eq_true; rfl)
      case o7 => walk_at "X.e"
      case o8 =>
      have q : cmpD .Is (.bool bb) (.bool false) = some (.bool !bb) := by rw [o_isb]; simp
      walk_at "X.e"
    case o6 =>
      refine' ev_comp (by decide +kernel) (it_var ?o9) (cr8 (f := fun b => !b) (fun bb => ?o10) (fun _ => rfl)) (by apply Nat.le_of_ble_eq_true; rfl)
      case o9 => walk_at "X.e"
      case o10 => walk_at "X.e"
  case o2 =>
  refine rt_nil ?_
  show Same jsF σ0 _
  repeat first
    | exact hs1
    | refine Same.set ?_ (by decide +kernel)
end
section
local macro_rules | `(tactic| walk_at "X.tst") => `(tactic| with_reducible assumption)
local macro_rules | `(tactic| walk_at "X.op2") => `(tactic| fail)

/-! ## All the texts, one behind the other -/
noncomputable def whl (p m : Nat → Nat) : Array UInt8 := ((((#[] ++ txt (p 0) 4 (m 0)) ++ txt (p 1) 3 (m 1)) ++ txt (p 2) 2 (m 2)) ++ txt (p 3) 1 (m 3)) ++ txt (p 4) 0 (m 4)
noncomputable def whlT (p m : Nat → Nat) : List (Nat × Nat × Nat) := [(p 0, 4, m 0), (p 1, 3, m 1), (p 2, 2, m 2), (p 3, 1, m 3), (p 4, 0, m 4)]
theorem o_join {ds : List Dat} {bs : List (Array UInt8)} (h1 : bytesOf ds = some bs) (h2 : (bs.map (·.size)).sum ≤ 100000 ∧ 2 ≤ ds.length ∧ ds.length ≤ 100) : methD "join" (.bytes (#[] : Array UInt8)) [.list ds] = some (.bytes (bs.foldl (· ++ ·) #[])) := by
  show (if ("join" : Str) = ("join" : Str) then (if (#[] : Array UInt8).size = 0 then (match bytesOf ds with
      | some bs => if (bs.map (·.size)).sum ≤ lineMax ∧ 2 ≤ ds.length ∧ ds.length ≤ 100 then some (Dat.bytes (bs.foldl (· ++ ·) #[])) else none
      | none => none) else none) else none) = _
  rw [if_pos rfl, if_pos (by decide), h1]
  exact if_pos h2
theorem paren_one (b : Array UInt8) : Φ3.fn "_paren_depth" [.bytes b] = Φ3.fn "_paren_depth" [.bytes b, .int 0] := by
  have e1 : Φ3.fn "_paren_depth" [.bytes b] = runDef Φ0 0 ["data", "depth"] [.bytes b, .int 0] := by kernel_rfl
  have e2 : Φ3.fn "_paren_depth" [.bytes b, .int 0] = runDef Φ0 0 ["data", "depth"] [.bytes b, .int 0] := by kernel_rfl
  rw [e1, e2]
section
variable {p m : Nat → Nat} (hp : ∀ k, k < 5 → p k < 5) (hm : ∀ k, k < 5 → m k < 7)
include hp hm
theorem whl_size : (whl p m).size ≤ 100 := by
  have q := fun k hk b => txt_size (below := b) (a := m k) (hp k hk)
  have q0 := q 0 (by (first | decide | lia | omega)) 4; have q1 := q 1 (by (first | decide | lia | omega)) 3; have q2 := q 2 (by (first | decide | lia | omega)) 2; have q3 := q 3 (by (first | decide | lia | omega)) 1; have q4 := q 4 (by (first | decide | lia | omega)) 0
  have r0 := hm 0 (by (first | decide | lia | omega)); have r1 := hm 1 (by (first | decide | lia | omega)); have r2 := hm 2 (by (first | decide | lia | omega)); have r3 := hm 3 (by (first | decide | lia | omega)); have r4 := hm 4 (by (first | decide | lia | omega))
  unfold whl
  simp only [Array.size_append, Array.size_empty]
  (first | decide | lia | omega)
omit hm in
theorem whl_back : ((whl p m).map (·.toNat)).toList = txts (whlT p m) := by
  have e0 := txt_back (below := 4) (a := m 0) (hp 0 (by (first | decide | lia | omega)))
  have e1 := txt_back (below := 3) (a := m 1) (hp 1 (by (first | decide | lia | omega)))
  have e2 := txt_back (below := 2) (a := m 2) (hp 2 (by (first | decide | lia | omega)))
  have e3 := txt_back (below := 1) (a := m 3) (hp 3 (by (first | decide | lia | omega)))
  have e4 := txt_back (below := 0) (a := m 4) (hp 4 (by (first | decide | lia | omega)))
  unfold whl whlT txts txts txts txts txts txts
  simp only [Array.map_append, Array.toList_append, e0, e1, e2, e3, e4]
  simp
omit hm in
theorem whlT_lt : ∀ x ∈ whlT p m, x.1 < 5 := fun x hx => by
  unfold whlT at hx
  simp only [List.mem_cons, List.not_mem_nil, or_false] at hx
  rcases hx with rfl | rfl | rfl | rfl | rfl <;> exact hp _ (by (first | decide | lia | omega))
theorem paren_whole (h0 : sm m 5 = 0) : Φ3.fn "_paren_depth" [.bytes (whl p m)] = some (.int 0) := by
  rw [paren_one, paren_run _ _ (by have := whl_size hp hm; (first | decide | lia | omega))]
  have hsm : ∀ c ∈ txts (whlT p m), c < 256 := fun c hc => by have := txts_small _ (whlT_lt hp) c hc; (first | decide | lia | omega)
  have h := cnt_txts (whlT p m) (whlT_lt hp) []
  rw [List.append_nil] at h
  rw [cnt_eq (whl_back hp) hsm (by decide), cnt_eq (whl_back hp) hsm (by decide), h.1, h.2]
  have e3 : cntN (sq []) 40 = 0 := rfl
  have e4 : cntN (sq []) 41 = 0 := rfl
  rw [e3, e4]
  simp only [sm] at h0
  simp [whlT]
  (first | decide | lia | omega)
theorem paren_whole2 (h0 : sm m 5 = 0) (b : Int) : Φ3.fn "_paren_depth" [.bytes (whl p m ++ #[34, 34, 40, 34, 40]), .int b] = some (.int (b + 2)) := by
  rw [paren_run _ _ (by have := whl_size hp hm; simp only [Array.size_append]; show _ + 5 ≤ 1000; (first | decide | lia | omega))]
  have hb : ((whl p m ++ (#[34, 34, 40, 34, 40] : Array UInt8)).map (fun (c : UInt8) => c.toNat)).toList = txts (whlT p m) ++ [34, 34, 40, 34, 40] := by
    rw [Array.map_append, Array.toList_append, whl_back hp, show (Array.map (fun (c : UInt8) => c.toNat) #[34, 34, 40, 34, 40]).toList = [34, 34, 40, 34, 40] by decide +kernel]
  have hsm : ∀ c ∈ txts (whlT p m) ++ [34, 34, 40, 34, 40], c < 256 := fun c hc => by
    rcases List.mem_append.mp hc with hc | hc
    · have := txts_small _ (whlT_lt hp) c hc; (first | decide | lia | omega)
    · simp at hc; (first | decide | lia | omega)
  have h := cnt_txts (whlT p m) (whlT_lt hp) [34, 34, 40, 34, 40]
  rw [cnt_eq hb hsm (by decide), cnt_eq hb hsm (by decide), h.1, h.2]
  have e3 : cntN (sq [34, 34, 40, 34, 40]) 40 = 2 := by decide +kernel
  have e4 : cntN (sq [34, 34, 40, 34, 40]) 41 = 0 := by decide +kernel
  rw [e3, e4]
  simp only [sm] at h0
  simp [whlT]
  (first | decide | lia | omega)
end
theorem paren_none (b : Int) : Φ3.fn "_paren_depth" [.bytes (#[] : Array UInt8), .int b] = some (.int b) := by
  rw [paren_run _ _ (by decide)]
  have e3 : cnt #[] 40 = 0 := by decide +kernel
  have e4 : cnt #[] 41 = 0 := by decide +kernel
  rw [e3, e4]; simp
noncomputable def jsG : List Str := ["whole"]
theorem stageD4 {σ0 : Sg} {t : Nat} {p : Nat → Nat} {T b : Int} {P : Fl × Sg → Prop} (ht : t < 1024) (fd : FD σ0 t p T b) (ho : Ord (aS t 10) p) (htab : gv σ0 "table" = some (.list (l5s (tab (aS t 10) p)), true))
    (next : ∀ σ, Same jsG σ0 σ → RT Φ3 30 100 hL κL 87 (lawD.drop 13) σ P) : RT Φ3 30 100 hL κL 90 (lawD.drop 10) σ0 P := by
  have h4 : ∀ i, i < 5 → aS t 10 i ≤ 4 := fun i hi => (wins ht hi).2
  have h0 := (tour ht ho).zero
  obtain ⟨n1, n2, n3, n4, n5, n6⟩ := fd
  generalize aS t 10 = a at *
  have hp := ho.lt
  have hm : ∀ k, k < 5 → a (p k) < 7 := fun k hk => by have := h4 _ (hp k hk); (first | decide | lia | omega)
  have f1 := paren_whole (p := p) (m := fun k => a (p k)) hp hm h0
  have f2 := paren_whole2 (p := p) (m := fun k => a (p k)) hp hm h0 b
  have f3 := paren_none b
  have hsz := whl_size (p := p) (m := fun k => a (p k)) hp hm
  have hsame : Same jsG σ0 σ0 := Same.refl
  have f4 := o_join (ds := l5 fun k => .bytes (txt (p k) (4 - k) (a (p k)))) (bs := [txt (p 0) 4 (a (p 0)), txt (p 1) 3 (a (p 1)), txt (p 2) 2 (a (p 2)), txt (p 3) 1 (a (p 3)), txt (p 4) 0 (a (p 4))]) (by rfl) ⟨by
      unfold whl at hsz
      simp only [Array.size_append, Array.size_empty] at hsz
      simp only [List.map_cons, List.map_nil, List.sum_cons, List.sum_nil]
      (first | decide | lia | omega), by apply Nat.le_of_ble_eq_true; rfl, by apply Nat.le_of_ble_eq_true; rfl⟩
  have f4 : methD "join" (.bytes [].toArray) [.list (l5 fun k => .bytes (txt (p k) (4 - k) (a (p k))))] = some (.bytes (whl p fun k => a (p k))) := f4
  generalize (whl p fun k => a (p k)) = W at *
  refine' rt_next (e_assign (by kernel_rfl) (by decide +kernel) ?a1 ?a2) ?a3
  case a1 =>
    refine' ev_meth (by decide +kernel) (by decide +kernel) ?b1 (as_cons ?b2 as_nil) f4
    case b1 => walk_at "X.e"
    case b2 =>
      refine' ev_comp (by decide +kernel) (it_range (by decide +kernel) ?c1 range5) ?c2 (by apply Nat.le_of_ble_eq_true; rfl)
      case c1 => walk_at "X.as"
      case c2 =>
        show compRun _ _ _ _ _ [] (l5 fun k => .int (k : Int)) = _
        refine' cr5 (fun k hk => ?c3) (fun _ _ => rfl)
        have g1 := it5s (f := tab a p) hk
        have g2 : Φ3.fn "_law_text" [.str (tab a p k), .int (4 - (k : Int))] = some (.bytes (txt (p k) (4 - k) (a (p k)))) := by
          rw [fn23t, show (4 : Int) - (k : Int) = ((4 - k : Nat) : Int) by (first | decide | lia | omega)]
          exact text_run (hp k hk) (hm k hk) (by (first | decide | lia | omega))
        walk_at "X.e"
  case a2 => rfl
  case a3 =>
  have g0 : cmpD .NotEq (.int 0) (.int 0) = some (.bool false) := by rw [o_nei]; simp
  have g1 : cmpD .NotEq (.int (b + 2)) (.int (b + 2)) = some (.bool false) := by rw [o_nei]; simp
  have g2 : cmpD .NotEq (.int b) (.int b) = some (.bool false) := by rw [o_nei]; simp
  have g3 : binD .Add (.bytes W) (.bytes [34, 34, 40, 34, 40].toArray) = some (.bytes (W ++ #[34, 34, 40, 34, 40])) := o_addb (by show W.size + 5 ≤ 100000; (first | decide | lia | omega))
  refine' rt_guard (by kernel_rfl) ?d1 ?d2
  case d1 =>
    refine' ts_or (an_no ?d3 (an_no ?d4 an_nil))
    case d3 => walk_at "X.tr"
    case d4 => walk_at "X.tr"
  case d2 =>
  refine' rt_guard (by kernel_rfl) ?e1 ?e2
  case e1 =>
    refine' ts_cmp ?e3
    case e3 => walk_at "X.tr"
  case e2 => exact next _ (hsame.set (by decide +kernel))
end
section
local macro_rules | `(tactic| walk_at "X.tst") => `(tactic| with_reducible assumption)
local macro_rules | `(tactic| walk_at "X.op2") => `(tactic| fail)

/-! ## Points go from hand to hand -/
noncomputable def mf (m0 m1 m2 m3 m4 : Nat) : Nat → Nat
  | 0 => m0
  | 1 => m1
  | 2 => m2
  | 3 => m3
  | _ => m4
noncomputable def fineP (m : Nat → Nat) : Bool := (decide (256 ≤ 256 + sm m 1) && (decide (256 ≤ 256 + sm m 2) && (decide (256 ≤ 256 + sm m 3) && (decide (256 ≤ 256 + sm m 4) && decide (256 ≤ 256 + sm m 5))))) && decide (sm m 5 = 0)
theorem deal_chk : ((List.range 7).all fun m0 => (List.range (m0 + 1)).all fun m1 => (List.range (m1 + 1)).all fun m2 => (List.range (m2 + 1)).all fun m3 => (List.range (m3 + 1)).all fun m4 => fineP (mf m0 m1 m2 m3 m4) == dealtP 5 [(m4 : Int), (m3 : Int), (m2 : Int), (m1 : Int), (m0 : Int)]) = true := by decide +kernel
theorem deal {m : Nat → Nat} (h0 : m 0 < 7) (h1 : m 1 ≤ m 0) (h2 : m 2 ≤ m 1) (h3 : m 3 ≤ m 2) (h4 : m 4 ≤ m 3) : fineP m = dealtP 5 [(m 4 : Int), (m 3 : Int), (m 2 : Int), (m 1 : Int), (m 0 : Int)] := by
  have c0 := List.all_eq_true.mp deal_chk (m 0) (List.mem_range.mpr h0)
  have c1 := List.all_eq_true.mp c0 (m 1) (List.mem_range.mpr (by (first | decide | lia | omega)))
  have c2 := List.all_eq_true.mp c1 (m 2) (List.mem_range.mpr (by (first | decide | lia | omega)))
  have c3 := List.all_eq_true.mp c2 (m 3) (List.mem_range.mpr (by (first | decide | lia | omega)))
  have c4 := List.all_eq_true.mp c3 (m 4) (List.mem_range.mpr (by (first | decide | lia | omega)))
  have hm : ∀ i, i < 5 → m i = mf (m 0) (m 1) (m 2) (m 3) (m 4) i := lt5_cases rfl rfl rfl rfl rfl
  have e : fineP m = fineP (mf (m 0) (m 1) (m 2) (m 3) (m 4)) := by
    unfold fineP
    rw [sm_congr hm 1 (by (first | decide | lia | omega)), sm_congr hm 2 (by (first | decide | lia | omega)), sm_congr hm 3 (by (first | decide | lia | omega)), sm_congr hm 4 (by (first | decide | lia | omega)), sm_congr hm 5 (by (first | decide | lia | omega))]
  rw [e]
  simpa using c4
theorem srt_points {f p : Nat → Nat} (ho : Ord f p) : srtI [(f 0 : Int), (f 1 : Int), (f 2 : Int), (f 3 : Int), (f 4 : Int)] = [(f (p 4) : Int), (f (p 3) : Int), (f (p 2) : Int), (f (p 1) : Int), (f (p 0) : Int)] := by
  refine sorted_unique ?_ (srtI_sorted _) ?_
  · refine (srtI_perm _).trans ?_
    have h := (ho.perm.map fun i => (f i : Int)).symm
    refine List.Perm.trans h ?_
    exact (List.reverse_perm _).symm
  · have m : ∀ j k, j < 5 → k < 5 → ltA f (p j) (p k) = true → (f (p k) : Int) ≤ (f (p j) : Int) := fun j k _ _ h => by
      unfold ltA at h
      rcases of_decide_eq_true h with h | h
      · exact Int.ofNat_le.mpr (Nat.le_of_lt h)
      · exact Int.ofNat_le.mpr (Nat.le_of_eq h.1.symm)
    have g : ∀ j k, j < 5 → k < 5 → j < k → (f (p k) : Int) ≤ (f (p j) : Int) := fun j k hj hk h => m j k hj hk ((ho.ord j hj k hk).trans (decide_eq_true h))
    simp only [List.pairwise_cons, List.mem_cons, List.not_mem_nil, or_false, forall_eq_or_imp, forall_eq, List.Pairwise.nil, and_true, false_implies, implies_true]
    exact ⟨⟨g 3 4 (by decide) (by decide) (by decide), g 2 4 (by decide) (by decide) (by decide), g 1 4 (by decide) (by decide) (by decide), g 0 4 (by decide) (by decide) (by decide)⟩, ⟨g 2 3 (by decide) (by decide) (by decide), g 1 3 (by decide) (by decide) (by decide), g 0 3 (by decide) (by decide) (by decide)⟩, ⟨g 1 2 (by decide) (by decide) (by decide), g 0 2 (by decide) (by decide) (by decide)⟩, g 0 1 (by decide) (by decide) (by decide)⟩
theorem m_seti {F : Nat → Int} {v : Int} {g : Nat} (h : g < 5) : setAt (.int (g : Int)) (l5i F) (.int v) = some (l5i fun k => if k = g then v else F k) := by
  unfold l5i
  rw [setAt_l5 (fun _ _ => rfl) g h]
  congr 1
  refine l5_congr fun i _ => ?_
  show _ = Dat.int (if i = g then v else F i)
  by_cases hi : i = g
  · rw [if_pos hi, if_pos hi]
  · rw [if_neg hi, if_neg hi]
theorem l5i_congr {F G : Nat → Int} (h : ∀ i, i < 5 → F i = G i) : l5i F = l5i G := l5_congr fun i hi => by rw [h i hi]
noncomputable def jsH : List Str := ["turn", "giver", "taker", "points"]
noncomputable def PT (σ : Sg) (f : Nat → Nat) : Prop := gv σ "points" = some (.list (l5i fun i => (f i : Int)), true)
theorem rng2 : rangeD [.int 2] = some [.int 0, .int 1] := by kernel_rfl
theorem pow36 : ∀ j, j < 2 → ∃ v w : Int, binD .Pow (.int 36) (.int ((j : Nat) : Int)) = some (.int v) ∧ binD .Mult (.int 6) (.int v) = some (.int w) ∧ (0 < v ∧ v < 1073741824) ∧ (0 < w ∧ w < 1073741824) := fun j hj => by
  match j, hj with
  | 0, _ => exact ⟨1, 6, by kernel_rfl, by kernel_rfl, by decide, by decide⟩
  | 1, _ => exact ⟨36, 216, by kernel_rfl, by kernel_rfl, by decide, by decide⟩
theorem mod6 (x : Int) : ∃ g : Nat, x.fmod 6 = (g : Int) ∧ g < 6 := by
  refine ⟨(x.fmod 6).toNat, ?_, ?_⟩ <;> (rw [Int.fmod_eq_emod_of_nonneg _ (by (first | decide | lia | omega))]; (first | decide | lia | omega))

theorem stageD5 {σ0 : Sg} {t : Nat} {p : Nat → Nat} {T b : Int} {P : Fl × Sg → Prop} (ht : t < 1024) (fd : FD σ0 t p T b)
    (next : ∀ σ f, Same jsH σ0 σ → (∀ i, i < 5 → f i < 7) → PT σ f → RT Φ3 30 100 hL κL 86 (lawD.drop 14) σ P) : RT Φ3 30 100 hL κL 87 (lawD.drop 13) σ0 P := by
  have h4 : ∀ i, i < 5 → aS t 10 i ≤ 4 := fun i hi => (wins ht hi).2
  obtain ⟨n1, n2, n3, n4, n5, n6⟩ := fd
  generalize aS t 10 = a at *
  refine' rt_st (st_for_range (items := [.int 0, .int 1]) (fun j σ => Same jsH σ0 σ ∧ ∃ f, (∀ i, i < 5 → f i ≤ 4 + j) ∧ PT σ f) (by kernel_rfl) (by decide +kernel) ?a1 rng2 ?a2 ?a3 ?a4)
  case a1 => walk_at "X.as"
  case a2 => exact ⟨Same.refl, a, h4, n5⟩
  case a4 =>
    intro σ h
    obtain ⟨h1, f, h2, h3⟩ := h
    exact next σ f h1 (fun i hi => by have := h2 i hi; simp at this; (first | decide | lia | omega)) h3
  case a3 =>
  intro j d σ hjd hI
  obtain ⟨hs, f, hf, hpt⟩ := hI
  obtain ⟨hj, rfl⟩ : j < 2 ∧ d = .int (j : Int) := by
    match j, hjd with
    | 0, h => cases h; exact ⟨by (first | decide | lia | omega), rfl⟩
    | 1, h => cases h; exact ⟨by (first | decide | lia | omega), rfl⟩
    | j + 2, h => simp at h
  obtain ⟨v, w, f1, f2, f3, f4⟩ := pow36 j hj
  have f5 := o_fdiv (a := T) f3
  have f6 := o_fdiv (a := T) f4
  obtain ⟨g, hg, hg6⟩ := mod6 (T.fdiv v)
  obtain ⟨k, hk, hk6⟩ := mod6 (T.fdiv w)
  have f7 : binD .Mod (.int (T.fdiv v)) (.int 6) = some (.int (g : Int)) := by rw [← hg]; exact o_mod (by decide)
  have f8 : binD .Mod (.int (T.fdiv w)) (.int 6) = some (.int (k : Int)) := by rw [← hk]; exact o_mod (by decide)
  unfold PT at hpt
  refine' rt_next (e_assign (by kernel_rfl) (by decide +kernel) ?b1 ?b2) ?b3
  case b1 => walk_at "X.e"
  case b2 => rfl
  case b3 =>
  refine' rt_next (e_assign (by kernel_rfl) (by decide +kernel) ?c1 ?c2) ?c3
  case c1 => walk_at "X.e"
  case c2 => rfl
  case c3 =>
  refine' rt_st (st_mono (P := nx fun σ' => Same jsH σ0 σ' ∧ gv σ' "taker" = some (.int (k : Int), true) ∧ ∃ f, (∀ i, i < 5 → f i ≤ 4 + j) ∧ PT σ' f) ?d1 (fun r h => nx_mono h ?d2))
  case d1 =>
    by_cases hg5 : g < 5
    · have q1 : cmpD .Lt (.int (g : Int)) (.int 5) = some (.bool true) := by rw [o_lt, decide_eq_true (by (first | decide | lia | omega))]
      have q2 := it5i (f := fun i => (f i : Int)) hg5
      have q3 : builtD "max" [.int ((f g : Int) - 1), .int 0] = some (.int ((f g - 1 : Nat) : Int)) := by
        rw [o_max, show (if (f g : Int) - 1 < 0 then (0 : Int) else (f g : Int) - 1) = ((f g - 1 : Nat) : Int) by split <;> (first | decide | lia | omega)]
      refine' st_if_t (by kernel_rfl) ?e1 ?e2
      case e1 =>
        refine' ts_cmp ?e3
        case e3 => walk_at "X.tr"
      case e2 =>
      refine' rt_next (e_set (by kernel_rfl) (by decide +kernel) ?g1 ?g2 ?g3 ?g4 (m_seti hg5)) (rt_nil ?g5)
      case g1 => walk_at "X.e"
      case g2 => walk_at "X.g"
      case g3 => walk_at "X.e"
      case g4 => rfl
      case g5 =>
      refine ⟨?_, ?_, fun i => if i = g then f g - 1 else f i, fun i hi => ?_, ?_⟩
      · repeat first
          | exact hs
          | refine Same.set ?_ (by decide +kernel)
      · walk_at "X.g"
      · dsimp only; split
        · have := hf g hg5; (first | decide | lia | omega)
        · exact hf i hi
      · unfold PT
        rw [gv_eq, l5i_congr (G := fun i => ((if i = g then f g - 1 else f i : Nat) : Int)) fun i hi => by split <;> rfl]
    · have q1 : cmpD .Lt (.int (g : Int)) (.int 5) = some (.bool false) := by rw [o_lt, decide_eq_false (by (first | decide | lia | omega))]
      refine' st_if_f (by kernel_rfl) ?e1 ?e2
      case e1 =>
        refine' ts_cmp ?e3
        case e3 => walk_at "X.tr"
      case e2 =>
      refine rt_nil ⟨?_, ?_, f, hf, ?_⟩
      · repeat first
          | exact hs
          | refine Same.set ?_ (by decide +kernel)
      · walk_at "X.g"
      · unfold PT
        walk_at "X.g"
  case d2 =>
  intro σ1 hI
  obtain ⟨hs1, k1, f, hf, hpt⟩ := hI
  unfold PT at hpt
  by_cases hk5 : k < 5
  · have q1 : cmpD .Lt (.int (k : Int)) (.int 5) = some (.bool true) := by rw [o_lt, decide_eq_true (by (first | decide | lia | omega))]
    have q2 := it5i (f := fun i => (f i : Int)) hk5
    refine' rt_st (st_if_t (by kernel_rfl) ?h1 ?h2)
    case h1 =>
      refine' ts_cmp ?h3
      case h3 => walk_at "X.tr"
    case h2 =>
    refine' rt_next (e_augsub (by kernel_rfl) (by decide +kernel) ?i1 ?i2 ?i3 ?i4 o_auga (m_seti hk5)) (rt_nil (rt_nil ?i5))
    case i1 => walk_at "X.g"
    case i2 => walk_at "X.g"
    case i3 => walk_at "X.e"
    case i4 => exact q2
    case i5 =>
    refine ⟨?_, fun i => if i = k then f k + 1 else f i, fun i hi => ?_, ?_⟩
    · repeat first
        | exact hs1
        | refine Same.set ?_ (by decide +kernel)
    · dsimp only; split
      · have := hf k hk5; (first | decide | lia | omega)
      · have := hf i hi; (first | decide | lia | omega)
    · unfold PT
      rw [gv_eq, l5i_congr (G := fun i => ((if i = k then f k + 1 else f i : Nat) : Int)) fun i hi => by split <;> rfl]
  · have q1 : cmpD .Lt (.int (k : Int)) (.int 5) = some (.bool false) := by rw [o_lt, decide_eq_false (by (first | decide | lia | omega))]
    refine' rt_guard (by kernel_rfl) ?h1 (rt_nil ?h2)
    case h1 =>
      refine' ts_cmp ?h3
      case h3 => walk_at "X.tr"
    case h2 => exact ⟨hs1, f, fun i hi => by have := hf i hi; (first | decide | lia | omega), hpt⟩
end
section
local macro_rules | `(tactic| walk_at "X.tst") => `(tactic| with_reducible assumption)
local macro_rules | `(tactic| walk_at "X.op2") => `(tactic| fail)

/-! ## The new table -/
theorem five_true (b0 b1 b2 b3 b4 : Bool) : cmpD .Eq (.list [.bool b0, .bool b1, .bool b2, .bool b3, .bool b4]) (.list [.bool true, .bool true, .bool true, .bool true, .bool true]) = some (.bool (b0 && (b1 && (b2 && (b3 && b4))))) := by
  cases b0 <;> cases b1 <;> cases b2 <;> cases b3 <;> cases b4 <;> kernel_rfl
theorem true5 : binD .Mult (.list [.bool true]) (.int 5) = some (.list [.bool true, .bool true, .bool true, .bool true, .bool true]) := by kernel_rfl
theorem stageD6 {σ0 : Sg} {b : Int} {f : Nat → Nat} (h7 : ∀ i, i < 5 → f i < 7) (n2 : gv σ0 "begin" = some (.int b, true)) (n3 : gv σ0 "names" = some (wnames, true)) (n5 : PT σ0 f) :
    RT Φ3 30 100 hL κL 86 (lawD.drop 14) σ0 (fun r => r.1 = .ret (.bool true)) := by
  obtain ⟨q, p, he, hq, ho⟩ := order f
  unfold PT at n5
  have hp := ho.lt
  refine' rt_next (e_sorts (ds := l5s fun i => line i (f i)) (ss := [line 0 (f 0), line 1 (f 1), line 2 (f 2), line 3 (f 3), line 4 (f 4)]) (by decide +kernel) ?a1 (by rfl) ⟨by apply Nat.le_of_ble_eq_true; rfl, by apply Nat.le_of_ble_eq_true; rfl⟩ fn_xfrm (sortS_lines h7 he hq ho)) ?a2
  case a1 =>
    refine' ev_comp (by decide +kernel) (it_range (by decide +kernel) ?c1 range5) ?c2 (by apply Nat.le_of_ble_eq_true; rfl)
    case c1 => walk_at "X.as"
    case c2 =>
      show compRun _ _ _ _ _ [] (l5 fun k => .int (k : Int)) = _
      refine' cr5 (g := fun i => .str (line i (f i))) (fun k hk => ?c3) (fun _ _ => rfl)
      have f1 := it5i (f := fun i => ((f i : Nat) : Int)) hk
      have f2 := itnm hk
      have f3 := mulb (n := f k) (by have := h7 k hk; (first | decide | lia | omega))
      have f4 := row_add1 hk (show f k ≤ 100 by have := h7 k hk; (first | decide | lia | omega))
      have f5 := row_add2 hk (show f k ≤ 100 by have := h7 k hk; (first | decide | lia | omega))
      walk_at "X.e"
  case a2 =>
  rw [show (Dat.list (List.map Dat.str [line (p 0) (f (p 0)), line (p 1) (f (p 1)), line (p 2) (f (p 2)), line (p 3) (f (p 3)), line (p 4) (f (p 4))])) = .list (l5s (tab f p)) from rfl]
  have f1 := slacks_at b hp h7
  refine' rt_next (e_assign (by kernel_rfl) (by decide +kernel) ?d1 ?d2) ?d3
  case d1 => walk_at "X.e"
  case d2 => rfl
  case d3 =>
  have f2 := eof_at (sk f p 4)
  have f3 : itemD (.list (l5i (sk f p))) (.int 4) = some (.int (sk f p 4)) := it5i (f := sk f p) (i := 4) (by (first | decide | lia | omega))
  have f4 := true5
  have f5 := five_true (decide (256 ≤ 256 + sk f p 0)) (decide (256 ≤ 256 + sk f p 1)) (decide (256 ≤ 256 + sk f p 2)) (decide (256 ≤ 256 + sk f p 3)) (decide (256 ≤ 256 + sk f p 4))
  refine' rt_next (e_assign (by kernel_rfl) (by decide +kernel) ?e1 ?e2) ?e3
  case e1 =>
    refine' ev_and (ev_cmp ?g1 ?g2 f5) ?g3
    case g2 => walk_at "X.e"
    case g3 => walk_at "X.e"
    case g1 =>
      refine' ev_comp (by decide +kernel) (it_var ?h1) ?h2 (by apply Nat.le_of_ble_eq_true; rfl)
      case h1 => walk_at "X.e"
      case h2 =>
        show compRun _ _ _ _ _ [] (l5 fun k => .int (sk f p k)) = some (l5 fun k => .bool (decide (256 ≤ 256 + sk f p k)))
        refine' cr5 (fun k hk => ?h3) (fun _ _ => rfl)
        have g1 := fn_nonterm (256 + sk f p k)
        walk_at "X.e"
  case e2 => rfl
  case e3 =>
  have hfine : (decide (256 ≤ 256 + sk f p 0) && (decide (256 ≤ 256 + sk f p 1) && (decide (256 ≤ 256 + sk f p 2) && (decide (256 ≤ 256 + sk f p 3) && decide (256 ≤ 256 + sk f p 4)))) && decide (sk f p 4 = 0)) = fineP fun k => f (p k) := rfl
  have h := fun j hj k hk => ho.ord j hj k hk
  have h01 := h 0 (by (first | decide | lia | omega)) 1 (by (first | decide | lia | omega)); have h12 := h 1 (by (first | decide | lia | omega)) 2 (by (first | decide | lia | omega)); have h23 := h 2 (by (first | decide | lia | omega)) 3 (by (first | decide | lia | omega)); have h34 := h 3 (by (first | decide | lia | omega)) 4 (by (first | decide | lia | omega))
  unfold ltA at h01 h12 h23 h34
  simp only [decide_eq_decide] at h01 h12 h23 h34
  have hd := deal (m := fun k => f (p k)) (h7 _ (hp 0 (by (first | decide | lia | omega)))) (by (first | decide | lia | omega)) (by (first | decide | lia | omega)) (by (first | decide | lia | omega)) (by (first | decide | lia | omega))
  have hdr := dealt_run (ns := [(f 0 : Int), (f 1 : Int), (f 2 : Int), (f 3 : Int), (f 4 : Int)]) rfl (fun x hx => by
    simp only [List.mem_cons, List.not_mem_nil, or_false] at hx
    (first | decide | lia | omega))
  rw [srt_points ho, ← hd] at hdr
  have hdr : Φ3.fn "_law_dealt" [.list (l5i fun i => ((f i : Nat) : Int))] = some (.bool (fineP fun k => f (p k))) := hdr
  rw [hfine]
  generalize (fineP fun k => f (p k)) = B at *
  have g1 : cmpD .Eq (.bool B) (.bool B) = some (.bool true) := by rw [o_eqb, beq_self_eq_true]
  refine' rt_ret (e_return (by kernel_rfl) ?i1 ?i2) rfl
  case i1 => walk_at "X.e"
  case i2 => rfl
end
section

theorem FD.same {js : List Str} {σ σ' : Sg} {t : Nat} {p : Nat → Nat} {T b : Int} (h : FD σ t p T b) (s : Same js σ σ') (hj : (["third", "begin", "names", "won", "points", "due"] : List Str).all (fun x => !js.contains x) = true) : FD σ' t p T b := by
  have hx : ∀ x ∈ (["third", "begin", "names", "won", "points", "due"] : List Str), js.contains x = false := fun x hx => by
    have := List.all_eq_true.mp hj x hx
    simpa using this
  exact ⟨s.get (hx _ (by simp)) h.third, s.get (hx _ (by simp)) h.begin, s.get (hx _ (by simp)) h.names, s.get (hx _ (by simp)) h.won, s.get (hx _ (by simp)) h.points, s.get (hx _ (by simp)) h.due⟩
theorem lawD_run {σ : Sg} {t : Nat} {p : Nat → Nat} {q : Array Nat} {T b : Int} (ht : t < 1024) (fp : FP σ t T b) (hdue : gv σ "due" = some (.list (q.toList.map fun (i : Nat) => .int (i : Int)), true)) (he : evalT (ltA (aS t 10)) 5 (kas_sort 5) = some q) (hq : q.toList = [p 0, p 1, p 2, p 3, p 4]) (ho : Ord (aS t 10) p) :
    RT Φ3 30 100 hL κL 100 lawD σ (fun r => r.1 = .ret (.bool true)) := by
  rw [hq] at hdue
  have fd : FD σ t p T b := ⟨fp.third, fp.begin, fp.names, fp.won, fp.points, hdue⟩
  refine stageD1 ht fd fp.lines he hq ho fun σ1 s1 t1 => ?_
  have fd1 := fd.same s1 (by decide +kernel)
  refine stageD2 ht fd1 ho t1 fun σ2 s2 t2 => ?_
  have fd2 := fd1.same s2 (by decide +kernel)
  have tb2 := s2.get (by decide +kernel) t1
  refine stageD3 ht fd2 ho t2 fun σ3 s3 => ?_
  have fd3 := fd2.same s3 (by decide +kernel)
  have tb3 := s3.get (by decide +kernel) tb2
  refine stageD4 ht fd3 ho tb3 fun σ4 s4 => ?_
  have fd4 := fd3.same s4 (by decide +kernel)
  refine stageD5 ht fd4 fun σ5 f s5 h7 hpt => ?_
  exact stageD6 h7 (s5.get (by decide +kernel) fd4.begin) (s5.get (by decide +kernel) fd4.names) hpt
end
end Mine
section
namespace Mine

theorem execs_split_wp {M : Model} {A : Around} {env : Env} {post : List Stmt} {Q : Flow → Shared → Prop} {E : Value → Shared → Prop} {Γ : Ctx} (hΓ : Γ.In A) : ∀ (pre : List Stmt) p (s : Shared), Sem.wp M Γ (execs pre env) (fun f _ s' => f = .next ∧ wpAny M A (execs post env) Q E s') (fun e _ s' => E e s') p s → Sem.wp M Γ (execs (pre ++ post) env) (fun f _ s' => Q f s') (fun e _ s' => E e s') p s
  | [], p, s, h => (show _ ∧ wpAny M A (execs post env) Q E s from h).2 Γ p hΓ
  | st :: r, p, s, h => by
    rw [List.cons_append]
    rw [execs_cons, Sem.wp_bind'] at h ⊢
    refine Sem.wp_mono M Γ _ (fun f p' s' h' => ?_) (fun _ _ _ h' => h') _ _ h
    cases f <;> first
      | exact execs_split_wp hΓ r p' s' h'
      | exact absurd (show _ ∧ _ from h').1 (by intro e; cases e)
theorem execs_split {M : Model} {A : Around} {env : Env} {pre post : List Stmt} {s : Shared} {Q : Flow → Shared → Prop} {E : Value → Shared → Prop} (h : wpAny M A (execs pre env) (fun f s' => f = .next ∧ wpAny M A (execs post env) Q E s') E s) : wpAny M A (execs (pre ++ post) env) Q E s :=
  fun Γ p hΓ => execs_split_wp hΓ pre p s (h Γ p hΓ)
noncomputable def dueS : List Stmt := ((bodyOf 11).drop 10).take 1
noncomputable def lawS : Stmt := match bodyOf 11 with
  | st :: _ => st
  | [] => .Pass default
noncomputable def lawR : Expr := match bodyOf 11 with
  | .Assign _ (.BinOp _ _ r _) _ :: _ => r
  | _ => .Constant .none 0 default
theorem lawA_cons : lawA = lawS :: lawA.drop 1 := by kernel_rfl
theorem body_split : bodyOf 11 = lawA ++ (dueS ++ lawD) := by kernel_rfl

theorem first_ok {prog : Program} {w : World} {A : Around} {s0 s : Shared} {H0 : Heap} {B : Base} {env : Env} {σ : Sg} {K : Nat} {Φ : Funs} (Gl0 : Gl H0) (FO : FOk prog w H0 K Φ) (O : EOk env) (R : Rm A K) (X : ExS s0 H0 B env { s with toks := s.toks + 1 } σ)
    {N : Nat} {x : Str} {c : Int} {k : Nat} {r : Expr} {op : Operator} {px p1 p2 pos : Pos} {b d : Dat} (hc : canBind env.kindOf x = true) (q1 : ev Φ N env.kindOf (ρof σ) r = some b) (q2 : binD op (.int c) b = some d) :
    wpAny (model prog w) A (exec (.Assign [.Name x px] (.BinOp (.Constant (.int c) k p1) op r p2) pos) env) (fun f s' => f = .next ∧ ExS s0 H0 B env s' (sv σ x (d, true))) No s := by
  refine wpAny_Assign_Name (wpAny_BinOp (wpAny_Constant_int ?_)) rfl
  refine wpSeq (ev_ok Gl0 FO O R X q1) fun vb s₂ h₂ ht => ?_
  obtain ⟨k2, F2, hd2, _⟩ := h₂
  refine wpSeq (binD_sound q2 (.int c s.toks) hd2) fun v s₃ g ht3 => ?_
  obtain ⟨k3, F, hd, hF⟩ := Gives.after k2 g
  exact wpAny_mono (bind_var O hc X k3 (Nat.le_trans ht ht3) hd hF) (fun _ s' h => ⟨rfl, h⟩) fun _ _ e => e
theorem law_ok {prog : Program} {w : World} {A : Around} {s0 s : Shared} {H0 : Heap} {B : Base} {env : Env} {mg : Str → Option Value} {ns : List Int} (T : TopF prog w H0) (LB : LamBase H0 mg 117 115) (O : EOk env) (R : Rm A 9) (hκ : env.kindOf = kdOf 11) (hcode : env.code = .ref 117) (hlen : ns.length < 64)
    (X : ExS s0 H0 B env { s with toks := s.toks + 1 } [("script", .list (ns.map .int), false)]) (hBP : B 115 = some (tabObj #[])) :
    wpAny (model prog w) A (execs (bodyOf 11) env) (fun f s' => f = .ret (.bool true) ∧ (∃ h tk, s' = { s0 with heap := h, toks := tk }) ∧ (∀ b o, H0.get? b = some o → s'.heap.get? b = some o) ∧ ∃ ps, s'.heap.get? 115 = some (tabObj ps)) No s := by
  have FO := fok3 (prog := prog) (w := w) T
  have HK : HookOk prog w A s0 H0 env hL := hookAll_ok T.sorted T.gl FO A s0 env (R.le (by (first | decide | lia | omega))) O
  obtain ⟨⟨f1, σ1⟩, qA, hA⟩ := lawA_run (ns := ns) hlen
  cases f1 with
  | ret d => exact hA.elim
  | next =>
  obtain ⟨t, Tt, b, ht, fp⟩ := hA
  rw [← show env.kindOf = κL from hκ] at qA
  rw [body_split]
  have hs1 := o_slice3 (ns := ns) (lo := none) (by (first | decide | lia | omega))
  have hl1 := (pick_len hlen).1
  have hu1 := o_sum (ds := (pickN ns none none (some 3)).map .int) (by simp; (first | decide | lia | omega)) (intsOf_map _)
  have eF : ev Φ3 29 env.kindOf (ρof [("script", .list (ns.map .int), false)]) lawR = some (.int (pickN ns none none (some 3)).sum) := by
    rw [hκ]
    exact ev_built (by decide +kernel) (by decide +kernel) (by decide +kernel) (as_cons (ev_slice (by decide +kernel) rfl pt_none pt_none (pt_some (ev_const rfl) rfl) hs1) as_nil) hu1
  have e1 : ex1 Φ3 30 100 hL env.kindOf (exs Φ3 30 100 hL env.kindOf 99) lawS [("script", .list (ns.map .int), false)] = some (.next, sv [("script", .list (ns.map .int), false)] "first" (.int (560 + (pickN ns none none (some 3)).sum), true)) := by
    refine e_assign ?_ ?_ (ev_bin (ev_const rfl) ?_ o_addi) rfl
    · rw [hκ]; kernel_rfl
    · rw [hκ]; decide +kernel
    · exact eF
  have qA' : exs Φ3 30 100 hL env.kindOf 99 (lawA.drop 1) (sv [("script", .list (ns.map .int), false)] "first" (.int (560 + (pickN ns none none (some 3)).sum), true)) = some (.next, σ1) := by
    rw [lawA_cons, exs, e1] at qA
    exact qA
  refine execs_split ?_
  rw [lawA_cons]
  refine wpAny_execs_cons (wpThen (first_ok (K := 6) (N := 29) T.gl FO O (R.le (by (first | decide | lia | omega))) X ?f1 eF o_addi) fun f s1 h1 => ?_)
  case f1 => rw [hκ]; decide +kernel
  obtain ⟨rfl, X'⟩ := h1
  refine wpThen (exs_ok T.gl FO O (R.le (by (first | decide | lia | omega))) HK 99 (lawA.drop 1) _ B s1 _ qA' X') fun f s1 h1 => ?_
  obtain ⟨rfl, B1, hB1, X1⟩ := h1
  refine ⟨rfl, ?_⟩
  obtain ⟨q, p, he, hq, ho⟩ := order (aS t 10)
  have hBP1 := hB1 _ _ hBP
  have hpq : ∀ i ∈ q.toList, i < 5 := fun i hi => by
    rw [hq] at hi
    have := ho.perm.mem_iff.mp hi
    simp at this; (first | decide | lia | omega)
  refine execs_split ?_
  show wpAny _ _ (execs (_ :: []) env) _ _ _
  refine wpAny_execs_cons (wpThen (due_ok (K := 6) (Φ := Φ3) (N := 30) (n := 5) (player := "player") (d1 := fun i => -((aS t 10 i : Nat) : Int)) (d2 := fun i => (i : Int)) (p := q) LB T.sorted T.gl FO O (R.le (by (first | decide | lia | omega))) X1 hcode hBP1 ?c1 ?c2 ?c3 ?c4 (by (first | decide | lia | omega)) (by (first | decide | lia | omega)) ?c5 ?c6 ?c7 ?c8 ?c9 ?c10 ?c11 ?c12 ?c13 ?c14 ?c15 (by rw [keys_due]; exact he) hpq) fun f s2 h2 => ?d)
  case c1 => rw [hκ]; decide +kernel
  case c2 => rw [hκ]; decide +kernel
  case c3 => rw [hκ]; decide +kernel
  case c4 => exact as_cons (ev_const rfl) as_nil
  case c5 => exact fun _ => rfl
  case c6 => intro q cl pm c' ctv v; rfl
  case c7 => rfl
  case c8 => rfl
  case c9 =>
    intro x hx
    simp only [List.mem_cons, List.not_mem_nil, or_false] at hx
    rcases hx with rfl | rfl <;> (intro e; cases e)
  case c10 => rfl
  case c11 => rfl
  case c12 => decide +kernel
  case c13 =>
    intro y hy hf
    simp only [List.mem_cons, List.not_mem_nil, or_false] at hy
    rcases hy with rfl | rfl
    · cases hf
    · rw [hκ]; exact .inl (by decide +kernel)
  case c14 =>
    intro i hi
    refine ev_un (a := .int ((aS t 10 i : Nat) : Int)) (ev_itemv (a := .list (l5i fun i => ((aS t 10 i : Nat) : Int))) (b := .int (i : Int)) (by decide +kernel) (by decide +kernel) ?_ (ev_var (by decide +kernel) ?_) (it5i hi)) o_neg
    · unfold lamVs
      rw [if_neg (by decide +kernel), if_pos (by decide +kernel)]
      exact ρ_of fp.points
    · exact if_pos rfl
  case c15 =>
    intro i hi
    exact ev_var (by decide +kernel) (if_pos rfl)
  case d =>
  obtain ⟨rfl, ps, X2⟩ := h2
  refine wpAny_execs_nil ⟨rfl, ?_⟩
  obtain ⟨⟨f2, σ2⟩, qD, hD⟩ := lawD_run (σ := sv σ1 "due" (.list (q.toList.map fun (i : Nat) => .int (i : Int)), true)) (T := Tt) (b := b) ht ⟨gv_ne (by decide +kernel) fp.third, gv_ne (by decide +kernel) fp.begin, gv_ne (by decide +kernel) fp.names, gv_ne (by decide +kernel) fp.lines, gv_ne (by decide +kernel) fp.won, gv_ne (by decide +kernel) fp.points⟩ gv_eq he hq ho
  obtain rfl : f2 = .ret (.bool true) := hD
  rw [← show env.kindOf = κL from hκ] at qD
  refine wpThen (exs_ok T.gl FO O (R.le (by (first | decide | lia | omega))) HK 100 lawD _ _ s2 _ qD X2) fun f s3 h3 => ?_
  obtain ⟨v, rfl, hsh, hb, F, hden, _⟩ := h3
  rw [hden.bool_inv]
  exact ⟨rfl, hsh, fun b o e => hb b o (X2.hB b o e), ps, hb 115 _ (if_pos rfl)⟩
end Mine
end
section
namespace Mine

noncomputable abbrev lawE (L fa : Addr) : Env := envOfC "law" (scopeOf 11) L fa (.ref 117)
theorem lawE_cells (L fa : Addr) : (lawE L fa).cells = ([("points", L + 6), ("k", L + 5), ("table", L + 4), ("due", L + 3), ("won", L + 2), ("names", L + 1)] : List (Str × Addr)) := by kernel_rfl
theorem lawE_kind (L fa : Addr) : (lawE L fa).kindOf = kdOf 11 := by kernel_rfl
theorem cell_names : ∀ x k, (x, k) ∈ (scopeOf 11).names → (k = .cell ∨ k = .free) → x ∈ (["points", "k", "table", "due", "won", "names"] : List Str) := by
  have h : (((scopeOf 11).names.filter fun p => p.2 == .cell || p.2 == .free).all fun p => (["points", "k", "table", "due", "won", "names"] : List Str).contains p.1) = true := by decide +kernel
  intro x k hx hk
  have := List.all_eq_true.mp h (x, k) (List.mem_filter.mpr ⟨hx, by rcases hk with rfl | rfl <;> rfl⟩)
  simpa using this
theorem lawE_ok (L fa : Addr) : EOk (lawE L fa) where
  kind := by kernel_rfl
  globals := rfl
  builtins := rfl
  cells := fun x h => by
    have h : (scopeOf 11).names.lookup x = some .cell ∨ (scopeOf 11).names.lookup x = some .free := h
    have hx : x ∈ (["points", "k", "table", "due", "won", "names"] : List Str) := by
      rcases h with h | h
      · exact cell_names x _ (lookup_mem h) (.inl rfl)
      · exact cell_names x _ (lookup_mem h) (.inr rfl)
    rw [lawE_cells]
    simp only [List.mem_cons, List.not_mem_nil, or_false] at hx
    rcases hx with rfl | rfl | rfl | rfl | rfl | rfl
    · exact ⟨_, rfl⟩
    · exact ⟨_, rfl⟩
    · exact ⟨_, rfl⟩
    · exact ⟨_, rfl⟩
    · exact ⟨_, rfl⟩
    · exact ⟨_, rfl⟩
theorem lawE_room (L fa : Addr) : Rm (callerA.deeper (lawE L fa)) 9 := ⟨rfl, by show callerA.depth + 1 + 4 * 9 ≤ 900; decide +kernel, by show callerA.units + 3 + 40 * 9 ≤ 9000; decide +kernel⟩
theorem ints_are {h : Heap} : ∀ {vs : List Value} {ns : List Int}, IntsAre vs ns → DenAll h vs (ns.map .int) []
  | _, _, .nil => .nil
  | _, _, .cons n t r => by
    rw [List.map_cons]
    exact DenAll.cons (F := []) (.int n t) (ints_are r)

theorem farN (L k : Nat) (h : 115 < L) : L + (k + 1) ≠ L ∧ L + (k + 1) ≠ 115 := by (first | decide | lia | omega)
theorem neqN (L i j : Nat) (h : L + i = L + j) : i = j := by (first | decide | lia | omega)
theorem snd_inj : ∀ (l : List (Str × Addr)), (l.map (·.2)).Nodup → ∀ x y c, (x, c) ∈ l → (y, c) ∈ l → x = y
  | [], _, _, _, _, h, _ => nomatch h
  | (z, d) :: r, hn, x, y, c, h1, h2 => by
    have hn' : d ∉ r.map (·.2) ∧ (r.map (·.2)).Nodup := List.nodup_cons.mp hn
    rcases List.mem_cons.mp h1 with e1 | h1 <;> rcases List.mem_cons.mp h2 with e2 | h2
    · cases e1; cases e2; rfl
    · cases e1; exact absurd (List.mem_map.mpr ⟨_, h2, rfl⟩) hn'.1
    · cases e2; exact absurd (List.mem_map.mpr ⟨_, h1, rfl⟩) hn'.1
    · exact snd_inj r hn'.2 x y c h1 h2
theorem cells_nodup (L : Addr) : (([("points", L + 6), ("k", L + 5), ("table", L + 4), ("due", L + 3), ("won", L + 2), ("names", L + 1)] : List (Str × Addr)).map (·.2)).Nodup := by
  show (([6, 5, 4, 3, 2, 1] : List Nat).map (L + ·)).Nodup
  exact List.pairwise_map.mpr (List.Pairwise.imp (fun h e => h (neqN L _ _ e)) (by decide : ([6, 5, 4, 3, 2, 1] : List Nat).Pairwise (· ≠ ·)))
theorem row_core {prog : Program} {w : World} {s0 : Shared} {H0 h₁ : Heap} {mg mb m : Str → Option Value} {L fa l : Addr} {tk : Nat} {vs : List Value} {ns : List Int} {o5 o4 o3 o2 o1 o0 : Obj} {n : Nat} {v5 v4 v3 v2 v1 v0 : Option Value}
    (X' : (fragK w.params).In H0) (g : H0.Ns mainGlobals mg) (b : H0.Ns builtinsNs mb) (nl : H0.NoLimit) (hb : ∀ x : Str, x ≠ "__name__" → mb x = bootBuiltins x)
    (bmain : ∃ bm ob, mg "__builtins__" = some (.ref bm) ∧ bm ≠ builtinsNs ∧ H0.get? bm = some ob ∧ ob.cls = .type "module" ∧ ob.dict = some builtinsNs ∧ ob.data = .plain)
    (codeHd : CodeHd H0 117 115) (F' : Fr H0 L h₁ m) (hm : m "script" = some (.ref l)) (hl : H0.get? l = some (PySem.W.listOf vs.toArray n)) (hI : IntsAre vs ns) (hlen : ns.length < 64)
    (N' : News H0 L h₁ [(L + 1 + 1 + 1 + 1 + 1 + 1, o5), (L + 1 + 1 + 1 + 1 + 1, o4), (L + 1 + 1 + 1 + 1, o3), (L + 1 + 1 + 1, o2), (L + 1 + 1, o1), (L + 1, o0), (115, tabObj #[])])
    (l0 : 115 < L) (h5 : o5.data = .cell v5) (h4 : o4.data = .cell v4) (h3 : o3.data = .cell v3) (h2 : o2.data = .cell v2) (h1 : o1.data = .cell v1) (h0 : o0.data = .cell v0) :
    wpAny (model prog w) (callerA.deeper (lawE L fa)) (execs (bodyOf 11) (lawE L fa)) (fun f s' => f = .ret (.bool true) ∧ (∃ h tk, s' = { s0 with heap := h, toks := tk }) ∧ (∀ b o, H0.get? b = some o → s'.heap.get? b = some o) ∧ ∃ ps, s'.heap.get? 115 = some (tabObj ps)) No { s0 with heap := h₁, toks := tk } := by
  have hf : H0.get? 115 = none := N'.fresh (o := tabObj #[]) (by simp)
  have hP : h₁.get? 115 = some (tabObj #[]) := N'.get (o := tabObj #[]) (by simp)
  have hLf : H0.get? L = none := by
    cases e : H0.get? L with
    | none => rfl
    | some o => exact absurd (Heap.lt_size e) (Nat.not_lt.mpr F'.above)
  have cellAt : ∀ x c, (lawE L fa).cells.lookup x = some c → (∃ v, h₁.IsCell c v) ∧ H0.get? c = none ∧ c ≠ L ∧ c ≠ 115 := fun x c e => by
    rw [lawE_cells] at e
    have hx := lookup_mem e
    simp only [List.mem_cons, List.not_mem_nil, or_false, Prod.mk.injEq] at hx
    rcases hx with ⟨_, rfl⟩ | ⟨_, rfl⟩ | ⟨_, rfl⟩ | ⟨_, rfl⟩ | ⟨_, rfl⟩ | ⟨_, rfl⟩
    · exact ⟨⟨_, _, N'.get (o := o5) (by simp), h5⟩, N'.fresh (o := o5) (by simp), (farN L 5 l0).1, (farN L 5 l0).2⟩
    · exact ⟨⟨_, _, N'.get (o := o4) (by simp), h4⟩, N'.fresh (o := o4) (by simp), (farN L 4 l0).1, (farN L 4 l0).2⟩
    · exact ⟨⟨_, _, N'.get (o := o3) (by simp), h3⟩, N'.fresh (o := o3) (by simp), (farN L 3 l0).1, (farN L 3 l0).2⟩
    · exact ⟨⟨_, _, N'.get (o := o2) (by simp), h2⟩, N'.fresh (o := o2) (by simp), (farN L 2 l0).1, (farN L 2 l0).2⟩
    · exact ⟨⟨_, _, N'.get (o := o1) (by simp), h1⟩, N'.fresh (o := o1) (by simp), (farN L 1 l0).1, (farN L 1 l0).2⟩
    · exact ⟨⟨_, _, N'.get (o := o0) (by simp), h0⟩, N'.fresh (o := o0) (by simp), (farN L 0 l0).1, (farN L 0 l0).2⟩
  have LB : LamBase H0 mg 117 115 := by
    refine ⟨g, codeHd, hf, nl, ?_⟩
    obtain ⟨bm, ob, e1, e2, e3, e4, e5, e6⟩ := bmain
    refine ⟨bm, ob, e1, e2, fun z => ?_, e3, e4, e5, e6⟩
    obtain ⟨o, es, ep, k1, k2, _⟩ := g
    rw [z, k1] at e3
    cases e3
    rw [e6] at k2; cases k2
  refine law_ok (B := fun a => if a = 115 then some (tabObj #[]) else H0.get? a) (topF X' g b nl hb) LB (lawE_ok L fa) (lawE_room L fa) (lawE_kind L fa) rfl hlen ?_ (if_pos rfl)
  refine ⟨⟨h₁, tk + 1, rfl⟩, ⟨F'.keep, Nat.succ_pos _⟩, fun b o e => ?_, fun a o e => ?_, ⟨⟨m, F'.ns⟩, ?_, fun x c e => (cellAt x c e).1, fun x c e => ?_, fun x y c e1 e2 => ?_, fun x c e => (cellAt x c e).2.2.1⟩, fun x => if x = "script" then [l] else [], fun x d o e => ?_, fun x y dx dy e => ?_⟩
  · show (if b = 115 then _ else _) = _
    rw [if_neg (fun z => by rw [z, hf] at e; cases e)]; exact e
  · have e : (if a = 115 then some (tabObj #[]) else H0.get? a) = some o := e
    split at e
    · rename_i z; cases e; rw [z]; exact hP
    · exact F'.keep a o e
  · show (if L = 115 then _ else _) = _
    rw [if_neg (fun z => absurd (show 115 < L from l0) (by rw [z]; decide))]; exact hLf
  · show (if c = 115 then _ else _) = _
    rw [if_neg (cellAt x c e).2.2.2]; exact (cellAt x c e).2.1
  · rw [lawE_cells] at e1 e2
    exact snd_inj _ (cells_nodup L) x y c (lookup_mem e1) (lookup_mem e2)
  · have e : (if x = "script" then some (Dat.list (ns.map .int), false) else none) = some (d, o) := by
      rw [← e]
      unfold gv
      split <;> rfl
    split at e
    · rename_i hx
      cases e
      subst hx
      refine ⟨by decide +kernel, ⟨.ref l, .inl ⟨?_, m, F'.ns, hm⟩, ?_⟩, (fun h => nomatch h), (fun h => nomatch h), fun _ a ha => ?_⟩
      · show (lawE L fa).kindOf _ = _
        rw [lawE_kind]; decide +kernel
      · exact .list (F := []) (F'.keep l _ hl) (ints_are hI)
      · have : a = l := by simpa using ha
        subst this
        refine ⟨_, (if_neg ?_).trans hl⟩
        intro z; rw [z, hf] at hl; cases hl
    · cases e
  · have e : (if x = "script" then some (Dat.list (ns.map .int), false) else none) = some (dx, true) := by
      rw [← e]
      unfold gv
      split <;> rfl
    split at e <;> cases e
end Mine
end
section
namespace Mine
theorem well_list {P : Params} {h : Heap} {l : Addr} {vs : List Value} {d : PyData} {xs : List PyData} (hd : d = .list xs) (w : Well P h (.ref l) (ofPy d)) (hL : h.IsList l vs.toArray) : h.get? l = some (PySem.W.listOf vs.toArray 0) := by
  subst hd
  have w : Well P h (.ref l) (.list (ofPys xs)) := w
  obtain ⟨o, ho, hc, n, hdat⟩ := hL
  cases w with
  | list hg hr =>
    rw [hg] at ho
    cases ho
    cases hdat
    exact hg
theorem well_said : PySem.Challenge.rw_yf0016_01.wellSaid = true := by
  rw [Fast.te9446332074065402090]
  kernel_rfl

set_option maxHeartbeats 8000000 in
theorem row : PySem.Challenge.rw_yf0016_01.Holds := by
  w_on
  refine holds_law well_said fun said => ?_
  refine holds_open (q := viewL) (loose := looseL) (Xt := xtL) (XP := XL viewL []) (Yf := PySem.W.Hook.obs (kmHook fragK fragAs (fun _ => by kernel_rfl) [115])) (Ya := PySem.W.Hook.val (kmHook fragK fragAs (fun _ => by kernel_rfl) [115])) (YP := PySem.W.Hook.says (kmHook fragK fragAs (fun _ => by kernel_rfl) [115])) (N := 3932) hleft (PySem.W.Hook.of _) (PySem.W.Hook.keeps _) (fun s e => xl_of s (Bool.and_eq_true_iff.mp e).1) XL.keeps (by rfl) (by rfl) (by rfl) (fun s e => recFacts_of (Bool.and_eq_true_iff.mp e).2) (by rfl) (by first | assumption | decide +kernel) (by decide +kernel) ⟨rfl, rfl, rfl, rfl, rfl, by decide +kernel⟩ ?hw ?hc
  case hw => w_witness2
  case hc =>
  k_go0
  rename_i w s₀ s₁ mg mb G Y fa o pm doc ho hg X V T B TE TW hcd ns hs hlay0 hL1 hr1 hl2 w10 w9 l vs w6 hL ra w1 r0 hI hr hc1 hc2 hD h₁ tk₁ o5 o4 o3 o2 o1 o0 c5 c4 c3 c2 c1 c0 X0 X' T' K' F' N' l0
  have e1 := well_list rfl w1 hL
  have e2 : (ghostOf s₁.heap [(117, 115)]).get? l = some (PySem.W.listOf vs.toArray 0) := ghost_get hT9 e1 (by intro e; injection e with e3 e4; exact absurd e3 (by decide +kernel))
  have core := row_core (prog := PySem.Challenge.rw_yf0016_01.row.prog) (s0 := { heap := ghostOf s₁.heap [(117, 115)], gens := s₁.gens, drawn := s₁.drawn, toks := s₁.toks, os := s₁.os }) (fa := fa) (tk := tk₁) X' T'.g T'.b T'.nolimit T'.builtins T'.bmain codeHd F' rfl e2 hI (by (first | decide | lia | omega)) N' l0 c5 c4 c3 c2 c1 c0
  refine wpAny_mono core (fun f s' h => ?_) (fun _ _ e => e.elim)
  obtain ⟨rfl, ⟨h, tk, rfl⟩, hk, hp⟩ := h
  refine ⟨⟨.inl ⟨_, .bool true, [], rfl, fun _ => ?_, .bool true, ?_, fun _ => ⟨List.nodup_nil, fun _ h => nomatch h⟩⟩, hk, rfl, hg⟩, hp, trivial⟩
  · kernel_rfl
  · kernel_rfl
end Mine
end
theorem PySem.Challenge.cw_yf0016_01_holds : PySem.Challenge.rw_yf0016_01.Holds := by
  exact Mine.row
