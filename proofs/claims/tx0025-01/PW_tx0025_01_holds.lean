import PyProof.Rows.All
import Wide.All
import OpenK.AllK
import Wide.FinOn
import PySem.Sre
import PyProof.FactsTree
import PyProof.Rows.SetFrom
import PyProof.AttrMissHeap
import PyProof.IsiH_set
import PyProof.FactsAll.set_1
import PyProof.ZipIter
import PyProof.WalksPairs
import KE.KEqDict
import PyProof.StrLawsReplace
import PyProof.StrLawsIn
import PyProof.Rows.StrCase
import KE.LcSums
import Lean
import PySem.Challenge.RW_tx0025_01
set_option rowWalk.seconds 0
set_option linter.all false
section
open PySem PySem.W PyProof.Rows
set_option Elab.async false
set_option maxRecDepth 100000
namespace Mine
abbrev pw : Program := PySem.Challenge.pw_tx0025_01
def stAt (k : Nat) : Option Stmt := (behindTheImports pw)[k]?
def mtAt (k j : Nat) : Option Stmt := match stAt k with
  | some (.ClassDef _ _ _ b _ _ _ _ _ _ _) => b[j]?
  | _ => none
def fnO (st : Option Stmt) (name qual : Str) (dV pm cd : Value) : Obj := match st with
  | some (.FunctionDef _ args body _ _ _ scope _ _ _) => ⟨.type "function", none, .func (fnOf name qual args body scope dV .none .none pm none cd .none), #[]⟩
  | _ => default
noncomputable def o3 (P : Params) : Obj := ⟨.type "dict", none, .dict [⟨PyData.keyHash P "__name__", .str "__name__" 165, .str "law_tx0025_01" 1997⟩, ⟨PyData.keyHash P "__doc__", .str "__doc__" 166, .none⟩, ⟨PyData.keyHash P "__package__", .str "__package__" 167, .none⟩, ⟨PyData.keyHash P "__loader__", .str "__loader__" 168, .builtin "__main__.__loader__#opaque"⟩, ⟨PyData.keyHash P "__spec__", .str "__spec__" 169, .none⟩, ⟨PyData.keyHash P "__annotations__", .str "__annotations__" 170, .ref 6⟩, ⟨PyData.keyHash P "__builtins__", .str "__builtins__" 171, .ref 4⟩, ⟨PyData.keyHash P "__file__", .str "__file__" 173, .str "/claim/cut.py" 172⟩, ⟨PyData.keyHash P "__cached__", .str "__cached__" 174, .none⟩, ⟨PyData.keyHash P "_sre", .str "_sre" 275, .ref 12⟩, ⟨PyData.keyHash P "_wall", .str "_wall" 288, .ref 38⟩, ⟨PyData.keyHash P "Entry", .str "Entry" 348, .ref 76⟩, ⟨PyData.keyHash P "merge_entries", .str "merge_entries" 357, .ref 87⟩, ⟨PyData.keyHash P "_twin_re_1", .str "_twin_re_1" 392, .ref 92⟩, ⟨PyData.keyHash P "NL", .str "NL" 394, .str "\n" 393⟩, ⟨PyData.keyHash P "_QUOPRI_MAP", .str "_QUOPRI_MAP" 1422, .ref 95⟩, ⟨PyData.keyHash P "_QUOPRI_HEADER_MAP", .str "_QUOPRI_HEADER_MAP" 1423, .ref 100⟩, ⟨PyData.keyHash P "_QUOPRI_BODY_MAP", .str "_QUOPRI_BODY_MAP" 1424, .ref 102⟩, ⟨PyData.keyHash P "ascii_lowercase", .str "ascii_lowercase" 1426, .str "abcdefghijklmnopqrstuvwxyz" 1425⟩, ⟨PyData.keyHash P "ascii_uppercase", .str "ascii_uppercase" 1428, .str "ABCDEFGHIJKLMNOPQRSTUVWXYZ" 1427⟩, ⟨PyData.keyHash P "ascii_letters", .str "ascii_letters" 1430, .str "abcdefghijklmnopqrstuvwxyzABCDEFGHIJKLMNOPQRSTUVWXYZ" 1429⟩, ⟨PyData.keyHash P "digits", .str "digits" 1432, .str "0123456789" 1431⟩, ⟨PyData.keyHash P "hexdigits", .str "hexdigits" 1437, .str "0123456789abcdefABCDEF" 1436⟩, ⟨PyData.keyHash P "unquote", .str "unquote" 1943, .ref 115⟩, ⟨PyData.keyHash P "quote", .str "quote" 1950, .ref 122⟩, ⟨PyData.keyHash P "header_encode", .str "header_encode" 1960, .ref 130⟩, ⟨PyData.keyHash P "_QUOPRI_BODY_ENCODE_MAP", .str "_QUOPRI_BODY_ENCODE_MAP" 1961, .ref 132⟩, ⟨PyData.keyHash P "decode", .str "decode" 1981, .ref 143⟩, ⟨PyData.keyHash P "_unquote_match", .str "_unquote_match" 1989, .ref 150⟩, ⟨PyData.keyHash P "header_decode", .str "header_decode" 1996, .ref 157⟩, ⟨PyData.keyHash P "_law_cells", .str "_law_cells" 2007, .ref 164⟩, ⟨PyData.keyHash P "_law_octets", .str "_law_octets" 2013, .ref 169⟩, ⟨PyData.keyHash P "_law_escaped", .str "_law_escaped" 2020, .ref 176⟩, ⟨PyData.keyHash P "_law_tails", .str "_law_tails" 2033, .ref 183⟩, ⟨PyData.keyHash P "_law_agents", .str "_law_agents" 2039, .ref 188⟩, ⟨PyData.keyHash P "_law_coats", .str "_law_coats" 2045, .ref 193⟩, ⟨PyData.keyHash P "_law_small", .str "_law_small" 2055, .ref 200⟩, ⟨PyData.keyHash P "_law_hits", .str "_law_hits" 2061, .ref 205⟩, ⟨PyData.keyHash P "_law_record", .str "_law_record" 2069, .ref 212⟩, ⟨PyData.keyHash P "_law_same", .str "_law_same" 2077, .ref 219⟩, ⟨PyData.keyHash P "law", .str "law" 2083, .ref 224⟩].toArray 43, [].toArray⟩
noncomputable def o51 (P : Params) : Obj := ⟨.type "code", none, .fields [.str "__init__" 303, .str "Entry.__init__" 304, .str "/claim/cut.py" 305, .int 8 0, .int 1 0, .int 0 0, .int 0 0, .int 3 0, .ref 46, .bool true, .int 276 0, .ref 47, .none, .ref 48, .ref 49, .ref 50, .int 307 0, .int 8 0, .str "/claim/cut.py" 308].toArray, [].toArray⟩
noncomputable def o52 (P : Params) : Obj := fnO (mtAt 2 0) "__init__" "Entry.__init__" (.none) (.str "cpy313.urllib.robotparser" 289) (.ref 51)
noncomputable def o65 (P : Params) : Obj := ⟨.type "code", none, .fields [.str "applies_to" 320, .str "Entry.applies_to" 321, .str "/claim/cut.py" 322, .int 31 0, .int 2 0, .int 0 0, .int 0 0, .int 3 0, .ref 60, .bool true, .int 276 0, .ref 61, .none, .ref 62, .ref 63, .ref 64, .int 326 0, .int 31 0, .str "/claim/cut.py" 327].toArray, [].toArray⟩
noncomputable def o66 (P : Params) : Obj := fnO (mtAt 2 2) "applies_to" "Entry.applies_to" (.none) (.str "cpy313.urllib.robotparser" 289) (.ref 65)
noncomputable def o75 (P : Params) : Obj := ⟨.type "dict", none, .dict [⟨PyData.keyHash P "__module__", .str "__module__" 298, .str "cpy313.urllib.robotparser" 289⟩, ⟨PyData.keyHash P "__firstlineno__", .str "__firstlineno__" 302, .int 6 301⟩, ⟨PyData.keyHash P "__init__", .str "__init__" 309, .ref 52⟩, ⟨PyData.keyHash P "__str__", .str "__str__" 319, .ref 59⟩, ⟨PyData.keyHash P "applies_to", .str "applies_to" 328, .ref 66⟩, ⟨PyData.keyHash P "allowance", .str "allowance" 336, .ref 73⟩, ⟨PyData.keyHash P "__static_attributes__", .str "__static_attributes__" 341, .ref 74⟩, ⟨PyData.keyHash P "__dict__", .str "__dict__" 343, .ref 77⟩, ⟨PyData.keyHash P "__weakref__", .str "__weakref__" 345, .ref 78⟩, ⟨PyData.keyHash P "__doc__", .str "__doc__" 346, .none⟩].toArray 4, [].toArray⟩
noncomputable def o76 (P : Params) : Obj := ⟨.type "type", none, .cls { name := "Entry", bases := [.type "object"], mro := [.ref 76, .type "object"], ns := 75, qualname := "Entry", hasDict := true, slotNames := [], subclasses := [], abstract := false, collection := none, hasDel := false }, [none, none, some (.str "Entry" 291), some (.str "Entry" 299), some (.builtin "object.__new__"), some (.bool true)].toArray⟩
noncomputable def o77 (P : Params) : Obj := ⟨.type "getset_descriptor", none, .fields [.str "__dict__" 342, .ref 76, .builtin "function.__dict__", .builtin "function.__dict__#set"].toArray, [].toArray⟩
noncomputable def o78 (P : Params) : Obj := ⟨.type "getset_descriptor", none, .fields [.str "__weakref__" 344, .ref 76, .builtin "ExceptionGroup.__weakref__", .none].toArray, [].toArray⟩
noncomputable def o86 (P : Params) : Obj := ⟨.type "code", none, .fields [.str "merge_entries" 349, .str "merge_entries" 350, .str "/claim/cut.py" 351, .int 44 0, .int 2 0, .int 0 0, .int 0 0, .int 3 0, .ref 81, .bool true, .int 276 0, .ref 82, .none, .ref 83, .ref 84, .ref 85, .int 355 0, .int 44 0, .str "/claim/cut.py" 356].toArray, [].toArray⟩
noncomputable def o87 (P : Params) : Obj := fnO (stAt 3) "merge_entries" "merge_entries" (.none) (.str "cpy313.urllib.robotparser" 289) (.ref 86)
noncomputable def o88 (P : Params) : Obj := ⟨.type "list", none, .seq [.int 14 361, .int 8 362, .int 1 363, .int 3 364, .int 3 365, .int 1 366, .int 1 367, .int 61 368, .int 0 369, .int 16 370, .int 61 371, .int 24 372, .int 16 373, .int 2 374, .int 2 375, .int 13 376, .int 11 377, .int 9 378, .int 0 379, .int 67043328 380, .int 126 381, .int 126 382, .int 0 383, .int 0 384, .int 0 385, .int 0 386, .int 0 387, .int 1 388, .int 1 389].toArray 0, [].toArray⟩
noncomputable def o89 (P : Params) : Obj := ⟨.type "dict", none, .dict [].toArray 0, [].toArray⟩
noncomputable def o90 (P : Params) : Obj := ⟨.type "tuple", none, .seq [.none].toArray 0, [].toArray⟩
noncomputable def o91 (P : Params) : Obj := ⟨.type "tuple", none, .seq [.int 14 0, .int 8 0, .int 1 0, .int 3 0, .int 3 0, .int 1 0, .int 1 0, .int 61 0, .int 0 0, .int 16 0, .int 61 0, .int 24 0, .int 16 0, .int 2 0, .int 2 0, .int 13 0, .int 11 0, .int 9 0, .int 0 0, .int 67043328 0, .int 126 0, .int 126 0, .int 0 0, .int 0 0, .int 0 0, .int 0 0, .int 0 0, .int 1 0, .int 1 0].toArray 0, [].toArray⟩
noncomputable def o92 (P : Params) : Obj := ⟨.type "re.Pattern", none, .fields [.str "=[a-fA-F0-9]{2}" 359, .int 256 391, .int 0 0, .none, .none, .ref 91, .int 0 0].toArray, [].toArray⟩
noncomputable def o114 (P : Params) : Obj := ⟨.type "code", none, .fields [.str "unquote" 1937, .str "unquote" 1938, .str "/claim/cut.py" 1939, .int 67 0, .int 1 0, .int 0 0, .int 0 0, .int 3 0, .ref 109, .bool true, .int 276 0, .ref 110, .none, .ref 111, .ref 112, .ref 113, .int 1941 0, .int 67 0, .str "/claim/cut.py" 1942].toArray, [].toArray⟩
noncomputable def o115 (P : Params) : Obj := fnO (stAt 18) "unquote" "unquote" (.none) (.str "cpy313.email.quoprimime" 1438) (.ref 114)
noncomputable def o121 (P : Params) : Obj := ⟨.type "code", none, .fields [.str "quote" 1944, .str "quote" 1945, .str "/claim/cut.py" 1946, .int 69 0, .int 1 0, .int 0 0, .int 0 0, .int 3 0, .ref 116, .bool true, .int 276 0, .ref 117, .none, .ref 118, .ref 119, .ref 120, .int 1948 0, .int 69 0, .str "/claim/cut.py" 1949].toArray, [].toArray⟩
noncomputable def o122 (P : Params) : Obj := fnO (stAt 19) "quote" "quote" (.none) (.str "cpy313.email.quoprimime" 1438) (.ref 121)
noncomputable def o123 (P : Params) : Obj := ⟨.type "tuple", none, .seq [.str "iso-8859-1" 1951].toArray 0, [].toArray⟩
noncomputable def o129 (P : Params) : Obj := ⟨.type "code", none, .fields [.str "header_encode" 1952, .str "header_encode" 1953, .str "/claim/cut.py" 1954, .int 71 0, .int 2 0, .int 0 0, .int 0 0, .int 3 0, .ref 124, .bool true, .int 276 0, .ref 125, .none, .ref 126, .ref 127, .ref 128, .int 1958 0, .int 71 0, .str "/claim/cut.py" 1959].toArray, [].toArray⟩
noncomputable def o130 (P : Params) : Obj := fnO (stAt 20) "header_encode" "header_encode" (.ref 123) (.str "cpy313.email.quoprimime" 1438) (.ref 129)
noncomputable def o136 (P : Params) : Obj := ⟨.type "tuple", none, .seq [.str "\n" 393].toArray 0, [].toArray⟩
noncomputable def o142 (P : Params) : Obj := ⟨.type "code", none, .fields [.str "decode" 1969, .str "decode" 1970, .str "/claim/cut.py" 1971, .int 80 0, .int 2 0, .int 0 0, .int 0 0, .int 3 0, .ref 137, .bool true, .int 276 0, .ref 138, .none, .ref 139, .ref 140, .ref 141, .int 1979 0, .int 80 0, .str "/claim/cut.py" 1980].toArray, [].toArray⟩
noncomputable def o143 (P : Params) : Obj := fnO (stAt 24) "decode" "decode" (.ref 136) (.str "cpy313.email.quoprimime" 1438) (.ref 142)
noncomputable def o149 (P : Params) : Obj := ⟨.type "code", none, .fields [.str "_unquote_match" 1982, .str "_unquote_match" 1983, .str "/claim/cut.py" 1984, .int 110 0, .int 1 0, .int 0 0, .int 0 0, .int 3 0, .ref 144, .bool true, .int 276 0, .ref 145, .none, .ref 146, .ref 147, .ref 148, .int 1987 0, .int 110 0, .str "/claim/cut.py" 1988].toArray, [].toArray⟩
noncomputable def o150 (P : Params) : Obj := fnO (stAt 25) "_unquote_match" "_unquote_match" (.none) (.str "cpy313.email.quoprimime" 1438) (.ref 149)
noncomputable def o156 (P : Params) : Obj := ⟨.type "code", none, .fields [.str "header_decode" 1990, .str "header_decode" 1991, .str "/claim/cut.py" 1992, .int 113 0, .int 1 0, .int 0 0, .int 0 0, .int 3 0, .ref 151, .bool true, .int 276 0, .ref 152, .none, .ref 153, .ref 154, .ref 155, .int 1994 0, .int 113 0, .str "/claim/cut.py" 1995].toArray, [].toArray⟩
noncomputable def o157 (P : Params) : Obj := fnO (stAt 26) "header_decode" "header_decode" (.none) (.str "cpy313.email.quoprimime" 1438) (.ref 156)
noncomputable def o163 (P : Params) : Obj := ⟨.type "code", none, .fields [.str "_law_cells" 1999, .str "_law_cells" 2000, .str "/claim/cut.py" 2001, .int 117 0, .int 1 0, .int 0 0, .int 0 0, .int 3 0, .ref 158, .bool true, .int 276 0, .ref 159, .none, .ref 160, .ref 161, .ref 162, .int 2005 0, .int 117 0, .str "/claim/cut.py" 2006].toArray, [].toArray⟩
noncomputable def o164 (P : Params) : Obj := fnO (stAt 28) "_law_cells" "_law_cells" (.none) (.str "law_tx0025_01" 1997) (.ref 163)
noncomputable def o168 (P : Params) : Obj := ⟨.type "code", none, .fields [.str "_law_octets" 2008, .str "_law_octets" 2009, .str "/claim/cut.py" 2010, .int 122 0, .int 3 0, .int 0 0, .int 0 0, .int 3 0, .ref 165, .bool true, .int 276 0, .ref 166, .none, .none, .none, .ref 167, .int 2011 0, .int 122 0, .str "/claim/cut.py" 2012].toArray, [].toArray⟩
noncomputable def o169 (P : Params) : Obj := fnO (stAt 29) "_law_octets" "_law_octets" (.none) (.str "law_tx0025_01" 1997) (.ref 168)
noncomputable def o175 (P : Params) : Obj := ⟨.type "code", none, .fields [.str "_law_escaped" 2014, .str "_law_escaped" 2015, .str "/claim/cut.py" 2016, .int 125 0, .int 1 0, .int 0 0, .int 0 0, .int 3 0, .ref 170, .bool true, .int 276 0, .ref 171, .none, .ref 172, .ref 173, .ref 174, .int 2018 0, .int 125 0, .str "/claim/cut.py" 2019].toArray, [].toArray⟩
noncomputable def o176 (P : Params) : Obj := fnO (stAt 30) "_law_escaped" "_law_escaped" (.none) (.str "law_tx0025_01" 1997) (.ref 175)
noncomputable def o182 (P : Params) : Obj := ⟨.type "code", none, .fields [.str "_law_tails" 2021, .str "_law_tails" 2022, .str "/claim/cut.py" 2023, .int 129 0, .int 2 0, .int 0 0, .int 0 0, .int 3 0, .ref 177, .bool true, .int 276 0, .ref 178, .none, .ref 179, .ref 180, .ref 181, .int 2031 0, .int 129 0, .str "/claim/cut.py" 2032].toArray, [].toArray⟩
noncomputable def o183 (P : Params) : Obj := fnO (stAt 31) "_law_tails" "_law_tails" (.none) (.str "law_tx0025_01" 1997) (.ref 182)
noncomputable def o187 (P : Params) : Obj := ⟨.type "code", none, .fields [.str "_law_agents" 2034, .str "_law_agents" 2035, .str "/claim/cut.py" 2036, .int 140 0, .int 3 0, .int 0 0, .int 0 0, .int 3 0, .ref 184, .bool true, .int 276 0, .ref 185, .none, .none, .none, .ref 186, .int 2037 0, .int 140 0, .str "/claim/cut.py" 2038].toArray, [].toArray⟩
noncomputable def o188 (P : Params) : Obj := fnO (stAt 32) "_law_agents" "_law_agents" (.none) (.str "law_tx0025_01" 1997) (.ref 187)
noncomputable def o192 (P : Params) : Obj := ⟨.type "code", none, .fields [.str "_law_coats" 2040, .str "_law_coats" 2041, .str "/claim/cut.py" 2042, .int 155 0, .int 1 0, .int 0 0, .int 0 0, .int 3 0, .ref 189, .bool true, .int 276 0, .ref 190, .none, .none, .none, .ref 191, .int 2043 0, .int 155 0, .str "/claim/cut.py" 2044].toArray, [].toArray⟩
noncomputable def o193 (P : Params) : Obj := fnO (stAt 33) "_law_coats" "_law_coats" (.none) (.str "law_tx0025_01" 1997) (.ref 192)
noncomputable def o199 (P : Params) : Obj := ⟨.type "code", none, .fields [.str "_law_small" 2046, .str "_law_small" 2047, .str "/claim/cut.py" 2048, .int 158 0, .int 2 0, .int 0 0, .int 0 0, .int 3 0, .ref 194, .bool true, .int 276 0, .ref 195, .none, .ref 196, .ref 197, .ref 198, .int 2053 0, .int 158 0, .str "/claim/cut.py" 2054].toArray, [].toArray⟩
noncomputable def o200 (P : Params) : Obj := fnO (stAt 34) "_law_small" "_law_small" (.none) (.str "law_tx0025_01" 1997) (.ref 199)
noncomputable def o204 (P : Params) : Obj := ⟨.type "code", none, .fields [.str "_law_hits" 2056, .str "_law_hits" 2057, .str "/claim/cut.py" 2058, .int 168 0, .int 3 0, .int 0 0, .int 0 0, .int 3 0, .ref 201, .bool true, .int 276 0, .ref 202, .none, .none, .none, .ref 203, .int 2059 0, .int 168 0, .str "/claim/cut.py" 2060].toArray, [].toArray⟩
noncomputable def o205 (P : Params) : Obj := fnO (stAt 35) "_law_hits" "_law_hits" (.none) (.str "law_tx0025_01" 1997) (.ref 204)
noncomputable def o211 (P : Params) : Obj := ⟨.type "code", none, .fields [.str "_law_record" 2062, .str "_law_record" 2063, .str "/claim/cut.py" 2064, .int 178 0, .int 1 0, .int 0 0, .int 0 0, .int 3 0, .ref 206, .bool true, .int 276 0, .ref 207, .none, .ref 208, .ref 209, .ref 210, .int 2067 0, .int 178 0, .str "/claim/cut.py" 2068].toArray, [].toArray⟩
noncomputable def o212 (P : Params) : Obj := fnO (stAt 36) "_law_record" "_law_record" (.none) (.str "law_tx0025_01" 1997) (.ref 211)
noncomputable def o218 (P : Params) : Obj := ⟨.type "code", none, .fields [.str "_law_same" 2070, .str "_law_same" 2071, .str "/claim/cut.py" 2072, .int 182 0, .int 2 0, .int 0 0, .int 0 0, .int 3 0, .ref 213, .bool true, .int 276 0, .ref 214, .none, .ref 215, .ref 216, .ref 217, .int 2075 0, .int 182 0, .str "/claim/cut.py" 2076].toArray, [].toArray⟩
noncomputable def o219 (P : Params) : Obj := fnO (stAt 37) "_law_same" "_law_same" (.none) (.str "law_tx0025_01" 1997) (.ref 218)
noncomputable def o223 (P : Params) : Obj := ⟨.type "code", none, .fields [.str "law" 2078, .str "law" 2079, .str "/claim/cut.py" 2080, .int 184 0, .int 1 0, .int 0 0, .int 0 0, .int 3 0, .ref 220, .bool true, .int 276 0, .ref 221, .none, .none, .none, .ref 222, .int 2081 0, .int 184 0, .str "/claim/cut.py" 2082].toArray, [].toArray⟩
noncomputable def o224 (P : Params) : Obj := fnO (stAt 38) "law" "law" (.none) (.str "law_tx0025_01" 1997) (.ref 223)
noncomputable def KK (P : Params) : Frag := (nat_lit 3, o3 P) :: (nat_lit 51, o51 P) :: (nat_lit 52, o52 P) :: (nat_lit 65, o65 P) :: (nat_lit 66, o66 P) :: (nat_lit 75, o75 P) :: (nat_lit 76, o76 P) :: (nat_lit 77, o77 P) :: (nat_lit 78, o78 P) :: (nat_lit 86, o86 P) :: (nat_lit 87, o87 P) :: (nat_lit 88, o88 P) :: (nat_lit 89, o89 P) :: (nat_lit 90, o90 P) :: (nat_lit 91, o91 P) :: (nat_lit 92, o92 P) :: (nat_lit 114, o114 P) :: (nat_lit 115, o115 P) :: (nat_lit 121, o121 P) :: (nat_lit 122, o122 P) :: (nat_lit 123, o123 P) :: (nat_lit 129, o129 P) :: (nat_lit 130, o130 P) :: (nat_lit 136, o136 P) :: (nat_lit 142, o142 P) :: (nat_lit 143, o143 P) :: (nat_lit 149, o149 P) :: (nat_lit 150, o150 P) :: (nat_lit 156, o156 P) :: (nat_lit 157, o157 P) :: (nat_lit 163, o163 P) :: (nat_lit 164, o164 P) :: (nat_lit 168, o168 P) :: (nat_lit 169, o169 P) :: (nat_lit 175, o175 P) :: (nat_lit 176, o176 P) :: (nat_lit 182, o182 P) :: (nat_lit 183, o183 P) :: (nat_lit 187, o187 P) :: (nat_lit 188, o188 P) :: (nat_lit 192, o192 P) :: (nat_lit 193, o193 P) :: (nat_lit 199, o199 P) :: (nat_lit 200, o200 P) :: (nat_lit 204, o204 P) :: (nat_lit 205, o205 P) :: (nat_lit 211, o211 P) :: (nat_lit 212, o212 P) :: (nat_lit 218, o218 P) :: (nat_lit 219, o219 P) :: (nat_lit 223, o223 P) :: (nat_lit 224, o224 P) :: []
end Mine
end

section
open PySem PySem.W PyProof.Rows PySem.Calls
set_option Elab.async false
set_option maxRecDepth 100000
namespace Mine

abbrev Ext (h h' : Heap) : Prop := ∀ b o, h.get? b = some o → h'.get? b = some o

/-- what is asked of the place of a call: no exception handled, room in frames and units -/
structure Lo (A : Around) (n : Nat) : Prop where
  hd : A.handled = none
  dp : A.depth + n ≤ 900
  un : A.units + 10 * n ≤ 9000

theorem Lo.deeper {A : Around} {n : Nat} {env : Env} (h : Lo A (n + 1)) : Lo (A.deeper env) n :=
  ⟨h.hd, by have := h.dp; show A.depth + 1 + n ≤ 900; omega, by have := h.un; show A.units + 3 + 10 * n ≤ 9000; omega⟩
theorem Lo.in1 {A : Around} {n : Nat} (h : Lo A (n + 1)) : Lo A.in1 n :=
  ⟨h.hd, by have := h.dp; show A.depth + n ≤ 900; omega, by have := h.un; show A.units + 1 + 10 * n ≤ 9000; omega⟩
theorem Lo.le {A : Around} {n k : Nat} (h : Lo A n) (hk : k ≤ n) : Lo A k := ⟨h.hd, by have := h.dp; omega, by have := h.un; omega⟩
theorem Lo.room {A : Around} {n : Nat} (h : Lo A n) : A.depth < recursionLimit := by have := h.dp; unfold recursionLimit; omega
theorem Lo.units {A : Around} {n : Nat} (h : Lo A n) : A.units < cLine := by have := h.un; unfold cLine; omega

section
variable {h₀ h h' g : Heap} {L L' : Addr} {m m' : Str → Option Value} {news : List (Addr × Obj)}
theorem fr_ext (F : Fr h₀ L h m) (e : Ext h h') : Fr h₀ L h' m := ⟨F.ns.keeps e, fun b o q => e b o (F.keep b o q), F.above⟩
theorem news_ext (N : News h₀ L h news) (e : Ext h h') : News h₀ L h' news := fun p hp => ⟨e _ _ (N p hp).1, (N p hp).2⟩
theorem news_add {a : Addr} {o : Obj} (F : Fr h₀ L h m) (N : News h₀ L h' news) (hn : h.get? a = none) (ho : h'.get? a = some o) : News h₀ L h' ((a, o) :: news) := by
  intro p hp
  rcases List.mem_cons.mp hp with rfl | hp
  · refine ⟨ho, fun q => ?_, ?_⟩
    · have q : a = L := q
      subst q
      obtain ⟨_, _, _, hL, _⟩ := F.ns
      rw [hn] at hL; cases hL
    · cases q : h₀.get? a with
      | none => rfl
      | some o' => have := F.keep _ _ q; rw [hn] at this; cases this
  · exact N p hp
theorem news_one {a : Addr} {o : Obj} (N : News h L' h' news) (hm : (a, o) ∈ news) : h.get? a = none ∧ h'.get? a = some o := ⟨(N _ hm).2.2, (N _ hm).1⟩
end

section
variable {prog : Program} {w : World} {A : Around} {s : Shared} {K : Frag} {p : Program} {loose : List Str} {mean : ExcName → Option Value} {mg mb : Str → Option Value}
/-- the end of a def's body: what it hands back meets P -/
def RetP (P : Value → Shared → Prop) (fl : Flow) (s' : Shared) : Prop := P (match fl with | .ret v => v | _ => .none) s'
theorem RetP.mk {P : Value → Shared → Prop} {v : Value} {s' : Shared} (h : P v s') : RetP P (.ret v) s' := h
theorem RetP.nx {P : Value → Shared → Prop} {s' : Shared} (h : P .none s') : RetP P .next s' := h
def noExc (_ : Value) (_ : Shared) : Prop := False

/-- a def of the text is called: the whole heap of the caller is the base -/
theorem enter {E : Value → Shared → Prop} {P : Value → Shared → Prop} {name qual : Str} {params : Arguments} {body : List Stmt} {scope : Scope} {dV kV doc pm cdv ct oc : Value} {an od : Option Addr} {osl : Array (Option Value)} {f : Addr} {pos : List Value} {kw : List (Str × Value)} {binds : List (Str × Value)}
    (X : K.In s.heap) (T : Top p loose mean mg mb s.heap)
    (ho : K.lookup f = some ⟨oc, od, .func (fnOf name qual params body scope dV kV doc pm an cdv ct), osl⟩) (hcd : codeIn K cdv qual = true) (hroom : A.depth < recursionLimit)
    (hbind : BindsTo s (fnOf name qual params body scope dV kV doc pm an cdv ct) ⟨pos, kw⟩ binds) (hloc : ∀ y ∈ binds, scope.names.lookup y.1 = some .local)
    (h : ∀ h₁, Fr s.heap s.heap.objs.size h₁ (fun y => binds.reverse.lookup y) → News s.heap s.heap.objs.size h₁ [] →
      wpAny (model prog w) (A.deeper (envOf qual scope s.heap.objs.size f cdv)) (execs body (envOf qual scope s.heap.objs.size f cdv)) (RetP P) noExc
        { s with heap := h₁, toks := s.toks + binds.length })
    (hco : scope.isCoroutine = false) (hgen : scope.isGenerator = false) (hk : scope.kind = .function)
    (hcell : ∀ x ∈ scope.names, x.2 ≠ .cell) : wpAny (model prog w) A (call (.ref f) pos kw) P E s :=
  wpAny_call (codeAny_call_def (fd := fnOf name qual params body scope dV kV doc pm an cdv ct) (body := body) (binds := binds) hroom (X _ _ ho) rfl T.nolimit (codeRec_of X hcd) rfl hbind hcell hloc
    (fun h₁ hns hk₁ => wpAny_mono (h h₁ ⟨hns, hk₁, Nat.le_refl _⟩ News.nil) (fun _ _ q => q) fun _ _ q => q.elim) hco hgen hk)
end
end Mine
end

section
open PySem PySem.W PyProof.Rows PySem.Calls
set_option Elab.async false
set_option maxRecDepth 100000
set_option maxHeartbeats 100000000
namespace Mine
abbrev pwS : Program := PySem.Challenge.rw_tx0025_01.row.prog

/-! bytes: a small number in them -/
theorem buf_bytes (id : String) (b : Array UInt8) (t : Tok) : Builtin.Bytes.buffer? id (.bytes b t) = pure (some b) := by kernel_rfl
theorem gives_bytes_contains (b : Array UInt8) (o : Int) (t u : Tok) (h0 : 0 ≤ o) (h1 : o < 256) :
    Gives (Builtin.«bytes.__contains__» ⟨[.bytes b t, .int o u], []⟩) (.val (.bool (b.contains o.toNat.toUInt8))) := by
  refine .of_wp fun M A E s Q hq => ?_
  show wpAny M A (Builtin.Bytes.containsIn "bytes.__contains__" (.bytes b t) (.int o u) >>= fun r => ret (.bool r)) _ E s
  unfold Builtin.Bytes.containsIn
  rw [buf_bytes]
  refine wpAny_bind (wpAny_bind (wpAny_attempt (wpAny_pure (wpAny_bind (wpAny_pure ?_)))))
  show wpAny M A (if o < 0 || o ≥ 256 then _ else _) _ E s
  rw [if_neg (by simp; omega)]
  exact wpAny_pure (wpAny_pure ⟨_, rfl, hq⟩)
theorem in_bytes {prog : Program} {w : World} {A : Around} {E : Value → Shared → Prop} {s : Shared} {b : Array UInt8} {o : Int} {t u : Tok} {Q : Value → Shared → Prop} (h0 : 0 ≤ o) (h1 : o < 256)
    (h : Q (.bool (b.contains o.toNat.toUInt8)) s) : wpAny (model prog w) A (compareOp .In (.int o u) (.bytes b t)) Q E s :=
  in_gives (typeIs_bytes s b t) FB.slot_bytes_contains FB.entry_bytes_contains (FB.args_bytes_contains_2 _ _) (gives_bytes_contains b o t u h0 h1) h
end Mine
end

section
open PySem PySem.W PyProof.Rows PySem.Calls
set_option Elab.async false
set_option maxRecDepth 100000
set_option maxHeartbeats 100000000
namespace Mine
def escO (o : Int) : Bool := !(o == 32 || (#[45, 33, 42, 43, 47] : Array UInt8).contains o.toNat.toUInt8 || (decide (48 ≤ o) && decide (o ≤ 57))) && !((decide (65 ≤ o) && decide (o ≤ 90)) || (decide (97 ≤ o) && decide (o ≤ 122)))

local macro_rules | `(tactic| walk_at "compareOp In int bytes") => `(tactic| (refine in_bytes ?_ ?_ ?_; iterate 2 (first | assumption | omega)))
local macro_rules | `(tactic| walk_at "mine.enter") => `(tactic| (refine' enter ?k3 ?k5 ?k6 ?k7 ?k8 ?k9 ?kB ?_ ?c2 ?c3 ?c4 ?c5; (case k3 => k_asm); (case k5 => k_asm); (case k6 => k_is); (case k7 => k_is); (case k8 => exact Lo.room (by assumption)); (case k9 => exact BindsTo.of_eq rfl); (case c5 => decide); (case kB => exact locs rfl); (case c2 => exact rfl); (case c3 => exact rfl); (case c4 => exact rfl); intro h₁ F₁ N₁))

section
variable {w : World} {p : Program} {loose : List Str} {mean : ExcName → Option Value} {mg mb : Str → Option Value} {A : Around} {h₀ : Heap} {L : Addr} {m : Str → Option Value} {s : Shared} {news : List (Addr × Obj)} {Q E : Value → Shared → Prop}

theorem use_escaped {P : Value → Shared → Prop} {o : Int} {t : Tok} (T : Top p loose mean mg mb s.heap) (hA : Lo A 3) (h0 : 0 ≤ o) (h1 : o < 256) :
    (KK w.params).In s.heap → (∀ h' tk, Ext s.heap h' → P (.bool (escO o)) { s with heap := h', toks := tk }) → wpAny (model PySem.Challenge.rw_tx0025_01.row.prog w) A (call (.ref 176) [.int o t]) P E s := by
  k_fill
  intro X h
  obtain ⟨hp, gs, dr, tk, os⟩ := s
  dsimp only at T X h
  k_dflt (refine' enter (binds := [("octet", .int o t)]) ?k3 ?k5 ?k6 ?k7 ?k8 ?k9 ?kB ?_ ?c2 ?c3 ?c4 ?c5; (case k3 => k_asm); (case k5 => k_asm); (case k6 => k_is); (case k7 => k_is); (case k8 => exact Lo.room (by assumption)); (case k9 => exact BindsTo.of_eq rfl); (case c5 => decide); (case kB => exact locs rfl); (case c2 => exact rfl); (case c3 => exact rfl); (case c4 => exact rfl); intro h₁ F₁ N₁; dsimp only at F₁ N₁ ⊢)
  k_steps
  all_goals (try dsimp only)
  all_goals refine RetP.mk ?_
  all_goals (refine cast (congrArg (fun b => P (.bool b) _) ?_) (h _ _ F₁.keep))
  all_goals simp_all [escO]
  all_goals (rw [Bool.eq_iff_iff]; simp only [Bool.and_eq_true, Bool.or_eq_true, Bool.not_eq_true', beq_eq_false_iff_ne, decide_eq_true_eq, decide_eq_false_iff_not, ne_eq]; omega)
end
end Mine
end

section
open PySem PySem.W PyProof.Rows PySem.Calls
set_option Elab.async false
set_option maxRecDepth 100000
namespace Mine
/-- a test that changes nothing, as one answer -/
def CutP (b : Bool) (s : Shared) (x : Bool) (s' : Shared) : Prop := x = b ∧ ∃ tk, s' = { s with toks := tk }
theorem cutB {M : Model} {A : Around} {E : Value → Shared → Prop} {s : Shared} {Q : Bool → Shared → Prop} {t : Sem Bool} (b : Bool) (h1 : wpAny M A t (CutP b s) E s) (h2 : ∀ tk, Q b { s with toks := tk }) : wpAny M A t Q E s :=
  wpAny_mono h1 (fun x s' h => by obtain ⟨rfl, tk, rfl⟩ := h; exact h2 tk) fun _ _ h => h
theorem CutP.mk {b x : Bool} {s : Shared} {tk : Nat} (h : x = b) : CutP b s x { s with toks := tk } := ⟨h, tk, rfl⟩

/-- the state of a loop that appends to one list: the list's values, its count -/
abbrev Led1 (r : Addr) (q : List Value × Nat) : List (Addr × Obj) := [(r, W.listOf q.1.toArray q.2)]
abbrev App (r : Addr) (x : Str) (stored : List Str) (m₀ : Str → Option Value) (R : List Int → List Value → Prop) (pre : List Int) : (Str → Option Value) → List (Addr × Obj) → Prop :=
  KstS (σ := List Value × Nat) (Led1 r) (fun _ => []) (fun _ => True) x stored m₀ (fun pre q => R pre q.1) pre

theorem app_end {h₀ h₅ : Heap} {L : Addr} {x : Str} {stored : List Str} {r : Addr} {vs' : List Value} {n : Nat} {v : Value} {m₀ m' : Str → Option Value} {R : List Int → List Value → Prop} {pre : List Int} {own rest : List (Addr × Obj)} {s₁ : Shared} {tk : Nat} {Q : Flow → Shared → Prop}
    (F : Fr h₀ L h₅ m') (N : News h₀ L h₅ ((r, W.listOf (vs'.toArray.push v) (n + 1)) :: rest)) (ho : ∀ q ∈ own, q ∈ rest) (hm : ∀ z, z ≠ x → stored.contains z = false → m' z = m₀ z) (hR : R pre (vs' ++ [v])) :
    InvPostN h₀ L (App r x stored m₀ R pre) own [r] s₁ Q .next { s₁ with heap := h₅, toks := tk } := by
  show InvEndN _ _ _ _ _ _ _
  refine kst_end (σ := List Value × Nat) (vs' ++ [v], n + 1) F N (fun q hq => ?_) (fun q hq => .tail _ (ho q hq)) rfl trivial (fun _ hq => nomatch hq) (fun z hz _ hs => hm z hz hs) hR
  rw [List.mem_singleton.mp hq, ← List.push_toArray]
  exact .head _
/-- the turn's end without an append -/
theorem app_end0 {h₀ h₅ : Heap} {L : Addr} {x : Str} {stored : List Str} {r : Addr} {vs' : List Value} {n : Nat} {m₀ m' : Str → Option Value} {R : List Int → List Value → Prop} {pre : List Int} {own rest : List (Addr × Obj)} {s₁ : Shared} {tk : Nat} {Q : Flow → Shared → Prop}
    (F : Fr h₀ L h₅ m') (N : News h₀ L h₅ ((r, W.listOf vs'.toArray n) :: rest)) (ho : ∀ q ∈ own, q ∈ rest) (hm : ∀ z, z ≠ x → stored.contains z = false → m' z = m₀ z) (hR : R pre vs') :
    InvPostN h₀ L (App r x stored m₀ R pre) own [r] s₁ Q .next { s₁ with heap := h₅, toks := tk } := by
  show InvEndN _ _ _ _ _ _ _
  refine kst_end (σ := List Value × Nat) (vs', n) F N (fun q hq => ?_) (fun q hq => .tail _ (ho q hq)) rfl trivial (fun _ hq => nomatch hq) (fun z hz _ hs => hm z hz hs) hR
  rw [List.mem_singleton.mp hq]
  exact .head _
/-- the end of a turn, closed to the walk -/
def TurnP (h₀ : Heap) (L : Addr) (r : Addr) (x : Str) (stored : List Str) (m₀ : Str → Option Value) (R : List Int → List Value → Prop) (pre : List Int) (own : List (Addr × Obj)) (s₁ : Shared) (Q : Flow → Shared → Prop) (f : Flow) (s' : Shared) : Prop :=
  InvPostN h₀ L (App r x stored m₀ R pre) own [r] s₁ Q f s'
theorem TurnP.app {h₀ h₅ : Heap} {L : Addr} {x : Str} {stored : List Str} {r : Addr} {vs' : List Value} {n : Nat} {v : Value} {m₀ m' : Str → Option Value} {R : List Int → List Value → Prop} {pre : List Int} {own rest : List (Addr × Obj)} {s₁ : Shared} {tk : Nat} {Q : Flow → Shared → Prop}
    (F : Fr h₀ L h₅ m') (N : News h₀ L h₅ ((r, W.listOf (vs'.toArray.push v) (n + 1)) :: rest)) (ho : ∀ q ∈ own, q ∈ rest) (hm : ∀ z, z ≠ x → stored.contains z = false → m' z = m₀ z) (hR : R pre (vs' ++ [v])) :
    TurnP h₀ L r x stored m₀ R pre own s₁ Q .next { s₁ with heap := h₅, toks := tk } := app_end F N ho hm hR
theorem TurnP.app0 {h₀ h₅ : Heap} {L : Addr} {x : Str} {stored : List Str} {r : Addr} {vs' : List Value} {n : Nat} {m₀ m' : Str → Option Value} {R : List Int → List Value → Prop} {pre : List Int} {own rest : List (Addr × Obj)} {s₁ : Shared} {tk : Nat} {Q : Flow → Shared → Prop}
    (F : Fr h₀ L h₅ m') (N : News h₀ L h₅ ((r, W.listOf vs'.toArray n) :: rest)) (ho : ∀ q ∈ own, q ∈ rest) (hm : ∀ z, z ≠ x → stored.contains z = false → m' z = m₀ z) (hR : R pre vs') :
    TurnP h₀ L r x stored m₀ R pre own s₁ Q .next { s₁ with heap := h₅, toks := tk } := app_end0 F N ho hm hR
section
variable {prog : Program} {w : World} {A : Around} {E : Value → Shared → Prop} {s : Shared} {env : Env} {h₀ : Heap} {x : Str} {body : List Stmt} {Q : Flow → Shared → Prop}
/-- for x in a list of ints of the base: a list r grows -/
theorem app_list {l r : Addr} {vs vs₀ : List Value} {ns : List Int} {n₀ : Nat} {m₀ : Str → Option Value} (stored : List Str) (R : List Int → List Value → Prop)
    (hh : A.handled = none) (hl : h₀.IsList l vs.toArray) (hi : IntsAre vs ns) (F : Fr h₀ env.locals s.heap m₀) (N : News h₀ env.locals s.heap [(r, W.listOf vs₀.toArray n₀)]) (hp : R [] vs₀)
    (turn : ∀ vs' n pre post o t (u : Str → Option Value) h tk own, ns = pre ++ o :: post → OwnOff own [r] → R pre vs' →
      Fr h₀ env.locals h (fun y => if y = x then some (.int o t) else if stored.contains y then u y else m₀ y) → News h₀ env.locals h ((r, W.listOf vs'.toArray n) :: own) →
      wpAny (model prog w) A (execs body env) (TurnP h₀ env.locals r x stored m₀ R (pre ++ [o]) own { s with heap := h, toks := tk } Q) E { s with heap := h, toks := tk })
    (done : ∀ vs' n (u : Str → Option Value) h tk, R ns vs' → Fr h₀ env.locals h (fun y => if y = x then u y else if stored.contains y then u y else m₀ y) → News h₀ env.locals h [(r, W.listOf vs'.toArray n)] → Q .next { s with heap := h, toks := tk }) :
    wpAny (model prog w) A (pyIter (.ref l)) (fun it s₂ => LoopAtV prog w A h₀ env x body Q E it s₂) E s := by
  refine kst_list (σ := List Value × Nat) (Led1 r) (fun _ => []) (fun _ => True) stored (fun pre q => R pre q.1) (vs₀, n₀) hh hl hi F N trivial (fun _ hq => nomatch hq) hp ?_ ?_
  · rintro ⟨vs', n⟩ pre post o t u h tk own heq _ hoff _ hI F' N'
    exact turn vs' n pre post o t u h tk own heq hoff hI F' N'
  · rintro ⟨vs', n⟩ u h tk _ hI F' N'
    exact done vs' n u h tk hI F' N'
end
theorem ints_push {R : Int → Int} {vs' : List Value} {pre : List Int} {o e : Int} {t : Tok} (h : IntsAre vs' (pre.map R)) (he : e = R o) : IntsAre (vs' ++ [.int e t]) ((pre ++ [o]).map R) := by
  rw [List.map_append, he]
  exact IntsAre.append h (.cons _ _ .nil)
theorem ne_of_stored {z a : Str} {l : List Str} (h : (a :: l).contains z = false) : z ≠ a ∧ l.contains z = false := by
  simpa [List.contains_cons] using h
end Mine
end

section
open PySem PySem.W PyProof.Rows PySem.Calls
set_option Elab.async false
set_option maxRecDepth 100000
set_option maxHeartbeats 100000000
namespace Mine
def small1 (c o : Int) : Bool := decide (c < 2) && (decide (65 ≤ o) && decide (o ≤ 90))
def small2 (c o : Int) : Bool := decide (c = 0) && (decide (192 ≤ o) && decide (o ≤ 222) && decide (o ≠ 215))
def smallO (c o : Int) : Int := if small1 c o || small2 c o then o + 32 else o

section
variable {w : World} {p : Program} {loose : List Str} {mean : ExcName → Option Value} {mg mb : Str → Option Value} {A : Around} {h₀ : Heap} {L : Addr} {m : Str → Option Value} {s : Shared} {news : List (Addr × Obj)} {Q E : Value → Shared → Prop}
theorem use_small {P : Value → Shared → Prop} {l : Addr} {vs : List Value} {ns : List Int} {c : Int} {t : Tok} (T : Top p loose mean mg mb s.heap) (hA : Lo A 3) (hl : s.heap.IsList l vs.toArray) (hi : IntsAre vs ns) (hlen : ns.length ≤ 16) :
    (KK w.params).In s.heap → (∀ (r : Addr) (vs' : List Value) (n : Nat) (h' : Heap) (tk : Nat), Ext s.heap h' → s.heap.get? r = none → h'.get? r = some (W.listOf vs'.toArray n) → IntsAre vs' (ns.map (smallO c)) → P (.ref r) { s with heap := h', toks := tk }) → wpAny (model PySem.Challenge.rw_tx0025_01.row.prog w) A (call (.ref 200) [.ref l, .int c t]) P E s := by
  k_fill
  intro X h
  obtain ⟨hp, gs, dr, tk, os⟩ := s
  dsimp only at T X h hl
  have hro := hA.room
  have hh : A.handled = none := hA.hd
  k_dflt (refine' enter (binds := [("row", .ref l), ("coat", .int c t)]) ?k3 ?k5 ?k6 ?k7 ?k8 ?k9 ?kB ?_ ?c2 ?c3 ?c4 ?c5; (case k3 => k_asm); (case k5 => k_asm); (case k6 => k_is); (case k7 => k_is); (case k8 => exact hro); (case k9 => exact BindsTo.of_eq rfl); (case c5 => decide); (case kB => exact locs rfl); (case c2 => exact rfl); (case c3 => exact rfl); (case c4 => exact rfl); intro h₁ F₁ N₁; dsimp only at F₁ N₁ ⊢)
  k_steps
  rename_i r h₂ _ h₃ F₃ N₃
  have hi' : IntsAre vs ns := by assumption
  refine app_list [] (fun pre q => IntsAre q (pre.map (smallO c))) hh hl hi' F₃ N₃ .nil ?_ ?_
  · intro vs' n pre post o to u h₄ tk₄ own heq hoff hI F₄ N₄
    have hv : vs'.length ≤ 16 := by
      have := hI.length
      have := congrArg List.length heq
      simp at *
      omega
    iterate 2 walk1
    refine cutB (small1 c o) ?_ ?_
    · repeat' (first | walk1 | (dsimp only; walk1))
      all_goals (refine CutP.mk ?_; simp only [small1, *, decide_true, decide_false, Bool.and_true, Bool.and_false, Bool.true_and, Bool.false_and])
    intro tk₅
    generalize hb : small1 c o = b
    cases b
    · iterate 3 walk1
      refine cutB (small2 c o) ?_ ?_
      · repeat' (first | walk1 | (dsimp only; walk1))
        all_goals (refine CutP.mk ?_; simp [small2, *])
      intro tk₆
      generalize hc : small2 c o = b
      cases b
      · repeat' (first | walk1 | (dsimp only; walk1))
        (refine TurnP.app (by k_asm) (by assumption) (fun q hq => hq) (fun z hz hs => by simp [hz]) ?_; refine ints_push (R := smallO c) (o := o) hI ?_; simp [smallO, hb, hc])
      · repeat' (first | walk1 | (dsimp only; walk1))
        (refine TurnP.app (by k_asm) (by assumption) (fun q hq => hq) (fun z hz hs => by simp [hz]) ?_; refine ints_push (R := smallO c) (o := o) hI ?_; simp [smallO, hb, hc])
    · repeat' (first | walk1 | (dsimp only; walk1))
      (refine TurnP.app (by k_asm) (by assumption) (fun q hq => hq) (fun z hz hs => by simp [hz]) ?_; refine ints_push (R := smallO c) (o := o) hI ?_; simp [smallO, hb])
  · intro vs' n u h₄ tk₄ hI F₄ N₄
    k_steps
    all_goals (try dsimp only)
    refine RetP.mk ?_
    obtain ⟨e1, e2⟩ := news_one N₄ (.head _)
    exact h r vs' n h₄ _ F₄.keep e1 e2 hI
end
end Mine
end

section
open PySem PySem.W PyProof.Rows PySem.Calls
open PySem.Sem (wp)
set_option Elab.async false
set_option maxRecDepth 100000
namespace Mine

/-- all that stands in h beyond the base, but for what ex says -/
def allOf (h₀ h : Heap) (ex : List Addr) : List (Addr × Obj) := ownOf h₀ ((List.range h.objs.size).filter fun b => !ex.contains b) h
theorem mem_allOf {h₀ h : Heap} {ex : List Addr} {b : Addr} {o : Obj} (hb : b ∉ ex) (hn : h₀.get? b = none) (ho : h.get? b = some o) : (b, o) ∈ allOf h₀ h ex :=
  mem_ownOf (List.mem_filter.mpr ⟨List.mem_range.mpr (Heap.lt_size ho), by simpa using hb⟩) hn ho
theorem off_allOf {h₀ h : Heap} {ex : List Addr} : ∀ p ∈ allOf h₀ h ex, p.1 ∉ ex := fun p hp => by
  have := (List.mem_filter.mp (ownOf_sub p hp)).2
  simpa using this
theorem news_allOf {h₀ h : Heap} {L : Addr} {ex : List Addr} (hL : L ∈ ex) : News h₀ L h (allOf h₀ h ex) :=
  news_ownOf fun hm => by
    have := (List.mem_filter.mp hm).2
    simp at this
    exact this hL

/-- h' keeps what h holds, but for what ex says -/
def KeepBut (ex : List Addr) (h h' : Heap) : Prop := ∀ b o, b ∉ ex → h.get? b = some o → h'.get? b = some o
theorem KeepBut.refl {ex : List Addr} {h : Heap} : KeepBut ex h h := fun _ _ _ e => e
theorem KeepBut.trans {ex : List Addr} {h h' g : Heap} (a : KeepBut ex h h') (b : KeepBut ex h' g) : KeepBut ex h g := fun c o hc e => b c o hc (a c o hc e)
theorem keepBut_all {h₀ h h' : Heap} {L : Addr} {m : Str → Option Value} {ex : List Addr} {led : List (Addr × Obj)} (F : Fr h₀ L h' m) (N : News h₀ L h' led) (hk : ∀ b o, h₀.get? b = some o → h.get? b = some o) (hs : ∀ p ∈ allOf h₀ h ex, p ∈ led) : KeepBut ex h h' := fun b o hb e => by
  cases q : h₀.get? b with
  | some o' =>
    have := hk b o' q
    rw [e] at this
    cases this
    exact F.keep b o q
  | none => exact (N _ (hs _ (mem_allOf hb q e))).1

section
variable {prog : Program} {w : World} {A : Around} {E : Value → Shared → Prop} {s : Shared} {env : Env} {h₀ : Heap}

/-- the end of a turn -/
def GEnd (h₀ : Heap) (L : Addr) (mu : List Addr) (own : List (Addr × Obj)) (J : List (Addr × Obj) → (Str → Option Value) → Heap → Prop) (s₁ : Shared) (Qr : Value → Shared → Prop) (Qb : Shared → Prop) (f : Flow) (s₂ : Shared) : Prop :=
  match f with
  | .ret v => Qr v s₂
  | .brk => Qb s₂
  | .next | .cont => ∃ h' tk m' cont led, s₂ = { s₁ with heap := h', toks := tk } ∧ Fr h₀ L h' m' ∧ News h₀ L h' led ∧ (∀ p ∈ own, p ∈ led) ∧ cont.map (·.1) = mu ∧ (∀ p ∈ cont, p ∈ led) ∧ J cont m' h'

theorem GEnd.nx {L : Addr} {mu : List Addr} {own led cont : List (Addr × Obj)} {J : List (Addr × Obj) → (Str → Option Value) → Heap → Prop} {s₁ : Shared} {Qr : Value → Shared → Prop} {Qb : Shared → Prop} {h' : Heap} {tk : Nat} {m' : Str → Option Value}
    (F : Fr h₀ L h' m') (N : News h₀ L h' led) (ho : ∀ p ∈ own, p ∈ led) (hm : cont.map (·.1) = mu) (hc : ∀ p ∈ cont, p ∈ led) (hJ : J cont m' h') : GEnd h₀ L mu own J s₁ Qr Qb .next { s₁ with heap := h', toks := tk } :=
  ⟨h', tk, m', cont, led, rfl, F, N, ho, hm, hc, hJ⟩

theorem codeAny_forLoop_grow {R : Result → Shared → Prop} {x : Str} {px : Pos} {body : List Stmt} {I : Addr} {fp wr mu : List Addr} {n : Nat} {P : Nat → Value → Prop} {St : Nat → Heap → Prop} {m : Str → Option Value} {cont : List (Addr × Obj)}
    (W : Walks prog w A I fp wr n P St) (hal : ∀ i h, St i h → ∀ b ∈ wr, ∃ o, h.get? b = some o) (hx : env.kindOf x = some .local)
    (hp : (env.scope.kind == .class || (env.scope.kind == .module && env.locals != env.globals)) = false)
    (hLf : env.locals ∉ fp) (hmf : ∀ b ∈ mu, b ∉ fp) (hwr : ∀ b ∈ wr, h₀.get? b = none)
    (hst : St 0 s.heap) (F : Fr h₀ env.locals s.heap m) (N : News h₀ env.locals s.heap cont) (hmu : cont.map (·.1) = mu)
    (J : Nat → List (Addr × Obj) → (Str → Option Value) → Heap → Prop) (h0 : J 0 cont m s.heap)
    (mono : ∀ i c m h h', J i c m h → KeepBut (env.locals :: mu ++ wr) h h' → J i c m h')
    (step : ∀ i v m₁ c h tk own, i < n → P i v → J i c m₁ h → c.map (·.1) = mu → OwnOff own mu → (∀ b ∈ wr, ∃ o, h.get? b = some o) →
      Fr h₀ env.locals h (fun y => if y = x then some v else m₁ y) → News h₀ env.locals h (c ++ own) → own = allOf h₀ h (env.locals :: mu) →
      wpAny (model prog w) A (execs body env) (GEnd h₀ env.locals mu own (J (i + 1)) { s with heap := h, toks := tk } (fun v s' => R (.ok (.ret v)) s') fun s' => R (.ok .next) s') (notedBy (model prog w) A env fun e s' => R (.error e) s') { s with heap := h, toks := tk })
    (hR : ∀ h' tk m' c own, Fr h₀ env.locals h' m' → News h₀ env.locals h' (c ++ own) → c.map (·.1) = mu → own = allOf h₀ h' (env.locals :: mu) → J n c m' h' → R (.ok .next) { s with heap := h', toks := tk }) :
    codeAny (model prog w) A (.forLoop (.Name x px) (.ref I) body [] env) R s := by
  have hLw : env.locals ∉ wr := fun h => hLf (W.sub _ h)
  have hmw : ∀ b ∈ mu, b ∉ wr := fun b hb h => hmf b hb (W.sub _ h)
  have old : ∀ b o, h₀.get? b = some o → b ∉ wr := fun b o e hb => by rw [hwr b hb] at e; cases e
  have whole : ∀ {h : Heap} {c : List (Addr × Obj)}, News h₀ env.locals h c → c.map (·.1) = mu → News h₀ env.locals h (c ++ allOf h₀ h (env.locals :: mu)) ∧ OwnOff (allOf h₀ h (env.locals :: mu)) mu := fun {h c} N _ =>
    ⟨N.append (news_allOf (.head _)), fun p hp b hb q => off_allOf p hp (q ▸ .tail _ hb)⟩
  refine codeAny_forLoop
    (fun k s' => ∃ h' tk m' c i, s' = { s with heap := h', toks := tk } ∧ St i h' ∧ Fr h₀ env.locals h' m' ∧ News h₀ env.locals h' c ∧ c.map (·.1) = mu ∧ J i c m' h' ∧ i ≤ n ∧ k = n + 1 - i) ?_ (n + 1)
    ⟨s.heap, s.toks, m, cont, 0, rfl, hst, F, N, hmu, h0, Nat.zero_le _, rfl⟩
  rintro k s' ⟨h', tk, m', c, i, rfl, hst', F', N', hc', hJ, hi, rfl⟩
  have next : ∀ h₁ : Heap, (∀ b o, b ∉ wr → h'.get? b = some o → h₁.get? b = some o) → Fr h₀ env.locals h₁ m' ∧ News h₀ env.locals h₁ c ∧ J i c m' h₁ := fun h₁ hk₁ =>
    ⟨⟨F'.ns.at' fun o e => hk₁ _ o hLw e, fun b o e => hk₁ b o (old b o e) (F'.keep b o e), F'.above⟩, fun p hp => ⟨hk₁ _ _ (hmw _ (hc' ▸ List.mem_map_of_mem hp)) (N' p hp).1, (N' p hp).2⟩,
      mono _ _ _ _ _ hJ fun b o hb e => hk₁ b o (fun q => hb (List.mem_append_right _ q)) e⟩
  by_cases hlt : i < n
  · refine W.item i _ _ _ hlt hst' fun v h₁ tk₁ hP hst₁ hk₁ => ?_
    obtain ⟨F₁, N₁, J₁⟩ := next h₁ hk₁
    refine wpAny_assign_Name (wpAny_storeName_local hx F₁.ns (fun h₂ hn₂ hs₂ => ?_) hp)
    have F₂ := F₁.set hn₂ hs₂
    have N₂ : News h₀ env.locals h₂ c := N₁.set hs₂
    have J₂ : J i c m' h₂ := mono _ _ _ _ _ J₁ fun b o hb e => (hs₂.2 b fun q => hb (q ▸ .head _)).trans e
    have hst₂ : St (i + 1) h₂ := W.frame _ _ _ hst₁ fun b hb o e => (hs₂.2 b fun q => hLf (q ▸ hb)).trans e
    obtain ⟨N₃, off⟩ := whole N₂ hc'
    refine wpAny_mono (step i v m' c h₂ _ _ hlt hP J₂ hc' off (hal _ _ hst₂) F₂ N₃ rfl) (fun f s₃ h₃ => ?_) fun _ _ e => e
    have fin : ∀ s₃, GEnd h₀ env.locals mu (allOf h₀ h₂ (env.locals :: mu)) (J (i + 1)) { s with heap := h₂, toks := tk₁ + 1 } (fun v s' => R (.ok (.ret v)) s') (fun s' => R (.ok .next) s') .next s₃ →
        ∃ k', k' < n + 1 - i ∧ ∃ h' tk m' c i, s₃ = { s with heap := h', toks := tk } ∧ St i h' ∧ Fr h₀ env.locals h' m' ∧ News h₀ env.locals h' c ∧ c.map (·.1) = mu ∧ J i c m' h' ∧ i ≤ n ∧ k' = n + 1 - i := by
      rintro s₃ ⟨h₃', tk₃, m₃, c₃, led, rfl, F₃, N₃, ho, hc₃, hl, hJ₃⟩
      refine ⟨n + 1 - (i + 1), by omega, h₃', tk₃, m₃, c₃, i + 1, rfl, ?_, F₃, fun p hp => N₃ p (hl p hp), hc₃, hJ₃, hlt, rfl⟩
      refine W.frame _ _ _ hst₂ fun b hb o e => keepBut_all F₃ N₃ F₂.keep ho b o (fun q => ?_) e
      rcases List.mem_cons.mp q with rfl | q
      · exact hLf hb
      · exact hmf b q hb
    cases f with
    | ret v => exact h₃
    | brk => exact h₃
    | cont => exact fin s₃ h₃
    | next => exact fin s₃ h₃
  · have hin : i = n := by omega
    subst hin
    refine W.done _ _ _ hst' fun h₁ tk₁ hk₁ => wpAny_execs_nil ?_
    obtain ⟨F₁, N₁, J₁⟩ := next h₁ hk₁
    exact hR h₁ tk₁ m' c _ F₁ (whole N₁ hc').1 hc' rfl J₁

def GrowAt (prog : Program) (w : World) (A : Around) (h₀ : Heap) (env : Env) (x : Str) (body : List Stmt) (Q : Flow → Shared → Prop) (E : Value → Shared → Prop) (it : Value) (s : Shared) : Prop :=
  ∃ (I : Addr) (fp wr mu : List Addr) (n : Nat) (P : Nat → Value → Prop) (St : Nat → Heap → Prop) (m : Str → Option Value) (cont : List (Addr × Obj)) (J : Nat → List (Addr × Obj) → (Str → Option Value) → Heap → Prop),
    it = .ref I ∧ Walks prog w A I fp wr n P St ∧ (∀ i h, St i h → ∀ b ∈ wr, ∃ o, h.get? b = some o) ∧ env.locals ∉ fp ∧ (∀ b ∈ mu, b ∉ fp) ∧ (∀ b ∈ wr, h₀.get? b = none) ∧ St 0 s.heap ∧ Fr h₀ env.locals s.heap m ∧ News h₀ env.locals s.heap cont ∧ cont.map (·.1) = mu ∧
    J 0 cont m s.heap ∧ (∀ i c m h h', J i c m h → KeepBut (env.locals :: mu ++ wr) h h' → J i c m h') ∧
    (∀ i v m₁ c h tk own, i < n → P i v → J i c m₁ h → c.map (·.1) = mu → OwnOff own mu → (∀ b ∈ wr, ∃ o, h.get? b = some o) →
      Fr h₀ env.locals h (fun y => if y = x then some v else m₁ y) → News h₀ env.locals h (c ++ own) → own = allOf h₀ h (env.locals :: mu) →
      wpAny (model prog w) A (execs body env) (GEnd h₀ env.locals mu own (J (i + 1)) { s with heap := h, toks := tk } (fun v s' => Q (.ret v) s') fun s' => Q .next s') E { s with heap := h, toks := tk }) ∧
    ∀ h' tk m' c own, Fr h₀ env.locals h' m' → News h₀ env.locals h' (c ++ own) → c.map (·.1) = mu → own = allOf h₀ h' (env.locals :: mu) → J n c m' h' → Q .next { s with heap := h', toks := tk }

theorem For_grow {Q : Flow → Shared → Prop} {x : Str} {px pos : Pos} {iter : Expr} {body : List Stmt} (h₀ : Heap) (hx : env.kindOf x = some .local)
    (hp : (env.scope.kind == .class || (env.scope.kind == .module && env.locals != env.globals)) = false)
    (h : wpAny (model prog w) A (eval iter env) (fun xv s₁ => wpAny (model prog w) A (pyIter xv) (fun it s₂ => GrowAt prog w A h₀ env x body Q E it s₂) E s₁) E s)
    (hs : ∀ x, foldedSetIterable iter env x = pure x)
    (hE : PassesOwn (model prog w) A env E) :
    wpAny (model prog w) A (exec (.For (.Name x px) iter body [] pos) env) Q E s := by
  refine wpAny_For (wpAny_mono h (fun xv s₁ h₁ => wpAny_mono h₁ (fun it s₂ h₂ => ?_) fun _ _ e => e) fun _ _ e => e) hs
  obtain ⟨I, fp, wr, mu, n, P, St, m, cont, J, rfl, W, hal, hLf, hmf, hwr, hst, F, N, hmu, h0, mono, step, hQ⟩ := h₂
  exact codeAny_forLoop_grow (R := fun r s' => match r with | .ok f => Q f s' | .error e => cameBackBy (model prog w) A env E e s') W hal hx hp hLf hmf hwr hst F N hmu J h0 mono (by intros; exact wpAny_passesOwn hE (by apply step <;> assumption)) hQ

theorem noExc_passes {M : Model} {A : Around} {env : Env} : PassesOwn M A env noExc := by
  unfold noExc
  passes_own
theorem list_ne {h h₀ : Heap} {L l : Addr} {m : Str → Option Value} {items : Array Value} (F : Fr h₀ L h m) (hl : h.IsList l items) : l ≠ L := by
  rintro rfl
  obtain ⟨o, es, ep, ho, hd, _⟩ := F.ns
  obtain ⟨o', ho', hd'⟩ := hl
  rw [ho] at ho'
  cases ho'
  simp [hd] at hd'

theorem grow_list {Q : Flow → Shared → Prop} {x : Str} {body : List Stmt} {l : Addr} {items : Array Value} {mu : List Addr} {m : Str → Option Value} {cont : List (Addr × Obj)} (J : Nat → List (Addr × Obj) → (Str → Option Value) → Heap → Prop)
    (hh : A.handled = none) (hl : s.heap.IsList l items) (hlm : l ∉ mu) (F : Fr h₀ env.locals s.heap m) (N : News h₀ env.locals s.heap cont) (hmu : cont.map (·.1) = mu) (h0 : J 0 cont m s.heap)
    (mono : ∀ i c m h h', J i c m h → KeepBut (env.locals :: mu ++ [s.heap.objs.size]) h h' → J i c m h')
    (step : ∀ i v m₁ c h tk own, items[i]? = some v → J i c m₁ h → c.map (·.1) = mu → OwnOff own mu → (∃ o, h.get? s.heap.objs.size = some o) →
      Fr h₀ env.locals h (fun y => if y = x then some v else m₁ y) → News h₀ env.locals h (c ++ own) → own = allOf h₀ h (env.locals :: mu) →
      wpAny (model prog w) A (execs body env) (GEnd h₀ env.locals mu own (J (i + 1)) { s with heap := h, toks := tk } (fun v s' => Q (.ret v) s') fun s' => Q .next s') E { s with heap := h, toks := tk })
    (done : ∀ h' tk m' c own, Fr h₀ env.locals h' m' → News h₀ env.locals h' (c ++ own) → c.map (·.1) = mu → own = allOf h₀ h' (env.locals :: mu) → J items.size c m' h' → Q .next { s with heap := h', toks := tk }) :
    wpAny (model prog w) A (pyIter (.ref l)) (fun it s₂ => GrowAt prog w A h₀ env x body Q E it s₂) E s := by
  refine wpAny_pyIter_list hl ?_
  obtain ⟨o, ho, hd⟩ := hl
  have hlt := Heap.lt_size ho
  have hmlt : ∀ b ∈ mu, b < s.heap.objs.size := fun b hb => by
    subst hmu
    obtain ⟨p, hp, rfl⟩ := List.mem_map.mp hb
    exact Heap.lt_size (N p hp).1
  refine ⟨_, _, _, mu, _, _, _, m, cont, J, rfl, Walks.list hh s.heap.objs.size l (Nat.ne_of_lt hlt) items, ?hal, ?_, ?_, ?_, ⟨⟨_, Heap.get?_push_size _ rfl, rfl, rfl⟩, ⟨o, Heap.get?_push_of_some _ ho, hd⟩⟩, F.push _, news_ext N fun _ _ e => Heap.get?_push_of_some _ e, hmu, ?_, mono, ?_, ?_⟩
  case hal =>
    rintro i h ⟨⟨o, e, _⟩, _⟩ b hb
    rw [List.mem_singleton.mp hb]
    exact ⟨o, e⟩
  · intro hm
    rcases List.mem_cons.mp hm with q | q
    · exact absurd F.ns.lt (q ▸ Nat.lt_irrefl _)
    · exact list_ne F ⟨o, ho, hd⟩ (List.mem_singleton.mp q).symm
  · intro b hb hm
    rcases List.mem_cons.mp hm with q | q
    · exact absurd (hmlt b hb) (q ▸ Nat.lt_irrefl _)
    · exact hlm (List.mem_singleton.mp q ▸ hb)
  · intro b hb
    rw [List.mem_singleton.mp hb]
    exact next_is_new F
  · exact mono _ _ _ _ _ h0 fun b o _ e => Heap.get?_push_of_some _ e
  · intro i v m₁ c h tk own _ hv hJ hc ho hal
    exact step i v m₁ c h tk own hv hJ hc ho (hal _ (.head _))
  · exact done

theorem grow_range {Q : Flow → Shared → Prop} {x : Str} {body : List Stmt} {r : Addr} {n : Nat} {t u v : Tok} {mu : List Addr} {m : Str → Option Value} {cont : List (Addr × Obj)} (J : Nat → List (Addr × Obj) → (Str → Option Value) → Heap → Prop)
    (hh : A.handled = none) (hr : IsRange s.heap r 0 n 1 t u v) (hn : n ≤ 1000) (F : Fr h₀ env.locals s.heap m) (N : News h₀ env.locals s.heap cont) (hmu : cont.map (·.1) = mu) (h0 : J 0 cont m s.heap)
    (mono : ∀ i c m h h', J i c m h → KeepBut (env.locals :: mu ++ [s.heap.objs.size]) h h' → J i c m h')
    (step : ∀ i t m₁ c h tk own, i < n → J i c m₁ h → c.map (·.1) = mu → OwnOff own mu → (∃ o, h.get? s.heap.objs.size = some o) →
      Fr h₀ env.locals h (fun y => if y = x then some (.int (i : Nat) t) else m₁ y) → News h₀ env.locals h (c ++ own) → own = allOf h₀ h (env.locals :: mu) →
      wpAny (model prog w) A (execs body env) (GEnd h₀ env.locals mu own (J (i + 1)) { s with heap := h, toks := tk } (fun v s' => Q (.ret v) s') fun s' => Q .next s') E { s with heap := h, toks := tk })
    (done : ∀ h' tk m' c own, Fr h₀ env.locals h' m' → News h₀ env.locals h' (c ++ own) → c.map (·.1) = mu → own = allOf h₀ h' (env.locals :: mu) → J n c m' h' → Q .next { s with heap := h', toks := tk }) :
    wpAny (model prog w) A (pyIter (.ref r)) (fun it s₂ => GrowAt prog w A h₀ env x body Q E it s₂) E s := by
  have hsz : Builtin.Range.rangeSize 0 n 1 = (n : Int) := by
    unfold Builtin.Range.rangeSize
    split <;> simp_all <;> omega
  have hsm : Builtin.Range.small 0 n 1 = true := by
    unfold Builtin.Range.small
    rw [hsz]
    simp [Builtin.Range.rangeFitsLong]
    omega
  refine wpAny_pyIter_range hr hsm ?_
  have hmlt : ∀ b ∈ mu, b < s.heap.objs.size := fun b hb => by
    subst hmu
    obtain ⟨p, hp, rfl⟩ := List.mem_map.mp hb
    exact Heap.lt_size (N p hp).1
  refine ⟨_, _, _, mu, _, _, _, m, cont, J, rfl, Walks.range hh s.heap.objs.size 0 1 n, ?hal, ?_, ?_, ?_, (by show IsRangeIter _ _ _ _ _; rw [hsz]; simpa using Heap.get?_push_size _ rfl), F.push _, news_ext N fun _ _ e => Heap.get?_push_of_some _ e, hmu, ?_, mono, ?_, ?_⟩
  case hal =>
    rintro i h e b hb
    rw [List.mem_singleton.mp hb]
    exact ⟨_, e⟩
  · intro hm
    exact absurd F.ns.lt (List.mem_singleton.mp hm ▸ Nat.lt_irrefl _)
  · intro b hb hm
    exact absurd (hmlt b hb) (List.mem_singleton.mp hm ▸ Nat.lt_irrefl _)
  · intro b hb
    rw [List.mem_singleton.mp hb]
    exact next_is_new F
  · exact mono _ _ _ _ _ h0 fun b o _ e => Heap.get?_push_of_some _ e
  · rintro i v m₁ c h tk own hi ⟨t, rfl⟩
    simp only [Int.mul_one, Int.zero_add]
    intro hJ hc ho hal
    exact step i t m₁ c h tk own hi hJ hc ho (hal _ (.head _))
  · exact done
end
end Mine
end

section
open PySem PySem.W PyProof.Rows PySem.Calls
open PySem.Sem (wp)
set_option Elab.async false
set_option maxRecDepth 100000
namespace Mine

/-- the end of an element: its value y meets J -/
def CEnd (B : Heap) (C : Addr) (own : List (Addr × Obj)) (J : Value → Heap → Prop) (s₁ : Shared) (y : Value) (s₂ : Shared) : Prop :=
  ∃ h' tk m' led, s₂ = { s₁ with heap := h', toks := tk } ∧ Fr B C h' m' ∧ News B C h' led ∧ (∀ p ∈ own, p ∈ led) ∧ J y h'
theorem CEnd.mk {B : Heap} {C : Addr} {own led : List (Addr × Obj)} {J : Value → Heap → Prop} {s₁ : Shared} {y : Value} {h' : Heap} {tk : Nat} {m' : Str → Option Value}
    (F : Fr B C h' m') (N : News B C h' led) (ho : ∀ p ∈ own, p ∈ led) (hJ : J y h') : CEnd B C own J s₁ y { s₁ with heap := h', toks := tk } := ⟨h', tk, m', led, rfl, F, N, ho, hJ⟩

section
variable {prog : Program} {w : World} {A : Around} {s : Shared} {env : Env} {B : Heap}

theorem codeAny_compLoop_J {R : Result → Shared → Prop} {elt iter : Expr} {x : Str} {px : Pos} {ifs : List Expr} {scope : Scope} {pos : Pos} {I D : Addr} {fp wr : List Addr} {n : Nat} {P : Nat → Value → Prop} {St : Nat → Heap → Prop}
    {cenv : Env} {m : Str → Option Value} (W : Walks prog w A I fp wr n P St) (hal : ∀ i h, St i h → ∀ b ∈ wr, ∃ o, h.get? b = some o) (hsz : n ≤ sizeLine)
    (hx : cenv.kindOf x = some .local) (hp : (cenv.scope.kind == .class || (cenv.scope.kind == .module && cenv.locals != cenv.globals)) = false)
    (hDC : D ≠ cenv.locals) (hDf : D ∉ fp) (hCf : cenv.locals ∉ fp) (hwr : ∀ b ∈ wr, B.get? b = none) (hDB : B.get? D = none)
    (hst : St 0 s.heap) (hacc : s.heap.PlainList D #[]) (F : Fr B cenv.locals s.heap m)
    (J : Nat → List Value → Heap → Prop) (h0 : J 0 [] s.heap) (mono : ∀ i ys h h', J i ys h → KeepBut (cenv.locals :: D :: wr) h h' → J i ys h')
    (step : ∀ i v ys h tk own (m : Str → Option Value), i < n → P i v → J i ys h → Fr B cenv.locals h (fun y => if y = x then some v else m y) → News B cenv.locals h own → own = allOf B h [cenv.locals] → (∀ b ∈ cenv.locals :: D :: wr, ∃ o, h.get? b = some o) →
      wpAny (model prog w) A (forIn ifs true fun c r => if r = true then do let ok ← isTrue c cenv (eval c cenv); pure (ForInStep.yield ok) else pure (ForInStep.yield r))
        (fun ok s₃ => if ok = true then wpAny (model prog w) A (eval elt cenv) (CEnd B cenv.locals own (fun y h' => J (i + 1) (ys ++ [y]) h') s) noExc s₃ else CEnd B cenv.locals own (fun _ h' => J (i + 1) ys h') s .none s₃) noExc { s with heap := h, toks := tk })
    (hR : ∀ h' tk m' ys, Fr B cenv.locals h' m' → h'.PlainList D ys.toArray → J n ys h' → R (.ok .next) { s with heap := h', toks := tk }) :
    codeAny (model prog w) A (.compLoop (.ListComp elt [⟨.Name x px, iter, ifs, 0⟩] scope pos) 0 (.ref I) (.ref D) cenv) R s := by
  have hCw : cenv.locals ∉ wr := fun h => hCf (W.sub _ h)
  have hDw : D ∉ wr := fun h => hDf (W.sub _ h)
  have old : ∀ b o, B.get? b = some o → b ∉ wr := fun b o e hb => by rw [hwr b hb] at e; cases e
  have oldD : ∀ b o, B.get? b = some o → b ≠ D := fun b o e q => by rw [q, hDB] at e; cases e
  refine codeAny_compLoop_tests
    (fun k s' => ∃ h' tk m' ys i, s' = { s with heap := h', toks := tk } ∧ St i h' ∧ h'.PlainList D ys.toArray ∧ Fr B cenv.locals h' m' ∧ J i ys h' ∧ ys.length ≤ i ∧ i ≤ n ∧ k = n + 1 - i) ?_ (n + 1)
    ⟨s.heap, s.toks, m, [], 0, rfl, hst, hacc, F, h0, Nat.le_refl _, Nat.zero_le _, rfl⟩
  rintro k s' ⟨H, tk, m', ys, i, rfl, hst', hacc', F', hJ, hys, hi, rfl⟩
  have next : ∀ h₁ : Heap, KeepBut wr H h₁ → Fr B cenv.locals h₁ m' ∧ J i ys h₁ ∧ h₁.PlainList D ys.toArray := fun h₁ hk₁ =>
    ⟨⟨F'.ns.at' fun o e => hk₁ _ o hCw e, fun b o e => hk₁ b o (old b o e) (F'.keep b o e), F'.above⟩,
      mono _ _ _ _ hJ fun b o hb e => hk₁ b o (fun q => hb (.tail _ (.tail _ q))) e, hacc'.at fun o e => hk₁ _ o hDw e⟩
  by_cases hlt : i < n
  · refine W.item i _ _ _ hlt hst' fun v h₁ tk₁ hP hst₁ hk₁ => ?_
    obtain ⟨F₁, J₁, a₁⟩ := next h₁ hk₁
    refine wpAny_assign_Name (wpAny_storeName_local hx F₁.ns (fun h₂ hn₂ hs₂ => ?_) hp)
    have F₂ := F₁.set hn₂ hs₂
    have J₂ : J i ys h₂ := mono _ _ _ _ J₁ fun b o hb e => (hs₂.2 b fun q => hb (q ▸ .head _)).trans e
    have a₂ : h₂.PlainList D ys.toArray := a₁.at fun o e => (hs₂.2 D hDC).trans e
    have hst₂ : St (i + 1) h₂ := W.frame _ _ _ hst₁ fun b hb o e => (hs₂.2 b fun q => hCf (q ▸ hb)).trans e
    have alive : ∀ b ∈ cenv.locals :: D :: wr, ∃ o, h₂.get? b = some o := by
      intro b hb
      rcases List.mem_cons.mp hb with rfl | hb
      · obtain ⟨o, _, _, e, _⟩ := F₂.ns
        exact ⟨o, e⟩
      rcases List.mem_cons.mp hb with rfl | hb
      · obtain ⟨_, e⟩ := a₂
        exact ⟨_, e⟩
      · exact hal _ _ hst₂ b hb
    have noE : ∀ e s', noExc e s' → notedBy (model prog w) A cenv (fun e s' => R (.error e) s') e s' := fun _ _ h => h.elim
    refine wpAny_mono (step i v ys h₂ _ _ m' hlt hP J₂ F₂ (news_allOf (.head _)) rfl alive) (fun ok s₃ h₃ => ?_) noE
    cases ok with
    | false =>
      simp only [Bool.false_eq_true, if_false] at h₃ ⊢
      obtain ⟨h₃', tk₃, m₃, led, rfl, F₃, N₃, ho, hJ₃⟩ := h₃
      have kp := keepBut_all F₃ N₃ F₂.keep ho
      refine ⟨n + 1 - (i + 1), by omega, h₃', tk₃, m₃, ys, i + 1, rfl, W.frame _ _ _ hst₂ fun b hb o e => kp b o (fun q => hCf (List.mem_singleton.mp q ▸ hb)) e, a₂.at fun o e => kp D o (fun q => hDC (List.mem_singleton.mp q)) e, F₃, hJ₃, by omega, hlt, rfl⟩
    | true =>
      simp only [if_true] at h₃ ⊢
      refine wpAny_mono h₃ (fun y s₄ h₄ => ?_) noE
      obtain ⟨h₃', tk₃, m₃, led, rfl, F₃, N₃, ho, hJ₃⟩ := h₄
      have kp := keepBut_all F₃ N₃ F₂.keep ho
      have a₃ : h₃'.PlainList D ys.toArray := a₂.at fun o e => kp D o (fun q => hDC (List.mem_singleton.mp q)) e
      refine wpAny_list_append_plain (hsz := by simp; omega) a₃ fun h₅ hl₅ hs₅ => ?_
      refine ⟨n + 1 - (i + 1), by omega, h₅, tk₃, m₃, ys ++ [y], i + 1, rfl, W.frame _ _ _ hst₂ fun b hb o e => (hs₅.2 b fun q => hDf (q ▸ hb)).trans (kp b o (fun q => hCf (List.mem_singleton.mp q ▸ hb)) e), ?_,
        ⟨F₃.ns.sameBut hs₅ (Ne.symm hDC), fun b o e => (hs₅.2 b (oldD b o e)).trans (F₃.keep b o e), F₃.above⟩, mono _ _ _ _ hJ₃ fun b o hb e => (hs₅.2 b fun q => hb (q ▸ .tail _ (.head _))).trans e, by simp; omega, hlt, rfl⟩
      have : ys.toArray.push y = (ys ++ [y]).toArray := by simp
      exact this ▸ hl₅
  · have hin : i = n := by omega
    subst hin
    refine W.done _ _ _ hst' fun h₁ tk₁ hk₁ => ?_
    obtain ⟨F₁, J₁, a₁⟩ := next h₁ hk₁
    exact hR h₁ tk₁ m' ys F₁ a₁ J₁

/-- what a comprehension asks where its source's iterator stands; ch: what the use of the list changes -/
def CompAt (prog : Program) (w : World) (A : Around) (env : Env) (elt : Expr) (x : Str) (ifs : List Expr) (scope : Scope) (cl : List (Str × Addr)) (ch : List Addr) (Q : Value → Shared → Prop) (it : Value) (s₂ : Shared) : Prop :=
  ∃ (I : Addr) (fp wr : List Addr) (n : Nat) (P : Nat → Value → Prop) (St : Nat → Heap → Prop) (B : Heap) (J : List Addr → Nat → List Value → Heap → Prop),
    it = .ref I ∧ Walks prog w A I fp wr n P St ∧ (∀ i h, St i h → ∀ b ∈ wr, ∃ o, h.get? b = some o) ∧ n ≤ sizeLine ∧ St 0 s₂.heap ∧ (∀ b ∈ fp, b < s₂.heap.objs.size) ∧
    (∀ b ∈ wr, B.get? b = none) ∧ B.objs.size ≤ s₂.heap.objs.size ∧ Ext B s₂.heap ∧ (∀ b ∈ ch, ∃ o, B.get? b = some o) ∧
    (∀ ex h, J ex 0 [] h) ∧ (∀ ex i ys h h', J ex i ys h → KeepBut ex h h' → J ex i ys h') ∧
    (∀ C ex i v ys h tk own (m : Str → Option Value), i < n → P i v → J ex i ys h → Fr B C h (fun y => if y = x then some v else m y) → News B C h own → own = allOf B h [C] → (∀ b ∈ ex, ∃ o, h.get? b = some o) →
      wpAny (model prog w) A (forIn ifs true fun c r => if r = true then do let ok ← isTrue c (compEnvC scope cl C env) (eval c (compEnvC scope cl C env)); pure (ForInStep.yield ok) else pure (ForInStep.yield r))
        (fun ok s₃ => if ok = true then wpAny (model prog w) A (eval elt (compEnvC scope cl C env)) (CEnd B C own (fun y h' => J ex (i + 1) (ys ++ [y]) h') s₂) noExc s₃ else CEnd B C own (fun _ h' => J ex (i + 1) ys h') s₂ .none s₃) noExc { s₂ with heap := h, toks := tk }) ∧
    ∀ D ex h' tk ys, s₂.heap.get? D = none → D ∈ ex → h'.PlainList D ys.toArray → J ex n ys h' → KeepBut ch B h' → B.get? D = none → Q (.ref D) { s₂ with heap := h', toks := tk }

theorem comp_block_J {elt iter : Expr} {x : Str} {px : Pos} {ifs : List Expr} {scope : Scope} {cl : List (Str × Addr)} {ch : List Addr} {pos : Pos} {s₂ : Shared} {it : Value} {Q : Value → Shared → Prop} {RR : Value → Addr → Result → Shared → Prop}
    (hcell : ∀ y ∈ scope.names, y.2 ≠ .cell) (hkind : scope.kind = .function) (hx : scope.names.lookup x = some .local) (hq : CompAt prog w A env elt x ifs scope cl ch Q it s₂)
    (hRR : ∀ D C h' tk m', s₂.heap.get? D = none → s₂.heap.get? C = none → D ≠ C → h'.Ns C m' → (∀ b ∈ ch, ∃ o, s₂.heap.get? b = some o ∧ h'.get? b = some o) →
      (∀ h'' tk, KeepBut (C :: ch) h' h'' → Q (.ref D) { s₂ with heap := h'', toks := tk }) → RR (.ref D) C (.ok .next) { s₂ with heap := h', toks := tk }) :
    wpAny (model prog w) A (newList []) (fun acc s₃ => wpAny (model prog w) A (newFunctionEnv scope env.globals cl [] env.qual none .none (some env)) (fun cenv s₄ =>
      codeAny (model prog w) A (.compStart (.ListComp elt [⟨.Name x px, iter, ifs, 0⟩] scope pos) 0 it acc { cenv with scope := relabel scope env }) (RR acc cenv.locals) s₄) noExc s₃) noExc s₂ := by
  obtain ⟨I, fp, wr, n, P, St, B, J, rfl, W, hal, hsz, hst, hfp, hwr, hBs, hB, hch, h0, mono, step, fin⟩ := hq
  refine wpAny_newObj_type (wpAny_newFunctionEnv hcell (by intro y hy; simp at hy) (fun h₁ hns₁ hsb₁ => ?_) hkind)
  dsimp only at hns₁ hsb₁ ⊢
  generalize hH2 : s₂.heap.push { cls := .type "list", dict := none, data := .seq ([] : List Value).toArray } = H2 at hns₁ hsb₁ ⊢
  have hC : H2.objs.size = s₂.heap.objs.size + 1 := by rw [← hH2, Heap.size_push]
  have hDC : s₂.heap.objs.size ≠ H2.objs.size := by rw [hC]; exact Nat.ne_of_lt (Nat.lt_succ_self _)
  have below : ∀ b, b < s₂.heap.objs.size → b ≠ H2.objs.size ∧ b ≠ s₂.heap.objs.size := fun b hb => ⟨by rw [hC]; exact Nat.ne_of_lt (Nat.lt_succ_of_lt hb), Nat.ne_of_lt hb⟩
  have hDf : s₂.heap.objs.size ∉ fp := fun hm => Nat.lt_irrefl _ (hfp _ hm)
  have hCf : H2.objs.size ∉ fp := fun hm => by have := hfp _ hm; rw [hC] at this; exact Nat.lt_irrefl _ (Nat.lt_of_succ_lt this)
  have old : ∀ b o, s₂.heap.get? b = some o → h₁.get? b = some o := fun b o e => hsb₁.extBut b o (below b (Heap.lt_size e)).1 (Heap.get?_push_of_some _ (hH2 ▸ Heap.get?_push_of_some _ e))
  have hacc : h₁.PlainList s₂.heap.objs.size #[] := ⟨_, hsb₁.extBut _ _ hDC (Heap.get?_push_of_some _ (hH2 ▸ Heap.get?_push_size _ rfl))⟩
  have hst₁ : St 0 h₁ := W.frame _ _ _ hst fun b _ o e => old b o e
  have fresh : ∀ a, s₂.heap.objs.size ≤ a → s₂.heap.get? a = none := fun a ha => by
    cases e : s₂.heap.get? a with
    | none => rfl
    | some o' => exact absurd (Heap.lt_size e) (Nat.not_lt.mpr ha)
  have freshB : ∀ a, s₂.heap.objs.size ≤ a → B.get? a = none := fun a ha => by
    cases e : B.get? a with
    | none => rfl
    | some o' => have := hB _ _ e; rw [fresh a ha] at this; cases this
  have hCn : B.get? H2.objs.size = none := freshB _ (by rw [hC]; exact Nat.le_succ _)
  have hDn : B.get? s₂.heap.objs.size = none := freshB _ (Nat.le_refl _)
  have loop : ∀ s₃ : Shared, s₃ = { s₂ with heap := h₁, toks := s₂.toks + ([] : List (Str × Value)).length } →
      codeAny (model prog w) A (.compLoop (.ListComp elt [⟨.Name x px, iter, ifs, 0⟩] scope pos) 0 (.ref I) (.ref s₂.heap.objs.size) (compEnvC scope cl H2.objs.size env))
        (RR (.ref s₂.heap.objs.size) H2.objs.size) s₃ := by
    rintro s₃ rfl
    refine codeAny_compLoop_J (B := B) (cenv := compEnvC scope cl H2.objs.size env) W hal hsz (lookup_relabel_local hx) (by simp [compEnvC, relabel, hkind]) hDC hDf hCf hwr hDn hst₁ hacc
      ⟨hns₁, fun b o e => old b o (hB b o e), by show _ ≤ H2.objs.size; omega⟩ (J (H2.objs.size :: s₂.heap.objs.size :: wr ++ ch)) (h0 _ _) (fun i ys h h' hJ k => mono _ _ _ _ _ hJ fun b o hb e => k b o (fun q => hb (List.mem_append_left ch q)) e)
      (fun i v ys h tk own m hi hP hJ F N ho al => step _ _ i v ys h tk own m hi hP hJ F N ho fun b hb => ?_) fun h' tk m' ys F hl hJ => ?_
    · rcases (List.mem_append (s := H2.objs.size :: s₂.heap.objs.size :: wr)).mp hb with hb | hb
      · exact al b hb
      · obtain ⟨o, e⟩ := hch b hb
        exact ⟨o, F.keep b o e⟩
    refine hRR _ _ h' tk m' (fresh _ (Nat.le_refl _)) (fresh _ (by rw [hC]; exact Nat.le_succ _)) hDC F.ns (fun b hb => let ⟨o, e⟩ := hch b hb; ⟨o, hB b o e, F.keep b o e⟩) fun h'' tk' hs => ?_
    have hDch : s₂.heap.objs.size ∉ ch := fun hm => by
      obtain ⟨o, e⟩ := hch _ hm
      rw [hDn] at e; cases e
    refine fin _ (H2.objs.size :: s₂.heap.objs.size :: wr ++ ch) h'' tk' ys (fresh _ (Nat.le_refl _)) (.tail _ (.head _)) (hl.at fun o e => hs _ o (fun q => ?_) e)
      (mono _ _ _ _ _ hJ fun b o hb e => hs b o (fun q => hb ?_) e) (fun b o hb e => hs b o (fun q => ?_) (F.keep b o e)) hDn
    · rcases List.mem_cons.mp q with q | q
      · exact hDC q
      · exact hDch q
    · rcases List.mem_cons.mp q with q | q
      · exact q ▸ .head _
      · exact List.mem_append_right _ q
    · rcases List.mem_cons.mp q with q | q
      · rw [q, hCn] at e; cases e
      · exact hb q
  exact codeAny_compStart_list (loop _ rfl) (W.self 0 _ _ _ hst₁ (loop _ rfl))

theorem ListComp_J {E : Value → Shared → Prop} {elt iter : Expr} {x : Str} {px : Pos} {ifs : List Expr} {scope : Scope} {cl : List (Str × Addr)} {pos : Pos} {Q : Value → Shared → Prop}
    (hclos : closureFor scope env = pure cl) (hcell : ∀ y ∈ scope.names, y.2 ≠ .cell) (hkind : scope.kind = .function)
    (hnames : ∀ y ∈ scope.names, y.2 = .local → scope.names.lookup y.1 = some .local) (hx : scope.names.lookup x = some .local)
    (h : wpAny (model prog w) A (eval iter env) (fun xv s₁ => wpAny (model prog w) A (pyIter xv) (CompAt prog w A env elt x ifs scope cl [] Q) E s₁) E s)
    (hs : ∀ x, foldedSetIterable iter env x = pure x) :
    wpAny (model prog w) A (eval (.ListComp elt [⟨.Name x px, iter, ifs, 0⟩] scope pos) env) Q E s := by
  rw [eval_ListComp]
  refine wpAny_comprehension_free (use := none) rfl hs hclos hkind hnames (wpAny_mono h (fun xv s₁ h₁ => wpAny_mono h₁ (fun it s₂ h₂ => ?_) fun _ _ e => e) fun _ _ e => e)
  refine wpAny_mono (comp_block_J (RR := fun acc C => compPost (model prog w) A E none Q acc C) hcell hkind hx h₂ ?_) (fun _ _ h => wpAny_mono h (fun _ _ h => h) fun _ _ e => e.elim) fun _ _ e => e.elim
  intro D C h' tk m' hD hC hDC hn _ hQ
  exact ⟨m', hn, fun h'' hs'' => hQ h'' _ fun b o hb e => hs''.extBut b o (fun q => hb (q ▸ .head _)) e⟩

theorem Assign_ListComp_J {E : Value → Shared → Prop} {elt iter : Expr} {x y : Str} {px py : Pos} {ifs : List Expr} {scope : Scope} {cl : List (Str × Addr)} {pos spos : Pos} {Q : Flow → Shared → Prop}
    (hsw : swapsWith (.ListComp elt [⟨.Name x px, iter, ifs, 0⟩] scope pos) (some (.Name y py)) spos.line env = pure true)
    (hclos : closureFor scope env = pure cl) (hcell : ∀ y ∈ scope.names, y.2 ≠ .cell) (hkind : scope.kind = .function)
    (hnames : ∀ y ∈ scope.names, y.2 = .local → scope.names.lookup y.1 = some .local) (hx : scope.names.lookup x = some .local)
    (hy : env.kindOf y = some .local) (hp : (env.scope.kind == .class || (env.scope.kind == .module && env.locals != env.globals)) = false)
    (h : wpAny (model prog w) A (eval iter env) (fun xv s₁ => wpAny (model prog w) A (pyIter xv) (fun it s₂ => ∃ m, s₂.heap.Ns env.locals m ∧
      CompAt prog w A env elt x ifs scope cl [env.locals] (fun v s' => s'.heap.Ns env.locals (fun z => if z = y then some v else m z) → Q .next s') it s₂) E s₁) E s)
    (hs : ∀ x, foldedSetIterable iter env x = pure x) :
    wpAny (model prog w) A (exec (.Assign [.Name y py] (.ListComp elt [⟨.Name x px, iter, ifs, 0⟩] scope pos) spos) env) Q E s := by
  rw [exec_Assign_Name_used _ _ _ _ hsw]
  refine wpAny_bind (wpAny_standAt (wpAny_bind ?_))
  show wpAny _ A (do let _ ← comprehension (.ListComp elt [⟨.Name x px, iter, ifs, 0⟩] scope pos) scope env _ (newList []) false (eval iter env) (some (assign (.Name y py) env))) _ _ s
  refine wpAny_bind (wpAny_mono (wpAny_comprehension_free (use := some (assign (.Name y py) env)) (Q := fun _ s' => Q .next s') rfl hs hclos hkind hnames
    (wpAny_mono h (fun xv s₁ h₁ => wpAny_mono h₁ (fun it s₂ h₂ => ?_) fun _ _ e => e) fun _ _ e => e)) (fun _ s' hq => wpAny_pure (wpAny_pure hq)) fun _ _ e => e)
  obtain ⟨m, hn, h₂⟩ := h₂
  refine wpAny_mono (comp_block_J (RR := fun acc C => compPost (model prog w) A E (some (assign (.Name y py) env)) (fun _ s' => Q .next s') acc C) hcell hkind hx h₂ ?_) (fun _ _ h => wpAny_mono h (fun _ _ h => h) fun _ _ e => e.elim) fun _ _ e => e.elim
  intro D C h' tk m' hD hC hDC hnC hkeep hQ
  obtain ⟨oL, eL, eL'⟩ := hkeep _ (.head _)
  have hLC : env.locals ≠ C := by rintro q; rw [q, hC] at eL; cases eL
  show wpAny _ A (assign (.Name y py) env (.ref D)) _ _ _
  refine wpAny_assign_Name (wpAny_storeName_local hy (hn.at' fun o e => (Option.some.inj (eL.symm.trans e)) ▸ eL') (fun h₂ hn₂ hs₂ => ?_) hp)
  refine ⟨m', hnC.sameBut hs₂ (Ne.symm hLC), fun h₃ hs₃ => ?_⟩
  refine hQ h₃ _ (fun b o hb e => hs₃.extBut b o (fun q => hb (q ▸ .head _)) ((hs₂.2 b fun q => hb (q ▸ .tail _ (.head _))).trans e)) (hn₂.sameBut hs₃ hLC)

section
variable {E : Value → Shared → Prop} {elt : Expr} {x : Str} {ifs : List Expr} {scope : Scope} {cl : List (Str × Addr)} {ch : List Addr} {Q : Value → Shared → Prop}
theorem comp_range {r : Addr} {n : Nat} {t u v : Tok} (J : List Addr → Nat → List Value → Heap → Prop) (hh : A.handled = none) (hr : IsRange s.heap r 0 n 1 t u v) (hn : n ≤ 1000) (hch : ∀ b ∈ ch, ∃ o, s.heap.get? b = some o)
    (h0 : ∀ ex h, J ex 0 [] h) (mono : ∀ ex i ys h h', J ex i ys h → KeepBut ex h h' → J ex i ys h')
    (step : ∀ C ex i t ys h tk own (m : Str → Option Value), i < n → J ex i ys h → Fr s.heap C h (fun y => if y = x then some (.int (i : Nat) t) else m y) → News s.heap C h own → own = allOf s.heap h [C] → (∀ b ∈ ex, ∃ o, h.get? b = some o) →
      wpAny (model prog w) A (forIn ifs true fun c r => if r = true then do let ok ← isTrue c (compEnvC scope cl C env) (eval c (compEnvC scope cl C env)); pure (ForInStep.yield ok) else pure (ForInStep.yield r))
        (fun ok s₃ => if ok = true then wpAny (model prog w) A (eval elt (compEnvC scope cl C env)) (CEnd s.heap C own (fun y h' => J ex (i + 1) (ys ++ [y]) h') s) noExc s₃ else CEnd s.heap C own (fun _ h' => J ex (i + 1) ys h') s .none s₃) noExc { s with heap := h, toks := tk })
    (fin : ∀ D ex h' tk ys, s.heap.get? D = none → D ∈ ex → h'.PlainList D ys.toArray → J ex n ys h' → KeepBut ch s.heap h' → Q (.ref D) { s with heap := h', toks := tk }) :
    wpAny (model prog w) A (pyIter (.ref r)) (CompAt prog w A env elt x ifs scope cl ch Q) E s := by
  have hsz : Builtin.Range.rangeSize 0 n 1 = (n : Int) := by
    unfold Builtin.Range.rangeSize
    split <;> simp_all <;> omega
  have hsm : Builtin.Range.small 0 n 1 = true := by
    unfold Builtin.Range.small
    rw [hsz]
    simp [Builtin.Range.rangeFitsLong]
    omega
  refine wpAny_pyIter_range hr hsm ?_
  have hI : s.heap.get? s.heap.objs.size = none := Heap.get?_none_of_le (Nat.le_refl _)
  refine ⟨_, _, _, _, _, _, s.heap, J, rfl, Walks.range hh s.heap.objs.size 0 1 n, ?_, ?_, (by show IsRangeIter _ _ _ _ _; rw [hsz]; simpa using Heap.get?_push_size _ rfl), ?_, ?_, (by rw [Heap.size_push]; omega), fun _ _ e => Heap.get?_push_of_some _ e, hch, h0, mono, ?_, ?_⟩
  · rintro i h e b hb
    rw [List.mem_singleton.mp hb]
    exact ⟨_, e⟩
  · exact Nat.le_trans hn (by decide)
  · intro b hb
    rw [List.mem_singleton.mp hb, Heap.size_push]
    exact Nat.lt_succ_self _
  · intro b hb
    rw [List.mem_singleton.mp hb]
    exact hI
  · rintro C ex i v ys h tk own m hi ⟨t, rfl⟩
    simp only [Int.mul_one, Int.zero_add]
    exact step C ex i t ys h tk own m hi
  · intro D ex h' tk ys _ hD hl hJ hk hn
    exact fin D ex h' tk ys hn hD hl hJ hk

theorem comp_list {l : Addr} {items : Array Value} (J : List Addr → Nat → List Value → Heap → Prop) (hh : A.handled = none) (hl : s.heap.IsList l items) (hn : items.size ≤ 1000) (hch : ∀ b ∈ ch, ∃ o, s.heap.get? b = some o)
    (h0 : ∀ ex h, J ex 0 [] h) (mono : ∀ ex i ys h h', J ex i ys h → KeepBut ex h h' → J ex i ys h')
    (step : ∀ C ex i v ys h tk own (m : Str → Option Value), items[i]? = some v → J ex i ys h → Fr s.heap C h (fun y => if y = x then some v else m y) → News s.heap C h own → own = allOf s.heap h [C] → (∀ b ∈ ex, ∃ o, h.get? b = some o) →
      wpAny (model prog w) A (forIn ifs true fun c r => if r = true then do let ok ← isTrue c (compEnvC scope cl C env) (eval c (compEnvC scope cl C env)); pure (ForInStep.yield ok) else pure (ForInStep.yield r))
        (fun ok s₃ => if ok = true then wpAny (model prog w) A (eval elt (compEnvC scope cl C env)) (CEnd s.heap C own (fun y h' => J ex (i + 1) (ys ++ [y]) h') s) noExc s₃ else CEnd s.heap C own (fun _ h' => J ex (i + 1) ys h') s .none s₃) noExc { s with heap := h, toks := tk })
    (fin : ∀ D ex h' tk ys, s.heap.get? D = none → D ∈ ex → h'.PlainList D ys.toArray → J ex items.size ys h' → KeepBut ch s.heap h' → Q (.ref D) { s with heap := h', toks := tk }) :
    wpAny (model prog w) A (pyIter (.ref l)) (CompAt prog w A env elt x ifs scope cl ch Q) E s := by
  refine wpAny_pyIter_list hl ?_
  obtain ⟨o, ho, hd⟩ := hl
  have hlt := Heap.lt_size ho
  have hI : s.heap.get? s.heap.objs.size = none := Heap.get?_none_of_le (Nat.le_refl _)
  refine ⟨_, _, _, _, _, _, s.heap, J, rfl, Walks.list hh s.heap.objs.size l (Nat.ne_of_lt hlt) items, ?_, ?_, ⟨⟨_, Heap.get?_push_size _ rfl, rfl, rfl⟩, ⟨o, Heap.get?_push_of_some _ ho, hd⟩⟩, ?_, ?_, (by rw [Heap.size_push]; omega), fun _ _ e => Heap.get?_push_of_some _ e, hch, h0, mono, ?_, ?_⟩
  · rintro i h ⟨⟨o, e, _⟩, _⟩ b hb
    rw [List.mem_singleton.mp hb]
    exact ⟨o, e⟩
  · exact Nat.le_trans hn (by decide)
  · intro b hb
    rw [Heap.size_push]
    rcases List.mem_cons.mp hb with q | q
    · exact q ▸ Nat.lt_succ_self _
    · exact List.mem_singleton.mp q ▸ Nat.lt_succ_of_lt hlt
  · intro b hb
    rw [List.mem_singleton.mp hb]
    exact hI
  · rintro C ex i v ys h tk own m _ hv
    exact step C ex i v ys h tk own m hv
  · intro D ex h' tk ys _ hD hl hJ hk hn
    exact fin D ex h' tk ys hn hD hl hJ hk
end
end
end Mine
end

section
open PySem PySem.W PyProof.Rows PySem.Calls
set_option Elab.async false
set_option maxRecDepth 100000
namespace Mine
section
variable {prog : Program} {w : World} {A : Around} {s : Shared} {K : Frag} {p : Program} {loose : List Str} {mean : ExcName → Option Value} {mg mb : Str → Option Value}
/-- a def whose names are captured (cells) is called -/
theorem enterC {E : Value → Shared → Prop} {P : Value → Shared → Prop} {name qual : Str} {params : Arguments} {body : List Stmt} {scope : Scope} {dV kV doc pm cdv ct oc : Value} {an od : Option Addr} {osl : Array (Option Value)} {f : Addr} {pos : List Value} {kw : List (Str × Value)} {binds : List (Str × Value)}
    (X : K.In s.heap) (T : Top p loose mean mg mb s.heap)
    (ho : K.lookup f = some ⟨oc, od, .func (fnOf name qual params body scope dV kV doc pm an cdv ct), osl⟩) (hcd : codeIn K cdv qual = true) (hroom : A.depth < recursionLimit)
    (hbind : BindsTo s (fnOf name qual params body scope dV kV doc pm an cdv ct) ⟨pos, kw⟩ binds)
    (hkind : ∀ n, ∀ x ∈ binds, scope.names.lookup x.1 = some .local ∨ (scope.names.lookup x.1 = some .cell ∧ ((cellsFrom n scope.names []).lookup x.1).isSome = true))
    (hnd : ((cellsFrom 0 scope.names []).map (·.1)).Nodup)
    (h : ∀ h₁ tk cells, Fr s.heap s.heap.objs.size h₁ (bindL (envOfC qual scope s.heap.objs.size f cdv).kindOf binds fun _ => none) → News s.heap s.heap.objs.size h₁ cells →
      CellsAre (bindC (envOfC qual scope s.heap.objs.size f cdv).kindOf binds fun _ => none) (cellsFrom (s.heap.objs.size + 1) scope.names []) cells →
      wpAny (model prog w) (A.deeper (envOfC qual scope s.heap.objs.size f cdv)) (execs body (envOfC qual scope s.heap.objs.size f cdv)) (RetP P) noExc { s with heap := h₁, toks := tk })
    (hco : scope.isCoroutine = false) (hgen : scope.isGenerator = false) (hk : scope.kind = .function) : wpAny (model prog w) A (call (.ref f) pos kw) P E s := by
  refine wpAny_call (codeAny_call_function (fd := fnOf name qual params body scope dV kV doc pm an cdv ct) (body := body) hroom (X _ _ ho) rfl hco hgen rfl (codeRec_of X hcd) (hbind _ _ _ _ ?_))
  refine wpAny_newFunctionEnv_cells hk (hkind _) fun env' he s' x => ?_
  subst he
  refine ⟨T.nolimit.keeps x.toInCall.keep, codeAny_func ?_⟩
  obtain ⟨h₁, tk, rfl, _⟩ := x.done
  obtain ⟨cells, NC, Y⟩ := Cl.news (h₀ := s.heap) (Nat.le_refl _) fun n c hm => ⟨x.cell n c (lookup_of_mem_nodup (cellsFrom_names scope.names 0 (s.heap.objs.size + 1) [] [] rfl ▸ hnd) hm), x.above n c hm⟩
  exact wpAny_mono (h h₁ tk cells ⟨x.toInCall.ns, x.toInCall.keep, Nat.le_refl _⟩ NC Y) (fun _ _ q => q) fun _ _ q => q.elim
end
/-- the kinds of the bound names, by evaluation -/
theorem kinds_by {scope : Scope} {binds : List (Str × Value)} (e : (binds.all fun y => scope.names.lookup y.1 == some .local || scope.names.lookup y.1 == some .cell) = true) :
    ∀ n, ∀ x ∈ binds, scope.names.lookup x.1 = some .local ∨ (scope.names.lookup x.1 = some .cell ∧ ((cellsFrom n scope.names []).lookup x.1).isSome = true) := kindsX e
end Mine
end

section
open PySem PySem.W PyProof.Rows PySem.Calls
set_option Elab.async false
set_option maxRecDepth 100000
set_option maxHeartbeats 100000000
namespace Mine
section
variable {M : Model} {A : Around} {E : Value → Shared → Prop} {s : Shared} {h₀ : Heap} {L : Addr} {m : Str → Option Value} {env : Env}
theorem nameG_B {K : Frag} {mg mb : Str → Option Value} {p : Program} {loose : List Str} {mean : ExcName → Option Value} {x : Str} {pos : Pos} {v : Value} {Q : Value → Shared → Prop} (F : Fr h₀ L s.heap m) (X : K.In h₀) (T : Top p loose mean mg mb h₀)
    (e : nsIn K mainGlobals x = some none) (hv : bootBuiltins x = some v) (hn : x ≠ "__name__") (h : Q v s) (hg : env.globals = mainGlobals) (hb : env.builtins = builtinsNs) (hk : env.scope.kind = .function) (hx : env.kindOf x = some .globalImplicit) (hd : (x == ("__debug__" : Str)) = false) :
    wpAny M A (eval (.Name x pos) env) Q E s :=
  Name_function_global hk hx (loadGlobal_builtin (env := env) (by rw [hg]; exact T.g.keeps F.keep) (mg_none_of X T.g e) (by rw [hb]; exact T.b.keeps F.keep) ((T.builtins x hn).trans hv) h) hd
theorem nameG_L {x : Str} {pos : Pos} {v : Value} {scope : Scope} {cl : List (Str × Addr)} {C : Addr} {Q : Value → Shared → Prop} (F : Fr h₀ C s.heap m) (hv : m x = some v) (h : Q v s)
    (hk : (compEnvC scope cl C env).scope.kind = .function) (hl : (compEnvC scope cl C env).kindOf x = some .local) (hd : (x == ("__debug__" : Str)) = false) :
    wpAny M A (eval (.Name x pos) (compEnvC scope cl C env)) Q E s := ldVarK F.ns hv h hk hl hd
theorem nameG_C {x : Str} {pos : Pos} {c : Addr} {v : Value} {scope : Scope} {cl : List (Str × Addr)} {C : Addr} {Q : Value → Shared → Prop} (F : Fr h₀ C s.heap m) (hv : h₀.IsCell c (some v)) (hc : cl.lookup x = some c) (h : Q v s)
    (hk : (compEnvC scope cl C env).scope.kind = .function) (hl : (compEnvC scope cl C env).kindOf x = some .cell) (hd : (x == ("__debug__" : Str)) = false) :
    wpAny M A (eval (.Name x pos) (compEnvC scope cl C env)) Q E s := ldCellK hc (hv.keeps F.keep) h hk hl hd
end
end Mine
end

section
open PySem PySem.W PyProof.Rows PySem.Calls
set_option Elab.async false
set_option maxRecDepth 100000
namespace Mine
/-- the ledger own is all that stands beyond the base, but for ex -/
def OwnAll (h₀ h : Heap) (ex : List Addr) (own : List (Addr × Obj)) : Prop := own = allOf h₀ h ex
def Alive (h : Heap) (a : Addr) : Prop := ∃ o, h.get? a = some o
/-- an equation that the walk does not see -/
def Held {α : Type} (a b : α) : Prop := a = b
/-- a statement that the walk does not see -/
def Ret (p : Prop) : Prop := p
theorem Ret.mk {p : Prop} (h : p) : Ret p := h
/-- a bound that the walk does not see -/
def LenLe (ns : List Int) (k : Nat) : Prop := ns.length ≤ k
def Octs (ns : List Int) : Prop := ∀ o ∈ ns, 0 ≤ o ∧ o < 256

/-- the end of a turn: J of what may change -/
def TurnG (h₀ : Heap) (L : Addr) (mu : List Addr) (own : List (Addr × Obj)) (x : Str) (stored : List Str) (m₀ : Str → Option Value) (J : List (Addr × Obj) → Heap → Prop) (s₁ : Shared) (Q : Flow → Shared → Prop) (f : Flow) (s₂ : Shared) : Prop :=
  GEnd h₀ L mu own (fun c m h => J c h ∧ ∀ z, z ≠ x → stored.contains z = false → m z = m₀ z) s₁ (fun v s' => Q (.ret v) s') (fun s' => Q .next s') f s₂
theorem TurnG.nx {h₀ h h' : Heap} {L : Addr} {mu : List Addr} {own led cont : List (Addr × Obj)} {x : Str} {stored : List Str} {m₀ m m' : Str → Option Value} {J : List (Addr × Obj) → Heap → Prop} {Q : Flow → Shared → Prop} {gs : Array GenState} {dr : Drawn} {tk tk' : Nat} {os : OsState}
    (F₀ : Fr h₀ L h m) (ow : OwnAll h₀ h (L :: mu) own) (F : Fr h₀ L h' m') (N : News h₀ L h' led) (ho : ∀ p ∈ own, p ∈ led) (hm : cont.map (·.1) = mu) (hc : ∀ p ∈ cont, p ∈ led) (hz : ∀ z, z ≠ x → stored.contains z = false → m' z = m₀ z)
    (hJ : KeepBut (L :: mu) h h' → J cont h') : TurnG h₀ L mu own x stored m₀ J ⟨h, gs, dr, tk, os⟩ Q .next ⟨h', gs, dr, tk', os⟩ :=
  ⟨h', tk', m', cont, led, rfl, F, N, ho, hm, hc, hJ (keepBut_all F N F₀.keep (ow ▸ ho)), hz⟩
theorem TurnG.ret {h₀ : Heap} {L : Addr} {mu : List Addr} {own : List (Addr × Obj)} {x : Str} {stored : List Str} {m₀ : Str → Option Value} {J : List (Addr × Obj) → Heap → Prop} {Q : Flow → Shared → Prop} {s₁ s₂ : Shared} {v : Value} (h : Q (.ret v) s₂) : TurnG h₀ L mu own x stored m₀ J s₁ Q (.ret v) s₂ := h
theorem TurnG.brk {h₀ : Heap} {L : Addr} {mu : List Addr} {own : List (Addr × Obj)} {x : Str} {stored : List Str} {m₀ : Str → Option Value} {J : List (Addr × Obj) → Heap → Prop} {Q : Flow → Shared → Prop} {s₁ s₂ : Shared} (h : Q .next s₂) : TurnG h₀ L mu own x stored m₀ J s₁ Q .brk s₂ := h

section
variable {prog : Program} {w : World} {A : Around} {E : Value → Shared → Prop} {s : Shared} {env : Env} {h₀ : Heap} {Q : Flow → Shared → Prop} {x : Str} {body : List Stmt} {mu : List Addr} {m₀ : Str → Option Value} {cont : List (Addr × Obj)}
theorem map_split {x : Str} {stored : List Str} {m m₀ : Str → Option Value} {v : Value} (h : ∀ z, z ≠ x → stored.contains z = false → m z = m₀ z) : (fun y => if y = x then some v else m y) = fun y => if y = x then some v else if stored.contains y then m y else m₀ y := by
  funext y
  by_cases hy : y = x
  · simp [hy]
  · cases hs : stored.contains y <;> simp [hy, h y hy]
    simp [h y hy hs]
theorem map_split' {x : Str} {stored : List Str} {m m₀ : Str → Option Value} (h : ∀ z, z ≠ x → stored.contains z = false → m z = m₀ z) : m = fun y => if y = x then m y else if stored.contains y then m y else m₀ y := by
  funext y
  by_cases hy : y = x
  · simp [hy]
  · cases hs : stored.contains y <;> simp [hy, h y hy]
    simp [h y hy hs]

theorem loop_range {r : Addr} {n : Nat} {t u v : Tok} (stored : List Str) (J : Nat → List (Addr × Obj) → Heap → Prop)
    (hh : A.handled = none) (hr : IsRange s.heap r 0 n 1 t u v) (hn : n ≤ 1000) (F : Fr h₀ env.locals s.heap m₀) (N : News h₀ env.locals s.heap cont) (hmu : cont.map (·.1) = mu) (h0 : J 0 cont s.heap)
    (mono : ∀ i c h h', J i c h → KeepBut (env.locals :: mu ++ [s.heap.objs.size]) h h' → J i c h')
    (step : ∀ i t (u : Str → Option Value) c h tk own, i < n → J i c h → c.map (·.1) = mu → OwnOff own mu → Alive h s.heap.objs.size →
      Fr h₀ env.locals h (fun y => if y = x then some (.int (i : Nat) t) else if stored.contains y then u y else m₀ y) → News h₀ env.locals h (c ++ own) → OwnAll h₀ h (env.locals :: mu) own →
      wpAny (model prog w) A (execs body env) (TurnG h₀ env.locals mu own x stored m₀ (J (i + 1)) { s with heap := h, toks := tk } Q) E { s with heap := h, toks := tk })
    (done : ∀ h' tk (u : Str → Option Value) c own, Fr h₀ env.locals h' (fun y => if y = x then u y else if stored.contains y then u y else m₀ y) → News h₀ env.locals h' (c ++ own) → c.map (·.1) = mu → OwnAll h₀ h' (env.locals :: mu) own → J n c h' → Q .next { s with heap := h', toks := tk }) :
    wpAny (model prog w) A (pyIter (.ref r)) (fun it s₂ => GrowAt prog w A h₀ env x body Q E it s₂) E s := by
  refine grow_range (fun i c m h => J i c h ∧ ∀ z, z ≠ x → stored.contains z = false → m z = m₀ z) hh hr hn F N hmu ⟨h0, fun _ _ _ => rfl⟩ (fun i c m h h' a b => ⟨mono i c h h' a.1 b, a.2⟩) ?_ ?_
  · intro i t m₁ c h tk own hi hJ hc ho ha F N how
    rw [map_split hJ.2] at F
    exact step i t m₁ c h tk own hi hJ.1 hc ho ha F N how
  · intro h' tk m' c own F N hc how hJ
    rw [map_split' hJ.2] at F
    exact done h' tk m' c own F N hc how hJ.1

theorem loop_list {l : Addr} {items : Array Value} (stored : List Str) (J : Nat → List (Addr × Obj) → Heap → Prop)
    (hh : A.handled = none) (hl : s.heap.IsList l items) (hlm : l ∉ mu) (F : Fr h₀ env.locals s.heap m₀) (N : News h₀ env.locals s.heap cont) (hmu : cont.map (·.1) = mu) (h0 : J 0 cont s.heap)
    (mono : ∀ i c h h', J i c h → KeepBut (env.locals :: mu ++ [s.heap.objs.size]) h h' → J i c h')
    (step : ∀ i v (u : Str → Option Value) c h tk own, items[i]? = some v → J i c h → c.map (·.1) = mu → OwnOff own mu → Alive h s.heap.objs.size →
      Fr h₀ env.locals h (fun y => if y = x then some v else if stored.contains y then u y else m₀ y) → News h₀ env.locals h (c ++ own) → OwnAll h₀ h (env.locals :: mu) own →
      wpAny (model prog w) A (execs body env) (TurnG h₀ env.locals mu own x stored m₀ (J (i + 1)) { s with heap := h, toks := tk } Q) E { s with heap := h, toks := tk })
    (done : ∀ h' tk (u : Str → Option Value) c own, Fr h₀ env.locals h' (fun y => if y = x then u y else if stored.contains y then u y else m₀ y) → News h₀ env.locals h' (c ++ own) → c.map (·.1) = mu → OwnAll h₀ h' (env.locals :: mu) own → J items.size c h' → Q .next { s with heap := h', toks := tk }) :
    wpAny (model prog w) A (pyIter (.ref l)) (fun it s₂ => GrowAt prog w A h₀ env x body Q E it s₂) E s := by
  refine grow_list (fun i c m h => J i c h ∧ ∀ z, z ≠ x → stored.contains z = false → m z = m₀ z) hh hl hlm F N hmu ⟨h0, fun _ _ _ => rfl⟩ (fun i c m h h' a b => ⟨mono i c h h' a.1 b, a.2⟩) ?_ ?_
  · intro i v m₁ c h tk own hi hJ hc ho ha F N how
    rw [map_split hJ.2] at F
    exact step i v m₁ c h tk own hi hJ.1 hc ho ha F N how
  · intro h' tk m' c own F N hc how hJ
    rw [map_split' hJ.2] at F
    exact done h' tk m' c own F N hc how hJ.1
end

theorem For_growF {prog : Program} {w : World} {A : Around} {E : Value → Shared → Prop} {s : Shared} {env : Env} {h₀ h : Heap} {L : Addr} {m : Str → Option Value} {Q : Flow → Shared → Prop} {x : Str} {px pos : Pos} {iter : Expr} {body : List Stmt} (_F : Fr h₀ L h m) (hx : env.kindOf x = some .local)
    (hp : (env.scope.kind == .class || (env.scope.kind == .module && env.locals != env.globals)) = false)
    (hs : ∀ x, foldedSetIterable iter env x = pure x)
    (hE : PassesOwn (model prog w) A env E)
    (h : wpAny (model prog w) A (eval iter env) (fun xv s₁ => wpAny (model prog w) A (pyIter xv) (fun it s₂ => GrowAt prog w A h₀ env x body Q E it s₂) E s₁) E s) :
    wpAny (model prog w) A (exec (.For (.Name x px) iter body [] pos) env) Q E s := For_grow h₀ hx hp h hs hE

/-! rows: lists of ints as objects -/
def RowX (ex : List Addr) (h : Heap) (v : Value) (ns : List Int) : Prop := ∃ a vs n, v = .ref a ∧ a ∉ ex ∧ h.get? a = some (W.listOf vs n) ∧ IntsAre vs.toList ns
theorem RowX.keep {ex : List Addr} {h h' : Heap} {v : Value} {ns : List Int} (x : RowX ex h v ns) (k : KeepBut ex h h') : RowX ex h' v ns := let ⟨a, vs, n, e, he, hg, hi⟩ := x; ⟨a, vs, n, e, he, k a _ he hg, hi⟩
theorem RowX.sub {ex ex' : List Addr} {h : Heap} {v : Value} {ns : List Int} (x : RowX ex h v ns) (k : ∀ a ∈ ex', a ∈ ex) : RowX ex' h v ns := let ⟨a, vs, n, e, he, hg, hi⟩ := x; ⟨a, vs, n, e, fun q => he (k a q), hg, hi⟩
theorem fresh_ex {h : Heap} {ex : List Addr} {a : Addr} (hn : h.get? a = none) (al : ∀ b ∈ ex, Alive h b) : a ∉ ex := fun q => by
  obtain ⟨o, e⟩ := al a q
  rw [hn] at e; cases e
inductive RowsX (ex : List Addr) (h : Heap) : List Value → List (List Int) → Prop
  | nil : RowsX ex h [] []
  | cons {v : Value} {ns : List Int} {vs : List Value} {nss : List (List Int)} : RowX ex h v ns → RowsX ex h vs nss → RowsX ex h (v :: vs) (ns :: nss)
theorem RowsX.keep {ex : List Addr} {h h' : Heap} {vs : List Value} {nss : List (List Int)} (x : RowsX ex h vs nss) (k : KeepBut ex h h') : RowsX ex h' vs nss := by
  induction x with
  | nil => exact .nil
  | cons a _ ih => exact .cons (a.keep k) ih
theorem RowsX.sub {ex ex' : List Addr} {h : Heap} {vs : List Value} {nss : List (List Int)} (x : RowsX ex h vs nss) (k : ∀ a ∈ ex', a ∈ ex) : RowsX ex' h vs nss := by
  induction x with
  | nil => exact .nil
  | cons a _ ih => exact .cons (a.sub k) ih
theorem RowsX.length {ex : List Addr} {h : Heap} {vs : List Value} {nss : List (List Int)} (x : RowsX ex h vs nss) : vs.length = nss.length := by
  induction x with
  | nil => rfl
  | cons a _ ih => simp [ih]
theorem RowsX.append {ex : List Addr} {h : Heap} {vs us : List Value} {nss mss : List (List Int)} (x : RowsX ex h vs nss) (y : RowsX ex h us mss) : RowsX ex h (vs ++ us) (nss ++ mss) := by
  induction x with
  | nil => exact y
  | cons a _ ih => exact .cons a ih
theorem RowsX.get {ex : List Addr} {h : Heap} {vs : List Value} {nss : List (List Int)} (x : RowsX ex h vs nss) : ∀ {i : Nat} {ns : List Int}, nss[i]? = some ns → ∃ v, vs[i]? = some v ∧ RowX ex h v ns := by
  induction x with
  | nil => intro i ns e; simp at e
  | cons a _ ih =>
    intro i ns e
    cases i with
    | zero => simp at e; subst e; exact ⟨_, rfl, a⟩
    | succ i => exact ih (by simpa using e)
end Mine
end

section
open PySem PySem.W PyProof.Rows PySem.Calls
set_option Elab.async false
set_option maxRecDepth 100000
namespace Mine
section
variable {prog : Program} {w : World} {A : Around} {E : Value → Shared → Prop} {s : Shared} {h₀ : Heap} {L : Addr} {m : Str → Option Value} {news : List (Addr × Obj)} {value slice : Expr} {l : Addr} {vs : List Value} {ns : List Int} {Q : Value → Shared → Prop}
theorem slice_part {items : Array Value} {ms : List Int} {vl vu vk : Value} {lo hi st : Option Int} {ops : List Value}
    (F : Fr h₀ L s.heap m) (N : News h₀ L s.heap news) (hl : s.heap.IsList l items) (pl : IsPart vl lo) (pu : IsPart vu hi) (pk : IsPart vk st) (h0 : st ≠ some 0) (hi' : IntsAre (slicePick items lo hi st).toList ms)
    (h : ∀ vs' h', Fr h₀ L h' m → News h₀ L h' ((s.heap.objs.size + 1, W.listOf vs'.toArray 0) :: news) → (∀ p ∈ news, p.1 < s.heap.objs.size + 1) → IntsAre vs' ms → Q (.ref (s.heap.objs.size + 1)) { s with heap := h' })
    (hs : subscripted slice false (.ref l) (.ref s.heap.objs.size) = operate ops (getItem (.ref l) (.ref s.heap.objs.size)))
    (ht : ∀ r, letTemporaryGo value (.ref l) r = pure ()) (hsz : items.size ≤ 1000) :
    wpAny (model prog w) A (subscriptTail value slice (.ref l) (.ref s.heap.objs.size)) Q E { s with heap := s.heap.push { cls := .type "slice", data := .fields #[vl, vu, vk] } } :=
  slice_list3 F N hl pl pu pk h0 (fun h' F' N' => h (slicePick items lo hi st).toList h' F' (by simpa using N') (fun p hp => Nat.lt_succ_of_lt (Heap.lt_size (N p hp).1)) hi') hs ht (Nat.le_trans hsz (by decide))

theorem slice_from {x : Int} {t : Tok} {ops : List Value} (F : Fr h₀ L s.heap m) (N : News h₀ L s.heap news) (hl : s.heap.IsList l vs.toArray) (hi : IntsAre vs ns) (h0 : 0 ≤ x) (hsz : vs.length ≤ 1000)
    (h : ∀ vs' h', Fr h₀ L h' m → News h₀ L h' ((s.heap.objs.size + 1, W.listOf vs'.toArray 0) :: news) → (∀ p ∈ news, p.1 < s.heap.objs.size + 1) → IntsAre vs' (ns.drop x.toNat) → Q (.ref (s.heap.objs.size + 1)) { s with heap := h' })
    (hs : subscripted slice false (.ref l) (.ref s.heap.objs.size) = operate ops (getItem (.ref l) (.ref s.heap.objs.size)))
    (ht : ∀ r, letTemporaryGo value (.ref l) r = pure ()) :
    wpAny (model prog w) A (subscriptTail value slice (.ref l) (.ref s.heap.objs.size)) Q E { s with heap := s.heap.push { cls := .type "slice", data := .fields #[.int x t, .none, .none] } } :=
  slice_part F N hl (.int x t) .none .none (by simp) (slice_ints_fromW hi h0) h hs ht (by simpa using hsz)
theorem slice_upto {x : Int} {t : Tok} {ops : List Value} (F : Fr h₀ L s.heap m) (N : News h₀ L s.heap news) (hl : s.heap.IsList l vs.toArray) (hi : IntsAre vs ns) (h0 : 0 ≤ x) (hsz : vs.length ≤ 1000)
    (h : ∀ vs' h', Fr h₀ L h' m → News h₀ L h' ((s.heap.objs.size + 1, W.listOf vs'.toArray 0) :: news) → (∀ p ∈ news, p.1 < s.heap.objs.size + 1) → IntsAre vs' (ns.take x.toNat) → Q (.ref (s.heap.objs.size + 1)) { s with heap := h' })
    (hs : subscripted slice false (.ref l) (.ref s.heap.objs.size) = operate ops (getItem (.ref l) (.ref s.heap.objs.size)))
    (ht : ∀ r, letTemporaryGo value (.ref l) r = pure ()) :
    wpAny (model prog w) A (subscriptTail value slice (.ref l) (.ref s.heap.objs.size)) Q E { s with heap := s.heap.push { cls := .type "slice", data := .fields #[.none, .int x t, .none] } } :=
  slice_part F N hl .none (.int x t) .none (by simp) (slice_ints_uptoW hi h0) h hs ht (by simpa using hsz)

/-- two lists of ints added -/
theorem add_rows {l b : Addr} {vs us : List Value} {ns ms : List Int} {Q : Value → Shared → Prop} (F : Fr h₀ L s.heap m) (N : News h₀ L s.heap news) (hl : s.heap.IsList l vs.toArray) (hb : s.heap.IsList b us.toArray)
    (hi : IntsAre vs ns) (hj : IntsAre us ms) (hsz : ns.length + ms.length ≤ 1000)
    (h : ∀ h' vs', Fr h₀ L h' m → News h₀ L h' ((s.heap.objs.size, W.listOf vs'.toArray 0) :: news) → (∀ p ∈ news, p.1 < s.heap.objs.size) → IntsAre vs' (ns ++ ms) → Q (.ref s.heap.objs.size) { s with heap := h' }) :
    wpAny (model prog w) A (binaryOp .Add (.ref l) (.ref b)) Q E s :=
  add_lists_ints (hsz := Nat.le_trans hsz (by decide)) F N hl hb hi hj (fun h' F' N' hi' => h h' (vs ++ us) F' (by simpa using N') (fun p hp => Heap.lt_size (N p hp).1) hi')

/-- what is alive at the turn's start lies below what is new -/
theorem fresh_at {h hk : Heap} {mk : Str → Option Value} {mu : List Addr} {own led : List (Addr × Obj)} {b : Addr} (F₀ : Fr h₀ L h m) (ow : OwnAll h₀ h (L :: mu) own) (Fk : Fr h₀ L hk mk) (Nk : News h₀ L hk led) (ho : ∀ p ∈ own, p ∈ led) (hm : ∀ b ∈ mu, ∃ o, (b, o) ∈ led) (hb : Alive h b) : b < hk.objs.size := by
  by_cases hq : b ∈ L :: mu
  · rcases List.mem_cons.mp hq with rfl | hq
    · exact Fk.ns.lt
    · obtain ⟨o, e⟩ := hm b hq
      exact Heap.lt_size (Nk _ e).1
  · obtain ⟨o, e⟩ := hb
    exact Heap.lt_size (keepBut_all Fk Nk F₀.keep (ow ▸ ho) b o hq e)
/-- a lies above all of the ledger; closed to the walk -/
def Above (news : List (Addr × Obj)) (a : Addr) : Prop := ∀ p ∈ news, p.1 < a
theorem Above.mk {news : List (Addr × Obj)} {a : Addr} (h : ∀ p ∈ news, p.1 < a) : Above news a := h
theorem fresh3 {h h' : Heap} {mu : List Addr} {own led news : List (Addr × Obj)} {I a : Addr} {o : Obj} (how : OwnAll h₀ h (L :: mu) own) (hI : Alive h I) (hIb : h₀.get? I = none) (N' : News h₀ L h' led) (hm : (a, o) ∈ led) (ab : Above news a) (ho : ∀ p ∈ own, p ∈ news)
    (hr : ∀ b ∈ mu, ∃ o, (b, o) ∈ news) : a ∉ L :: mu ++ [I] := by
  intro q
  have hL : a ≠ L := (N' _ hm).2.1
  have hmu : a ∉ mu := fun q => by
    obtain ⟨o, e⟩ := hr a q
    exact Nat.lt_irrefl _ (ab _ e)
  rcases List.mem_append.mp q with q | q
  · rcases List.mem_cons.mp q with q | q
    · exact hL q
    · exact hmu q
  · have e : a = I := List.mem_singleton.mp q
    subst e
    obtain ⟨o, e⟩ := hI
    have : (a, o) ∈ own := how ▸ mem_allOf (by intro q; rcases List.mem_cons.mp q with q | q; exact hL q; exact hmu q) hIb e
    exact Nat.lt_irrefl _ (ab _ (ho _ this))
theorem of_allLt {d : Addr} : ∀ {l : List (Addr × Obj)}, AllLt d l → ∀ p ∈ l, p.1 < d
  | [], _, _, hp => nomatch hp
  | _ :: _, h, _, .head _ => h.1
  | _ :: _, h, _, .tail _ hp => of_allLt h.2 _ hp
theorem fresh4 {h h' : Heap} {r : Addr} {own led : List (Addr × Obj)} {I a : Addr} {o : Obj} (how : OwnAll h₀ h [L, r] own) (hI : Alive h I) (hIb : h₀.get? I = none) (N' : News h₀ L h' led) (hm : (a, o) ∈ led) (hr : r < a) (ha : AllLt a own) : a ∉ [L, r, I] := by
  refine fresh3 (mu := [r]) (news := (r, o) :: own) how hI hIb N' hm (fun p hp => ?_) (fun p hp => .tail _ hp) fun b hb => ⟨o, List.mem_singleton.mp hb ▸ .head _⟩
  rcases List.mem_cons.mp hp with rfl | hp
  · exact hr
  · exact of_allLt ha p hp
theorem TurnG.rows {h h' : Heap} {r : Addr} {own led : List (Addr × Obj)} {x : Str} {stored : List Str} {m₀ m m' : Str → Option Value} {ex : List Addr} {nss : List (List Int)} {vs : List Value} {n : Nat} {Q : Flow → Shared → Prop} {gs : Array GenState} {dr : Drawn} {tk tk' : Nat} {os : OsState}
    (F₀ : Fr h₀ L h m) (ow : OwnAll h₀ h [L, r] own) (F : Fr h₀ L h' m') (N : News h₀ L h' led) (ho : ∀ p ∈ own, p ∈ led) (hc : (r, W.listOf vs.toArray n) ∈ led) (hz : ∀ z, z ≠ x → stored.contains z = false → m' z = m₀ z)
    (hJ : KeepBut [L, r] h h' → RowsX ex h' vs nss) : TurnG h₀ L [r] own x stored m₀ (fun c h => ∃ vs n, c = [(r, W.listOf vs.toArray n)] ∧ RowsX ex h vs nss) ⟨h, gs, dr, tk, os⟩ Q .next ⟨h', gs, dr, tk', os⟩ :=
  TurnG.nx F₀ ow F N ho (cont := [(r, _)]) rfl (fun p hp => List.mem_singleton.mp hp ▸ hc) hz fun k => ⟨vs, n, rfl, hJ k⟩
/-- two lists added -/
theorem add_any {l b : Addr} {vs us : List Value} {Q : Value → Shared → Prop} (F : Fr h₀ L s.heap m) (N : News h₀ L s.heap news) (hl : s.heap.IsList l vs.toArray) (hb : s.heap.IsList b us.toArray) (hsz : vs.length + us.length ≤ 1000)
    (h : ∀ h', Fr h₀ L h' m → News h₀ L h' ((s.heap.objs.size, W.listOf (vs ++ us).toArray 0) :: news) → Q (.ref s.heap.objs.size) { s with heap := h' }) :
    wpAny (model prog w) A (binaryOp .Add (.ref l) (.ref b)) Q E s :=
  add_lists (hsz := Nat.le_trans hsz (by decide)) F N hl hb fun h' F' N' => h h' F' (by simpa using N')
theorem row_of {h : Heap} {led : List (Addr × Obj)} {a : Addr} {vs : List Value} {n : Nat} {ns : List Int} {ex : List Addr} (N : News h₀ L h led) (hm : (a, W.listOf vs.toArray n) ∈ led) (hi : IntsAre vs ns) (he : a ∉ ex) : RowX ex h (.ref a) ns :=
  ⟨a, vs.toArray, n, rfl, he, (N _ hm).1, hi⟩
end
end Mine
end

section
open PySem PySem.W PyProof.Rows PySem.Calls
set_option Elab.async false
set_option maxRecDepth 100000
set_option maxHeartbeats 100000000
namespace Mine
local macro_rules | `(tactic| walk_at "mine.pad") => `(tactic| fail)
local macro_rules | `(tactic| walk_at "mine.pad") => `(tactic| fail)
local macro_rules | `(tactic| walk_at "mine.pad") => `(tactic| fail)
local macro_rules | `(tactic| walk_at "mine.pad") => `(tactic| fail)
local macro_rules | `(tactic| walk_at "mine.pad") => `(tactic| fail)
local macro_rules | `(tactic| walk_at "mine.pad") => `(tactic| fail)
local macro_rules | `(tactic| walk_at "eval Name") => `(tactic| ((with_reducible show wpAny _ _ (eval (Expr.Name _ _) (compEnvC _ _ _ _)) _ _ _); first
  | (with_unfolding_all (refine' nameG_L ?F ?v ?_ ?k ?l ?d; (case F => k_asm); (case v => exact rfl); (case k => exact rfl); (case l => exact rfl); (case d => decide)))
  | (with_unfolding_all (refine' nameG_C ?F ?v ?c ?_ ?k ?l ?d; (case F => k_asm); (case c => exact rfl); (case v => assumption); (case k => exact rfl); (case l => exact rfl); (case d => decide)))
  | (k_dflt (refine' nameG_K ?F ?X ?T ?e ?_ ?g ?k ?l ?d; (case F => k_asm); (case X => k_asm); (case T => k_asm); (case e => k_is); (case g => rfl); (case k => rfl); (case l => rfl); (case d => decide)))
  | (k_dflt (refine' nameG_B ?F ?X ?T ?e ?v ?n ?_ ?g ?b ?k ?l ?d; (case F => k_asm); (case X => k_asm); (case T => k_asm); (case e => k_is); (case v => exact rfl); (case n => decide); (case g => rfl); (case b => rfl); (case k => rfl); (case l => rfl); (case d => decide)))))
local macro_rules | `(tactic| walk_at "eval Subscript") => `(tactic| refine Subscript_ ?_)
local macro_rules | `(tactic| walk_at "eval BinOp") => `(tactic| refine wpAny_BinOp ?_)
theorem pow12 {i : Nat} (h : i ≤ 4) : (12 : Int) ^ i ≤ 20736 := by
  match i, h with
  | 0, _ | 1, _ | 2, _ | 3, _ | 4, _ => simp

section
variable {w : World} {p : Program} {loose : List Str} {mean : ExcName → Option Value} {mg mb : Str → Option Value} {A : Around} {s : Shared} {E : Value → Shared → Prop}
theorem use_octets {P : Value → Shared → Prop} {number free : Int} {count : Nat} {t u v : Tok} (T : Top p loose mean mg mb s.heap) (hA : Lo A 3) (h0 : 0 ≤ number) (h0' : number ≤ 1000000000) (hc : count ≤ 5) (h1 : 0 ≤ free) (h2 : free < 256) :
    (KK w.params).In s.heap → (∀ (r : Addr) (vs' : List Value) (n : Nat) (h' : Heap) (tk : Nat) (ns : List Int), Ext s.heap h' → s.heap.get? r = none → h'.get? r = some (W.listOf vs'.toArray n) → IntsAre vs' ns → ns.length = count → Octs ns → P (.ref r) { s with heap := h', toks := tk }) → wpAny (model PySem.Challenge.rw_tx0025_01.row.prog w) A (call (.ref 169) [.int number t, .int count u, .int free v]) P E s := by
  k_fill
  intro X ret
  obtain ⟨hp, gs, dr, tk, os⟩ := s
  dsimp only at T X ret
  have hro := hA.room
  have hh : A.handled = none := hA.hd
  k_dflt (refine' enterC (binds := [("number", .int number t), ("count", .int count u), ("free", .int free v)]) ?k3 ?k5 ?k6 ?k7 ?k8 ?k9 ?kB ?knd ?_ ?c2 ?c3 ?c4; (case k3 => k_asm); (case k5 => k_asm); (case k6 => k_is); (case k7 => k_is); (case k8 => exact hro); (case k9 => exact BindsTo.of_eq rfl); (case kB => exact kinds_by rfl); (case knd => decide); (case c2 => exact rfl); (case c3 => exact rfl); (case c4 => exact rfl); intro h₁ tk₁ cells F₁ N₁ Y; dsimp only at F₁ N₁ Y ⊢)
  obtain ⟨o₁, o₂, rfl, c1, c2⟩ := CellsAre.two Y
  iterate 33 (first | walk1 | (dsimp only; walk1))
  refine' ListComp_J ?k1 ?k2 ?k3 ?k4 ?k5 ?_ ?k6
  case k1 => with_unfolding_all exact rfl
  case k2 => with_unfolding_all decide
  case k3 => with_unfolding_all exact rfl
  case k4 => with_unfolding_all decide
  case k5 => with_unfolding_all exact rfl
  case k6 => (intro _; with_unfolding_all exact rfl)
  iterate 7 (first | walk1 | (dsimp only; walk1))
  rename News hp hp.objs.size _ [_, _, _] => NB
  rename _ = Data.cell (some (Value.ref _)) => dT
  have cT := (⟨_, NB.get (.tail _ (.head _)), dT⟩ : Heap.IsCell _ _ _)
  have cN : Heap.IsCell _ _ (some (.int number t)) := ⟨_, NB.get (.tail _ (.tail _ (.head _))), c2⟩
  have hT := NB.get (.head _)
  rename Fr hp _ _ _ => FB
  have XB := X.keeps FB.keep
  have TB := T.keeps FB.keep
  refine comp_range (fun _ i ys _ => ∃ ns, IntsAre ys ns ∧ ns.length = i ∧ Octs ns) hh (by assumption) (by omega) (fun _ h => nomatch h) ?_ ?_ ?_ ?_
  · exact fun _ _ => ⟨[], .nil, rfl, by simp [Octs]⟩
  · exact fun _ _ _ _ _ h _ => h
  · intro C ex i ti ys h tk own m hi hJ F N ho hal
    refine wpAny_tests_nil ?_
    simp only [if_true]
    obtain ⟨ns, hI, hlen, hb⟩ := hJ
    clear ret hal Y T X FB NB c1 c2
    dsimp only at F N ho ⊢
    iterate 8 walk1
    refine pow_int_small (by omega) (by omega) (by decide) ?_
    have hd : (0 : Int) < 12 ^ (i : Int).toNat := Int.pow_pos (by decide)
    have hd2 : (12 : Int) ^ (i : Int).toNat ≤ 20736 := by rw [Int.toNat_natCast]; exact pow12 (by omega)
    generalize (12 : Int) ^ (i : Int).toNat = d at hd hd2
    refine floordiv_int (by omega) ?_ (Or.inl (PyProof.noPylong_small (by omega)))
    iterate 1 walk1
    refine mod_int' (by omega) ?_
    have hq0 : 0 ≤ (number.fdiv d).fmod 12 := Int.fmod_nonneg_of_pos _ (by decide)
    have hq1 : (number.fdiv d).fmod 12 < 12 := Int.fmod_lt_of_pos _ (by decide)
    generalize (number.fdiv d).fmod 12 = q at hq0 hq1
    have hTB : Heap.IsList _ _ _ := ⟨_, F.keep _ _ hT, rfl, _, rfl⟩
    refine item_anyK (ns := [201, 233, 99, 67, 57, 69, 101, 47, 42, 95, 32, free]) hTB (by repeat constructor) hq0 (by simpa using hq1) (by omega) fun tq => ?_
    refine CEnd.mk F N (fun p hp => hp) ⟨ns ++ [_], IntsAre.append hI (.cons _ _ .nil), by simp [hlen], fun o ho => ?_⟩
    rcases List.mem_append.mp ho with ho | ho
    · exact hb o ho
    · rw [List.mem_singleton.mp ho]
      have : ∀ k : Nat, k < 12 → 0 ≤ [201, 233, 99, 67, 57, 69, 101, 47, 42, 95, 32, free].getD k 0 ∧ [201, 233, 99, 67, 57, 69, 101, 47, 42, 95, 32, free].getD k 0 < 256 := by
        intro k hk
        match k, hk with
        | 0, _ | 1, _ | 2, _ | 3, _ | 4, _ | 5, _ | 6, _ | 7, _ | 8, _ | 9, _ | 10, _ => constructor <;> simp
        | 11, _ => simpa using ⟨h1, h2⟩
      exact this _ (by omega)
  · intro D ex h' tk ys hD _ hl hJ hk
    obtain ⟨ns, hI, hlen, hb⟩ := hJ
    obtain ⟨nl, hl⟩ := hl
    refine RetP.mk ?_
    have kp : Ext hp h' := fun b o e => hk b o (by simp) (FB.keep b o e)
    refine ret D ys nl h' tk ns kp ?_ hl hI hlen hb
    cases q : hp.get? D with
    | none => rfl
    | some o => have := FB.keep _ _ q; dsimp only at hD; rw [hD] at this; cases this
end
end Mine
end

section
open PySem PySem.W PyProof.Rows PySem.Calls
set_option Elab.async false
set_option maxRecDepth 100000
set_option maxHeartbeats 100000000
namespace Mine
local macro_rules | `(tactic| walk_at "exec For Name Call cons nil") => `(tactic| ((with_reducible rename Fr _ _ _ _ => FF); refine' For_growF FF ?hx ?hp ?hs ?hE ?_; (case hx => with_unfolding_all rfl); (case hp => with_unfolding_all rfl); (case hs => (intro _; with_unfolding_all rfl)); (case hE => exact noExc_passes)))
local macro_rules | `(tactic| walk_at "call ref") => `(tactic| (with_unfolding_all (refine' use_escaped ?T ?A ?a ?b ?X ?_; (case T => exact Top.keeps (by assumption) (Fr.keep (by k_asm))); (case A => first | exact Lo.le (Lo.deeper (by assumption)) (by decide) | exact Lo.le (Lo.in1 (Lo.deeper (by assumption))) (by decide)); (case a => omega); (case b => omega); (case X => exact Frag.In.keeps (by assumption) (Fr.keep (by k_asm))); intro _ _ e'; have F' := fr_ext (by k_asm) e'; have N' := news_ext (by k_asm) e'; clear e'; (try dsimp only at F' N'))))
section
variable {w : World} {p : Program} {loose : List Str} {mean : ExcName → Option Value} {mg mb : Str → Option Value} {A : Around} {s : Shared} {E : Value → Shared → Prop}
def fig (k : Int) : Int := if k < 10 then 48 + k else 87 + k
def tailsAt (b : Bool) (o : Int) (rest : List Int) : List (List Int) := (o :: rest) :: (if b && escO o then [fig (o / 16) :: fig (o % 16) :: rest, fig (o % 16) :: rest] else [])
def tailsO (b : Bool) : List Int → List (List Int)
  | [] => [[]]
  | o :: rest => tailsAt b o rest ++ tailsO b rest
/-- what the first i places give -/
def tailsTo (b : Bool) (ns : List Int) (i : Nat) : List (List Int) := ((List.range i).map fun k => tailsAt b (ns.getD k 0) (ns.drop (k + 1))).flatten

theorem figN : ∀ k : Nat, k < 16 → ((([48, 49, 50, 51, 52, 53, 54, 55, 56, 57, 97, 98, 99, 100, 101, 102] : List UInt8).getD k 0).toNat : Int) = fig k := by decide
theorem fig_div {o : Int} (h : 0 ≤ o ∧ o < 256) : ((([48, 49, 50, 51, 52, 53, 54, 55, 56, 57, 97, 98, 99, 100, 101, 102] : List UInt8).getD (o.fdiv 16).toNat 0).toNat : Int) = fig (o / 16) := by
  rw [Int.fdiv_eq_ediv_of_nonneg _ (by decide), figN _ (by omega), Int.toNat_of_nonneg (by omega)]
theorem fig_mod {o : Int} (h : 0 ≤ o ∧ o < 256) : ((([48, 49, 50, 51, 52, 53, 54, 55, 56, 57, 97, 98, 99, 100, 101, 102] : List UInt8).getD (o.fmod 16).toNat 0).toNat : Int) = fig (o % 16) := by
  rw [Int.fmod_eq_emod_of_nonneg _ (by decide), figN _ (by omega), Int.toNat_of_nonneg (by omega)]
theorem tailsAt_esc {b : Bool} {o : Int} {rest : List Int} (hb : b = true) (he : escO o = true) : tailsAt b o rest = [o :: rest, fig (o / 16) :: fig (o % 16) :: rest, fig (o % 16) :: rest] := by simp [tailsAt, hb, he]
theorem tailsAt_no {b : Bool} {o : Int} {rest : List Int} (hb : b = false ∨ escO o = false) : tailsAt b o rest = [o :: rest] := by rcases hb with hb | hb <;> simp [tailsAt, hb]
theorem tailsTo_len {b : Bool} {ns : List Int} : ∀ i, (tailsTo b ns i).length ≤ 3 * i
  | 0 => by simp [tailsTo]
  | i + 1 => by
    have := tailsTo_len (b := b) (ns := ns) i
    unfold tailsTo at *
    rw [List.range_succ, List.map_append, List.flatten_append, List.length_append]
    simp only [List.map_cons, List.map_nil, List.flatten_cons, List.flatten_nil, List.append_nil]
    show _ + (tailsAt b _ _).length ≤ _
    rw [show ∀ o r, (tailsAt b o r).length = if b && escO o then 3 else 1 from fun o r => by unfold tailsAt; split <;> rfl]
    have e : (List.map (fun k => tailsAt b (ns.getD k 0) (List.drop (k + 1) ns)) (List.range i)).flatten.length ≤ 3 * i := this
    generalize (List.map (fun k => tailsAt b (ns.getD k 0) (List.drop (k + 1) ns)) (List.range i)).flatten.length = q at e ⊢
    split <;> omega
theorem tailsTo_succ {b : Bool} {ns : List Int} {i : Nat} : tailsTo b ns (i + 1) = tailsTo b ns i ++ tailsAt b (ns.getD i 0) (ns.drop (i + 1)) := by
  unfold tailsTo
  rw [List.range_succ, List.map_append, List.flatten_append]
  simp
theorem tailsTo_all {b : Bool} : ∀ {ns : List Int}, tailsTo b ns ns.length ++ [[]] = tailsO b ns
  | [] => rfl
  | o :: ns => by
    have ih := tailsTo_all (b := b) (ns := ns)
    unfold tailsTo at *
    rw [List.length_cons, List.range_succ_eq_map]
    simp only [List.map_cons, List.map_map, List.flatten_cons, tailsO]
    rw [← ih, List.append_assoc]
    rfl
theorem use_tails {P : Value → Shared → Prop} {l : Addr} {vs : List Value} {ns : List Int} {b : Bool} (T : Top p loose mean mg mb s.heap) (hA : Lo A 6) (hl : s.heap.IsList l vs.toArray) (hi : IntsAre vs ns) (hlen : LenLe ns 8) (hoc : Octs ns) :
    (KK w.params).In s.heap → (∀ (r : Addr) (vs' : List Value) (n : Nat) (h' : Heap) (tk : Nat), Ext s.heap h' → s.heap.get? r = none → h'.get? r = some (W.listOf vs'.toArray n) → RowsX [] h' vs' (tailsO b ns) → P (.ref r) { s with heap := h', toks := tk }) → wpAny (model PySem.Challenge.rw_tx0025_01.row.prog w) A (call (.ref 183) [.ref l, .bool b]) P E s := by
  k_fill
  intro X ret
  obtain ⟨hp, gs, dr, tk, os⟩ := s
  dsimp only at T X ret hl
  have hro := hA.room
  have hh : A.handled = none := hA.hd
  k_dflt (refine' enter (binds := [("row", .ref l), ("as_header", .bool b)]) ?k3 ?k5 ?k6 ?k7 ?k8 ?k9 ?kB ?_ ?c2 ?c3 ?c4 ?c5; (case k3 => k_asm); (case k5 => k_asm); (case k6 => k_is); (case k7 => k_is); (case k8 => exact hro); (case k9 => exact BindsTo.of_eq rfl); (case c5 => decide); (case kB => exact locs rfl); (case c2 => exact rfl); (case c3 => exact rfl); (case c4 => exact rfl); intro h₁ F₁ N₁; dsimp only at F₁ N₁ ⊢)
  have hret : Ret _ := Ret.mk ret
  clear ret
  have hbig : ns.length ≤ 1000 := Nat.le_trans hlen (by decide)
  k_steps
  rename_i r h2 l1 h3 F3 N3 h4 tk4 t1 u1 v1 hr FB NB kB
  clear F3 N3 kB
  dsimp only at hr FB NB ⊢
  refine loop_range (mu := [r]) [Str.ofString "octet", Str.ofString "rest"] (fun i c h => ∃ vs n, c = [(r, W.listOf vs.toArray n)] ∧ RowsX [hp.objs.size, r, h4.objs.size] h vs (tailsTo b ns i)) hh hr hbig FB NB rfl ⟨[], 0, rfl, .nil⟩ ?_ ?_ ?_
  · rintro i c h h' ⟨vs, n, rfl, hR⟩ k
    exact ⟨vs, n, rfl, hR.keep k⟩
  have hIb : hp.get? h4.objs.size = none := next_is_new FB
  · rintro i ti u c h tk own hii ⟨vs', n, rfl, hR⟩ hc hoff hal F N how
    have hv : vs'.length ≤ 64 := by
      have e1 := hR.length
      have e2 := tailsTo_len (b := b) (ns := ns) i
      have e3 : ns.length ≤ 8 := hlen
      omega
    clear FB NB hr
    simp only [List.cons_append, List.nil_append] at N
    iterate 6 (first | walk1 | (dsimp only; walk1))
    have ho : 0 ≤ ns.getD (i : Int).toNat 0 ∧ ns.getD (i : Int).toNat 0 < 256 := hoc _ (by
      rw [Int.toNat_natCast, List.getD_eq_getElem?_getD, List.getElem?_eq_getElem hii]; exact List.getElem_mem hii)
    generalize hoe : ns.getD (i : Int).toNat 0 = o at ho
    iterate 13 (first | walk1 | (dsimp only; walk1))
    have hvs : vs.length ≤ 1000 := by rw [hi.length]; exact hbig
    refine' slice_from ?F ?N ?l hi ?z hvs ?_ ?hs ?ht
    case F => k_asm
    case N => k_asm
    case l => exact Fr.lst (by k_asm) (by assumption)
    case z => omega
    case hs => with_unfolding_all rfl
    case ht => intro _; with_unfolding_all rfl
    intro vr h6 F6 N6 l6 hi6
    k_lt l6
    have e6 : ((i : Int) + 1).toNat = i + 1 := by omega
    rw [e6] at hi6
    generalize hrest : ns.drop (i + 1) = rest at hi6
    have hlr : rest.length ≤ 64 := by rw [← hrest, List.length_drop]; have : ns.length ≤ 8 := hlen; omega
    dsimp only at F6 N6 ⊢
    have hrest' : Held (ns.drop (i + 1)) rest := hrest
    have hoe' : Held (ns.getD (i : Int).toNat 0) o := hoe
    clear hrest hoe
    repeat' (first | walk1 | (dsimp only; walk1))
    all_goals (repeat (rename _ ∧ _ => hand; rcases hand with ⟨_, _⟩))
    all_goals simp only [List.push_toArray] at *
    all_goals (rename News _ _ _ (_ :: _) => NN)
    all_goals (refine TurnG.rows F how (by k_asm) NN (by intro p hp; simp [hp]) (by k_mem) (by intro z hz hs; obtain ⟨g1, hs⟩ := ne_of_stored hs; obtain ⟨g2, _⟩ := ne_of_stored hs; simp [hz, g1, g2]) fun kp => ?_)
    all_goals rw [tailsTo_succ]
    all_goals (have e1 : ns.getD i 0 = o := hoe'; have e2 : ns.drop (i + 1) = rest := hrest'; rw [e1, e2])
    all_goals have hR' := hR.keep (fun b o hb e => kp b o (fun q => hb (List.mem_append_left [h4.objs.size] q)) e)
    · rw [tailsAt_esc (by assumption) (by assumption)]
      simp only [List.append_assoc, List.cons_append, List.nil_append, fig_div (o := o) ⟨by assumption, by assumption⟩, fig_mod (o := o) ⟨by assumption, by assumption⟩] at *
      refine hR'.append (.cons (row_of NN (by k_mem) (by assumption) (fresh4 how hal hIb NN (by k_mem) (by assumption) (by assumption))) (.cons (row_of NN (by k_mem) (by assumption) (fresh4 how hal hIb NN (by k_mem) (by assumption) (by assumption))) (.cons (row_of NN (by k_mem) (by assumption) (fresh4 how hal hIb NN (by k_mem) (by assumption) (by assumption))) .nil)))
    · rw [tailsAt_no (by first | exact .inl (by assumption) | exact .inr (by assumption))]
      exact hR'.append (.cons (row_of NN (by k_mem) (by assumption) (fresh4 how hal hIb NN (by k_mem) (by assumption) (by assumption))) .nil)
    · rw [tailsAt_no (by first | exact .inl (by assumption) | exact .inr (by assumption))]
      exact hR'.append (.cons (row_of NN (by k_mem) (by assumption) (fresh4 how hal hIb NN (by k_mem) (by assumption) (by assumption))) .nil)
  · rintro h' tk u c own F N hc how ⟨vs', n, rfl, hR⟩
    have hv : vs'.length ≤ 64 := by
      have e1 := hR.length
      have e2 := tailsTo_len (b := b) (ns := ns) ns.length
      have e3 : ns.length ≤ 8 := hlen
      omega
    clear FB NB hr
    simp only [List.cons_append, List.nil_append] at N
    have hk0 : Ret (Ext hp h') := Ret.mk F.keep
    iterate 12 (first | walk1 | (dsimp only; walk1))
    rename News _ _ _ (_ :: _) => NN
    rename Fr _ _ _ _ => FF
    have kp : KeepBut [hp.objs.size, r] h' _ := keepBut_all FF NN (hk0 : Ext hp h') (fun p hq => by have e : own = allOf hp h' [hp.objs.size, r] := how; rw [← e] at hq; simp [hq])
    have hR' := (hR.keep (fun b o hb e => kp b o (fun q => hb (List.mem_append_left [h4.objs.size] q)) e)).sub (ex' := []) (fun _ h => nomatch h)
    refine RetP.mk ((hret : ∀ (r : Addr) (vs' : List Value) (n : Nat) (h' : Heap) (tk : Nat), _) _ _ 0 _ _ FF.keep (NN _ (.head _)).2.2 (NN _ (.head _)).1 ?_)
    rw [← tailsTo_all]
    exact hR'.append (.cons (row_of (vs := []) NN (by k_mem) .nil (by simp)) .nil)
end
end Mine
end

section
open PySem PySem.W PyProof.Rows PySem.Calls
set_option Elab.async false
set_option maxRecDepth 100000
set_option maxHeartbeats 100000000
namespace Mine
section
variable {w : World} {p : Program} {loose : List Str} {mean : ExcName → Option Value} {mg mb : Str → Option Value} {A : Around} {s : Shared} {E : Value → Shared → Prop}
theorem use_same {P : Value → Shared → Prop} {told due : Bool} (T : Top p loose mean mg mb s.heap) (hA : Lo A 6) :
    (KK w.params).In s.heap → (∀ (h' : Heap) (tk : Nat), Ext s.heap h' → P (.bool (told == due)) { s with heap := h', toks := tk }) → wpAny (model PySem.Challenge.rw_tx0025_01.row.prog w) A (call (.ref 219) [.bool told, .bool due]) P E s := by
  k_fill
  intro X ret
  obtain ⟨hp, gs, dr, tk, os⟩ := s
  dsimp only at T X ret
  have hro := hA.room
  have hh : A.handled = none := hA.hd
  have hret : Ret _ := Ret.mk ret
  clear ret
  k_dflt (refine' enter (binds := [("told", .bool told), ("due", .bool due)]) ?k3 ?k5 ?k6 ?k7 ?k8 ?k9 ?kB ?_ ?c2 ?c3 ?c4 ?c5; (case k3 => k_asm); (case k5 => k_asm); (case k6 => k_is); (case k7 => k_is); (case k8 => exact hro); (case k9 => exact BindsTo.of_eq rfl); (case c5 => decide); (case kB => exact locs rfl); (case c2 => exact rfl); (case c3 => exact rfl); (case c4 => exact rfl); intro h₁ F₁ N₁; dsimp only at F₁ N₁ ⊢)
  k_steps
  exact RetP.mk ((hret : ∀ (h' : Heap) (tk : Nat), _) _ _ F₁.keep)
end
end Mine
end

section
open PySem PySem.W PyProof.Rows PySem.Calls
set_option Elab.async false
set_option maxRecDepth 100000
namespace Mine
/-- a figure of a hex number, great letters -/
def hexU : List Nat := [48, 49, 50, 51, 52, 53, 54, 55, 56, 57, 65, 66, 67, 68, 69, 70]
def hexVal (c : Nat) : Nat := if c ≤ 57 then c - 48 else c - 55
theorem hex_conf {α : Type} {D : Nat → Nat → α} {a b : Nat} (ha : a ∈ hexU) (hb : b ∈ hexU) {x : α} (h : D a b = x) (f : α → Option Int)
    (H : (hexU.all fun a => hexU.all fun b => f (D a b) == some ((16 * hexVal a + hexVal b : Nat) : Int)) = true) : f x = some ((16 * hexVal a + hexVal b : Nat) : Int) := by
  have := List.all_eq_true.1 (List.all_eq_true.1 H a ha) b hb
  rw [h] at this
  exact eq_of_beq this
theorem gives_int_hex {a b : Nat} (ha : a ∈ hexU) (hb : b ∈ hexU) (t u : Tok) : Gives (Builtin.«int.__new__» ⟨[.type "int", .str ⟨#[a, b]⟩ t, .int 16 u], []⟩) (.int (16 * hexVal a + hexVal b : Nat)) :=
  .of_wp fun M A E s Q h => by
    obtain ⟨hp, g, d, tk, os⟩ := s
    have f1 := F.conv_sub_int
    have f2 := F.madeHere_int
    repeat (any_goals (first | assumption | wp_step))
    have la : a < 128 ∧ a ≠ 0 := by simp [hexU] at ha; omega
    have lb : b < 128 ∧ b ≠ 0 := by simp [hexU] at hb; omega
    have e0 : (({ cps := #[a, b] } : Str).cps.all fun x => decide (x < 128)) = true := by simp [la.1, lb.1]
    have e1 : List.takeWhile (fun x => x != 0) ({ cps := #[a, b] } : Str).cps.toList = [a, b] := by
      show List.takeWhile _ [a, b] = _
      rw [List.takeWhile_cons_of_pos (by simp [la.2]), List.takeWhile_cons_of_pos (by simp [lb.2])]
      rfl
    rw [if_pos e0, e1, if_pos (by simp)]
    refine wpAny_bind (wpAny_pure ?_)
    dsimp only
    split
    · rename_i heq
      have hf := hex_conf ha hb (by apply heq)
      have h0 := hf (fun r => by cases r with | invalid => exact none | tooLong => exact none | byTheLibrary => exact none | value i => exact some i) (by decide +kernel)
      cases h0
    · rename_i heq
      have hf := hex_conf ha hb (by apply heq)
      have h0 := hf (fun r => by cases r with | invalid => exact none | tooLong => exact none | byTheLibrary => exact none | value i => exact some i) (by decide +kernel)
      cases h0
    · rename_i i heq
      have hi : i = (16 * hexVal a + hexVal b : Nat) := by
        have hf := hex_conf ha hb (by apply heq)
        have h0 := hf (fun r => by cases r with | invalid => exact none | tooLong => exact none | byTheLibrary => exact none | value i => exact some i) (by decide +kernel)
        injection h0
      subst hi
      rw [if_pos (by simp)]
      repeat (any_goals (first | assumption | wp_step))
      exact ⟨_, rfl, h⟩
    · rename_i heq
      have hf := hex_conf ha hb (by apply heq)
      have h0 := hf (fun r => by cases r with | invalid => exact none | tooLong => exact none | byTheLibrary => exact none | value i => exact some i) (by decide +kernel)
      cases h0
theorem typeCall_int_2 (a b : Value) : checkTypeCall "int" ⟨[a, b], []⟩ = pure () := by kernel_rfl
theorem newCall_int_2 (a b : Value) : checkBuiltinCall "int.__new__" ⟨[.type "int", a, b], []⟩ = pure () := by kernel_rfl
theorem args_object_init_3 (o a b : Value) : argsOk "object.__init__" ⟨[o, a, b], []⟩ := by unfold argsOk; kernel_rfl
theorem call_int_hex {prog : Program} {w : World} {A : Around} {E : Value → Shared → Prop} {s : Shared} {a b : Nat} {t u : Tok} {Q : Value → Shared → Prop} (ha : a ∈ hexU) (hb : b ∈ hexU)
    (h : Q (.int (16 * hexVal a + hexVal b : Nat) s.toks) { s with toks := s.toks + 1 }) : wpAny (model prog w) A (call (.type "int") [.str ⟨#[a, b]⟩ t, .int 16 u]) Q E s :=
  callType_new F.called_int F.newNe_int (typeCall_int_2 _ _) (newCall_int_2 _ _) (fun obj => args_object_init_3 obj _ _) F.entry_int_new (gives_int_hex ha hb t u).meets (show (Made.int _).post _ s from ⟨rfl, h⟩)
end Mine
end

section
open PySem PySem.W PyProof.Rows PySem.Calls
set_option Elab.async false
set_option maxRecDepth 100000
set_option maxHeartbeats 100000000
namespace Mine
section
variable {w : World} {p : Program} {loose : List Str} {mean : ExcName → Option Value} {mg mb : Str → Option Value} {A : Around} {s : Shared} {E : Value → Shared → Prop}
theorem hex_lt {a b : Nat} (ha : a ∈ hexU) (hb : b ∈ hexU) : 16 * hexVal a + hexVal b < 256 := by
  have h : ∀ c ∈ hexU, hexVal c < 16 := by decide
  have := h a ha
  have := h b hb
  omega
theorem use_unquote {P : Value → Shared → Prop} {a b : Nat} {t : Tok} (T : Top p loose mean mg mb s.heap) (hA : Lo A 6) (ha : a ∈ hexU) (hb : b ∈ hexU) :
    (KK w.params).In s.heap → (∀ (h' : Heap) (tk : Nat) (t' : Tok), Ext s.heap h' → P (.str ⟨#[16 * hexVal a + hexVal b]⟩ t') { s with heap := h', toks := tk }) → wpAny (model PySem.Challenge.rw_tx0025_01.row.prog w) A (call (.ref 115) [.str ⟨#[61, a, b]⟩ t]) P E s := by
  k_fill
  intro X ret
  obtain ⟨hp, gs, dr, tk, os⟩ := s
  dsimp only at T X ret
  have hro := hA.room
  have hh : A.handled = none := hA.hd
  have hret : Ret _ := Ret.mk ret
  clear ret
  k_dflt (refine' enter (binds := [("s", .str ⟨#[61, a, b]⟩ t)]) ?k3 ?k5 ?k6 ?k7 ?k8 ?k9 ?kB ?_ ?c2 ?c3 ?c4 ?c5; (case k3 => k_asm); (case k5 => k_asm); (case k6 => k_is); (case k7 => k_is); (case k8 => exact hro); (case k9 => exact BindsTo.of_eq rfl); (case c5 => decide); (case kB => exact locs rfl); (case c2 => exact rfl); (case c3 => exact rfl); (case c4 => exact rfl); intro h₁ F₁ N₁; dsimp only at F₁ N₁ ⊢)
  iterate 23 (first | walk1 | (dsimp only; walk1))
  rename_i t' k'
  have e : Txt.slice ⟨#[61, a, b]⟩ (some 1) (some 3) = ⟨#[a, b]⟩ := rfl
  rw [e]
  refine call_int_hex ha hb ?_
  have hn : 16 * hexVal a + hexVal b < 256 := hex_lt ha hb
  clear ha hb
  generalize 16 * hexVal a + hexVal b = n at hn hret ⊢
  k_steps
  rename Fr _ _ _ _ => FF
  exact RetP.mk ((hret : ∀ (h' : Heap) (tk : Nat) (t' : Tok), _) _ _ _ FF.keep)
end
end Mine
end

section
open PySem PySem.W PyProof.Rows PySem.Calls
set_option Elab.async false
set_option maxRecDepth 100000
set_option maxHeartbeats 100000000
namespace Mine
/-- a hex figure's code, great letters -/
def hexC (k : Nat) : Nat := if k < 10 then 48 + k else 55 + k
def qp (k : Nat) : Str := ⟨#[61, hexC (k / 16), hexC (k % 16)]⟩
/-- the table of quoted signs -/
def MapQ (h : Heap) : Prop := ∃ items, h.IsList 95 items ∧ ∀ k < 256, ∃ t, items[k]? = some (.str (qp k) t)
theorem MapQ.keep {h h' : Heap} (x : MapQ h) (k : Ext h h') : MapQ h' := let ⟨i, a, b⟩ := x; ⟨i, a.at fun o e => k _ o e, b⟩
section
variable {prog : Program} {w : World} {A : Around} {s : Shared} {E : Value → Shared → Prop} {p : Program} {loose : List Str} {mean : ExcName → Option Value} {mg mb : Str → Option Value}
theorem item_at {value slice : Expr} {l : Addr} {items : Array Value} {k : Nat} {u : Tok} {x : Value} {Q : Value → Shared → Prop} (hl : s.heap.IsList l items) (hx : items[k]? = some x) (hk : k < 1000) (h : Q x s)
    (hs : subscripted slice false (.ref l) (.int k u) = operate [.ref l, .int k u] (getItem (.ref l) (.int k u))) : wpAny (model prog w) A (subscriptTail value slice (.ref l) (.int k u)) Q E s :=
  tail_any hl.typeIs slot_list_getitem.lookup (wpAny_getItem_list hl (by omega) (by omega) (by simpa using hx) h) hs
theorem use_quote {P : Value → Shared → Prop} {k : Nat} {t : Tok} (T : Top p loose mean mg mb s.heap) (hA : Lo A 6) (hk : k < 256) (hM : MapQ s.heap) :
    (KK w.params).In s.heap → (∀ (h' : Heap) (tk : Nat) (t' : Tok), Ext s.heap h' → P (.str (qp k) t') { s with heap := h', toks := tk }) → wpAny (model PySem.Challenge.rw_tx0025_01.row.prog w) A (call (.ref 122) [.str ⟨#[k]⟩ t]) P E s := by
  k_fill
  intro X ret
  obtain ⟨hp, gs, dr, tk, os⟩ := s
  dsimp only at T X ret hM
  have hro := hA.room
  have hh : A.handled = none := hA.hd
  have hret : Ret _ := Ret.mk ret
  clear ret
  k_dflt (refine' enter (binds := [("c", .str ⟨#[k]⟩ t)]) ?k3 ?k5 ?k6 ?k7 ?k8 ?k9 ?kB ?_ ?c2 ?c3 ?c4 ?c5; (case k3 => k_asm); (case k5 => k_asm); (case k6 => k_is); (case k7 => k_is); (case k8 => exact hro); (case k9 => exact BindsTo.of_eq rfl); (case c5 => decide); (case kB => exact locs rfl); (case c2 => exact rfl); (case c3 => exact rfl); (case c4 => exact rfl); intro h₁ F₁ N₁; dsimp only at F₁ N₁ ⊢)
  k_steps
  obtain ⟨items, hl, hx⟩ := hM
  obtain ⟨ti, hx⟩ := hx k hk
  refine item_at (Fr.lst F₁ hl) hx (by omega) ?_ (by with_unfolding_all rfl)
  exact RetP.mk ((hret : ∀ (h' : Heap) (tk : Nat) (t' : Tok), _) _ _ _ F₁.keep)
end
end Mine
end

section
open PySem PySem.W PyProof.Rows PySem.Calls
set_option Elab.async false
set_option maxRecDepth 100000
set_option maxHeartbeats 100000000
namespace Mine
local macro_rules | `(tactic| walk_at "mine.pad") => `(tactic| fail)
local macro_rules | `(tactic| walk_at "mine.pad") => `(tactic| fail)
local macro_rules | `(tactic| walk_at "mine.pad") => `(tactic| fail)
local macro_rules | `(tactic| walk_at "mine.pad") => `(tactic| fail)
local macro_rules | `(tactic| walk_at "mine.pad") => `(tactic| fail)
local macro_rules | `(tactic| walk_at "mine.pad") => `(tactic| fail)
local macro_rules | `(tactic| walk_at "exec For Name Call cons nil") => `(tactic| ((with_reducible rename Fr _ _ _ _ => FF); refine' For_growF FF ?hx ?hp ?hs ?hE ?_; (case hx => with_unfolding_all rfl); (case hp => with_unfolding_all rfl); (case hs => (intro _; with_unfolding_all rfl)); (case hE => exact noExc_passes)))
def Cells (i : Nat) (ms : List Int) : Prop := ms.length = 7 ∧ ∀ m ∈ ms, 0 ≤ m ∧ m ≤ 168675 + i * 248832
theorem ints_set {b : Int} {t : Tok} : ∀ {vs : List Value} {bs : List Int}, IntsAre vs bs → ∀ k : Nat, IntsAre (vs.set k (.int b t)) (bs.set k b)
  | _, _, .nil, _ => .nil
  | _, _, .cons _ _ h, 0 => .cons b t h
  | _, _, .cons c u h, k + 1 => .cons c u (ints_set h k)
theorem set_row {prog : Program} {w : World} {A : Around} {E : Value → Shared → Prop} {s : Shared} {h₀ : Heap} {L D : Addr} {m : Str → Option Value} {news news' : List (Addr × Obj)} {vs : List Value} {bs : List Int} {n : Nat} {k b : Int} {t u : Tok} {Q : Unit → Shared → Prop}
    (F : Fr h₀ L s.heap m) (N : News h₀ L s.heap news) (hb : IntsAre vs bs) (h0 : 0 ≤ k) (h1 : k < bs.length) (hfit : k < 2 ^ 63) (U : Upd D (listOf vs.toArray n) (listOf (vs.set k.toNat (.int b t)).toArray n) news news')
    (h : ∀ h', Fr h₀ L h' m → News h₀ L h' news' → IntsAre (vs.set k.toNat (.int b t)) (bs.set k.toNat b) → Q () { s with heap := h' }) :
    wpAny (model prog w) A (setItem (.ref D) (.int k u) (.int b t)) Q E s := by
  obtain ⟨pre, post, rfl, rfl, a, b'⟩ := U.split
  have z := N (D, listOf vs.toArray n) (List.mem_append.mpr (.inr (.head _)))
  have hl : vs.length = bs.length := hb.length
  have hs : vs.toArray.size = bs.length := by rw [List.size_toArray]; exact hl
  refine ki_setAt z.1 h0 hfit (by omega) (h _ (F.change (Heap.SameBut.update ..) z.2.1 z.2.2) (ki_turn _ N a b' ?_ ?_) (ints_set hb _))
  · show vs.toArray.setIfInBounds k.toNat (.int b t) = (vs.set k.toNat (.int b t)).toArray
    apply Array.toList_inj.mp
    simp
  · simp
theorem Cells.set {i : Nat} {ms : List Int} {q : Nat} {x y : Int} (h : Cells i ms) (hy : 0 ≤ y ∧ y ≤ 168675 + i * 248832) (hx : 0 ≤ x) (hx' : x ≤ 248832) : Cells (i + 1) (ms.set q (y + x)) := by
  refine ⟨by simp [h.1], fun m hm => ?_⟩
  rcases List.mem_or_eq_of_mem_set hm with hm | rfl
  · have := h.2 m hm; omega
  · omega
theorem TurnG.one {h₀ h h' : Heap} {L : Addr} {r : Addr} {own led : List (Addr × Obj)} {x : Str} {stored : List Str} {m₀ m m' : Str → Option Value} {R : Heap → List Value → Prop} {vs : List Value} {n : Nat} {Q : Flow → Shared → Prop} {gs : Array GenState} {dr : Drawn} {tk tk' : Nat} {os : OsState}
    (F₀ : Fr h₀ L h m) (ow : OwnAll h₀ h [L, r] own) (F : Fr h₀ L h' m') (N : News h₀ L h' led) (ho : ∀ p ∈ own, p ∈ led) (hc : (r, W.listOf vs.toArray n) ∈ led) (hz : ∀ z, z ≠ x → stored.contains z = false → m' z = m₀ z)
    (hJ : KeepBut [L, r] h h' → R h' vs) : TurnG h₀ L [r] own x stored m₀ (fun c h => ∃ vs n, c = [(r, W.listOf vs.toArray n)] ∧ R h vs) ⟨h, gs, dr, tk, os⟩ Q .next ⟨h', gs, dr, tk', os⟩ :=
  TurnG.nx F₀ ow F N ho (cont := [(r, _)]) rfl (fun p hp => List.mem_singleton.mp hp ▸ hc) hz fun k => ⟨vs, n, rfl, hJ k⟩
section
variable {w : World} {p : Program} {loose : List Str} {mean : ExcName → Option Value} {mg mb : Str → Option Value} {A : Around} {s : Shared} {E : Value → Shared → Prop}
theorem use_cells {P : Value → Shared → Prop} {l : Addr} {vs : List Value} {ns : List Int} (T : Top p loose mean mg mb s.heap) (hA : Lo A 6) (hl : s.heap.IsList l vs.toArray) (hi : IntsAre vs ns) (hlen : LenLe ns 63) :
    (KK w.params).In s.heap → (∀ (r : Addr) (vs' : List Value) (n : Nat) (h' : Heap) (tk : Nat) (ms : List Int), Ext s.heap h' → s.heap.get? r = none → h'.get? r = some (W.listOf vs'.toArray n) → IntsAre vs' ms → Cells ns.length ms → P (.ref r) { s with heap := h', toks := tk }) → wpAny (model PySem.Challenge.rw_tx0025_01.row.prog w) A (call (.ref 164) [.ref l]) P E s := by
  k_fill
  intro X ret
  obtain ⟨hp, gs, dr, tk, os⟩ := s
  dsimp only at T X ret hl
  have hro := hA.room
  have hh : A.handled = none := hA.hd
  k_dflt (refine' enter (binds := [("taken", .ref l)]) ?k3 ?k5 ?k6 ?k7 ?k8 ?k9 ?kB ?_ ?c2 ?c3 ?c4 ?c5; (case k3 => k_asm); (case k5 => k_asm); (case k6 => k_is); (case k7 => k_is); (case k8 => exact hro); (case k9 => exact BindsTo.of_eq rfl); (case c5 => decide); (case kB => exact locs rfl); (case c2 => exact rfl); (case c3 => exact rfl); (case c4 => exact rfl); intro h₁ F₁ N₁; dsimp only at F₁ N₁ ⊢)
  have hret : Ret _ := Ret.mk ret
  clear ret
  have hbig : ns.length ≤ 1000 := Nat.le_trans hlen (by decide)
  k_steps
  rename_i r h2 l1 h3 F3 N3 h4 tk4 t1 u1 v1 hr FB NB kB
  clear F3 N3 kB
  dsimp only at hr FB NB ⊢
  refine loop_range (mu := [r]) [] (fun i c h => ∃ vs n, c = [(r, W.listOf vs.toArray n)] ∧ ∃ ms, IntsAre vs ms ∧ Cells i ms) hh hr hbig FB NB rfl ⟨_, 0, rfl, [94728, 168675, 606, 13, 1494, 97, 36], by repeat constructor, by unfold Cells; decide⟩ ?_ ?_ ?_
  · exact fun i c h h' a k => a
  · rintro i ti u c h tk own hii ⟨vs', n, rfl, ms, hI, hC⟩ hc hoff hal F N how
    clear FB NB hr
    simp only [List.cons_append, List.nil_append] at N
    have hlr : Heap.IsList h r vs'.toArray := News.isList N (.head _)
    have hRt : Ret (0 = 0) := rfl
    have hm7 : ms.length = 7 := hC.1
    iterate 7 (first | walk1 | (dsimp only; walk1))
    have hq0 : 0 ≤ (i : Int).fmod 7 := Int.fmod_nonneg_of_pos _ (by decide)
    have hq1 : (i : Int).fmod 7 < 7 := Int.fmod_lt_of_pos _ (by decide)
    generalize (i : Int).fmod 7 = q at hq0 hq1
    refine getItem_intsK hlr hI hq0 (by omega) (by omega) fun tq => ?_
    have hmv : 0 ≤ ms.getD q.toNat 0 ∧ ms.getD q.toNat 0 ≤ 168675 + i * 248832 := hC.2 _ (by
      rw [List.getD_eq_getElem?_getD, List.getElem?_eq_getElem (by omega)]; exact List.getElem_mem (by omega))
    generalize ms.getD q.toNat 0 = mv at hmv
    iterate 7 (first | walk1 | (dsimp only; walk1))
    have hx0 : 0 ≤ (ns.getD (i : Int).toNat 0).fmod 248832 := Int.fmod_nonneg_of_pos _ (by decide)
    have hx1 : (ns.getD (i : Int).toNat 0).fmod 248832 < 248832 := Int.fmod_lt_of_pos _ (by decide)
    generalize (ns.getD (i : Int).toNat 0).fmod 248832 = x at hx0 hx1
    iterate 1 walk1
    refine' set_row ?F ?N hI hq0 (by omega) (by omega) ?U ?_
    case F => k_asm
    case N => k_asm
    case U => k_upd
    intro h5 F5 N5 hI5
    repeat' (first | walk1 | (dsimp only; walk1))
    refine TurnG.one (R := fun _ vs => ∃ ms, IntsAre vs ms ∧ Cells (i + 1) ms) F how F5 N5 (by intro p hp; simp [hp]) (by k_mem) (by intro z hz hs; simp [hz]) fun _ => ⟨_, hI5, hC.set hmv hx0 (by omega)⟩
  · rintro h' tk u c own F N hc how ⟨vs', n, rfl, ms, hI, hC⟩
    clear FB NB hr
    simp only [List.cons_append, List.nil_append] at N
    have hk0 : Ret (Ext hp h') := Ret.mk F.keep
    k_steps
    refine RetP.mk ((hret : ∀ (r : Addr) (vs' : List Value) (n : Nat) (h' : Heap) (tk : Nat) (ms : List Int), _) _ _ n _ _ _ F.keep (N _ (.head _)).2.2 (N _ (.head _)).1 hI hC)
end
end Mine
end

section
open PySem PySem.W PyProof.Rows PySem.Calls
set_option Elab.async false
set_option maxRecDepth 100000
set_option maxHeartbeats 100000000
namespace Mine
section
variable {prog : Program} {w : World} {A : Around} {s : Shared} {K : Frag} {p : Program} {loose : List Str} {mean : ExcName → Option Value} {mg mb : Str → Option Value} {h₀ : Heap} {L : Addr} {m : Str → Option Value} {news : List (Addr × Obj)}
/-- a def of the text is called; the base stays, the caller's frame goes onto the ledger -/
theorem code_in {R : Result → Shared → Prop} {name qual : Str} {params : Arguments} {body : List Stmt} {scope : Scope} {dV kV doc pm cdv ct oc : Value} {an od : Option Addr} {osl : Array (Option Value)} {f : Addr} {args : Args} {binds : List (Str × Value)}
    (X : K.In h₀) (T : Top p loose mean mg mb h₀) (F : Fr h₀ L s.heap m) (N : News h₀ L s.heap news)
    (ho : K.lookup f = some ⟨oc, od, .func (fnOf name qual params body scope dV kV doc pm an cdv ct), osl⟩) (hcd : codeIn K cdv qual = true) (hroom : A.depth < recursionLimit)
    (hbind : BindsTo s (fnOf name qual params body scope dV kV doc pm an cdv ct) args binds) (hloc : ∀ y ∈ binds, scope.names.lookup y.1 = some .local)
    (h : ∀ h₁ oL, Fr h₀ s.heap.objs.size h₁ (fun y => binds.reverse.lookup y) → News h₀ s.heap.objs.size h₁ ((L, oL) :: news) → s.heap.get? L = some oL →
      wpAny (model prog w) (A.deeper (envOf qual scope s.heap.objs.size f cdv)) (execs body (envOf qual scope s.heap.objs.size f cdv)) (RetP fun v s' => R (.ok (.ret v)) s') noExc
        { s with heap := h₁, toks := s.toks + binds.length })
    (hco : scope.isCoroutine = false) (hgen : scope.isGenerator = false) (hk : scope.kind = .function)
    (hcell : ∀ x ∈ scope.names, x.2 ≠ .cell) : codeAny (model prog w) A (.call (.ref f) args) R s :=
  codeAny_call_def (fd := fnOf name qual params body scope dV kV doc pm an cdv ct) (body := body) (binds := binds) hroom ((X.keeps F.keep) _ _ ho) rfl (T.keeps F.keep).nolimit (codeRec_of (X.keeps F.keep) hcd) rfl hbind hcell hloc
    (fun h₁ hns hk₁ => by
      obtain ⟨oL, hL⟩ : ∃ oL, s.heap.get? L = some oL := by
        obtain ⟨_, _, _, hL, _⟩ := F.ns
        exact ⟨_, hL⟩
      have lt : L < s.heap.objs.size := Heap.lt_size hL
      refine wpAny_mono (h h₁ oL ⟨hns, fun b o e => hk₁ _ _ (F.keep b o e), Nat.le_trans F.above (Nat.le_of_lt lt)⟩ ?_ hL) (fun f s' q => by cases f <;> exact q) fun _ _ q => q.elim
      intro p hp
      rcases List.mem_cons.mp hp with rfl | hp
      · refine ⟨hk₁ _ _ hL, Nat.ne_of_lt lt, ?_⟩
        cases q : h₀.get? L with
        | none => rfl
        | some o => exact absurd (Heap.lt_size q) (Nat.not_lt.mpr F.above)
      · obtain ⟨a, b, c⟩ := N p hp
        exact ⟨hk₁ _ _ a, Nat.ne_of_lt (Heap.lt_size a), c⟩) hco hgen hk
theorem leave_in {h h' : Heap} {L' : Addr} {m' : Str → Option Value} {oL : Obj} {led news' : List (Addr × Obj)} (F : Fr h₀ L h m) (F' : Fr h₀ L' h' m') (N' : News h₀ L' h' led) (hL : h.get? L = some oL) (hm : (L, oL) ∈ led) (hs : ∀ p ∈ news', p ∈ led) (hn : ∀ p ∈ news', p.1 ≠ L) :
    Fr h₀ L h' m ∧ News h₀ L h' news' := by
  refine ⟨⟨F.ns.at fun o e => ?_, F'.keep, F.above⟩, fun p hp => ⟨(N' p (hs p hp)).1, hn p hp, (N' p (hs p hp)).2.2⟩⟩
  rw [hL] at e; cases e
  exact (N' _ hm).1
def NewAt (h h' : Heap) (l : List (Addr × Obj)) : Prop := ∀ p ∈ l, h'.get? p.1 = some p.2 ∧ h.get? p.1 = none
theorem news_adds {h h' : Heap} {l : List (Addr × Obj)} (F : Fr h₀ L h m) (N : News h₀ L h' news) (x : NewAt h h' l) : News h₀ L h' (l ++ news) := by
  intro p hp
  rcases List.mem_append.mp hp with hp | hp
  · obtain ⟨ho, hn⟩ := x p hp
    refine ⟨ho, fun q => ?_, ?_⟩
    · obtain ⟨_, _, _, hL, _⟩ := F.ns
      rw [← q, hn] at hL; cases hL
    · cases q : h₀.get? p.1 with
      | none => rfl
      | some o' => have := F.keep _ _ q; rw [hn] at this; cases this
  · exact N p hp
/-- a class of the text with an __init__ of its own is called: the whole heap is the base -/
theorem make_whole {C fI : Addr} {rest : List Value} {kw : List (Str × Value)} {R : Result → Shared → Prop} (X : K.In s.heap) (hm : makesIn K C = true)
    (hi : findIn K (.ref C) "__init__" = some (some (.ref fI))) (hf : isFn K (.ref fI) = true)
    (h : codeAny (model prog w) (A.under (.builtin "type.__call__" ⟨.ref C :: rest, kw⟩)) (.call (.ref fI) ⟨.ref (s.heap.objs.size + 1) :: rest, kw⟩) (InitBack (s.heap.objs.size + 1) R) { s with heap := (s.heap.push emptyDict).push (instObj C s.heap.objs.size) }) :
    codeAny (model prog w) A (.call (.ref C) ⟨rest, kw⟩) R s := by
  obtain ⟨hh, g, d, t, os⟩ := s
  exact make_core (makes_of X hm) (looks_findIn X hi) (fun self => bind_fn X self (beq_iff_eq.mp hf)) (.inl rfl) h
/-- a def of the text is called behind objects that were just made -/
theorem code_new {R : Result → Shared → Prop} {name qual : Str} {params : Arguments} {body : List Stmt} {scope : Scope} {dV kV doc pm cdv ct oc : Value} {an od : Option Addr} {osl : Array (Option Value)} {f : Addr} {args : Args} {binds : List (Str × Value)}
    (X : K.In h₀) (T : Top p loose mean mg mb h₀) (e : Ext h₀ s.heap) (hsz : h₀.objs.size ≤ s.heap.objs.size) (N : ∀ p ∈ news, s.heap.get? p.1 = some p.2 ∧ h₀.get? p.1 = none)
    (ho : K.lookup f = some ⟨oc, od, .func (fnOf name qual params body scope dV kV doc pm an cdv ct), osl⟩) (hcd : codeIn K cdv qual = true) (hroom : A.depth < recursionLimit)
    (hbind : BindsTo s (fnOf name qual params body scope dV kV doc pm an cdv ct) args binds) (hloc : ∀ y ∈ binds, scope.names.lookup y.1 = some .local)
    (h : ∀ h₁, Fr h₀ s.heap.objs.size h₁ (fun y => binds.reverse.lookup y) → News h₀ s.heap.objs.size h₁ news →
      wpAny (model prog w) (A.deeper (envOf qual scope s.heap.objs.size f cdv)) (execs body (envOf qual scope s.heap.objs.size f cdv)) (RetP fun v s' => R (.ok (.ret v)) s') noExc
        { s with heap := h₁, toks := s.toks + binds.length })
    (hco : scope.isCoroutine = false) (hgen : scope.isGenerator = false) (hk : scope.kind = .function)
    (hcell : ∀ x ∈ scope.names, x.2 ≠ .cell) : codeAny (model prog w) A (.call (.ref f) args) R s :=
  codeAny_call_def (fd := fnOf name qual params body scope dV kV doc pm an cdv ct) (body := body) (binds := binds) hroom ((X.keeps e) _ _ ho) rfl (T.keeps e).nolimit (codeRec_of (X.keeps e) hcd) rfl hbind hcell hloc
    (fun h₁ hns hk₁ => by
      refine wpAny_mono (h h₁ ⟨hns, fun b o q => hk₁ _ _ (e b o q), hsz⟩ ?_) (fun f s' q => by cases f <;> exact q) fun _ _ q => q.elim
      intro p hp
      obtain ⟨a, c⟩ := N p hp
      exact ⟨hk₁ _ _ a, Nat.ne_of_lt (Heap.lt_size a), c⟩) hco hgen hk
end
end Mine
end

section
open PySem PySem.W PyProof.Rows PySem.Calls
set_option Elab.async false
set_option maxRecDepth 100000
set_option maxHeartbeats 100000000
namespace Mine
theorem push2 {h : Heap} {o o' : Obj} (f1 : o.isFreed = false) (f2 : o'.isFreed = false) : ∀ p ∈ [(h.objs.size + 1, o'), (h.objs.size, o)], ((h.push o).push o').get? p.1 = some p.2 ∧ h.get? p.1 = none := by
  intro p hp
  have e1 : ((h.push o).push o').get? (h.objs.size + 1) = some o' := by
    have := Heap.get?_push_size (h.push o) f2
    rwa [Heap.size_push] at this
  have e0 : (h.push o).get? h.objs.size = some o := Heap.get?_push_size h f1
  rcases List.mem_cons.mp hp with rfl | hp
  · exact ⟨e1, Heap.get?_none_of_le (Nat.le_succ _)⟩
  · rcases List.mem_singleton.mp hp with rfl
    exact ⟨Heap.get?_push_of_some _ e0, Heap.get?_none_of_le (Nat.le_refl _)⟩
def entryD (w : World) (a b c d : Tok) (r1 r2 : Addr) : Obj :=
  W.dictOf [⟨PyData.keyHash w.params (Str.ofString "useragents"), .str (Str.ofString "useragents") a, .ref r1⟩, ⟨PyData.keyHash w.params (Str.ofString "rulelines"), .str (Str.ofString "rulelines") b, .ref r2⟩,
    ⟨PyData.keyHash w.params (Str.ofString "delay"), .str (Str.ofString "delay") c, .none⟩, ⟨PyData.keyHash w.params (Str.ofString "req_rate"), .str (Str.ofString "req_rate") d, .none⟩] 4
section
variable {w : World} {p : Program} {loose : List Str} {mean : ExcName → Option Value} {mg mb : Str → Option Value} {A : Around} {s : Shared} {E : Value → Shared → Prop} {hp : Heap} {L : Addr} {m : Str → Option Value} {news : List (Addr × Obj)}
theorem use_entry {Q : Value → Shared → Prop} (T : Top p loose mean mg mb s.heap) (hA : Lo A 6) :
    (KK w.params).In s.heap → (∀ (x dx r1 r2 : Addr) (a b c d : Tok) (h' : Heap) (tk : Nat), Ext s.heap h' → NewAt s.heap h' [(r2, W.listOf #[] 0), (r1, W.listOf #[] 0), (x, instObj 76 dx), (dx, entryD w a b c d r1 r2)] → s.heap.objs.size ≤ dx → dx < x → x < r1 → r1 < r2 → Q (.ref x) { s with heap := h', toks := tk }) → wpAny (model PySem.Challenge.rw_tx0025_01.row.prog w) A (call (.ref 76) []) Q E s := by
  k_fill
  intro X ret
  have hro : A.depth + 1 < recursionLimit := by have := hA.dp; unfold recursionLimit; omega
  have hh : A.handled = none := hA.hd
  have hret : Ret _ := Ret.mk ret
  clear ret
  k_dflt (refine' wpAny_call (make_whole X ?k1 ?k2 ?k3 ?_); (case k1 => k_is); (case k2 => k_is); (case k3 => k_is))
  obtain ⟨hp, gs, dr, tk, os⟩ := s
  dsimp only at T X ⊢
  have hN : ∀ p ∈ [(hp.objs.size + 1, instObj 76 hp.objs.size), (hp.objs.size, emptyDict)], _ := push2 rfl rfl
  generalize hx : hp.objs.size + 1 = x at hN ⊢
  generalize hd : hp.objs.size = dx at hN ⊢
  have l2 : dx < x := by omega
  have l0 : hp.objs.size ≤ dx := by omega
  have hl0 : Ret _ := Ret.mk l0
  have hl2 : Ret _ := Ret.mk l2
  have hsz : hp.objs.size ≤ ((hp.push emptyDict).push (instObj 76 dx)).objs.size := by simp only [Heap.size_push]; omega
  have hE : Ext hp ((hp.push emptyDict).push (instObj 76 dx)) := fun b o e => Heap.get?_push_of_some _ (Heap.get?_push_of_some _ e)
  k_dflt (refine' code_new (binds := [("self", .ref x)]) X T hE hsz hN ?k6 ?k7 ?k8 ?k9 ?kB ?_ ?c2 ?c3 ?c4 ?c5; (case k6 => k_is); (case k7 => k_is); (case k8 => exact hro); (case k9 => exact BindsTo.of_eq rfl); (case c5 => decide); (case kB => exact locs rfl); (case c2 => exact rfl); (case c3 => exact rfl); (case c4 => exact rfl); intro h2 F2 N2; dsimp only at F2 N2 ⊢)
  clear hx hd hN hE hsz l0
  k_steps
  repeat (rename _ ∧ _ => hand; rcases hand with ⟨_, _⟩)
  rename News _ _ _ (_ :: _) => NN
  rename Fr _ _ _ _ => FF
  refine RetP.nx ⟨rfl, ?_⟩
  exact (hret : ∀ (x dx r1 r2 : Addr) (a b c d : Tok) (h' : Heap) (tk : Nat), _) x dx _ _ _ _ _ _ _ _ FF.keep (fun p hp => ⟨(NN p hp).1, (NN p hp).2.2⟩) hl0 hl2 (by assumption) (by assumption)
end
end Mine
end

section
open PySem PySem.W PyProof.Rows PySem.Calls
set_option Elab.async false
set_option maxRecDepth 100000
set_option maxHeartbeats 100000000
namespace Mine
/-- a record: its agents -/
def RecAt (w : World) (h : Heap) (x : Addr) (items : Array Value) : Prop := ∃ (dx ra rb : Addr) (n : Nat) (a b c d : Tok), h.get? x = some (instObj 76 dx) ∧ h.get? dx = some (entryD w a b c d ra rb) ∧ h.get? ra = some (W.listOf items n) ∧ h.get? rb = some (W.listOf #[] 0)
theorem RecAt.keep {w : World} {h h' : Heap} {x : Addr} {items : Array Value} (r : RecAt w h x items) (k : Ext h h') : RecAt w h' x items :=
  let ⟨dx, ra, rb, n, a, b, c, d, e1, e2, e3, e4⟩ := r; ⟨dx, ra, rb, n, a, b, c, d, k _ _ e1, k _ _ e2, k _ _ e3, k _ _ e4⟩
/-- a record that is new in h' -/
def RecNew (w : World) (h h' : Heap) (x : Addr) (items : Array Value) : Prop := ∃ (dx ra rb : Addr) (n : Nat) (a b c d : Tok), (h'.get? x = some (instObj 76 dx) ∧ h.get? x = none) ∧ (h'.get? dx = some (entryD w a b c d ra rb) ∧ h.get? dx = none) ∧ (h'.get? ra = some (W.listOf items n) ∧ h.get? ra = none) ∧ (h'.get? rb = some (W.listOf #[] 0) ∧ h.get? rb = none)
theorem RecNew.at {w : World} {h h' : Heap} {x : Addr} {items : Array Value} (r : RecNew w h h' x items) : RecAt w h' x items :=
  let ⟨dx, ra, rb, n, a, b, c, d, e1, e2, e3, e4⟩ := r; ⟨dx, ra, rb, n, a, b, c, d, e1.1, e2.1, e3.1, e4.1⟩
theorem extend_new {prog : Program} {w : World} {A : Around} {E : Value → Shared → Prop} {s : Shared} {h₀ : Heap} {L D b : Addr} {m : Str → Option Value} {news news' : List (Addr × Obj)} {its2 : Array Value} {n n2 : Nat} {Q : Value → Shared → Prop}
    (F : Fr h₀ L s.heap m) (N : News h₀ L s.heap news) (hb : s.heap.get? b = some (W.listOf its2 n2)) (hne : its2.size ≠ 0) (hz : its2.size ≤ 1000) (U : Upd D (W.listOf #[] n) (W.listOf its2 (n + 1)) news news')
    (h : ∀ h', Fr h₀ L h' m → News h₀ L h' news' → Q .none { s with heap := h' }) : wpAny (model prog w) A (call (.builtin "list.extend") [.ref D, .ref b]) Q E s := by
  obtain ⟨pre, post, rfl, rfl, a, c⟩ := U.split
  have z := N (D, W.listOf #[] n) (List.mem_append.mpr (.inr (.head _)))
  refine call_meets PySem.F.slot_list_extend ⟨_, z.1, rfl⟩ PySem.F.entry_list_extend (PySem.F.args_list_extend_2 _ _) (PySem.AutoSeq1.list_extend_list_list_0 D #[] n b its2 n2 (by simp) (by simp) (by simp [sizeLine]; omega)) ⟨z.1, hb, h _ (F.change (Heap.SameBut.update ..) z.2.1 z.2.2) (kl_turn _ N a c ?_ ?_)⟩
  · simp
  · simpa using hne
local macro_rules | `(tactic| walk_at "call builtin:list.extend") => `(tactic| (refine' extend_new ?F ?N ?b ?ne ?z ?U ?_; (case F => k_asm); (case N => k_asm); (case b => exact Fr.keep (by k_asm) _ _ (by assumption)); (case U => k_upd); (case ne => (rw [List.size_toArray]; assumption)); (case z => (rw [List.size_toArray]; omega)); intro h' F' N'; (try dsimp only at N')))
local macro_rules | `(tactic| walk_at "call ref") => `(tactic| (with_unfolding_all (refine' use_entry ?T ?A ?X ?_; (case T => exact Top.keeps (by assumption) (Fr.keep (by k_asm))); (case A => exact Lo.le (Lo.deeper (by assumption)) (by decide)); (case X => exact Frag.In.keeps (by assumption) (Fr.keep (by k_asm))); intro x dx r1 r2 ta tb tc td h5 tk5 e5 n5 l0 l2 l3 l4; have F' := fr_ext (by k_asm) e5; have N' := news_adds (by k_asm) (news_ext (by k_asm) e5) n5; clear e5 n5; k_lt2 l2; k_lt2 l3; k_lt2 l4; simp only [entryD, List.cons_append, List.nil_append] at N'; (try dsimp only at F' N'))))
section
variable {w : World} {p : Program} {loose : List Str} {mean : ExcName → Option Value} {mg mb : Str → Option Value} {A : Around} {s : Shared} {E : Value → Shared → Prop}
theorem use_record {P : Value → Shared → Prop} {l : Addr} {vs : List Value} {nl : Nat} (T : Top p loose mean mg mb s.heap) (hA : Lo A 7) (hl : s.heap.get? l = some (W.listOf vs.toArray nl)) (hlen : vs.length ≤ 16) (hne : vs.length ≠ 0) :
    (KK w.params).In s.heap → (∀ (r : Addr) (h' : Heap) (tk : Nat), Ext s.heap h' → RecNew w s.heap h' r vs.toArray → P (.ref r) { s with heap := h', toks := tk }) → wpAny (model PySem.Challenge.rw_tx0025_01.row.prog w) A (call (.ref 212) [.ref l]) P E s := by
  k_fill
  intro X ret
  obtain ⟨hp, gs, dr, tk, os⟩ := s
  dsimp only at T X ret hl
  have hro := hA.room
  have hh : A.handled = none := hA.hd
  k_dflt (refine' enter (binds := [("texts", .ref l)]) ?k3 ?k5 ?k6 ?k7 ?k8 ?k9 ?kB ?_ ?c2 ?c3 ?c4 ?c5; (case k3 => k_asm); (case k5 => k_asm); (case k6 => k_is); (case k7 => k_is); (case k8 => exact hro); (case k9 => exact BindsTo.of_eq rfl); (case c5 => decide); (case kB => exact locs rfl); (case c2 => exact rfl); (case c3 => exact rfl); (case c4 => exact rfl); intro h₁ F₁ N₁; dsimp only at F₁ N₁ ⊢)
  have hret : Ret _ := Ret.mk ret
  clear ret
  k_steps
  rename News _ _ _ (_ :: _) => NN
  rename Fr _ _ _ _ => FF
  refine RetP.mk ?_
  refine (hret : ∀ (r : Addr) (h' : Heap) (tk : Nat), _) _ _ _ FF.keep ?_
  exact ⟨_, _, _, _, _, _, _, _, ⟨(NN _ (.tail _ (.tail _ (.head _)))).1, (NN _ (.tail _ (.tail _ (.head _)))).2.2⟩, ⟨(NN _ (.tail _ (.tail _ (.tail _ (.head _))))).1, (NN _ (.tail _ (.tail _ (.tail _ (.head _))))).2.2⟩, ⟨(NN _ (.tail _ (.head _))).1, (NN _ (.tail _ (.head _))).2.2⟩, ⟨(NN _ (.head _)).1, (NN _ (.head _)).2.2⟩⟩
end
end Mine
end

section
open PySem PySem.W PyProof.Rows PySem.Calls
set_option Elab.async false
set_option maxRecDepth 100000
set_option maxHeartbeats 100000000
namespace Mine
local macro_rules | `(tactic| walk_at "mine.pad") => `(tactic| fail)
local macro_rules | `(tactic| walk_at "mine.pad") => `(tactic| fail)
local macro_rules | `(tactic| walk_at "mine.pad") => `(tactic| fail)
local macro_rules | `(tactic| walk_at "mine.pad") => `(tactic| fail)
local macro_rules | `(tactic| walk_at "mine.pad") => `(tactic| fail)
local macro_rules | `(tactic| walk_at "mine.pad") => `(tactic| fail)
theorem rec_get {prog : Program} {w : World} {A : Around} {E : Value → Shared → Prop} {s : Shared} {K : Frag} {h₀ : Heap} {L x dx C : Addr} {m : Str → Option Value} {es : List DictEntry} {n : Nat} {name : Str} {v : Value} {expr : Bool} {Q : Value → Shared → Prop} {attr : Option Value}
    (F : Fr h₀ L s.heap m) (X₀ : K.In h₀) (e1 : h₀.get? x = some (instObj C dx)) (e2 : h₀.get? dx = some (W.dictOf es n)) (hg : plainGet K C name = true) (hh : hasDictIn K C = true)
    (ha : findIn K (.ref C) name = some attr) (hn : noGet K attr = true) (hl : getL name es = some (some v)) (hv : handedIn v = true) (h : Q v { s with toks := s.toks + 1 }) :
    wpAny (model prog w) A (getAttr (.ref x) name expr) Q E s :=
  get_own F X₀ ⟨F.keep _ _ e1, rfl, rfl, F.keep _ _ e2⟩ hg hh ha hn hl hv h
local macro_rules | `(tactic| walk_at "getAttr ref") => `(tactic| (k_dflt (refine' rec_get ?k1 ?k2 ?ka ?kb ?k4 ?k5 ?k6 ?k7 ?k8 ?k9 ?_; (case k1 => k_asm); (case k2 => k_asm); (case ka => assumption); (case kb => assumption); (case k4 => k_is); (case k5 => k_is); (case k6 => k_is); (case k7 => k_is); (case k8 => k_get); (case k9 => k_handed))))
local macro_rules | `(tactic| walk_at "exec For Name Attribute cons nil") => `(tactic| ((with_reducible rename Fr _ _ _ _ => FF); refine' For_growF FF ?hx ?hp ?hs ?hE ?_; (case hx => with_unfolding_all rfl); (case hp => with_unfolding_all rfl); (case hs => (intro _; with_unfolding_all rfl)); (case hE => exact noExc_passes)))
theorem low_fit {x : Str} (h : x.length ≤ 1000) : Builtin.Str.tooLong (Txt.lower x).length = false := by
  have := len_lower x
  simp only [Builtin.Str.tooLong, sizeLine, gt_iff_lt, decide_eq_false_iff_not]
  omega
theorem strs_get : ∀ {vs : List Value} {ts : List Str}, StrsAre vs ts → ∀ {i : Nat} {v : Value}, vs[i]? = some v → ∃ a t, v = .str a t ∧ ts[i]? = some a
  | _, _, .cons y t _, 0, _, e => ⟨y, t, by simpa using e.symm, rfl⟩
  | _, _, .cons _ _ h, i + 1, _, e => strs_get h (by simpa using e)
theorem take_snoc {α : Type} {l : List α} {i : Nat} {a : α} (h : l[i]? = some a) : l.take (i + 1) = l.take i ++ [a] := by
  rw [List.take_add_one, h]; rfl
theorem strs_len {vs : List Value} {ts : List Str} (h : StrsAre vs ts) : vs.length = ts.length := by
  induction h with
  | nil => rfl
  | cons y t _ ih => simp [ih]
section
variable {w : World} {p : Program} {loose : List Str} {mean : ExcName → Option Value} {mg mb : Str → Option Value} {A : Around} {s : Shared} {E : Value → Shared → Prop}
def hitS (name agent : Str) : Bool := agent != ⟨#[42]⟩ && Txt.contains name (Txt.lower agent)
def headS (text : Str) : Str := Txt.lower ((Txt.split text ⟨#[47]⟩).headD ⟨#[]⟩)
theorem use_applies {P : Value → Shared → Prop} {x : Addr} {vs : List Value} {ts : List Str} {text : Str} {t : Tok} (T : Top p loose mean mg mb s.heap) (hA : Lo A 6) (hr : RecAt w s.heap x vs.toArray) (hi : StrsAre vs ts) (hlen : ∀ a ∈ ts, a.length ≤ 1000) (hx : text.length ≤ 1000) :
    (KK w.params).In s.heap → (∀ (h' : Heap) (tk : Nat), Ext s.heap h' → P (.bool (ts.any (hitS (headS text)))) { s with heap := h', toks := tk }) → wpAny (model PySem.Challenge.rw_tx0025_01.row.prog w) A (call (.ref 66) [.ref x, .str text t]) P E s := by
  k_fill
  intro X ret
  obtain ⟨hp, gs, dr, tk, os⟩ := s
  obtain ⟨dx, ra, rb, n, ta, tb, tc, td, e1, e2, e3, e4⟩ := hr
  dsimp only [entryD] at T X ret e1 e2 e3 e4
  have hro := hA.room
  have hh : A.handled = none := hA.hd
  k_dflt (refine' enter (binds := [("self", .ref x), ("useragent", .str text t)]) ?k3 ?k5 ?k6 ?k7 ?k8 ?k9 ?kB ?_ ?c2 ?c3 ?c4 ?c5; (case k3 => k_asm); (case k5 => k_asm); (case k6 => k_is); (case k7 => k_is); (case k8 => exact hro); (case k9 => exact BindsTo.of_eq rfl); (case c5 => decide); (case kB => exact locs rfl); (case c2 => exact rfl); (case c3 => exact rfl); (case c4 => exact rfl); intro h₁ F₁ N₁; dsimp only at F₁ N₁ ⊢)
  have hret : Ret _ := Ret.mk ret
  have hlen' : Ret _ := Ret.mk hlen
  clear ret hlen
  k_steps
  rename_i l2 h2 k2 hl1 hl2 hl3 hl4 F2 N2 y ty hy
  have hyl : y.length ≤ 1000 := Nat.le_trans (hl3 y (List.mem_of_getElem? hy)) hx
  have hyh : Held y ((Txt.split text ⟨#[47]⟩).headD ⟨#[]⟩) := by
    show y = _
    rw [hl1] at hy
    rw [List.headD_eq_head?_getD, List.head?_eq_getElem?]
    have e : (Txt.split text (Str.ofString "/"))[0]? = some y := hy
    rw [show (⟨#[47]⟩ : Str) = Str.ofString "/" from rfl, e]
    rfl
  clear hl1 hl2 hl3 hl4 hy hx
  refine SC.lower (low_fit hyl) ?_
  have hyz : Held (Txt.lower y) (headS text) := congrArg Txt.lower hyh
  generalize Txt.lower y = z at hyz
  k_steps
  rename Fr _ _ _ _ => FF
  rename News _ _ _ _ => NN
  have hl : Heap.IsList _ ra vs.toArray := Fr.lst FF ⟨_, e3, rfl, _, rfl⟩
  refine loop_list (mu := []) (cont := []) [] (fun i c h => (ts.take i).any (hitS z) = false) hh hl (by simp) FF News.nil rfl rfl ?_ ?_ ?_
  · exact fun i c h h' a k => a
  · intro i v u c h tk own hv hJ hc hoff hal F N how
    obtain rfl : c = [] := List.map_eq_nil_iff.mp hc
    obtain ⟨a, ta', rfl, ha⟩ := strs_get hi (by simpa using hv)
    have hal' : a.length ≤ 1000 := (hlen' : ∀ (a : Str), a ∈ ts → a.length ≤ 1000) a (List.mem_of_getElem? ha)
    have ha' : Held _ _ := ha
    clear FF NN hl hv ha hal
    simp only [List.nil_append] at N
    have F0 : Ret _ := Ret.mk F
    k_steps
    · rename Fr _ _ _ _ => FF
      rename News _ _ _ own => NN
      refine TurnG.nx (F0 : Fr _ _ _ _) how FF NN (by intro p hp; exact hp) (cont := []) rfl (by simp) (by intro z hz hs; simp [hz]) fun _ => ?_
      rw [take_snoc ha', List.any_append, hJ]
      simp only [List.any_cons, List.any_nil, hitS, Txt.contains, *]
      simp
    · rename Fr _ _ _ _ => FF
      refine TurnG.ret (RetP.mk ?_)
      have e : ts.any (hitS (headS text)) = true := by
        rw [List.any_eq_true]
        refine ⟨a, List.mem_of_getElem? ha', ?_⟩
        have hz : z = headS text := hyz
        rw [← hz]
        clear hz
        have q1 : (a != ⟨#[42]⟩) = true := by assumption
        have q2 : (Builtin.Str.occurrences z (Txt.lower a) 0 z.length 1).isEmpty = false := by assumption
        simp [hitS, Txt.contains, q1, q2]
      rw [← e]
      exact (hret : ∀ (h' : Heap) (tk : Nat), _) _ _ FF.keep
    · rename Fr _ _ _ _ => FF
      rename News _ _ _ own => NN
      refine TurnG.nx FF how FF NN (by intro p hp; exact hp) (cont := []) rfl (by simp) (by intro z hz hs; simp [hz]) fun _ => ?_
      rw [take_snoc ha', List.any_append, hJ]
      have q : (a != ⟨#[42]⟩) = false := by assumption
      simp [hitS, q]
  · rintro h' tk u c own F N hc how hJ
    have hk0 : Ret (Ext hp h') := Ret.mk F.keep
    k_steps
    refine RetP.mk ?_
    have e : ts.any (hitS (headS text)) = false := by
      have hz : z = headS text := hyz
      rw [← hz]
      have h1 : vs.toArray.size = ts.length := by rw [List.size_toArray]; exact strs_len hi
      rw [h1, List.take_length] at hJ
      exact hJ
    rw [← e]
    exact (hret : ∀ (h' : Heap) (tk : Nat), _) _ _ F.keep
end
end Mine
end

section
open PySem PySem.W PyProof.Rows PySem.Calls
set_option Elab.async false
set_option maxRecDepth 100000
set_option maxHeartbeats 100000000
namespace Mine
local macro_rules | `(tactic| walk_at "getAttr ref") => `(tactic| (k_dflt (refine' rec_get ?k1 ?k2 ?ka ?kb ?k4 ?k5 ?k6 ?k7 ?k8 ?k9 ?_; (case k1 => k_asm); (case k2 => k_asm); (case ka => assumption); (case kb => assumption); (case k4 => k_is); (case k5 => k_is); (case k6 => k_is); (case k7 => k_is); (case k8 => k_get); (case k9 => k_handed))))
section
variable {w : World} {p : Program} {loose : List Str} {mean : ExcName → Option Value} {mg mb : Str → Option Value} {A : Around} {s : Shared} {E : Value → Shared → Prop}
theorem use_applies_none {P : Value → Shared → Prop} {x : Addr} {vs : List Value} {ts : List Str} (T : Top p loose mean mg mb s.heap) (hA : Lo A 6) (hr : RecAt w s.heap x vs.toArray) (hi : StrsAre vs ts) :
    (KK w.params).In s.heap → (∀ (h' : Heap) (tk : Nat), Ext s.heap h' → P (.bool (ts.any fun x => x == Str.ofString "*")) { s with heap := h', toks := tk }) → wpAny (model PySem.Challenge.rw_tx0025_01.row.prog w) A (call (.ref 66) [.ref x, .none]) P E s := by
  k_fill
  intro X ret
  obtain ⟨hp, gs, dr, tk, os⟩ := s
  obtain ⟨dx, ra, rb, n, ta, tb, tc, td, e1, e2, e3, e4⟩ := hr
  dsimp only [entryD] at T X ret e1 e2 e3 e4
  have hro := hA.room
  have hh : A.handled = none := hA.hd
  k_dflt (refine' enter (binds := [("self", .ref x), ("useragent", .none)]) ?k3 ?k5 ?k6 ?k7 ?k8 ?k9 ?kB ?_ ?c2 ?c3 ?c4 ?c5; (case k3 => k_asm); (case k5 => k_asm); (case k6 => k_is); (case k7 => k_is); (case k8 => exact hro); (case k9 => exact BindsTo.of_eq rfl); (case c5 => decide); (case kB => exact locs rfl); (case c2 => exact rfl); (case c3 => exact rfl); (case c4 => exact rfl); intro h₁ F₁ N₁; dsimp only at F₁ N₁ ⊢)
  have hret : Ret _ := Ret.mk ret
  have hl : hp.IsList ra vs.toArray := ⟨_, e3, rfl, _, rfl⟩
  clear ret
  k_steps
  refine RetP.mk ?_
  exact (hret : ∀ (h' : Heap) (tk : Nat), _) _ _ F₁.keep
end
end Mine
end

section
open PySem PySem.W PyProof.Rows PySem.Calls
set_option Elab.async false
set_option maxRecDepth 100000
namespace Mine
def qps (ns : List Nat) : List Nat := ns.flatMap fun k => [61, hexC (k / 16), hexC (k % 16)]
theorem hexC_mem : ∀ k < 16, hexC k ∈ hexU := by decide
theorem hexVal_hexC : ∀ k < 16, hexVal (hexC k) = k := by decide
theorem qps_len : ∀ ns : List Nat, (qps ns).length = 3 * ns.length
  | [] => rfl
  | n :: ns => by
    have := qps_len ns
    unfold qps at *
    rw [List.flatMap_cons, List.length_append, this]
    simp; omega
theorem qps_get : ∀ {ns : List Nat} {k n : Nat}, ns[k]? = some n → (qps ns)[3 * k]? = some 61 ∧ (qps ns)[3 * k + 1]? = some (hexC (n / 16)) ∧ (qps ns)[3 * k + 2]? = some (hexC (n % 16))
  | [], k, n, h => by simp at h
  | a :: ns, 0, n, h => by
    obtain rfl : a = n := by simpa using h
    simp [qps]
  | a :: ns, k + 1, n, h => by
    have h' : ns[k]? = some n := by simpa using h
    have ih := qps_get h'
    have e : ∀ j, (qps (a :: ns))[3 * (k + 1) + j]? = (qps ns)[3 * k + j]? := fun j => by
      unfold qps
      rw [List.flatMap_cons, List.getElem?_append_right (by simp; omega)]
      congr 1
      simp; omega
    exact ⟨(e 0).trans ih.1, (e 1).trans ih.2.1, (e 2).trans ih.2.2⟩
theorem qps_mem {ns : List Nat} (ho : ∀ k ∈ ns, k < 256) : ∀ c ∈ qps ns, c = 61 ∨ c ∈ hexU := by
  intro c hc
  obtain ⟨k, hk, hc⟩ := List.mem_flatMap.mp hc
  have := ho k hk
  simp only [List.mem_cons, List.not_mem_nil, or_false] at hc
  rcases hc with rfl | rfl | rfl
  · exact .inl rfl
  · exact .inr (hexC_mem _ (by omega))
  · exact .inr (hexC_mem _ (by omega))
theorem plain_sign : ∀ c, c = 61 ∨ c ∈ hexU → Unicode.isLineBreak c = false ∧ Unicode.isSpace c = false := by
  have h : ∀ c ∈ (61 :: hexU), Unicode.isLineBreak c = false ∧ Unicode.isSpace c = false := by decide +kernel
  intro c hc
  exact h c (by rcases hc with rfl | hc; exact .head _; exact .tail _ hc)
open StrLaws in
theorem ls_none {s : Str} (h : ∀ i < s.length, Unicode.isLineBreak (s.cps.getD i 0) = false) : ∀ (m cur : Nat), cur + m ≤ s.length → Id.run (forIn (m := Id) (List.range' cur m) ((#[], 0) : LsSt) (lsBody s)) = (#[], 0)
  | 0, cur, _ => rfl
  | m + 1, cur, hm => by
    rw [List.range'_succ, List.forIn_cons]
    have hb := h cur (by omega)
    unfold lsBody
    simp only [hb, Bool.and_false, Bool.false_eq_true, if_false]
    exact ls_none h m (cur + 1) (by omega)
theorem lines_one {x : Str} (h : ∀ c ∈ x.cps.toList, Unicode.isLineBreak c = false) (hne : x.length ≠ 0) : Txt.lines x = [x] := by
  have h' : ∀ i < x.length, Unicode.isLineBreak (x.cps.getD i 0) = false := fun i hi => by
    have hi' : i < x.cps.size := hi
    refine h _ ?_
    rw [Array.getD_eq_getD_getElem?, Array.getElem?_eq_getElem hi', Option.getD_some]
    exact Array.getElem_mem_toList hi'
  have e : Builtin.Str.lineSpans x = [(0, x.length, x.length)] := by
    rw [StrLaws.ls_eq, ← List.range_eq_range', List.range_eq_range', ls_none h' x.length 0 (by omega)]
    unfold StrLaws.lsEnd
    rw [if_pos (by show 0 < x.length; omega)]
    rfl
  have e2 : (lineCuts x) = [(0, x.length)] := by unfold lineCuts; rw [e]; rfl
  unfold Txt.lines
  rw [e2]
  simp [Builtin.Str.strSub]
theorem rstrip_same {x : Str} (hne : x.length ≠ 0) (h : ∀ c ∈ x.cps.toList, Unicode.isSpace c = false) : Txt.rstrip x = x := by
  unfold Txt.rstrip Txt.stripBy
  rw [if_pos]
  unfold stripSame stripHi stripLo
  simp only [Bool.and_eq_true, beq_iff_eq]
  refine ⟨rfl, ?_⟩
  have e : (x.cps.toList.drop 0).reverse.takeWhile Unicode.isSpace = [] := by
    rw [List.drop_zero]
    cases q : x.cps.toList.reverse with
    | nil => rfl
    | cons c r =>
      have hc : c ∈ x.cps.toList := List.mem_reverse.mp (by rw [q]; exact .head _)
      rw [List.takeWhile_cons, h c hc]
      rfl
  simp only [Bool.false_eq_true, if_false, if_true, e]
  rfl
end Mine
end

section
open PySem PySem.W PyProof.Rows PySem.Calls
set_option Elab.async false
set_option maxRecDepth 100000
namespace Mine
open Builtin.Str in
theorem range_one {l u : Nat} (h : l ≤ u) : sliceRange (l : Int) (u : Int) 1 = List.range' l (u - l) := by
  unfold sliceRange
  have e : (if (1 : Int) > 0 then (if (l : Int) < u then ((u : Int) - l + 1 - 1) / 1 else 0) else (if (l : Int) > u then ((l : Int) - u - 1 - 1) / (-1) else 0)).toNat = u - l := by
    rw [if_pos (by decide)]
    split
    · rw [Int.ediv_one]; omega
    · omega
  simp only [e]
  rw [List.range'_eq_map_range]
  refine List.map_congr_left fun k _ => ?_
  omega
theorem pick_range {α : Type} (xs : Array α) (l : Nat) : ∀ n, l + n ≤ xs.size → (List.range' l n).filterMap (xs[·]?) = (xs.toList.drop l).take n
  | 0, _ => by simp
  | n + 1, h => by
    have ih := pick_range xs (l) n (by omega)
    rw [List.range'_concat, List.filterMap_append, ih]
    have hx : l + n < xs.size := by omega
    rw [List.take_add_one, List.getElem?_drop]
    simp [hx]
open Builtin.Str in
theorem slice_core {x : Str} {lo hi : Option Int} {l u : Nat} (h : l ≤ u) (hu : u ≤ x.length) (e : strSliceIndices lo hi 1 x.length = sliceRange (l : Int) (u : Int) 1) : Txt.slice x lo hi = ⟨((x.cps.toList.drop l).take (u - l)).toArray⟩ := by
  unfold Txt.slice
  rw [e, range_one h]
  have hx : x.length = x.cps.size := rfl
  split
  · rename_i q
    simp only [List.length_range', Bool.and_eq_true, beq_iff_eq] at q
    have h1 : u - l = x.length := q.2
    have h2 : l = 0 := by omega
    subst h2
    obtain ⟨cps⟩ := x
    rw [h1]
    show (⟨cps⟩ : Str) = ⟨((cps.toList.drop 0).take cps.size).toArray⟩
    rw [List.drop_zero, ← Array.length_toList, List.take_length]
  · rw [pick_range _ _ _ (by omega)]
open Builtin.Str in
theorem slice_nat {x : Str} {i j : Int} {l u : Nat} (hi : i = l) (hj : j = u) (h : l ≤ u) (hu : u ≤ x.length) : Txt.slice x (some i) (some j) = ⟨((x.cps.toList.drop l).take (u - l)).toArray⟩ := by
  refine slice_core h hu ?_
  subst hi hj
  have e1 : max (0 : Int) (min (l : Int) x.length) = l := by omega
  have e2 : max (0 : Int) (min (u : Int) x.length) = u := by omega
  unfold strSliceIndices
  simp only [show ¬ ((l : Int) < 0) by omega, show ¬ ((u : Int) < 0) by omega, if_false, show (1 : Int) > 0 by decide, if_true, e1, e2]
open Builtin.Str in
theorem slice_neg {x : Str} {i j : Int} {l u : Nat} (hi : i = l) (hj : j + x.length = u) (hj0 : j < 0) (h : l ≤ u) : Txt.slice x (some i) (some j) = ⟨((x.cps.toList.drop l).take (u - l)).toArray⟩ := by
  have hu : u ≤ x.length := by omega
  refine slice_core h hu ?_
  subst hi
  have e1 : max (0 : Int) (min (l : Int) x.length) = l := by omega
  have e2 : max (0 : Int) (min (j + x.length) x.length) = u := by omega
  unfold strSliceIndices
  simp only [show ¬ ((l : Int) < 0) by omega, hj0, if_false, show (1 : Int) > 0 by decide, if_true, e1, e2]
open Builtin.Str in
theorem slice_drop {x : Str} {j : Int} {u : Nat} (hj : j + x.length = u) (hj0 : j < 0) : Txt.slice x none (some j) = ⟨(x.cps.toList.take u).toArray⟩ := by
  have hu : u ≤ x.length := by omega
  rw [slice_core (l := 0) (Nat.zero_le u) hu ?_]
  · simp
  have e2 : max (0 : Int) (min (j + x.length) x.length) = u := by omega
  unfold strSliceIndices
  simp only [hj0, if_false, show (1 : Int) > 0 by decide, if_true, e2]
  rfl
theorem item_nat {x : Str} {i : Int} {k c : Nat} (hi : i = k) (hc : x.cps[k]? = some c) : Txt.item x i = ⟨#[c]⟩ := by
  subst hi
  have hk : k < x.cps.size := by
    false_or_by_contra
    rw [Array.getElem?_eq_none (by omega)] at hc; cases hc
  unfold Txt.item Txt.charAt
  rw [seqIndex_of (by omega) (by show (k : Int) < (x.cps.size : Nat); omega)]
  simp [hc]
theorem qps_at {text : Str} {ns : List Nat} {k n : Nat} (ht : text.cps = (qps ns).toArray) (hn : ns[k]? = some n) :
    Txt.item text ((3 * k : Nat) : Int) = ⟨#[61]⟩ ∧ Txt.item text (((3 * k : Nat) : Int) + 1) = ⟨#[hexC (n / 16)]⟩ ∧ Txt.item text (((3 * k : Nat) : Int) + 2) = ⟨#[hexC (n % 16)]⟩ ∧
      Txt.slice text (some ((3 * k : Nat) : Int)) (some (((3 * k : Nat) : Int) + 3)) = ⟨#[61, hexC (n / 16), hexC (n % 16)]⟩ := by
  obtain ⟨h0, h1, h2⟩ := qps_get hn
  have hk : k < ns.length := by
    false_or_by_contra
    rw [List.getElem?_eq_none (by omega)] at hn; cases hn
  have g : ∀ j : Nat, text.cps[j]? = (qps ns)[j]? := fun j => by rw [ht]; simp
  refine ⟨item_nat rfl (by rw [g]; exact h0), item_nat (k := 3 * k + 1) (by omega) (by rw [g]; exact h1), item_nat (k := 3 * k + 2) (by omega) (by rw [g]; exact h2), ?_⟩
  have hl : text.length = 3 * ns.length := by
    show text.cps.size = _
    rw [ht, List.size_toArray, qps_len]
  rw [slice_nat (l := 3 * k) (u := 3 * k + 3) rfl (by omega) (by omega) (by omega)]
  congr 2
  rw [show text.cps.toList = qps ns from by rw [ht]]
  rw [show 3 * k + 3 - 3 * k = 3 by omega]
  rw [List.take_add_one, List.take_add_one, List.take_add_one]
  simp only [List.getElem?_drop, List.take_zero, Nat.add_zero, h0, h1, h2]
  rfl
end Mine
end

section
open PySem PySem.W PyProof.Rows PySem.Calls
set_option Elab.async false
set_option maxRecDepth 100000
set_option maxHeartbeats 100000000
namespace Mine
local macro_rules | `(tactic| walk_at "mine.pad") => `(tactic| fail)
local macro_rules | `(tactic| walk_at "mine.pad") => `(tactic| fail)
local macro_rules | `(tactic| walk_at "mine.pad") => `(tactic| fail)
local macro_rules | `(tactic| walk_at "mine.pad") => `(tactic| fail)
local macro_rules | `(tactic| walk_at "mine.pad") => `(tactic| fail)
local macro_rules | `(tactic| walk_at "mine.pad") => `(tactic| fail)
local macro_rules | `(tactic| walk_at "exec For Name Call cons nil") => `(tactic| ((with_reducible rename Fr _ _ _ _ => FF); refine' For_growF FF ?hx ?hp ?hs ?hE ?_; (case hx => with_unfolding_all rfl); (case hp => with_unfolding_all rfl); (case hs => (intro _; with_unfolding_all rfl)); (case hE => exact noExc_passes)))
def decP (ns : List Nat) (k : Nat) : Str := if k = ns.length then ⟨(ns ++ [10]).toArray⟩ else ⟨(ns.take k).toArray⟩
theorem decP_succ {ns : List Nat} {k : Nat} (h : k < ns.length) : decP ns k ++ ⟨#[ns[k]]⟩ = ⟨(ns.take (k + 1)).toArray⟩ := by
  unfold decP
  rw [if_neg (by omega), List.take_add_one, List.getElem?_eq_getElem h]
  show (⟨_⟩ : Str) = _
  simp
theorem decP_len {ns : List Nat} {k : Nat} (h : k < ns.length) : (decP ns k).length = k := by
  unfold decP
  rw [if_neg (by omega)]
  show (List.toArray _).size = _
  simp; omega
theorem occ_nl : ∀ a ∈ hexU, (Builtin.Str.occurrences (Str.ofString "\r\n") ⟨#[a]⟩ 0 (Str.ofString "\r\n").length 1).isEmpty = true := by decide +kernel
theorem ends_nl (ns : List Nat) : Txt.endswith ⟨(ns ++ [10]).toArray⟩ (Str.ofString "\n") = true := by
  unfold Txt.endswith Builtin.Str.subAt
  have e1 : (⟨(ns ++ [10]).toArray⟩ : Str).length = ns.length + 1 := by show (ns ++ [10]).toArray.size = _; simp
  have e2 : (Str.ofString "\n").length = 1 := rfl
  have e3 : (Str.ofString "\n").cps = #[10] := rfl
  rw [e1, e2, e3, Bool.and_eq_true]
  refine ⟨by simp, ?_⟩
  rw [beq_iff_eq]
  apply Array.toList_inj.mp
  simp
theorem qps_last {text : Str} {ns : List Nat} (ht : text.cps = (qps ns).toArray) (h0 : ¬ ns.length = 0) (ho : ∀ k ∈ ns, k < 256) : ∃ c ∈ hexU, Txt.item text (-1) = ⟨#[c]⟩ := by
  have hl : text.length = 3 * ns.length := by
    show text.cps.size = _
    rw [ht, List.size_toArray, qps_len]
  have hk : ns.length - 1 < ns.length := by omega
  have hn : ns[ns.length - 1]? = some ns[ns.length - 1] := by simp [hk]
  obtain ⟨_, _, h2⟩ := qps_get hn
  refine ⟨hexC (ns[ns.length - 1] % 16), hexC_mem _ (by omega), ?_⟩
  unfold Txt.item Txt.charAt
  rw [seqIndex?_neg_one (by omega)]
  have e : text.cps[text.length - 1]? = some (hexC (ns[ns.length - 1] % 16)) := by
    rw [ht, hl, List.getElem?_toArray, show 3 * ns.length - 1 = 3 * (ns.length - 1) + 2 by omega]
    exact h2
  simp [e]
theorem occ_hex : ∀ a ∈ hexU, (Builtin.Str.occurrences (Str.ofString "0123456789abcdefABCDEF") ⟨#[a]⟩ 0 (Str.ofString "0123456789abcdefABCDEF").length 1).isEmpty = false := by decide +kernel
theorem wmap {v1 v2 v2' v3 v4 v5 v5' : Option Value} {u m0 : Str → Option Value} (h2 : v2 = v2') (h5 : v5 = v5') :
    (fun y => if y = Str.ofString "n" then v1 else if y = Str.ofString "i" then v2 else if y = Str.ofString "line" then v3 else if y = Str.ofString "line" then v4 else if y = Str.ofString "decoded" then v5 else if [Str.ofString "line", Str.ofString "i", Str.ofString "n", Str.ofString "c"].contains y then u y else m0 y)
      = fun y => if y = Str.ofString "n" then v1 else if y = Str.ofString "i" then v2' else if y = Str.ofString "line" then v3 else if y = Str.ofString "decoded" then v5' else if y = Str.ofString "c" then u y else m0 y := by
  subst h2 h5
  funext y
  by_cases h1 : y = Str.ofString "n"
  · subst h1; rfl
  by_cases h2 : y = Str.ofString "i"
  · subst h2; rfl
  by_cases h3 : y = Str.ofString "line"
  · subst h3; rfl
  by_cases h4 : y = Str.ofString "decoded"
  · subst h4; rfl
  simp only [if_neg h1, if_neg h2, if_neg h3, if_neg h4]
  by_cases h5 : y = Str.ofString "c"
  · subst h5; rfl
  rw [if_neg h5, if_neg (by simp [h1, h2, h3, h5])]
theorem wmap2 {va vb vc v1 v2 v3 v5 vi vd : Option Value} {u m0 : Str → Option Value} (hi : va = vi) (hd : vb = vd) :
    (fun y => if y = Str.ofString "i" then va else if y = Str.ofString "decoded" then vb else if y = Str.ofString "c" then vc else if y = Str.ofString "n" then v1 else if y = Str.ofString "i" then v2 else if y = Str.ofString "line" then v3 else if y = Str.ofString "decoded" then v5 else if y = Str.ofString "c" then u y else m0 y)
      = fun y => if y = Str.ofString "n" then v1 else if y = Str.ofString "i" then vi else if y = Str.ofString "line" then v3 else if y = Str.ofString "decoded" then vd else if y = Str.ofString "c" then (fun _ => vc) y else m0 y := by
  subst hi hd
  funext y
  by_cases h1 : y = Str.ofString "n"
  · subst h1; rfl
  by_cases h2 : y = Str.ofString "i"
  · subst h2; rfl
  by_cases h3 : y = Str.ofString "line"
  · subst h3; rfl
  by_cases h4 : y = Str.ofString "decoded"
  · subst h4; rfl
  by_cases h5 : y = Str.ofString "c"
  · subst h5; rfl
  simp only [if_neg h1, if_neg h2, if_neg h3, if_neg h4, if_neg h5]
theorem wmap3 {ve va vb vc v1 v2 v3 v5 vi vd : Option Value} {u m0 : Str → Option Value} (hi : va = vi) (hd : ve = vd) :
    (fun y => if y = Str.ofString "decoded" then ve else if y = Str.ofString "i" then va else if y = Str.ofString "decoded" then vb else if y = Str.ofString "c" then vc else if y = Str.ofString "n" then v1 else if y = Str.ofString "i" then v2 else if y = Str.ofString "line" then v3 else if y = Str.ofString "decoded" then v5 else if y = Str.ofString "c" then u y else m0 y)
      = fun y => if y = Str.ofString "n" then v1 else if y = Str.ofString "i" then vi else if y = Str.ofString "line" then v3 else if y = Str.ofString "decoded" then vd else if y = Str.ofString "c" then (fun _ => vc) y else m0 y := by
  subst hi hd
  funext y
  by_cases h1 : y = Str.ofString "n"
  · subst h1; rfl
  by_cases h2 : y = Str.ofString "i"
  · subst h2; rfl
  by_cases h3 : y = Str.ofString "line"
  · subst h3; rfl
  by_cases h4 : y = Str.ofString "decoded"
  · subst h4; rfl
  by_cases h5 : y = Str.ofString "c"
  · subst h5; rfl
  simp only [if_neg h1, if_neg h2, if_neg h3, if_neg h4, if_neg h5]
theorem wmap4 {v1 v2 v3 v5 v5' : Option Value} {u m0 : Str → Option Value} (hd : v5 = v5') :
    (fun y => if y = Str.ofString "n" then v1 else if y = Str.ofString "i" then v2 else if y = Str.ofString "line" then v3 else if y = Str.ofString "decoded" then v5 else if y = Str.ofString "c" then u y else m0 y)
      = fun y => if y = Str.ofString "decoded" then v5' else if [Str.ofString "line", Str.ofString "i", Str.ofString "n", Str.ofString "c"].contains y then (fun y => if y = Str.ofString "n" then v1 else if y = Str.ofString "i" then v2 else if y = Str.ofString "line" then v3 else u y) y else m0 y := by
  subst hd
  funext y
  by_cases h1 : y = Str.ofString "n"
  · subst h1; rfl
  by_cases h2 : y = Str.ofString "i"
  · subst h2; rfl
  by_cases h3 : y = Str.ofString "line"
  · subst h3; rfl
  by_cases h4 : y = Str.ofString "decoded"
  · subst h4; rfl
  by_cases h5 : y = Str.ofString "c"
  · subst h5; rfl
  simp only [if_neg h1, if_neg h2, if_neg h3, if_neg h4, if_neg h5]
  rw [if_neg (by simp [h1, h2, h3, h5])]
section
variable {w : World} {p : Program} {loose : List Str} {mean : ExcName → Option Value} {mg mb : Str → Option Value} {A : Around} {s : Shared} {E : Value → Shared → Prop}
theorem use_decode {P : Value → Shared → Prop} {ns : List Nat} {t : Tok} {text : Str} (T : Top p loose mean mg mb s.heap) (hA : Lo A 7) (ho : ∀ k ∈ ns, k < 256) (hlen : ns.length ≤ 16) (ht : Held text.cps (qps ns).toArray) :
    (KK w.params).In s.heap → (∀ (h' : Heap) (tk : Nat) (t' : Tok), Ext s.heap h' → P (.str ⟨ns.toArray⟩ t') { s with heap := h', toks := tk }) → wpAny (model PySem.Challenge.rw_tx0025_01.row.prog w) A (call (.ref 143) [.str text t]) P E s := by
  k_fill
  intro X ret
  obtain ⟨hp, gs, dr, tk, os⟩ := s
  dsimp only at T X ret
  have hro := hA.room
  have hh : A.handled = none := hA.hd
  have hret : Ret _ := Ret.mk ret
  clear ret
  k_dflt (refine' enter (binds := [("encoded", .str text t), ("eol", .str "\n" 393)]) ?k3 ?k5 ?k6 ?k7 ?k8 ?k9 ?kB ?_ ?c2 ?c3 ?c4 ?c5; (case k3 => k_asm); (case k5 => k_asm); (case k6 => k_is); (case k7 => k_is); (case k8 => exact hro); (case k9 => exact binds_K (by k_in) rfl (by k_is) rfl rfl rfl); (case c5 => decide); (case kB => exact locs rfl); (case c2 => exact rfl); (case c3 => exact rfl); (case c4 => exact rfl); intro h₁ F₁ N₁; dsimp only at F₁ N₁ ⊢)
  k_steps
  have htl : text.length = 3 * ns.length := by
    show text.cps.size = _
    rw [show text.cps = (qps ns).toArray from ht, List.size_toArray, qps_len]
  have hfit : ¬ (text.length : Int) ≥ 2 ^ 63 := by rw [htl]; omega
  refine PySem.P.truthy_str hfit ?_
  by_cases h0 : ns.length = 0
  · have hn : ns = [] := List.length_eq_zero_iff.mp h0
    have e0 : ((text.length : Int) != 0) = false := by rw [htl, h0]; rfl
    rw [e0]
    have hte : Held text ⟨ns.toArray⟩ := by
      show text = _
      obtain ⟨cps⟩ := text
      have : cps = (qps ns).toArray := ht
      rw [this, hn]; rfl
    clear ht htl e0 hn
    k_steps
    rename Fr _ _ _ _ => FF
    refine RetP.mk ?_
    have q : text = ⟨ns.toArray⟩ := hte
    rw [q]
    exact (hret : ∀ (h' : Heap) (tk : Nat) (t' : Tok), _) _ _ _ FF.keep
  · have e0 : ((text.length : Int) != 0) = true := by rw [htl]; rw [bne_iff_ne]; omega
    rw [e0]
    have hls : Held (Txt.lines text) [text] := by
      refine lines_one (x := text) (fun c hc => (plain_sign c (qps_mem ho c ?_)).1) (by omega)
      rw [show text.cps = (qps ns).toArray from ht] at hc
      simpa using hc
    have hrs : Held (Txt.rstrip text) text := by
      refine rstrip_same (x := text) (by omega) (fun c hc => (plain_sign c (qps_mem ho c ?_)).2)
      rw [show text.cps = (qps ns).toArray from ht] at hc
      simpa using hc
    have htl' : Held text.length (3 * ns.length) := htl
    have hx : text.length ≤ 1000 := by omega
    have ho' : Ret _ := Ret.mk ho
    have hlen' : Ret _ := Ret.mk hlen
    clear e0 htl ho hlen
    k_steps
    rename_i l2 h2 k2 hl1 hl2 hl3 hl4 F2 N2
    have hl1' : l2.map (·.1) = [text] := hl1.trans hls
    obtain ⟨t2, rfl⟩ : ∃ t2, l2 = [(text, t2)] := by
      match l2, hl1' with
      | [(a, t2)], e => simp at e; exact ⟨t2, by rw [e]⟩
    simp only [strValues, List.map_cons, List.map_nil] at hl4 N2
    refine grow_list (mu := []) (cont := []) (fun i c m h => ∃ (t3 : Tok) (u : Str → Option Value), m = fun y => if y = Str.ofString "decoded" then some (.str (if i = 0 then Str.ofString "" else ⟨(ns ++ [10]).toArray⟩) t3) else if [Str.ofString "line", Str.ofString "i", Str.ofString "n", Str.ofString "c"].contains y then u y else List.lookup y [(Str.ofString "encoded", Value.str text t), (Str.ofString "eol", Value.str (Str.ofString "\n") 393)].reverse)
      hh hl4 (by simp) F2 News.nil rfl ?_ ?_ ?_ ?_
    · refine ⟨tk, fun y => List.lookup y [(Str.ofString "encoded", Value.str text t), (Str.ofString "eol", Value.str (Str.ofString "\n") 393)].reverse, ?_⟩
      funext y
      rw [if_pos rfl]
      split
      · rfl
      · split <;> rfl
    · exact fun i c m h h' a _ => a
    · rintro i v m₁ c h tk own hv ⟨t3, u, rfl⟩ hc hoff hal F N how
      obtain ⟨rfl, rfl⟩ : i = 0 ∧ v = .str text t2 := by
        match i, hv with
        | 0, hv => exact ⟨rfl, by simpa using hv.symm⟩
        | i + 1, hv => simp at hv
      obtain rfl : c = [] := List.map_eq_nil_iff.mp hc
      clear hl1 hl2 hl3 hl4 F2 N2 hl1' hv hal hls
      simp only [List.nil_append, if_true] at N F
      dsimp only at F N ⊢
      have F0 : Ret _ := Ret.mk F
      have how' : OwnAll hp h [hp.objs.size] own := how
      clear how
      iterate 7 (first | walk1 | (dsimp only; walk1))
      rw [show Txt.rstrip text = text from hrs]
      iterate 6 (first | walk1 | (dsimp only; walk1))
      refine PySem.P.truthy_str hfit ?_
      have e0 : ((text.length : Int) != 0) = true := by rw [show text.length = 3 * ns.length from htl']; rw [bne_iff_ne]; omega
      rw [e0]
      clear e0
      iterate 20 (first | walk1 | (dsimp only; walk1))
      rename Fr _ _ _ _ => FW
      rename News _ _ _ _ => NW
      rename (Txt.rstrip text).length ≤ text.length => hrl
      clear hrl N F
      have hd0 : decP ns 0 = Str.ofString "" := by unfold decP; rw [if_neg (by omega)]; rfl
      refine While_inv (news := own) (n₀ := ns.length) (fun n m news' => news' = own ∧ ∃ (k : Nat) (t4 t5 t6 t7 : Tok) (u2 : Str → Option Value), k ≤ ns.length ∧ n + k = ns.length ∧ m = fun y => if y = Str.ofString "n" then some (.int (text.length : Nat) t6) else if y = Str.ofString "i" then some (.int (3 * k : Nat) t4) else if y = Str.ofString "line" then some (.str text t7) else if y = Str.ofString "decoded" then some (.str (decP ns k) t5) else if y = Str.ofString "c" then u2 y else List.lookup y [(Str.ofString "encoded", Value.str text t), (Str.ofString "eol", Value.str (Str.ofString "\n") 393)].reverse) FW NW ?_ ?_ noExc_passes
      · exact ⟨rfl, 0, _, _, _, _, u, Nat.zero_le _, rfl, wmap rfl (congrArg (fun s => some (Value.str s _)) hd0.symm)⟩
      · rintro n m₁ news₁ h₁ tk₁ F1 N1 ⟨rfl, k, t4, t5, t6, t7, u2, hk, hn, rfl⟩
        clear FW NW hd0
        have htl2 : text.length = 3 * ns.length := htl'
        iterate 7 (first | walk1 | (dsimp only; walk1))
        · rename_i hlt
          have hkN : k < ns.length := by omega
          obtain ⟨q0, q1, q2, q3⟩ := qps_at (text := text) (k := k) (n := ns[k]) (ns := ns) ht (by simp [hkN])
          have hnk : ns[k] < 256 := (ho' : ∀ (k : Nat), k ∈ ns → k < 256) _ (List.getElem_mem hkN)
          have hdec : Held (decP ns k ++ ⟨#[ns[k]]⟩) ⟨(ns.take (k + 1)).toArray⟩ := decP_succ hkN
          have hdl : (decP ns k).length ≤ 1000 := by rw [decP_len hkN]; have h16 : ns.length ≤ 16 := hlen'; omega
          generalize ns[k] = nk at q0 q1 q2 q3 hnk hdec
          have ha : hexC (nk / 16) ∈ hexU := hexC_mem _ (by omega)
          have hb : hexC (nk % 16) ∈ hexU := hexC_mem _ (by omega)
          have hv : 16 * hexVal (hexC (nk / 16)) + hexVal (hexC (nk % 16)) = nk := by rw [hexVal_hexC _ (by omega), hexVal_hexC _ (by omega)]; omega
          generalize hexC (nk / 16) = a at q1 q3 ha hv
          generalize hexC (nk % 16) = b at q2 q3 hb hv
          have q1' : Held _ _ := q1
          have q2' : Held _ _ := q2
          have q3' : Held _ _ := q3
          have hv' : Held _ _ := hv
          clear q1 q2 q3 hv htl2
          iterate 5 (first | walk1 | (dsimp only; walk1))
          rw [q0]
          clear q0
          iterate 22 (first | walk1 | (dsimp only; walk1))
          · exfalso
            have htl2 : text.length = 3 * ns.length := htl'
            omega
          iterate 13 (first | walk1 | (dsimp only; walk1))
          rotate_left
          · exfalso
            have htl2 : text.length = 3 * ns.length := htl'
            omega
          iterate 12 (first | walk1 | (dsimp only; walk1))
          rw [show Txt.item text (((3 * k : Nat) : Int) + 1) = ⟨#[a]⟩ from q1', occ_hex a ha]
          iterate 13 (first | walk1 | (dsimp only; walk1))
          rw [show Txt.item text (((3 * k : Nat) : Int) + 2) = ⟨#[b]⟩ from q2', occ_hex b hb]
          k_steps
          rename Fr _ _ _ _ => FF
          rename News _ _ _ _ => NN
          rw [show Txt.slice text (some ((3 * k : Nat) : Int)) (some (((3 * k : Nat) : Int) + 3)) = ⟨#[61, a, b]⟩ from q3']
          with_unfolding_all refine' use_unquote ?T ?A ha hb ?X ?_
          case T => exact Top.keeps (by assumption) FF.keep
          case A => exact Lo.le (Lo.deeper (by assumption)) (by decide)
          case X => exact Frag.In.keeps (by assumption) FF.keep
          intro hu tku tu eu
          have FU := fr_ext FF eu
          have NU := news_ext NN eu
          rw [show 16 * hexVal a + hexVal b = nk from hv']
          clear eu FF NN q1' q2' q3' hv' ha hb
          k_steps
          · rename Fr _ _ _ _ => FZ
            rename News _ _ _ _ => NZ
            have hkE : k + 1 = ns.length := by have htl2 : text.length = 3 * ns.length := htl'; omega
            refine WhileStep.intro FZ NZ (n' := n - 1) (by omega) ⟨rfl, k + 1, _, _, _, _, _, by omega, by omega, wmap3 (congrArg (fun z => some (Value.int z _)) (by omega)) (congrArg (fun z => some (Value.str z _)) ?_)⟩
            rw [show decP ns k ++ ⟨#[nk]⟩ = ⟨(ns.take (k + 1)).toArray⟩ from hdec, hkE, List.take_length]
            unfold decP
            rw [if_pos rfl]
            show (⟨_⟩ : Str) = ⟨_⟩
            simp
            rfl
          · rename Fr _ _ _ _ => FZ
            rename News _ _ _ _ => NZ
            have hkE : k + 1 ≠ ns.length := by have htl2 : text.length = 3 * ns.length := htl'; omega
            refine WhileStep.intro FZ NZ (n' := n - 1) (by omega) ⟨rfl, k + 1, _, _, _, _, _, by omega, by omega, wmap2 (congrArg (fun z => some (Value.int z _)) (by omega)) (congrArg (fun z => some (Value.str z _)) ?_)⟩
            rw [show decP ns k ++ ⟨#[nk]⟩ = ⟨(ns.take (k + 1)).toArray⟩ from hdec]
            unfold decP
            rw [if_neg hkE]
        · rename_i hlt
          have hkN : k = ns.length := by omega
          have hdk : Held (decP ns k) ⟨(ns ++ [10]).toArray⟩ := by show decP ns k = _; unfold decP; rw [if_pos hkN]
          clear hlt htl2
          k_steps
          rename Fr _ _ _ _ => FZ
          rename News _ _ _ _ => NZ
          refine GEnd.nx (cont := []) FZ NZ (fun p hp => hp) rfl (by simp) ⟨_, _, wmap4 (congrArg (fun z => some (Value.str z _)) ?_)⟩
          rw [if_neg (by decide)]
          exact hdk
    · rintro h' tk m' c own F N hc how ⟨t3, u, rfl⟩
      obtain rfl : c = [] := List.map_eq_nil_iff.mp hc
      clear hl1 hl2 hl3 hl4 F2 N2 hl1' how
      simp only [List.nil_append] at N
      rw [if_neg (by simp)] at F
      have hpos : 1 ≤ text.length := by have htl2 : text.length = 3 * ns.length := htl'; omega
      dsimp only at F N ⊢
      obtain ⟨c1, hc1, hit⟩ := qps_last (text := text) (ns := ns) ht h0 (ho' : ∀ (k : Nat), k ∈ ns → k < 256)
      have hdl : (⟨(ns ++ [10]).toArray⟩ : Str).length = ns.length + 1 := by show (ns ++ [10]).toArray.size = _; simp
      have hdl' : (⟨(ns ++ [10]).toArray⟩ : Str).length ≤ 1000 := by have h16 : ns.length ≤ 16 := hlen'; omega
      have hde : Txt.endswith ⟨(ns ++ [10]).toArray⟩ (Str.ofString "\n") = true := ends_nl ns
      have hds : Txt.slice ⟨(ns ++ [10]).toArray⟩ none (some (-1)) = ⟨ns.toArray⟩ := by
        rw [slice_drop (u := ns.length) (by rw [hdl]; omega) (by decide)]
        simp
      have hde' : Held _ _ := hde
      have hds' : Held _ _ := hds
      have hit' : Held _ _ := hit
      generalize (⟨(ns ++ [10]).toArray⟩ : Str) = d at F hde' hds' hdl'
      clear hdl hde hds hit
      k_steps
      · rename Fr _ _ _ _ => FF
        refine RetP.mk ?_
        rw [show Txt.slice d none (some (-((1 : Nat) : Int))) = ⟨ns.toArray⟩ from hds']
        exact (hret : ∀ (h' : Heap) (tk : Nat) (t' : Tok), _) _ _ _ FF.keep
      · exfalso
        rename Txt.endswith d _ = false => q
        rw [show Txt.endswith d (Str.ofString "\n") = true from hde'] at q
        cases q
      · exfalso
        have q : (Builtin.Str.occurrences (Str.ofString "\r\n") (Txt.item text (-1)) 0 (Str.ofString "\r\n").length 1).isEmpty = false := by assumption
        rw [show Txt.item text (-1) = ⟨#[c1]⟩ from hit', occ_nl c1 hc1] at q
        cases q
end
end Mine
end

section
open PySem PySem.W PyProof.Rows PySem.Calls
set_option Elab.async false
set_option maxRecDepth 100000
namespace Mine
theorem step_loop {α β : Type} {f : α → β → Sem (ForInStep β)} {g : Nat → β} : ∀ (l : List α) (p n : Nat), p + l.length = n → (∀ x p, p < n → f x (g p) = pure (.yield (g (p + 1)))) → forIn l (g p) f = pure (g n)
  | [], p, n, hn, _ => by
    have : p = n := by simpa using hn
    subst this
    rfl
  | x :: l, p, n, hn, h => by
    have hp : p < n := by rw [List.length_cons] at hn; omega
    rw [List.forIn_cons, h x p hp, pure_bind]
    exact step_loop l (p + 1) n (by rw [List.length_cons] at hn; omega) h
open Builtin in
theorem lat_run (id : String) (b : Array UInt8) (hb : b.size ≤ 1000) : _codecs.runDecoder id _codecs.latin1Decoder none true b 0 [] = pure (b.map (·.toNat), b.size) := by
  unfold _codecs.runDecoder
  simp only [_codecs.latin1Decoder]
  rw [Std.Legacy.Range.forIn_eq_forIn_range']
  refine Eq.trans (congrArg (fun m => m >>= _) (step_loop (g := fun p => (p, ((b.toList.take p).map (·.toNat)).toArray, ({} : _codecs.Faults))) (List.range' [:b.size].start [:b.size].size [:b.size].step) 0 b.size (by simp [Std.Legacy.Range.size]) ?_)) ?_
  rotate_left
  · rw [pure_bind]
    simp only
    rw [show b.size = b.toList.length from rfl, List.take_length]
    congr 2
    apply Array.toList_inj.mp
    simp
  · intro x p hp
    simp only
    rw [if_neg (by simp only [List.size_toArray, List.length_map, List.length_take, Array.length_toList, sizeLine]; omega), if_neg (by omega)]
    show pure _ = pure _
    congr 3
    rw [List.take_add_one]
    have : b.toList[p]? = some (b.getD p 0) := by simp [hp]
    rw [this]
    simp
section
open Builtin
variable {b : Array UInt8} {c : UInt8} {cs : List UInt8} {t u : Tok}
theorem lat_road {id : String} : _codecs.decodeRoad id b (Str.ofString "latin1") none [] = (_codecs.runDecoder id _codecs.latin1Decoder none true b 0 [] >>= fun r => mkStr ⟨r.1⟩) := by kernel_rfl
theorem lat_text {t1 t2 : Tok} {d : Str} (hb : b.size ≤ 1000) :
    Meets («_codecs.decode.text» ⟨[.bytes b t, .str (Str.ofString "latin1") t1, .none, .str d t2], []⟩) (fun _ R s => R (.ok (.ret (.str ⟨b.map (·.toNat)⟩ s.toks))) { s with toks := s.toks + 1 }) := by
  refine .of_wp fun prog w A R s h => ?_
  show wpAny _ _ (Bytes.bytesLike _ (.bytes b t) >>= fun r => _) _ _ s
  refine wpAny_bind (wpAny_of_eq KBd.like_eq ?_)
  refine wpAny_bind (wpAny_of_eq KBd.held_eq ?_)
  show wpAny _ _ (_codecs.decodeRoad _ b (Str.ofString "latin1") none [] >>= fun v => _) _ _ s
  rw [lat_road, lat_run _ _ hb]
  refine wpAny_bind (wpAny_bind (wpAny_pure ?_))
  exact wpAny_mkStr (wpAny_pure ⟨_, rfl, h⟩) (by show (b.map (·.toNat)).size ≤ sizeLine; rw [Array.size_map]; simp only [sizeLine]; omega)
theorem lat_entry : «bytes.decode» ⟨[.bytes (c :: cs).toArray t, .str (Str.ofString "latin1") u], []⟩ = (mkStr (Str.ofString "utf-8") >>= fun _ => mkStr (Str.ofString "latin1") >>= fun e => mkStr (Str.ofString "bytes.decode") >>= fun d =>
    call (.builtin "_codecs.decode.text") [.bytes (c :: cs).toArray t, e, .none, d] >>= fun v => ret v) := by kernel_rfl
theorem lat_args (a b : Value) : argsOk "bytes.decode" ⟨[a, b], []⟩ := by unfold argsOk; kernel_rfl
theorem lat_decode {prog : Program} {w : World} {A : Around} {E : Value → Shared → Prop} {s : Shared} {Q : Value → Shared → Prop} (hb : b.size ≤ 1000) (h0 : b.size ≠ 0) (h : ∀ t' k, Q (.str ⟨b.map (·.toNat)⟩ t') { s with toks := k }) :
    wpAny (model prog w) A (call (.builtin "bytes.decode") [.bytes b t, .str (Str.ofString "latin1") u]) Q E s := by
  obtain ⟨l⟩ := b
  cases l with
  | nil => exact absurd rfl h0
  | cons c cs =>
    refine call_meets (S := fun _ R s => ∀ t' k, R (.ok (.ret (.str ⟨(c :: cs).toArray.map (·.toNat)⟩ t'))) { s with toks := k }) FB.slot_bytes_decode (typeIs_bytes _ _ _) FB.entry_bytes_decode (lat_args _ _) ?_ h
    refine .of_wp fun prog w A R s h => ?_
    rw [lat_entry]
    refine wpAny_bind (wpAny_mkStr ?_ (by decide))
    refine wpAny_bind (wpAny_mkStr ?_ (by decide))
    refine wpAny_bind (wpAny_mkStr ?_ (by decide))
    exact wpAny_bind (call_function_meets KBd.kind_text KBd.plain_text KBd.entry_text (KBd.args_text _ _ _ _) (lat_text hb) (wpAny_pure ⟨_, rfl, h _ _⟩))
end
end Mine
end

section
open PySem PySem.W PyProof.Rows PySem.Calls
set_option Elab.async false
set_option maxRecDepth 100000
namespace Mine
open Builtin Builtin.Str
section
variable {prog : Program} {w : World} {A : Around} {E : Value → Shared → Prop} {s : Shared} {l : Addr} {items : Array Value} {c : Nat} {y : PySem.Str} {t : Tok}
theorem tr_look {Q : Mapped → Shared → Prop} (hl : s.heap.IsList l items) (hc : c < 1000) (hx : items[c]? = some (.str y t)) (h : Q (.text y) { s with toks := s.toks + 1 }) : wpAny (model prog w) A (tableLookup (.ref l) c) Q E s := by
  unfold tableLookup
  refine wpAny_bind (wpAny_attempt (wpAny_bind (wpAny_mkInt ?_)))
  refine wpAny_getItem_list (s := { s with toks := s.toks + 1 }) hl (by omega) (by omega) (by simpa using hx) ?_
  show wpAny _ _ (asInt? (.str y t) >>= _) _ _ _
  refine wpAny_bind (wpAny_bind (wpAny_pure (wpAny_pure ?_)))
  show wpAny _ _ (asStr? (.str y t) >>= _) _ _ _
  exact wpAny_bind (wpAny_pure (wpAny_pure h))
/-- what the signs so far give -/
def trans (mp : Nat → PySem.Str) (cs : List Nat) : List Nat := cs.flatMap fun c => (mp c).cps.toList
theorem trans_snoc {mp : Nat → PySem.Str} {cs : List Nat} {c : Nat} : trans mp (cs ++ [c]) = trans mp cs ++ (mp c).cps.toList := by
  unfold trans; rw [List.flatMap_append]; simp
theorem trans_len' {mp : Nat → PySem.Str} : ∀ {cs : List Nat}, (∀ c ∈ cs, (mp c).length ≤ 3) → (trans mp cs).length ≤ 3 * cs.length
  | [], _ => Nat.le_refl _
  | c :: cs, h => by
    have ih := trans_len' (cs := cs) fun c hc => h c (.tail _ hc)
    have h1 : (mp c).cps.toList.length ≤ 3 := by have := h c (.head _); rw [Array.length_toList]; exact this
    unfold trans at *
    rw [List.flatMap_cons, List.length_append, List.length_cons]
    omega
theorem trans_len {mp : Nat → PySem.Str} {x : PySem.Str} (h : ∀ c ∈ x.cps.toList, (mp c).length ≤ 3) (hx : x.length ≤ 1000) : (trans mp x.cps.toList).length ≤ 3000 := by
  have := trans_len' h
  rw [show x.cps.toList.length = x.cps.size from Array.length_toList] at this
  have hx' : x.cps.size ≤ 1000 := hx
  omega
def piecesOf (ps : List PySem.Str) : Array Nat := ps.reverse.foldl (fun acc p => acc ++ p.cps) #[]
theorem piecesOf_cons {p : PySem.Str} {ps : List PySem.Str} : piecesOf (p :: ps) = piecesOf ps ++ p.cps := by
  unfold piecesOf
  rw [List.reverse_cons, List.foldl_append]
  rfl
theorem tr_meets {x : PySem.Str} {t0 : Tok} {mp : Nat → PySem.Str} (hx : x.length ≤ 1000) (h0 : x.length ≠ 0) (hm : ∀ c ∈ x.cps.toList, c < 1000 ∧ (mp c).length ≤ 3 ∧ ∃ t, items[c]? = some (.str (mp c) t)) :
    Meets («str.translate» ⟨[.str x t0, .ref l], []⟩) (fun _ R s => s.heap.IsList l items ∧ ∀ t' k, R (.ok (.ret (.str ⟨(trans mp x.cps.toList).toArray⟩ t'))) { s with toks := k }) := by
  refine .of_wp fun prog w A R s hS => ?_
  obtain ⟨hl, h⟩ := hS
  show wpAny _ _ (if (x.length == 0) = true then _ else _) _ _ s
  rw [if_neg (by simpa using h0)]
  simp only
  let I : List Nat → List PySem.Str × Nat × Bool × List (Nat × Option Nat) × Bool → Shared → Prop := fun rest b s' =>
    ∃ done k, x.cps.toList = done ++ rest ∧ s' = { s with toks := k } ∧ (piecesOf b.1).toList = trans mp done ∧ b.2.1 ≤ 3 * done.length ∧ b.2.2.2.2 = false ∧ ∀ c a, b.2.2.2.1.lookup c = some a → ∃ d, a = some d ∧ mp c = ⟨#[d]⟩
  refine wpAny_bind (wpAny_forIn_array' _ I _ ?_ ?_ _ _ ?_)
  · rintro c rest ⟨ps, tot, fast, known, ad⟩ s' ⟨done, k, e, rfl, hp, ht, rfl, hk⟩
    dsimp only at hp ht hk ⊢
    have hcm : c ∈ x.cps.toList := by rw [e]; simp
    obtain ⟨hc, hml, t, hxc⟩ := hm c hcm
    have hdl : done.length ≤ 1000 := by have := congrArg List.length e; rw [List.length_append, Array.length_toList] at this; have hx' : x.cps.size ≤ 1000 := hx; omega
    rw [if_neg (by simp only [tooLong, sizeLine, gt_iff_lt, decide_eq_true_eq]; omega)]
    have e' : x.cps.toList = (done ++ [c]) ++ rest := by rw [e]; simp
    have slow : ∀ (fa : Bool) (kn : List (Nat × Option Nat)) (k' : Nat), (∀ c a, kn.lookup c = some a → ∃ d, a = some d ∧ mp c = ⟨#[d]⟩) → I rest (mp c :: ps, tot + (mp c).length, fa, kn, false) { s with toks := k' } := by
      intro fa kn k' hk'
      refine ⟨done ++ [c], k', e', rfl, ?_, ?_, rfl, hk'⟩
      · show (piecesOf (mp c :: ps)).toList = _
        rw [piecesOf_cons, Array.toList_append, hp, trans_snoc]
      · show tot + (mp c).length ≤ _
        rw [List.length_append, List.length_singleton]; omega
    have hit : ∀ (fa : Bool) (kn : List (Nat × Option Nat)) (k' d : Nat), mp c = ⟨#[d]⟩ → (∀ c a, kn.lookup c = some a → ∃ d, a = some d ∧ mp c = ⟨#[d]⟩) → I rest (⟨#[d]⟩ :: ps, tot + 1, fa, kn, false) { s with toks := k' } := by
      intro fa kn k' d hd hk'
      have := slow fa kn k' hk'
      rw [hd] at this
      exact this
    cases fast with
    | false =>
      simp only [Bool.false_eq_true, if_false]
      refine wpAny_bind (tr_look (s := { s with toks := k }) hl hc hxc ?_)
      exact wpAny_pure (slow false known _ hk)
    | true =>
      simp only [if_true]
      cases hq : known.lookup c with
      | some a =>
        obtain ⟨d, rfl, hd⟩ := hk c a hq
        simp only
        exact wpAny_bind (wpAny_pure (wpAny_pure (hit _ _ _ d hd hk)))
      | none =>
        simp only
        refine wpAny_bind (tr_look (s := { s with toks := k }) hl hc hxc ?_)
        simp only
        by_cases hone : ((mp c).length == 1 && (mp c).cps.all fun x => decide (x < 128)) = true
        · rw [if_pos hone]
          have hl1 : (mp c).cps.size = 1 := by have := (Bool.and_eq_true _ _ ▸ hone).1; simpa [PySem.Str.length] using this
          obtain ⟨d, hd⟩ : ∃ d, (mp c).cps = #[d] := by
            refine ⟨(mp c).cps[0], ?_⟩
            apply Array.ext
            · simp [hl1]
            · intro i h1 h2
              obtain rfl : i = 0 := by omega
              simp
          have hd' : mp c = ⟨#[d]⟩ := by rw [← hd]
          have h0d : (mp c).cps[0]? = some d := by rw [hd]; rfl
          rw [h0d]
          simp only
          refine wpAny_bind (wpAny_pure (wpAny_pure (hit _ _ _ d hd' ?_)))
          intro c' a ha
          rw [List.lookup_cons] at ha
          split at ha
          · rename_i hcc
            have hcc' : c' = c := by simpa using hcc
            subst hcc'
            exact ⟨d, (Option.some.inj ha).symm, hd'⟩
          · exact hk c' a ha
        · rw [if_neg hone]
          simp only
          refine wpAny_bind (wpAny_pure ?_)
          simp only
          refine wpAny_bind (wpAny_rule ?_)
          simp only [Bool.false_eq_true, if_false]
          refine wpAny_bind (tr_look (s := { s with toks := k + 1 }) hl hc hxc ?_)
          exact wpAny_pure (slow false known _ hk)
  · rintro ⟨ps, tot, fast, known, ad⟩ s' ⟨done, k, e, rfl, hp, ht, -, -⟩
    dsimp only at hp ht ⊢
    rw [List.append_nil] at e
    have hdl : done.length ≤ 1000 := by have := congrArg List.length e; rw [Array.length_toList] at this; have hx' : x.cps.size ≤ 1000 := hx; omega
    rw [if_neg (by simp only [tooLong, sizeLine, gt_iff_lt, decide_eq_true_eq]; omega)]
    have hpp : piecesOf ps = (trans mp x.cps.toList).toArray := by apply Array.toList_inj.mp; rw [hp, e]
    show wpAny _ _ (retStr ⟨piecesOf ps⟩) _ _ _
    rw [hpp]
    have hsz : (trans mp x.cps.toList).length ≤ 3000 := trans_len (fun c hc => (hm c hc).2.1) hx
    unfold retStr
    refine wpAny_bind (wpAny_mkStr ?_ (by show (trans mp x.cps.toList).toArray.size ≤ sizeLine; rw [List.size_toArray]; simp only [sizeLine]; omega))
    exact wpAny_pure ⟨_, rfl, h _ _⟩
  · exact ⟨[], s.toks, rfl, rfl, rfl, Nat.le_refl _, rfl, fun c a h => by simp at h⟩
theorem tr_call {x : PySem.Str} {t0 : Tok} {mp : Nat → PySem.Str} {Q : Value → Shared → Prop} (hx : x.length ≤ 1000) (h0 : x.length ≠ 0) (hl : s.heap.IsList l items) (hm : ∀ c ∈ x.cps.toList, c < 1000 ∧ (mp c).length ≤ 3 ∧ ∃ t, items[c]? = some (.str (mp c) t))
    (h : ∀ t' k, Q (.str ⟨(trans mp x.cps.toList).toArray⟩ t') { s with toks := k }) : wpAny (model prog w) A (call (.builtin "str.translate") [.str x t0, .ref l]) Q E s :=
  call_meets PySem.F.slot_str_translate (typeIs_str _ _ _) PySem.F.entry_str_translate (PySem.F.args_str_translate_2 _ _) (tr_meets hx h0 hm) ⟨hl, h⟩
end
end Mine
end

section
open PySem PySem.W PyProof.Rows PySem.Calls
set_option Elab.async false
set_option maxRecDepth 100000
set_option maxHeartbeats 100000000
namespace Mine
/-- how the header's table writes a sign -/
def hc (k : Nat) : Str := if k = 32 then ⟨#[95]⟩ else if escO (k : Int) then qp k else ⟨#[k]⟩
theorem hc_len (k : Nat) : (hc k).length ≤ 3 := by
  unfold hc
  split
  · decide
  · split <;> exact Nat.le_of_ble_eq_true rfl
def MapH (h : Heap) : Prop := ∃ items, h.IsList 100 items ∧ ∀ k < 256, ∃ t, items[k]? = some (.str (hc k) t)
theorem MapH.keep {h h' : Heap} (x : MapH h) (k : Ext h h') : MapH h' := let ⟨i, a, b⟩ := x; ⟨i, a.at fun o e => k _ o e, b⟩
local macro_rules | `(tactic| walk_at "getMethod str") => `(tactic| ((with_reducible show wpAny _ _ (getMethod (Value.str _ _) (Str.ofString "translate") _) _ _ _); refine GM.of _ (typeIs_str _ _ _) PySem.F.slot_str_translate PySem.F.type_str_translate GM.noRef ?_))
section
variable {w : World} {p : Program} {loose : List Str} {mean : ExcName → Option Value} {mg mb : Str → Option Value} {A : Around} {s : Shared} {E : Value → Shared → Prop}
theorem use_henc {P : Value → Shared → Prop} {b : Array UInt8} {t u : Tok} (T : Top p loose mean mg mb s.heap) (hA : Lo A 7) (hlen : b.size ≤ 16) (hM : MapH s.heap) :
    (KK w.params).In s.heap → (∀ (h' : Heap) (tk : Nat) (t' : Tok), Ext s.heap h' → P (.str (if b.size = 0 then ⟨#[]⟩ else Str.ofString "=?x?q?" ++ ⟨(trans hc (b.map (·.toNat)).toList).toArray⟩ ++ Str.ofString "?=") t') { s with heap := h', toks := tk }) → wpAny (model PySem.Challenge.rw_tx0025_01.row.prog w) A (call (.ref 130) [.bytes b t, .str "x" u]) P E s := by
  k_fill
  intro X ret
  obtain ⟨hp, gs, dr, tk, os⟩ := s
  dsimp only at T X ret hM
  have hro := hA.room
  have hh : A.handled = none := hA.hd
  have hret : Ret _ := Ret.mk ret
  clear ret
  k_dflt (refine' enter (binds := [("header_bytes", .bytes b t), ("charset", .str "x" u)]) ?k3 ?k5 ?k6 ?k7 ?k8 ?k9 ?kB ?_ ?c2 ?c3 ?c4 ?c5; (case k3 => k_asm); (case k5 => k_asm); (case k6 => k_is); (case k7 => k_is); (case k8 => exact hro); (case k9 => exact binds_K (by k_in) rfl (by k_is) rfl rfl rfl); (case c5 => decide); (case kB => exact locs rfl); (case c2 => exact rfl); (case c3 => exact rfl); (case c4 => exact rfl); intro h₁ F₁ N₁; dsimp only at F₁ N₁ ⊢)
  k_steps
  · rename (_ : Int) ≠ 0 => hne
    have h0 : b.size ≠ 0 := by omega
    have hret' := hret
    rw [if_neg h0] at hret'
    have hlen' : Ret _ := Ret.mk hlen
    refine lat_decode (by omega) h0 fun t1 k1 => ?_
    clear hne hlen hret
    have hbl : (⟨b.map (·.toNat)⟩ : Str).length ≤ 1000 := by show (b.map (·.toNat)).size ≤ 1000; rw [Array.size_map]; have : b.size ≤ 16 := hlen'; omega
    have hb0 : (⟨b.map (·.toNat)⟩ : Str).length ≠ 0 := by show (b.map (·.toNat)).size ≠ 0; rw [Array.size_map]; exact h0
    have hbc : ∀ c ∈ (⟨b.map (·.toNat)⟩ : Str).cps.toList, c < 256 := by
      intro c hc
      have hc' : c ∈ (b.map (·.toNat)).toList := hc
      rw [Array.toList_map] at hc'
      obtain ⟨v, -, rfl⟩ := List.mem_map.mp hc'
      exact v.toNat_lt
    have hbc' : Ret _ := Ret.mk hbc
    have hb0' : Ret _ := Ret.mk hb0
    have hcp : Held (⟨b.map (·.toNat)⟩ : Str).cps.toList (b.map (·.toNat)).toList := rfl
    clear hbc hb0
    generalize (⟨b.map (·.toNat)⟩ : Str) = x at hbl hbc' hb0' hcp
    k_steps
    obtain ⟨items, hl, hx⟩ := hM
    rename Fr _ _ _ _ => FF
    refine tr_call (mp := hc) hbl hb0' (Fr.lst FF hl) (fun c hcx => ?_) fun t2 k2 => ?_
    · have h256 : c < 256 := (hbc' : ∀ (c : Nat), c ∈ x.cps.toList → c < 256) c hcx
      exact ⟨by omega, hc_len c, hx c h256⟩
    have hzl : (⟨(trans hc x.cps.toList).toArray⟩ : Str).length ≤ 3000 := by
      show (List.toArray _).size ≤ _
      rw [List.size_toArray]
      exact trans_len (fun c _ => hc_len c) hbl
    have hze : Held (⟨(trans hc x.cps.toList).toArray⟩ : Str) ⟨(trans hc (b.map (·.toNat)).toList).toArray⟩ := by
      show _ = _
      rw [show x.cps.toList = (b.map (·.toNat)).toList from hcp]
    clear hbl hbc' hb0' hx hl
    generalize (⟨(trans hc x.cps.toList).toArray⟩ : Str) = z at hzl hze
    k_steps
    rename Fr _ _ _ _ => FF
    refine RetP.mk ?_
    have e : Str.empty ++ Str.ofString "=?" ++ Str.ofString "x" ++ Str.ofString "?q?" ++ z ++ Str.ofString "?=" = Str.ofString "=?x?q?" ++ ⟨(trans hc (b.map (·.toNat)).toList).toArray⟩ ++ Str.ofString "?=" := by
      rw [show z = _ from hze]
      rfl
    rw [e]
    exact (hret' : ∀ (h' : Heap) (tk : Nat) (t' : Tok), _) _ _ _ FF.keep
  · rename _ = (_ : Int) => he
    have h0 : b.size = 0 := by omega
    have hret' := hret
    rw [if_pos h0] at hret'
    rename Fr _ _ _ _ => FF
    refine RetP.mk ?_
    exact (hret' : ∀ (h' : Heap) (tk : Nat) (t' : Tok), _) _ _ _ FF.keep
end
end Mine
end

section
open PySem PySem.W PyProof.Rows PySem.Calls
set_option Elab.async false
set_option maxRecDepth 100000
namespace Mine
section
variable {prog : Program} {w : World} {A : Around} {env : Env} {s : Shared} {E : Value → Shared → Prop} {elt : Expr} {x : Str} {ifs : List Expr} {scope : Scope} {cl : List (Str × Addr)} {ch : List Addr} {Q : Value → Shared → Prop}
theorem comp_str {x0 : Str} {t : Tok} (J : List Addr → Nat → List Value → Heap → Prop) (hh : A.handled = none) (hn : x0.cps.size ≤ 1000) (hch : ∀ b ∈ ch, ∃ o, s.heap.get? b = some o)
    (h0 : ∀ ex h, J ex 0 [] h) (mono : ∀ ex i ys h h', J ex i ys h → KeepBut ex h h' → J ex i ys h')
    (step : ∀ C ex i c u ys h tk own (m : Str → Option Value), x0.cps[i]? = some c → J ex i ys h → Fr s.heap C h (fun y => if y = x then some (.str ⟨#[c]⟩ u) else m y) → News s.heap C h own → own = allOf s.heap h [C] → (∀ b ∈ ex, ∃ o, h.get? b = some o) →
      wpAny (model prog w) A (forIn ifs true fun c r => if r = true then do let ok ← isTrue c (compEnvC scope cl C env) (eval c (compEnvC scope cl C env)); pure (ForInStep.yield ok) else pure (ForInStep.yield r))
        (fun ok s₃ => if ok = true then wpAny (model prog w) A (eval elt (compEnvC scope cl C env)) (CEnd s.heap C own (fun y h' => J ex (i + 1) (ys ++ [y]) h') s) noExc s₃ else CEnd s.heap C own (fun _ h' => J ex (i + 1) ys h') s .none s₃) noExc { s with heap := h, toks := tk })
    (fin : ∀ D ex h' tk ys, s.heap.get? D = none → D ∈ ex → h'.PlainList D ys.toArray → J ex x0.cps.size ys h' → KeepBut ch s.heap h' → Q (.ref D) { s with heap := h', toks := tk }) :
    wpAny (model prog w) A (pyIter (.str x0 t)) (CompAt prog w A env elt x ifs scope cl ch Q) E s := by
  have hI : s.heap.get? s.heap.objs.size = none := Heap.get?_none_of_le (Nat.le_refl _)
  have core : ∀ (o : Obj) (St : Nat → Heap → Prop), Walks prog w A s.heap.objs.size [s.heap.objs.size] [s.heap.objs.size] x0.cps.size (SignAt x0) St → (∀ i h, St i h → ∃ o, h.get? s.heap.objs.size = some o) → St 0 (s.heap.push o) →
      CompAt prog w A env elt x ifs scope cl ch Q (.ref s.heap.objs.size) { s with heap := s.heap.push o } := by
    intro o St W al st
    refine ⟨_, _, _, _, _, _, s.heap, J, rfl, W, ?_, ?_, st, ?_, ?_, (by rw [Heap.size_push]; omega), fun _ _ e => Heap.get?_push_of_some _ e, hch, h0, mono, ?_, ?_⟩
    · intro i h hs b hb
      rw [List.mem_singleton.mp hb]
      exact al i h hs
    · exact Nat.le_trans hn (by decide)
    · intro b hb
      rw [List.mem_singleton.mp hb, Heap.size_push]
      exact Nat.lt_succ_self _
    · intro b hb
      rw [List.mem_singleton.mp hb]
      exact hI
    · rintro C ex i v ys h tk own m hi ⟨c, u, hc, rfl⟩
      exact step C ex i c u ys h tk own m hc
    · intro D ex h' tk ys _ hD hl hJ hk hn
      exact fin D ex h' tk ys hn hD hl hJ hk
  cases ha : x0.cps.all (· < 128)
  · exact wpAny_pyIter_wide ha (core _ _ (Walks.strWide hh _ x0 t) (fun i h hs => let ⟨o, e, _⟩ := hs; ⟨o, e⟩) ⟨_, Heap.get?_push_size _ rfl, rfl, rfl⟩)
  · exact wpAny_pyIter_ascii ha (core _ _ (Walks.strAscii hh _ x0 t) (fun i h hs => let ⟨o, e, _⟩ := hs; ⟨o, e⟩) ⟨_, Heap.get?_push_size _ rfl, rfl, rfl⟩)
end
end Mine
end

section
open PySem PySem.W PyProof.Rows PySem.Calls
set_option Elab.async false
set_option maxRecDepth 100000
namespace Mine
theorem glue_fold : ∀ (ys : List Str) (a : Array Nat), (ys.foldl (fun acc p => acc ++ (Str.ofString "").cps ++ p.cps) a).toList = a.toList ++ ys.flatMap fun y => y.cps.toList
  | [], a => by simp
  | y :: ys, a => by
    rw [List.foldl_cons, glue_fold ys]
    show (a ++ #[] ++ y.cps).toList ++ _ = _
    simp
theorem join_empty (ys : List Str) : Txt.join (Str.ofString "") ys = ⟨(ys.flatMap fun y => y.cps.toList).toArray⟩ := by
  show (⟨_⟩ : Str) = _
  congr 1
  apply Array.toList_inj.mp
  rw [glue_fold]
  cases ys with
  | nil => rfl
  | cons y ys => simp
theorem sum_le {ys : List Str} {b : Nat} (h : ∀ y ∈ ys, y.length ≤ b) : (ys.map (·.length)).sum ≤ b * ys.length := by
  induction ys with
  | nil => simp
  | cons y ys ih =>
    have h1 := h y (.head _)
    have h2 := ih fun z hz => h z (.tail _ hz)
    rw [List.map_cons, List.sum_cons, List.length_cons, Nat.mul_succ]
    omega
def natsOf (ns : List Int) : List Nat := ns.map Int.toNat
theorem flat_chr : ∀ ns : List Int, ((ns.map fun o => (⟨#[o.toNat]⟩ : Str)).flatMap fun y => y.cps.toList) = natsOf ns
  | [] => rfl
  | o :: ns => by
    have ih := flat_chr ns
    rw [List.map_cons, List.flatMap_cons, ih]
    rfl
theorem flat_qp : ∀ ns : List Nat, ((ns.map qp).flatMap fun y => y.cps.toList) = qps ns
  | [] => rfl
  | o :: ns => by
    have ih := flat_qp ns
    rw [List.map_cons, List.flatMap_cons, ih]
    rfl
theorem bytes_nats {ns : List Int} (h : ∀ o ∈ ns, 0 ≤ o ∧ o < 256) : ((byteArr ns).map (·.toNat)).toList = natsOf ns := by
  unfold byteArr natsOf
  rw [Array.toList_map]
  simp only [List.map_map]
  refine List.map_congr_left fun o ho => ?_
  have := h o ho
  show o.toNat.toUInt8.toNat = o.toNat
  rw [Nat.toUInt8, UInt8.toNat_ofNat']
  omega
/-- what stands between the chrome -/
theorem cut_chrome {c : Prop} [Decidable c] {z : List Nat} (h : c → z = []) : Txt.slice (if c then ⟨#[]⟩ else Str.ofString "=?x?q?" ++ ⟨z.toArray⟩ ++ Str.ofString "?=") (some 6) (some (-2)) = ⟨z.toArray⟩ := by
  split
  · rename_i hc
    rw [h hc]
    rfl
  · have hl : (Str.ofString "=?x?q?" ++ ⟨z.toArray⟩ ++ Str.ofString "?=").length = z.length + 8 := by
      show (#[61, 63, 120, 63, 113, 63] ++ z.toArray ++ #[63, 61]).size = _
      simp
    rw [slice_neg (i := 6) (j := -2) (l := 6) (u := z.length + 6) rfl (by rw [hl]; omega) (by decide) (by omega)]
    congr 2
    show (((#[61, 63, 120, 63, 113, 63] ++ z.toArray ++ #[63, 61]).toList.drop 6).take _) = _
    rw [show z.length + 6 - 6 = z.length by omega]
    simp
theorem chrome_len {c : Prop} [Decidable c] {z : List Nat} {b : Nat} (h : z.length ≤ b) : (if c then (⟨#[]⟩ : Str) else Str.ofString "=?x?q?" ++ ⟨z.toArray⟩ ++ Str.ofString "?=").length ≤ b + 8 := by
  split
  · exact Nat.zero_le _
  · show (#[61, 63, 120, 63, 113, 63] ++ z.toArray ++ #[63, 61]).size ≤ _
    simp; omega
end Mine
end

section
open PySem PySem.Sre
set_option Elab.async false
set_option maxRecDepth 100000
namespace Mine
/-- the pattern's words: an equals sign and two hex figures -/
def reCode : Array Nat := #[14, 8, 1, 3, 3, 1, 1, 61, 0, 16, 61, 24, 16, 2, 2, 13, 11, 9, 0, 67043328, 126, 126, 0, 0, 0, 0, 0, 1, 1]
/-- the machine that tries place p -/
def tryAt (t : Array Nat) (p : Nat) (first must : Bool) (sn : Seen) : M :=
  { code := reCode, text := t, lim := t.size, start := p, lastStart := t.size, mustAdvance := must, pc := 9, pos := p, handed := p, outermost := first, marks := #[], lastmark := -1, lastindex := -1, frames := [{ wait := .nextStart, pc := 9, pos := p, outermost := first }], weight := 1, seen := sn }
def oneStep (m : M) (r : Except String (Bool × Seen)) : M := if m.pos ≥ m.lim then m.say false else match r with | .error why => m.stick why | .ok (false, seen) => { m with seen }.say false | .ok (true, seen) => { m with seen, pc := m.pc + itemWidth m.code m.pc, pos := m.pos + 1 }
theorem step_lit (t : Array Nat) (p : Nat) (first must : Bool) (sn : Seen) : (tryAt t p first must sn).step = oneStep { tryAt t p first must sn with seen := sn.add 16 } (.ok (t.getD p 0 == 61, sn.add 16)) := rfl
theorem step_miss {t : Array Nat} {p : Nat} {first must : Bool} {sn : Seen} (h : p ≥ t.size ∨ (t.getD p 0 == 61) = false) : (tryAt t p first must sn).step = { tryAt t p first must sn with seen := sn.add 16, answer := some false } := by
  rw [step_lit]
  unfold oneStep
  by_cases hp : p ≥ t.size
  · rw [if_pos (by exact hp)]; rfl
  · rw [if_neg (by exact hp)]
    have e : (t.getD p 0 == 61) = false := h.resolve_left hp
    rw [e]
    rfl
theorem back_more {t : Array Nat} {p : Nat} {first must : Bool} {sn : Seen} (hp : p < t.size) : ({ tryAt t p first must sn with answer := some false } : M).step = tryAt t (p + 1) false false sn := by
  show (if p < t.size then ({ tryAt t p first must sn with answer := none, frames := [], weight := 0, pc := 9, pos := p, outermost := first, mustAdvance := false } : M).attemptFrom (p + 1) false else ({ tryAt t p first must sn with answer := none, frames := [], weight := 0, pc := 9, pos := p, outermost := first } : M).say false) = _
  rw [if_pos hp]
  rfl
theorem back_end {t : Array Nat} {p : Nat} {first must : Bool} {sn : Seen} (hp : ¬ p < t.size) : (({ tryAt t p first must sn with answer := some false } : M).step.step.outcome matches some .failed) = true := by
  have : ({ tryAt t p first must sn with answer := some false } : M).step = ({ tryAt t p first must sn with answer := some false, frames := [], weight := 0, pc := 9, pos := p, outermost := first } : M) := by
    show (if p < t.size then ({ tryAt t p first must sn with answer := none, frames := [], weight := 0, pc := 9, pos := p, outermost := first, mustAdvance := false } : M).attemptFrom (p + 1) false else ({ tryAt t p first must sn with answer := none, frames := [], weight := 0, pc := 9, pos := p, outermost := first } : M).say false) = _
    rw [if_neg hp]
    rfl
  rw [this]
  rfl
def atRun (t : Array Nat) (p : Nat) (first must : Bool) (sn : Seen) : M := { tryAt t p first must sn with seen := sn, pc := 11, pos := p + 1 }
theorem step_hit {t : Array Nat} {p : Nat} {first must : Bool} {sn : Seen} (hp : p < t.size) (h : (t.getD p 0 == 61) = true) : (tryAt t p first must sn).step = atRun t p first must (sn.add 16) := by
  rw [step_lit]
  unfold oneStep
  rw [if_neg (by exact Nat.not_le_of_lt hp), h]
  rfl
/-- two hex figures follow -/
def runStep (m : M) (r : Except String (Nat × Seen)) : M :=
  match r with
  | .error why => m.stick why
  | .ok (n, seen) =>
    let m := { m with seen }
    if n < 2 then m.say false else
    let m := { m with pos := m.pos + n }
    m.afterRun .giveBack n (m.keep m.inner.isSome)
theorem step_run {t : Array Nat} {p : Nat} {first must : Bool} {sn : Seen} (hp : p + 2 < t.size) : (atRun t p first must sn).step = runStep { atRun t p first must sn with seen := sn.add 24 } (run reCode t 15 2 (p + 1) 0 ((sn.add 24).add 13)) := by
  show (if ((2 : Nat) : Int) > (t.size : Int) - ((p + 1 : Nat) : Int) then ({ atRun t p first must sn with seen := sn.add 24 } : M).say false else runStep { atRun t p first must sn with seen := sn.add 24 } (run reCode t 15 (min 2 ((t.size : Int) - ((p + 1 : Nat) : Int)).toNat) (p + 1) 0 ((sn.add 24).add 13))) = _
  rw [if_neg (by omega)]
  rw [show min 2 ((t.size : Int) - ((p + 1 : Nat) : Int)).toNat = 2 by omega]
theorem hex_ok : ∀ c ∈ [48, 49, 50, 51, 52, 53, 54, 55, 56, 57, 65, 66, 67, 68, 69, 70], ∀ sn, accepts reCode 15 c sn = .ok (true, sn.add 9) := by
  intro c hc sn
  simp only [List.mem_cons, List.not_mem_nil, or_false] at hc
  rcases hc with rfl | rfl | rfl | rfl | rfl | rfl | rfl | rfl | rfl | rfl | rfl | rfl | rfl | rfl | rfl | rfl <;> rfl
theorem run_two {t : Array Nat} {p : Nat} {sn : Seen} (h1 : t.getD p 0 ∈ [48, 49, 50, 51, 52, 53, 54, 55, 56, 57, 65, 66, 67, 68, 69, 70]) (h2 : t.getD (p + 1) 0 ∈ [48, 49, 50, 51, 52, 53, 54, 55, 56, 57, 65, 66, 67, 68, 69, 70]) :
    run reCode t 15 2 p 0 sn = .ok (2, (sn.add 9).add 9) := by
  show (do let (yes, seen) ← accepts reCode 15 (t.getD p 0) sn; if yes then run reCode t 15 1 (p + 1) (0 + 1) seen else pure (0, seen)) = _
  rw [hex_ok _ h1]
  show (do let (yes, seen) ← accepts reCode 15 (t.getD (p + 1) 0) (sn.add 9); if yes then run reCode t 15 0 (p + 1 + 1) (0 + 1 + 1) seen else pure (0 + 1, seen)) = _
  rw [hex_ok _ h2]
  rfl
theorem after_hit {t : Array Nat} {p : Nat} {first must : Bool} {sn : Seen} (hp : p + 2 < t.size) (h1 : t.getD (p + 1) 0 ∈ [48, 49, 50, 51, 52, 53, 54, 55, 56, 57, 65, 66, 67, 68, 69, 70]) (h2 : t.getD (p + 2) 0 ∈ [48, 49, 50, 51, 52, 53, 54, 55, 56, 57, 65, 66, 67, 68, 69, 70]) :
    ∃ m : M, (atRun t p first must sn).step.step.step.step.step = m ∧ (m.outcome matches some .matched) = true ∧ m.start = p ∧ m.handed = p + 3 ∧ m.lastmark = -1 ∧ m.lastindex = -1 := by
  refine ⟨_, rfl, ?_⟩
  rw [step_run hp, run_two h1 h2]
  have e : (runStep { atRun t p first must sn with seen := sn.add 24 } (.ok (2, ((((sn.add 24).add 13).add 9).add 9)))).step = (if (first && ((false && (p + 1 + 2 != t.size)) || (must && (p + 1 + 2 == p)))) = true then ({ runStep { atRun t p first must sn with seen := sn.add 24 } (.ok (2, ((((sn.add 24).add 13).add 9).add 9))) with seen := ((((sn.add 24).add 13).add 9).add 9).add 1 } : M).say false else ({ runStep { atRun t p first must sn with seen := sn.add 24 } (.ok (2, ((((sn.add 24).add 13).add 9).add 9))) with seen := ((((sn.add 24).add 13).add 9).add 9).add 1, handed := p + 1 + 2 } : M).say true) := rfl
  rw [e, if_neg (by have : (p + 1 + 2 == p) = false := by simpa using (by omega : p + 1 + 2 ≠ p)
                    rw [this]; simp)]
  exact ⟨rfl, rfl, rfl, rfl, rfl⟩
end Mine
end

namespace Mine
open PySem PySem.W PyProof.Rows PySem.Calls
local macro_rules | `(tactic| walk_at "mine.pad") => `(tactic| fail)
local macro_rules | `(tactic| walk_at "mine.pad") => `(tactic| fail)
local macro_rules | `(tactic| walk_at "mine.pad") => `(tactic| fail)
local macro_rules | `(tactic| walk_at "mine.pad") => `(tactic| fail)
local macro_rules | `(tactic| walk_at "mine.pad") => `(tactic| fail)
local macro_rules | `(tactic| walk_at "mine.pad") => `(tactic| fail)
local macro_rules | `(tactic| walk_at "mine.pad") => `(tactic| fail)
local macro_rules | `(tactic| walk_at "mine.pad") => `(tactic| fail)
local macro_rules | `(tactic| walk_at "mine.pad") => `(tactic| fail)
local macro_rules | `(tactic| walk_at "mine.pad") => `(tactic| fail)
local macro_rules | `(tactic| walk_at "eval Name") => `(tactic| ((with_reducible show wpAny _ _ (eval (Expr.Name _ _) (compEnvC _ _ _ _)) _ _ _); first
  | (with_unfolding_all (refine' nameG_L ?F ?v ?_ ?k ?l ?d; (case F => k_asm); (case v => exact rfl); (case k => exact rfl); (case l => exact rfl); (case d => decide)))
  | (with_unfolding_all (refine' nameG_C ?F ?v ?c ?_ ?k ?l ?d; (case F => k_asm); (case c => exact rfl); (case v => assumption); (case k => exact rfl); (case l => exact rfl); (case d => decide)))
  | (k_dflt (refine' nameG_K ?F ?X ?T ?e ?_ ?g ?k ?l ?d; (case F => k_asm); (case X => k_asm); (case T => k_asm); (case e => k_is); (case g => rfl); (case k => rfl); (case l => rfl); (case d => decide)))
  | (k_dflt (refine' nameG_B ?F ?X ?T ?e ?v ?n ?_ ?g ?b ?k ?l ?d; (case F => k_asm); (case X => k_asm); (case T => k_asm); (case e => k_is); (case v => exact rfl); (case n => decide); (case g => rfl); (case b => rfl); (case k => rfl); (case l => rfl); (case d => decide)))))
local macro_rules | `(tactic| walk_at "eval Subscript") => `(tactic| ((with_reducible show wpAny _ _ (eval (Expr.Subscript _ _ _) (compEnvC _ _ _ _)) _ _ _); refine Subscript_ ?_))
local macro_rules | `(tactic| walk_at "eval BinOp") => `(tactic| ((with_reducible show wpAny _ _ (eval (Expr.BinOp _ _ _ _) (compEnvC _ _ _ _)) _ _ _); refine wpAny_BinOp ?_))
local macro_rules | `(tactic| walk_at "eval Call") => `(tactic| ((with_reducible show wpAny _ _ (eval (Expr.Call _ _ _ _) (compEnvC _ _ _ _)) _ _ _); with_unfolding_all (refine Call_ ?_)))
local macro_rules | `(tactic| walk_at "eval ListComp") => `(tactic| (refine' ListComp_J ?k1 ?k2 ?k3 ?k4 ?k5 ?_ ?k6; (case k1 => with_unfolding_all exact rfl); (case k2 => with_unfolding_all decide); (case k3 => with_unfolding_all exact rfl); (case k4 => with_unfolding_all decide); (case k5 => with_unfolding_all exact rfl); (case k6 => (intro _; with_unfolding_all exact rfl))))
section
open PySem PySem.W PyProof.Rows PySem.Calls
set_option Elab.async false
set_option maxRecDepth 100000
set_option maxHeartbeats 100000000
theorem strs_append {vs us : List Value} {ts es : List Str} (x : StrsAre vs ts) (y : StrsAre us es) : StrsAre (vs ++ us) (ts ++ es) := by
  induction x with
  | nil => exact y
  | cons a t _ ih => exact .cons a t ih
theorem nats_lt {ns : List Int} (ho : Octs ns) {i c : Nat} (h : (natsOf ns)[i]? = some c) : c < 256 := by
  obtain ⟨o, hm, rfl⟩ := List.mem_map.mp (List.mem_of_getElem? h)
  have := ho o hm
  omega
theorem ints_get : ∀ {vs : List Value} {ts : List Int}, IntsAre vs ts → ∀ {i : Nat} {v : Value}, vs[i]? = some v → ∃ a t, v = .int a t ∧ ts[i]? = some a
  | _, _, .cons y t _, 0, _, e => ⟨y, t, by simpa using e.symm, rfl⟩
  | _, _, .cons _ _ h, i + 1, _, e => ints_get h (by simpa using e)
section
variable {w : World} {p : Program} {loose : List Str} {mean : ExcName → Option Value} {mg mb : Str → Option Value} {A : Around} {s : Shared} {E : Value → Shared → Prop}
theorem use_coats {P : Value → Shared → Prop} {l : Addr} {vs : List Value} {ns : List Int} (T : Top p loose mean mg mb s.heap) (hA : Lo A 9) (hl : s.heap.IsList l vs.toArray) (hi : IntsAre vs ns) (hlen : LenLe ns 16) (hoc : Octs ns) (hQ : MapQ s.heap) (hH : MapH s.heap) :
    (KK w.params).In s.heap → (∀ (r : Addr) (t1 t2 t3 : Tok) (h' : Heap) (tk : Nat), Ext s.heap h' → s.heap.get? r = none →
      h'.get? r = some (W.listOf #[.str ⟨(natsOf ns).toArray⟩ t1, .str ⟨(trans hc (natsOf ns)).toArray⟩ t2, .str ⟨(qps (natsOf ns)).toArray⟩ t3] 0) → P (.ref r) { s with heap := h', toks := tk }) → wpAny (model PySem.Challenge.rw_tx0025_01.row.prog w) A (call (.ref 193) [.ref l]) P E s := by
  k_fill
  intro X ret
  obtain ⟨hp, gs, dr, tk, os⟩ := s
  dsimp only at T X ret hl hQ hH
  have hro := hA.room
  have hh : A.handled = none := hA.hd
  k_dflt (refine' enter (binds := [("row", .ref l)]) ?k3 ?k5 ?k6 ?k7 ?k8 ?k9 ?kB ?_ ?c2 ?c3 ?c4 ?c5; (case k3 => k_asm); (case k5 => k_asm); (case k6 => k_is); (case k7 => k_is); (case k8 => exact hro); (case k9 => exact BindsTo.of_eq rfl); (case c5 => decide); (case kB => exact locs rfl); (case c2 => exact rfl); (case c3 => exact rfl); (case c4 => exact rfl); intro h₁ F₁ N₁; dsimp only at F₁ N₁ ⊢)
  have hret : Ret _ := Ret.mk ret
  clear ret
  iterate 9 (first | walk1 | (dsimp only; walk1))
  have XB := X.keeps F₁.keep
  have TB := T.keeps F₁.keep
  have hlB := Fr.lst F₁ hl
  have hvl : vs.length = ns.length := hi.length
  have hbig : vs.toArray.size ≤ 1000 := by rw [List.size_toArray, hvl]; have h16 : ns.length ≤ 16 := hlen; omega
  refine comp_list (fun _ i ys _ => StrsAre ys ((ns.take i).map fun o => ⟨#[o.toNat]⟩)) hh hlB hbig (fun _ h => nomatch h) (fun _ _ => .nil) (fun _ _ _ _ _ h _ => h) ?_ ?_
  · intro C ex i v ys h tk own m hv hJ F N ho hal
    refine wpAny_tests_nil ?_
    simp only [if_true]
    obtain ⟨o, to, rfl, hno⟩ := ints_get hi (by simpa using hv)
    have hob : 0 ≤ o ∧ o < 256 := hoc o (List.mem_of_getElem? hno)
    have hJ' : Ret _ := Ret.mk hJ
    have hno' : Held _ _ := hno
    clear hv hJ hno hal hoc
    have hob1 := hob.1
    have hob2 := hob.2
    clear hob
    dsimp only at F N ho ⊢
    iterate 7 (first | walk1 | (dsimp only; walk1))
    refine CEnd.mk F N (fun p hp => hp) ?_
    rw [Mine.take_snoc hno', List.map_append]
    exact strs_append hJ' (.cons _ _ .nil)
  · intro D ex h2 tk2 ys hD _ hl2 hJ2 hk2
    have F2 := fr_ext F₁ (fun b o e => hk2 b o (by simp) e)
    obtain ⟨nl, hl2⟩ := hl2
    have N2 := news_add F₁ (news_ext N₁ (fun b o e => hk2 b o (by simp) e)) hD hl2
    rw [List.size_toArray, hvl, List.take_length] at hJ2
    have hl3 : h2.IsList D ys.toArray := ⟨_, hl2, rfl, _, rfl⟩
    have hyl : ys.length = ns.length := by rw [strs_len hJ2]; simp
    clear hk2 hD hl2 XB TB hlB
    k_steps
    rename Fr _ _ _ _ => FF
    rename News _ _ _ _ => NN
    have h16 : ns.length ≤ 16 := hlen
    refine join_listC hl3 (by simpa using hJ2) (by decide) ?_ ?_
    · have := sum_le (ys := ns.map fun o => (⟨#[o.toNat]⟩ : Str)) (b := 1) (by intro y hy; obtain ⟨o, -, rfl⟩ := List.mem_map.mp hy; exact Nat.le_refl _)
      rw [List.length_map] at this ⊢
      omega
    intro t4 k4
    have hpl : Txt.join (Str.ofString "") (ns.map fun o => (⟨#[o.toNat]⟩ : Str)) = ⟨(natsOf ns).toArray⟩ := by
      rw [join_empty, flat_chr]
    rw [hpl]
    clear hpl hJ2
    k_steps
    rename Fr _ _ _ _ => FF
    rename News _ _ _ _ => NN
    refine KBa.make_K FF NN hh (Fr.lst FF hl) hi (fun o ho => hoc o ho) (by omega) fun h5 t5 k5 F5 N5 _ => ?_
    clear FF NN
    k_steps
    with_unfolding_all refine' use_henc ?T ?A ?l ?M ?X ?_
    case T => exact Top.keeps (by assumption) F5.keep
    case A => exact Lo.le (Lo.deeper (by assumption)) (by decide)
    case l => rw [byteArr_size]; exact h16
    case M => exact hH.keep F5.keep
    case X => exact Frag.In.keeps (by assumption) F5.keep
    intro h6 tk6 t6 e6
    have F6 := fr_ext F5 e6
    have N6 := news_ext N5 e6
    rw [bytes_nats hoc]
    have hcut := cut_chrome (c := (byteArr ns).size = 0) (z := trans hc (natsOf ns)) (fun q => by
      rw [byteArr_size] at q
      rw [List.length_eq_zero_iff.mp q]; rfl)
    have htl : (trans hc (natsOf ns)).length ≤ 48 := by
      have := trans_len' (mp := hc) (cs := natsOf ns) (fun c _ => hc_len c)
      rw [show (natsOf ns).length = ns.length from List.length_map ..] at this
      omega
    have hcl := chrome_len (c := (byteArr ns).size = 0) htl
    have hcut' : Held _ _ := hcut
    have hoc' : Ret _ := Ret.mk hoc
    have hplen : (⟨(natsOf ns).toArray⟩ : Str).cps.size ≤ 1000 := by show (List.toArray _).size ≤ _; rw [List.size_toArray, show (natsOf ns).length = ns.length from List.length_map ..]; omega
    clear hcut F5 N5 e6 hoc h16
    generalize (if (byteArr ns).size = 0 then (⟨#[]⟩ : Str) else Str.ofString "=?x?q?" ++ ⟨(trans hc (natsOf ns)).toArray⟩ ++ Str.ofString "?=") = hd at hcut' hcl ⊢
    dsimp only at F6 N6 ⊢
    k_steps
    rename Fr _ _ _ _ => FF
    rename News _ _ _ _ => NN
    rename_i hs8 _ _ _ _ _ _
    have XB := X.keeps FF.keep
    have TB := T.keeps FF.keep
    have hQB := hQ.keep FF.keep
    refine comp_str (fun _ i ys _ => StrsAre ys (((natsOf ns).take i).map qp)) hh hplen (fun _ h => nomatch h) (fun _ _ => .nil) (fun _ _ _ _ _ h _ => h) ?_ ?_
    · intro C ex i c u ys h tk own m hv hJ F N ho hal
      refine wpAny_tests_nil ?_
      simp only [if_true]
      have hc256 : c < 256 := nats_lt (hoc' : Octs ns) (by simpa using hv)
      have hJ' : Ret _ := Ret.mk hJ
      have hv' : Held _ _ := hv
      clear hv hJ hal FF NN
      dsimp only at F N ho ⊢
      iterate 6 (first | walk1 | (dsimp only; walk1))
      refine ⟨XB.keeps F.keep, ?_⟩
      refine use_quote (TB.keeps F.keep) (Lo.le (Lo.deeper hA) (by decide)) hc256 (hQB.keep F.keep) (XB.keeps F.keep) ?_
      intro h9 tk9 t9 e9
      refine CEnd.mk (fr_ext F e9) (news_ext N e9) (fun p hp => hp) ?_
      have hv2 : (natsOf ns)[i]? = some c := by have : (natsOf ns).toArray[i]? = some c := hv'; simpa using this
      rw [Mine.take_snoc hv2, List.map_append]
      exact strs_append hJ' (.cons _ _ .nil)
    · intro D2 ex h9 tk9 ys hD _ hl2 hJ2 hk2
      have F9 := fr_ext FF (fun b o e => hk2 b o (by simp) e)
      obtain ⟨nl, hl2⟩ := hl2
      have N9 := news_add FF (news_ext NN (fun b o e => hk2 b o (by simp) e)) hD hl2
      rw [show (⟨(natsOf ns).toArray⟩ : Str).cps.size = (natsOf ns).length from List.size_toArray .., List.take_length] at hJ2
      have hl3 : h9.IsList D2 ys.toArray := ⟨_, hl2, rfl, _, rfl⟩
      clear hk2 hD hl2 XB TB hQB FF NN
      k_steps
      rename Fr _ _ _ _ => FF
      rename News _ _ _ _ => NN
      have h16 : ns.length ≤ 16 := hlen
      have hnl : (natsOf ns).length = ns.length := List.length_map ..
      refine join_listC hl3 (by simpa using hJ2) (by decide) ?_ ?_
      · have := sum_le (ys := (natsOf ns).map qp) (b := 3) (by intro y hy; obtain ⟨o, -, rfl⟩ := List.mem_map.mp hy; exact Nat.le_refl _)
        rw [List.length_map] at this ⊢
        omega
      intro t9 k9
      have hpl : Txt.join (Str.ofString "") ((natsOf ns).map qp) = ⟨(qps (natsOf ns)).toArray⟩ := by rw [join_empty, flat_qp]
      rw [hpl]
      clear hpl hJ2 hnl h16
      k_steps
      rename Fr _ _ _ _ => FF
      rename News _ _ _ _ => NN
      rw [show Txt.slice hd (some 6) (some (-2)) = ⟨(trans hc (natsOf ns)).toArray⟩ from hcut'] at NN
      refine RetP.mk ((hret : ∀ (r : Addr) (t1 t2 t3 : Tok) (h' : Heap) (tk : Nat), _) _ _ _ _ _ _ FF.keep (NN _ (.head _)).2.2 (NN _ (.head _)).1)
end
end
section
open PySem PySem.W PyProof.Rows PySem.Calls
set_option Elab.async false
set_option maxRecDepth 100000
section
variable {prog : Program} {w : World} {A : Around} {env : Env} {s : Shared}
section
variable {E : Value → Shared → Prop} {elt : Expr} {x : Str} {ifs : List Expr} {scope : Scope} {cl : List (Str × Addr)} {ch : List Addr} {Q : Value → Shared → Prop}
theorem comp_rangeE {r : Addr} {n : Nat} {t u v : Tok} (J : List Addr → Nat → List Value → Heap → Prop) (hh : A.handled = none) (hr : IsRange s.heap r 0 n 1 t u v) (hn : n ≤ 1000) (hch : ∀ b ∈ ch, ∃ o, s.heap.get? b = some o)
    (h0 : ∀ ex h, J ex 0 [] h) (mono : ∀ ex i ys h h', J ex i ys h → KeepBut ex h h' → J ex i ys h')
    (step : ∀ C ex i t ys h tk own (m : Str → Option Value), i < n → J ex i ys h → Fr s.heap C h (fun y => if y = x then some (.int (i : Nat) t) else m y) → News s.heap C h own → own = allOf s.heap h [C] → (∀ b ∈ ex, ∃ o, h.get? b = some o) →
      wpAny (model prog w) A (forIn ifs true fun c r => if r = true then do let ok ← isTrue c (compEnvC scope cl C env) (eval c (compEnvC scope cl C env)); pure (ForInStep.yield ok) else pure (ForInStep.yield r))
        (fun ok s₃ => if ok = true then wpAny (model prog w) A (eval elt (compEnvC scope cl C env)) (CEnd s.heap C own (fun y h' => J ex (i + 1) (ys ++ [y]) h') s) noExc s₃ else CEnd s.heap C own (fun _ h' => J ex (i + 1) ys h') s .none s₃) noExc { s with heap := h, toks := tk })
    (fin : ∀ D ex h' tk ys, s.heap.get? D = none → D ∈ ex → h'.PlainList D ys.toArray → J ex n ys h' → KeepBut ch s.heap h' → Q (.ref D) { s with heap := h', toks := tk }) :
    wpAny (model prog w) A (pyIter (.ref r)) (fun it s₂ => Ext s.heap s₂.heap ∧ CompAt prog w A env elt x ifs scope cl ch Q it s₂) E s := by
  have hsz : Builtin.Range.rangeSize 0 n 1 = (n : Int) := by
    unfold Builtin.Range.rangeSize
    split <;> simp_all <;> omega
  have hsm : Builtin.Range.small 0 n 1 = true := by
    unfold Builtin.Range.small
    rw [hsz]
    simp [Builtin.Range.rangeFitsLong]
    omega
  refine wpAny_pyIter_range hr hsm ?_
  have hI : s.heap.get? s.heap.objs.size = none := Heap.get?_none_of_le (Nat.le_refl _)
  refine ⟨fun _ _ e => Heap.get?_push_of_some _ e, _, _, _, _, _, _, s.heap, J, rfl, Walks.range hh s.heap.objs.size 0 1 n, ?_, ?_, (by show IsRangeIter _ _ _ _ _; rw [hsz]; simpa using Heap.get?_push_size _ rfl), ?_, ?_, (by rw [Heap.size_push]; omega), fun _ _ e => Heap.get?_push_of_some _ e, hch, h0, mono, ?_, ?_⟩
  · rintro i h e b hb
    rw [List.mem_singleton.mp hb]
    exact ⟨_, e⟩
  · exact Nat.le_trans hn (by decide)
  · intro b hb
    rw [List.mem_singleton.mp hb, Heap.size_push]
    exact Nat.lt_succ_self _
  · intro b hb
    rw [List.mem_singleton.mp hb]
    exact hI
  · rintro C ex i v ys h tk own m hi ⟨t, rfl⟩
    simp only [Int.mul_one, Int.zero_add]
    exact step C ex i t ys h tk own m hi
  · intro D ex h' tk ys _ hD hl hJ hk hn
    exact fin D ex h' tk ys hn hD hl hJ hk

theorem comp_listE {l : Addr} {items : Array Value} (J : List Addr → Nat → List Value → Heap → Prop) (hh : A.handled = none) (hl : s.heap.IsList l items) (hn : items.size ≤ 1000) (hch : ∀ b ∈ ch, ∃ o, s.heap.get? b = some o)
    (h0 : ∀ ex h, J ex 0 [] h) (mono : ∀ ex i ys h h', J ex i ys h → KeepBut ex h h' → J ex i ys h')
    (step : ∀ C ex i v ys h tk own (m : Str → Option Value), items[i]? = some v → J ex i ys h → Fr s.heap C h (fun y => if y = x then some v else m y) → News s.heap C h own → own = allOf s.heap h [C] → (∀ b ∈ ex, ∃ o, h.get? b = some o) →
      wpAny (model prog w) A (forIn ifs true fun c r => if r = true then do let ok ← isTrue c (compEnvC scope cl C env) (eval c (compEnvC scope cl C env)); pure (ForInStep.yield ok) else pure (ForInStep.yield r))
        (fun ok s₃ => if ok = true then wpAny (model prog w) A (eval elt (compEnvC scope cl C env)) (CEnd s.heap C own (fun y h' => J ex (i + 1) (ys ++ [y]) h') s) noExc s₃ else CEnd s.heap C own (fun _ h' => J ex (i + 1) ys h') s .none s₃) noExc { s with heap := h, toks := tk })
    (fin : ∀ D ex h' tk ys, s.heap.get? D = none → D ∈ ex → h'.PlainList D ys.toArray → J ex items.size ys h' → KeepBut ch s.heap h' → Q (.ref D) { s with heap := h', toks := tk }) :
    wpAny (model prog w) A (pyIter (.ref l)) (fun it s₂ => Ext s.heap s₂.heap ∧ CompAt prog w A env elt x ifs scope cl ch Q it s₂) E s := by
  refine wpAny_pyIter_list hl ?_
  obtain ⟨o, ho, hd⟩ := hl
  have hlt := Heap.lt_size ho
  have hI : s.heap.get? s.heap.objs.size = none := Heap.get?_none_of_le (Nat.le_refl _)
  refine ⟨fun _ _ e => Heap.get?_push_of_some _ e, _, _, _, _, _, _, s.heap, J, rfl, Walks.list hh s.heap.objs.size l (Nat.ne_of_lt hlt) items, ?_, ?_, ⟨⟨_, Heap.get?_push_size _ rfl, rfl, rfl⟩, ⟨o, Heap.get?_push_of_some _ ho, hd⟩⟩, ?_, ?_, (by rw [Heap.size_push]; omega), fun _ _ e => Heap.get?_push_of_some _ e, hch, h0, mono, ?_, ?_⟩
  · rintro i h ⟨⟨o, e, _⟩, _⟩ b hb
    rw [List.mem_singleton.mp hb]
    exact ⟨o, e⟩
  · exact Nat.le_trans hn (by decide)
  · intro b hb
    rw [Heap.size_push]
    rcases List.mem_cons.mp hb with q | q
    · exact q ▸ Nat.lt_succ_self _
    · exact List.mem_singleton.mp q ▸ Nat.lt_succ_of_lt hlt
  · intro b hb
    rw [List.mem_singleton.mp hb]
    exact hI
  · rintro C ex i v ys h tk own m _ hv
    exact step C ex i v ys h tk own m hv
  · intro D ex h' tk ys _ hD hl hJ hk hn
    exact fin D ex h' tk ys hn hD hl hJ hk
end
end
end
section
open PySem PySem.W PyProof.Rows PySem.Calls
set_option Elab.async false
set_option maxRecDepth 100000
section
variable {h₀ h h' : Heap} {L : Addr} {m : Str → Option Value} {c : List (Addr × Obj)} {mu : List Addr}
/-- the ledger whole: what may change ahead, all else behind -/
theorem split_all (N : News h₀ L h c) (hmu : c.map (·.1) = mu) : News h₀ L h (c ++ allOf h₀ h (L :: mu)) ∧ OwnOff (allOf h₀ h (L :: mu)) mu ∧ OwnAll h₀ h (L :: mu) (allOf h₀ h (L :: mu)) := by
  refine ⟨fun p hp => ?_, fun p hp b hb q => ?_, rfl⟩
  · rcases List.mem_append.mp hp with hp | hp
    · exact N p hp
    · exact news_allOf (.head _) p hp
  · exact off_allOf p hp (q ▸ .tail _ hb)
theorem RowX.offL {ex : List Addr} {v : Value} {ns : List Int} (F : Fr h₀ L h m) (x : RowX ex h v ns) : RowX (L :: ex) h v ns := by
  obtain ⟨a, vs, n, e, he, hg, hi⟩ := x
  refine ⟨a, vs, n, e, fun q => ?_, hg, hi⟩
  rcases List.mem_cons.mp q with q | q
  · obtain ⟨o, es, ep, ho, hd⟩ := F.ns
    rw [q, ho] at hg
    cases hg
    revert hd
    intro hd
    cases hd.1
  · exact he q
theorem RowsX.offL {ex : List Addr} {vs : List Value} {nss : List (List Int)} (F : Fr h₀ L h m) (x : RowsX ex h vs nss) : RowsX (L :: ex) h vs nss := by
  induction x with
  | nil => exact .nil
  | cons a _ ih => exact .cons (a.offL F) ih
/-- a list of rows is no row -/
theorem RowX.offRows {ex : List Addr} {v : Value} {ns : List Int} {D b : Addr} {ys : List Value} {n : Nat} (x : RowX ex h v ns) (hD : h.get? D = some (W.listOf (.ref b :: ys).toArray n)) : RowX (D :: ex) h v ns := by
  obtain ⟨a, vs, k, e, he, hg, hi⟩ := x
  refine ⟨a, vs, k, e, fun q => ?_, hg, hi⟩
  rcases List.mem_cons.mp q with q | q
  · rw [q, hD] at hg
    have e1 : W.listOf (.ref b :: ys).toArray n = W.listOf vs k := Option.some.inj hg
    have e2 : (.ref b :: ys).toArray = vs := by injection e1 with _ _ e3; injection e3
    rw [← e2] at hi
    cases hi
  · exact he q
theorem RowsX.offRows {ex : List Addr} {D b : Addr} {ys vs : List Value} {nss : List (List Int)} {n : Nat} (x : RowsX ex h vs nss) (hD : h.get? D = some (W.listOf (.ref b :: ys).toArray n)) : RowsX (D :: ex) h vs nss := by
  induction x with
  | nil => exact .nil
  | cons a _ ih => exact .cons (a.offRows hD) ih
theorem RowsX.head {ex : List Addr} {vs : List Value} {nss : List (List Int)} (x : RowsX ex h vs nss) (hn : nss ≠ []) : ∃ b ys, vs = .ref b :: ys := by
  cases x with
  | nil => exact absurd rfl hn
  | cons a _ => obtain ⟨b, _, _, e, _⟩ := a; exact ⟨b, _, by rw [e]⟩
theorem RowX.offCell {ex : List Addr} {v : Value} {ns : List Int} {b : Addr} {o : Obj} {cv : Option Value} (x : RowX ex h v ns) (hb : h.get? b = some o) (hd : o.data = .cell cv) : RowX (b :: ex) h v ns := by
  obtain ⟨a, vs, k, e, he, hg, hi⟩ := x
  refine ⟨a, vs, k, e, fun q => ?_, hg, hi⟩
  rcases List.mem_cons.mp q with q | q
  · rw [q, hb] at hg
    cases hg
    cases hd
  · exact he q
theorem RowsX.offCell {ex : List Addr} {vs : List Value} {nss : List (List Int)} {b : Addr} {o : Obj} {cv : Option Value} (x : RowsX ex h vs nss) (hb : h.get? b = some o) (hd : o.data = .cell cv) : RowsX (b :: ex) h vs nss := by
  induction x with
  | nil => exact .nil
  | cons a _ ih => exact .cons (a.offCell hb hd) ih
/-- what is new behind a split is not alive ahead of it -/
theorem new_off {own led : List (Addr × Obj)} {mu : List Addr} {a : Addr} {o : Obj} (how : OwnAll h₀ h (L :: mu) own) (N : News h₀ L h' led) (hm : (a, o) ∈ led) (hmu : ∀ b ∈ mu, b < a) (hlt : AllLt a own) : h.get? a = none := by
  cases q : h.get? a with
  | none => rfl
  | some o' =>
    exfalso
    have hm' : (a, o') ∈ own := how ▸ mem_allOf (by
      intro q2
      rcases List.mem_cons.mp q2 with q2 | q2
      · exact (N _ hm).2.1 q2
      · exact Nat.lt_irrefl _ (hmu _ q2)) (N _ hm).2.2 q
    exact Nat.lt_irrefl _ (of_allLt hlt _ hm')
theorem alive_ne {a b : Addr} {o : Obj} (ha : h.get? a = some o) (hb : h.get? b = none) : b ≠ a := fun q => by rw [q, ha] at hb; cases hb
theorem fr_alive (F : Fr h₀ L h m) : ∃ o, h.get? L = some o := let ⟨o, _, _, e, _⟩ := F.ns; ⟨o, e⟩
theorem RowsX.off {ex : List Addr} {b : Addr} {vs : List Value} {nss : List (List Int)} (x : RowsX ex h vs nss) (hb : h.get? b = none) : RowsX (b :: ex) h vs nss := by
  induction x with
  | nil => exact .nil
  | cons a _ ih =>
    obtain ⟨a, vs, n, e, he, hg, hi⟩ := a
    refine .cons ⟨a, vs, n, e, fun q => ?_, hg, hi⟩ ih
    rcases List.mem_cons.mp q with q | q
    · rw [q, hb] at hg; cases hg
    · exact he q
end
end
section
open PySem PySem.W PyProof.Rows PySem.Calls
set_option Elab.async false
set_option maxRecDepth 100000
set_option maxHeartbeats 100000000
def bodyAt (k : Nat) : List Stmt := match stAt k with | some (.FunctionDef _ _ body _ _ _ _ _ _ _) => body | _ => []
def scopeAt (k : Nat) : Scope := match stAt k with | some (.FunctionDef _ _ _ _ _ _ scope _ _ _) => scope | _ => default
def AgentsOk (ags : List (List Int)) : Prop := ags.length = 6 ∧ ∀ a ∈ ags, a.length ≤ 5 ∧ Octs a
def turnO (o : Int) : Int := if ([67, 69, 201] : List Int).any (fun x => x == o) then o + 32 else if ([99, 101, 233] : List Int).any (fun x => x == o) then o - 32 else o
/-- what a list's items name is new -/
def FreshV (h : Heap) (vs : List Value) : Prop := ∀ a, Value.ref a ∈ vs → h.get? a = none
theorem FreshV.append {h : Heap} {vs us : List Value} (x : FreshV h vs) (y : FreshV h us) : FreshV h (vs ++ us) := fun a ha => (List.mem_append.mp ha).elim (x a) (y a)
theorem FreshV.one {h : Heap} {a : Addr} (x : h.get? a = none) : FreshV h [.ref a] := fun b hb => by
  have e : (Value.ref b) = .ref a := List.mem_singleton.mp hb
  injection e with e
  rw [e]
  exact x
theorem fresh_under {h h' : Heap} {a : Addr} (k : Ext h h') (x : h'.get? a = none) : h.get? a = none := by
  cases q : h.get? a with
  | none => rfl
  | some o => rw [k _ _ q] at x; cases x
theorem nm2 {D a b : Addr} (h1 : D ≠ a) (h2 : D ≠ b) : D ∉ [a, b] := fun q => by
  rcases List.mem_cons.mp q with q | q
  · exact h1 q
  · exact h2 (List.mem_singleton.mp q)
theorem nm3 {D a b c : Addr} (h1 : D ≠ a) (h2 : D ≠ b) (h3 : D ≠ c) : D ∉ a :: [b] ++ [c] := fun q => by
  rcases List.mem_cons.mp q with q | q
  · exact h1 q
  · rcases List.mem_cons.mp q with q | q
    · exact h2 q
    · exact h3 (List.mem_singleton.mp q)
theorem nm4 {x i t L D : Addr} (h : x ∉ [i, t, L, D]) : x ∉ L :: [t] ++ [i] := fun q => by
  rcases List.mem_cons.mp q with q | q
  · exact h (q ▸ .tail _ (.tail _ (.head _)))
  · rcases List.mem_cons.mp q with q | q
    · exact h (q ▸ .tail _ (.head _))
    · exact h (List.mem_singleton.mp q ▸ .head _)
theorem nm5 {x i t L D : Addr} (h : x ∉ [i, t, L, D]) : x ∉ [L, t] := fun q => by
  rcases List.mem_cons.mp q with q | q
  · exact h (q ▸ .tail _ (.tail _ (.head _)))
  · exact h (List.mem_singleton.mp q ▸ .tail _ (.head _))
theorem turnO_oct {o : Int} (h : 0 ≤ o ∧ o < 256) : 0 ≤ turnO o ∧ turnO o < 256 := by
  unfold turnO
  split
  · rename_i q; simp at q; omega
  · split
    · rename_i q; simp at q; omega
    · exact h
section
variable {w : World} {p : Program} {loose : List Str} {mean : ExcName → Option Value} {mg mb : Str → Option Value} {A : Around} {s : Shared} {E : Value → Shared → Prop} {hp : Heap}
theorem agents_tail {P : Value → Shared → Prop} {D : Addr} {ys : List Value} {n : Nat} {ags : List (List Int)} {u : Str → Option Value} (T : Top p loose mean mg mb hp) (hA : Lo A 9)
    (F : Fr hp hp.objs.size s.heap (fun y => if y = Str.ofString "agents" then some (.ref D) else u y)) (hD : s.heap.get? D = some (W.listOf ys.toArray n)) (hDn : hp.get? D = none) (hDL : D ≠ hp.objs.size)
    (hR : RowsX [hp.objs.size, D] s.heap ys ags) (h5 : ags.length = 5) (hok : ∀ a ∈ ags, a.length ≤ 5 ∧ Octs a) (hV : FreshV hp ys) :
    (KK w.params).In hp → (∀ (vs' : List Value) (n' : Nat) (ags' : List (List Int)) (h' : Heap) (tk : Nat), Ext hp h' → h'.get? D = some (W.listOf vs'.toArray n') → RowsX [] h' vs' ags' → AgentsOk ags' → FreshV hp vs' → P (.ref D) { s with heap := h', toks := tk }) →
    wpAny (model PySem.Challenge.rw_tx0025_01.row.prog w) (A.deeper (envOfC (Str.ofString "_law_agents") (scopeAt 32) hp.objs.size 188 (.ref 187))) (execs ((bodyAt 32).drop 4) (envOfC (Str.ofString "_law_agents") (scopeAt 32) hp.objs.size 188 (.ref 187))) (RetP P) noExc s := by
  k_fill
  intro X ret
  obtain ⟨h0, gs, dr, tk, os⟩ := s
  have hh : A.handled = none := hA.hd
  have hret : Ret _ := Ret.mk ret
  have hV' : Ret _ := Ret.mk hV
  clear ret hV
  dsimp only at F hD hR ⊢
  conv =>
    arg 3
    arg 1
    whnf
  conv in (scopeAt 32) => whnf
  conv in (scopeAt 32) => whnf
  have hok' : Ret _ := Ret.mk hok
  have h5' : Held ags.length 5 := h5
  have hR' : Ret _ := Ret.mk hR
  have hF' : Ret _ := Ret.mk F
  obtain ⟨a0, as, hags⟩ : ∃ a0 as, ags = a0 :: as := by
    cases ags with
    | nil => cases h5
    | cons a0 as => exact ⟨a0, as, rfl⟩
  obtain ⟨v0, hv0, hrow0⟩ := hR.get (i := 0) (ns := a0) (by rw [hags]; rfl)
  obtain ⟨l0, vs0, n0, rfl, hl0X, hl0, hi0⟩ := hrow0
  have ha0 := hok a0 (by rw [hags]; exact .head _)
  obtain ⟨N, hoff, how⟩ := split_all (c := [(D, W.listOf ys.toArray n)]) (mu := [D]) (L := hp.objs.size) (h₀ := hp) (h := h0) (fun p hp => by rw [List.mem_singleton.mp hp]; exact ⟨hD, hDL, hDn⟩) rfl
  simp only [List.cons_append, List.nil_append] at N
  have hl0n : hp.get? l0 = none ∨ hp.get? l0 = some (W.listOf vs0 n0) := by
    cases q : hp.get? l0 with
    | none => exact .inl rfl
    | some o => have := F.keep _ _ q; rw [hl0] at this; exact .inr (this ▸ rfl)
  generalize allOf hp h0 [hp.objs.size, D] = own at N hoff how
  have hys : ys.length = 5 := by rw [hR.length]; exact h5
  have how' : Ret _ := Ret.mk how
  have hv0' : Held _ _ := hv0
  clear hok hR how hv0 h5 hags
  iterate 8 (first | walk1 | (dsimp only; walk1))
  rename Fr _ _ _ _ => FF
  rename_i tu hA1 l1 hB1 tk9
  refine' For_growF FF ?hx ?hp ?hs ?hE ?_
  case hx => with_unfolding_all rfl
  case hp => with_unfolding_all rfl
  case hs => (intro _; with_unfolding_all rfl)
  case hE => exact noExc_passes
  iterate 3 (first | walk1 | (dsimp only; walk1))
  rename Fr _ _ _ _ => FF
  rename News _ _ _ _ => NN
  have kN : KeepBut [hp.objs.size, D] h0 _ := keepBut_all FF NN (hF' : Fr _ _ _ _).keep (fun p hq => .tail _ (.tail _ ((how' : OwnAll _ _ _ _) ▸ hq)))
  have hRc := (hR' : RowsX _ _ _ _).keep kN
  have hDc := NN.get (.tail _ (.head _))
  have hltu := NN.get (.head _)
  refine item_at (k := 0) (x := .ref l0) (NN.isList (.tail _ (.head _))) (by have : ys[0]? = some (Value.ref l0) := hv0'; simpa using this) (by decide) ?_ (by with_unfolding_all rfl)
  have hlc : Heap.IsList _ l0 vs0 := ⟨_, kN _ _ hl0X hl0, rfl, _, rfl⟩
  have hl0c := kN _ _ hl0X hl0
  have htn : h0.get? tu = none := by
    cases q : h0.get? tu with
    | none => rfl
    | some o =>
      exfalso
      have hm : (tu, o) ∈ own := (how' : OwnAll _ _ _ _) ▸ mem_allOf (by
        intro q2
        rcases List.mem_cons.mp q2 with q2 | q2
        · exact (NN _ (.head _)).2.1 q2
        · have := List.mem_singleton.mp q2
          exact Nat.lt_irrefl _ (this ▸ l1.1)) (NN _ (.head _)).2.2 q
      exact Nat.lt_irrefl _ (of_allLt l1.2 _ hm)
  have hl0tu : l0 ≠ tu := fun q => by rw [q, htn] at hl0; cases hl0
  have hDtu : D ≠ tu := fun q => Nat.lt_irrefl _ (q ▸ l1.1)
  have ntu : News hp hp.objs.size _ [(tu, W.listOf #[] 0)] := fun p hp => NN p (by rw [List.mem_singleton.mp hp]; exact .head _)
  have hR3 := ((hR' : RowsX _ _ _ _).off htn).keep (h' := hB1) fun b o hb e => kN b o (fun q => hb (.tail _ q)) e
  have hR4 := hR3.off (Heap.get?_none_of_le (Nat.le_refl _))
  have hsL : hp.objs.size ≠ tu := fun q => (NN _ (.head _)).2.1 q.symm
  have hsz1 : D ≠ hB1.objs.size := fun q => by rw [q, Heap.get?_none_of_le (Nat.le_refl _)] at hDc; cases hDc
  refine loop_list (mu := [tu]) [] (fun i c h => ∃ vs n', c = [(tu, W.listOf vs.toArray n')] ∧ IntsAre vs ((a0.take i).map turnO) ∧ h.get? D = some (W.listOf ys.toArray n) ∧ RowsX [hB1.objs.size, tu, hp.objs.size, D] h ys ags) hh hlc (by simp [hl0tu]) FF ntu rfl ⟨[], 0, rfl, .nil, hDc, hR4⟩ ?_ ?_ ?_
  · rintro i c h h' ⟨vs, n', rfl, h1, h2, h3⟩ k
    exact ⟨vs, n', rfl, h1, k _ _ (nm3 hDL hDtu hsz1) h2, h3.keep fun b o hb e => k b o (nm4 hb) e⟩
  · rintro i v u' c h tk' own' hv ⟨vs, n', rfl, h1, h2, h3⟩ hc hof hal F5 N5 how5
    obtain ⟨o, to, rfl, hno⟩ := ints_get hi0 (by simpa using hv)
    have hob := ha0.2 o (List.mem_of_getElem? hno)
    have hob1 := hob.1
    have hob2 := hob.2
    have hno' : Held _ _ := hno
    have h2' : Ret _ := Ret.mk h2
    have h3' : Ret _ := Ret.mk h3
    have hF5 : Ret _ := Ret.mk F5
    have hvl : vs.length ≤ 8 := by rw [h1.length, List.length_map, List.length_take]; omega
    clear hv hno hob h2 h3 FF NN kN hRc hDc hltu hl0c ntu hlc hal
    simp only [List.cons_append, List.nil_append] at N5
    have hDL' : Held (D = hp.objs.size) False := eq_false hDL
    have hDtu' : Held (D = tu) False := eq_false hDtu
    k_steps
    all_goals (repeat (rename _ ∧ _ => hand; rcases hand with ⟨_, _⟩))
    all_goals simp only [List.push_toArray] at *
    all_goals (rename News _ _ _ (_ :: _) => NZ)
    all_goals (rename Fr _ _ _ _ => FZ)
    all_goals (refine TurnG.one (R := fun h vs => IntsAre vs ((a0.take (i + 1)).map turnO) ∧ h.get? D = some (W.listOf ys.toArray n) ∧ RowsX [hB1.objs.size, tu, hp.objs.size, D] h ys ags) (hF5 : Fr _ _ _ _) how5 FZ NZ (by intro p hp; simp [hp]) (by k_mem) (by intro z hz hs; simp [hz]) fun kp => ⟨?_, kp _ _ (nm2 hDL hDtu) h2', (h3' : RowsX _ _ _ _).keep fun b o hb e => kp b o (nm5 hb) e⟩)
    all_goals rw [Mine.take_snoc (show a0[i]? = some o from hno'), List.map_append]
    all_goals refine IntsAre.append h1 ?_
    · rw [show [o].map turnO = [o + 32] by simp only [List.map_cons, List.map_nil]; unfold turnO; rw [if_pos (by assumption)]]
      exact .cons _ _ .nil
    · rw [show [o].map turnO = [o - 32] by simp only [List.map_cons, List.map_nil]; unfold turnO; rw [if_neg (by rw [Bool.not_eq_true]; assumption), if_pos (by assumption)]]
      exact .cons _ _ .nil
    · rw [show [o].map turnO = [o] by simp only [List.map_cons, List.map_nil]; unfold turnO; rw [if_neg (by rw [Bool.not_eq_true]; assumption), if_neg (by rw [Bool.not_eq_true]; assumption)]]
      exact .cons _ _ .nil
  · rintro h' tk' u' c own' F5 N5 hc how5 ⟨vs, n', rfl, hI, hDg, hRr⟩
    have htuN := N5 _ (List.mem_append_left _ (.head _))
    obtain ⟨N6, hof6, how6⟩ := split_all (c := [(tu, W.listOf vs.toArray n'), (D, W.listOf ys.toArray n)]) (mu := [tu, D]) (L := hp.objs.size) (h₀ := hp) (h := h') (fun p hq => by
      rcases List.mem_cons.mp hq with rfl | hq
      · exact htuN
      · rw [List.mem_singleton.mp hq]; exact ⟨hDg, hDL, hDn⟩) rfl
    simp only [List.cons_append, List.nil_append] at N6
    generalize allOf hp h' [hp.objs.size, tu, D] = own6 at N6 hof6 how6
    have hF5 : Ret _ := Ret.mk F5
    have how6' : Ret _ := Ret.mk how6
    have hsz0 : vs0.size = a0.length := by have := hi0.length; rw [Array.length_toList] at this; exact this
    rw [hsz0, List.take_length] at hI
    have hRr' : Ret _ := Ret.mk hRr
    have hI' : Ret _ := Ret.mk hI
    have hal : Ret _ := Ret.mk ha0.1
    have hao : Ret _ := Ret.mk ha0.2
    have htD : tu ≠ D := fun q => hDtu q.symm
    clear FF NN kN hRc hDc hltu hl0c ntu hlc N5 how5 hDg hRr hI hR3 hR4 htn hl0tu how6 hc htuN hl0n hi0 ha0 hl0 hoff
    k_steps
    repeat (rename _ ∧ _ => hand; rcases hand with ⟨_, _⟩)
    simp only [List.push_toArray] at *
    rename Fr _ _ _ _ => FZ
    rename News _ _ _ (_ :: _) => NZ
    have kp : KeepBut [hp.objs.size, tu, D] h' _ := keepBut_all FZ NZ (hF5 : Fr _ _ _ _).keep (fun p hq => .tail _ (.tail _ ((how6' : OwnAll _ _ _ _) ▸ hq)))
    have hRz : RowsX [hB1.objs.size, tu, hp.objs.size, D] _ ys ags := (hRr' : RowsX _ _ _ _).keep (fun b o hb e => kp b o (fun q => hb (by
      rcases List.mem_cons.mp q with q | q
      · rw [q]; exact .tail _ (.tail _ (.head _))
      · rcases List.mem_cons.mp q with q | q
        · rw [q]; exact .tail _ (.head _)
        · rw [List.mem_singleton.mp q]; exact .tail _ (.tail _ (.tail _ (.head _))))) e)
    refine RetP.mk ((hret : ∀ (vs' : List Value) (n' : Nat) (ags' : List (List Int)) (h' : Heap) (tk : Nat), _) _ _ (ags ++ [a0.map turnO]) _ _ FZ.keep (NZ _ (.tail _ (.head _))).1 ((hRz.sub (ex' := []) (fun _ h => nomatch h)).append (.cons (row_of NZ (.head _) hI' (by simp)) .nil)) ⟨?_, ?_⟩ (FreshV.append (hV' : FreshV hp ys) (FreshV.one (NZ _ (.head _)).2.2)))
    · rw [List.length_append, show ags.length = 5 from h5']; rfl
    · intro a ha
      rcases List.mem_append.mp ha with ha | ha
      · exact (hok' : ∀ (a : List Int), a ∈ ags → a.length ≤ 5 ∧ Octs a) a ha
      · rw [List.mem_singleton.mp ha]
        refine ⟨by rw [List.length_map]; exact hal, fun x hx => ?_⟩
        obtain ⟨o, ho, rfl⟩ := List.mem_map.mp hx
        exact turnO_oct ((hao : Octs a0) o ho)
end
end
section
open PySem PySem.W PyProof.Rows PySem.Calls
set_option Elab.async false
set_option maxRecDepth 100000
set_option maxHeartbeats 100000000
theorem fr_assign {h₀ h h' : Heap} {L : Addr} {m m' : Str → Option Value} (F : Fr h₀ L h m) (k : KeepBut [L] h h') (ns : h'.Ns L m') : Fr h₀ L h' m' :=
  ⟨ns, fun b o e => k b o (fun q => absurd (Heap.lt_size e) (Nat.not_lt.mpr (List.mem_singleton.mp q ▸ F.above))) (F.keep b o e), F.above⟩
theorem news_keep {h₀ h h' : Heap} {L : Addr} {news : List (Addr × Obj)} (N : News h₀ L h news) (k : KeepBut [L] h h') : News h₀ L h' news :=
  fun p hp => ⟨k _ _ (fun q => (N p hp).2.1 (List.mem_singleton.mp q)) (N p hp).1, (N p hp).2⟩
theorem news_put {h₀ h h' : Heap} {L D : Addr} {m : Str → Option Value} {o : Obj} {news : List (Addr × Obj)} (F : Fr h₀ L h m) (N : News h₀ L h' news) (hn : h.get? D = none) (ho : h'.get? D = some o) : News h₀ L h' ((D, o) :: news) := news_add F N hn ho
theorem fig_oct {k : Int} (h : 0 ≤ k ∧ k < 16) : 0 ≤ fig k ∧ fig k < 256 := by unfold fig; split <;> omega
theorem tailsO_pos {b : Bool} : ∀ {ns : List Int}, 0 < (tailsO b ns).length
  | [] => Nat.zero_lt_one
  | o :: ns => by unfold tailsO tailsAt; rw [List.length_append, List.length_cons]; omega
theorem tailsO_octs {b : Bool} : ∀ {ns : List Int}, Octs ns → ∀ row ∈ tailsO b ns, Octs row
  | [], _, row, hr => by
    rw [show tailsO b [] = [[]] from rfl] at hr
    rw [List.mem_singleton.mp hr]
    exact fun _ h => nomatch h
  | o :: ns, h, row, hr => by
    have ho := h o (.head _)
    have hns : Octs ns := fun x hx => h x (.tail _ hx)
    have hf1 := fig_oct (k := o / 16) (by omega)
    have hf2 := fig_oct (k := o % 16) (by omega)
    rw [show tailsO b (o :: ns) = tailsAt b o ns ++ tailsO b ns from rfl] at hr
    rcases List.mem_append.mp hr with hr | hr
    · unfold tailsAt at hr
      rcases List.mem_cons.mp hr with rfl | hr
      · exact h
      · split at hr
        · rcases List.mem_cons.mp hr with rfl | hr
          · intro x hx
            rcases List.mem_cons.mp hx with rfl | hx
            · exact hf1
            · rcases List.mem_cons.mp hx with rfl | hx
              · exact hf2
              · exact hns x hx
          · rw [List.mem_singleton.mp hr]
            intro x hx
            rcases List.mem_cons.mp hx with rfl | hx
            · exact hf2
            · exact hns x hx
        · exact nomatch hr
    · exact tailsO_octs hns row hr
theorem tailsO_len {b : Bool} : ∀ {ns : List Int}, (tailsO b ns).length ≤ 3 * ns.length + 1
  | [] => Nat.le_refl _
  | o :: ns => by
    have ih := tailsO_len (b := b) (ns := ns)
    rw [show tailsO b (o :: ns) = tailsAt b o ns ++ tailsO b ns from rfl, List.length_append, List.length_cons]
    have : (tailsAt b o ns).length ≤ 3 := by unfold tailsAt; split <;> simp
    omega
theorem tailsO_row {b : Bool} : ∀ {ns : List Int}, ∀ row ∈ tailsO b ns, row.length ≤ ns.length + 1
  | [], row, hr => by
    rw [show tailsO b [] = [[]] from rfl] at hr
    rw [List.mem_singleton.mp hr]; exact Nat.zero_le _
  | o :: ns, row, hr => by
    rw [show tailsO b (o :: ns) = tailsAt b o ns ++ tailsO b ns from rfl] at hr
    rcases List.mem_append.mp hr with hr | hr
    · unfold tailsAt at hr
      rcases List.mem_cons.mp hr with rfl | hr
      · simp
      · split at hr
        · rcases List.mem_cons.mp hr with rfl | hr
          · simp
          · rw [List.mem_singleton.mp hr]; simp
        · exact nomatch hr
    · have := tailsO_row row hr
      rw [List.length_cons]; omega
theorem fr_name {h₀ h : Heap} {L : Addr} {m : Str → Option Value} {x : Str} {v : Value} (F : Fr h₀ L h m) (hx : m x = some v) : Fr h₀ L h (fun y => if y = x then some v else m y) := by
  have : m = fun y => if y = x then some v else m y := by
    funext y
    by_cases h : y = x
    · rw [if_pos h, h, hx]
    · rw [if_neg h]
  exact this ▸ F
theorem sizes_at : ∀ {k : Nat}, k < 12 → ∃ c : Nat, ([0, 1, 1, 1, 1, 1, 2, 2, 2, 2, 2, 3] : List Int).getD k 0 = (c : Int) ∧ c ≤ 3
  | 0, _ => ⟨0, rfl, by decide⟩
  | 1, _ | 2, _ | 3, _ | 4, _ | 5, _ => ⟨1, rfl, by decide⟩
  | 6, _ | 7, _ | 8, _ | 9, _ | 10, _ => ⟨2, rfl, by decide⟩
  | 11, _ => ⟨3, rfl, by decide⟩
section
variable {w : World} {p : Program} {loose : List Str} {mean : ExcName → Option Value} {mg mb : Str → Option Value} {A : Around} {s : Shared} {E : Value → Shared → Prop}
theorem use_agents {P : Value → Shared → Prop} {l nl : Addr} {vs us : List Value} {cs ns : List Int} {i : Nat} {free : Int} {t : Tok} (T : Top p loose mean mg mb s.heap) (hA : Lo A 9) (hl : s.heap.IsList l vs.toArray) (hi : IntsAre vs cs) (hcs : Cells i cs) (hi63 : i ≤ 63) (hf0 : 0 ≤ free) (hf1 : free < 256)
    (hn : s.heap.IsList nl us.toArray) (hj : IntsAre us ns) (hlen : LenLe ns 8) (hoc : Octs ns) :
    (KK w.params).In s.heap → (∀ (r : Addr) (vs' : List Value) (n : Nat) (ags : List (List Int)) (h' : Heap) (tk : Nat), Ext s.heap h' → s.heap.get? r = none →
      h'.get? r = some (W.listOf vs'.toArray n) → RowsX [] h' vs' ags → AgentsOk ags → FreshV s.heap vs' → P (.ref r) { s with heap := h', toks := tk }) → wpAny (model PySem.Challenge.rw_tx0025_01.row.prog w) A (call (.ref 188) [.ref l, .int free t, .ref nl]) P E s := by
  k_fill
  intro X ret
  obtain ⟨hp, gs, dr, tk, os⟩ := s
  dsimp only at T X ret hl hn
  have hro := hA.room
  have hh : A.handled = none := hA.hd
  k_dflt (refine' enterC (binds := [("cells", .ref l), ("free", .int free t), ("name", .ref nl)]) ?k3 ?k5 ?k6 ?k7 ?k8 ?k9 ?kB ?knd ?_ ?c2 ?c3 ?c4; (case k3 => k_asm); (case k5 => k_asm); (case k6 => k_is); (case k7 => k_is); (case k8 => exact hro); (case k9 => exact BindsTo.of_eq rfl); (case kB => exact kinds_by rfl); (case knd => decide); (case c2 => exact rfl); (case c3 => exact rfl); (case c4 => exact rfl); intro h₁ tk₁ cells F₁ N₁ Y; dsimp only at F₁ N₁ Y ⊢)
  have hret : Ret _ := Ret.mk ret
  clear ret
  obtain ⟨o₁, o₂, rfl, c1, c2⟩ := CellsAre.two Y
  have hcs' : Ret _ := Ret.mk hcs
  have hcl : cs.length = 7 := hcs.1
  clear hcs
  iterate 30 (first | walk1 | (dsimp only; walk1))
  clear Y
  iterate 2 (first | walk1 | (dsimp only; walk1))
  refine' Assign_ListComp_J ?k0 ?k1 ?k2 ?k3 ?k4 ?k5 ?k7 ?k8 ?_ ?k6
  case k0 => with_unfolding_all exact rfl
  case k1 => with_unfolding_all exact rfl
  case k2 => with_unfolding_all decide
  case k3 => with_unfolding_all exact rfl
  case k4 => with_unfolding_all decide
  case k5 => with_unfolding_all exact rfl
  case k7 => with_unfolding_all exact rfl
  case k8 => with_unfolding_all exact rfl
  case k6 => (intro _; with_unfolding_all exact rfl)
  k_steps
  rename Fr _ _ _ _ => FF
  rename News _ _ _ _ => NN
  rename _ = Data.cell (some (Value.ref _)) => dT
  rename IntsAre _ (List.take _ (List.drop 2 cs)) => hI
  rename_i lS _ _ oS _ DC ws _ _ _ _
  have hws : Ret _ := Ret.mk hI
  have kB : Ret _ := Ret.mk FF.keep
  have XB := X.keeps FF.keep
  have TB := T.keeps FF.keep
  have cT : Heap.IsCell _ _ (some (.ref lS)) := ⟨_, NN.get (.tail _ (.tail _ (.head _))), dT⟩
  have cN : Heap.IsCell _ _ (some (.int free t)) := ⟨_, NN.get (.tail _ (.tail _ (.tail _ (.head _)))), c2⟩
  have hT := NN.get (.tail _ (.head _))
  have hlB : Heap.IsList _ DC ws.toArray := NN.isList (.head _)
  generalize hms : (cs.drop 2).take (min 6 cs.length - 2) = ms at hI hws
  have hmb : ∀ m ∈ ms, 0 ≤ m ∧ m ≤ 16000000 := fun m hm => by
    have := (hcs' : Cells i cs).2 m (List.mem_of_mem_drop (List.mem_of_mem_take (hms ▸ hm)))
    omega
  have hml : ms.length = 4 := by rw [← hms, List.length_take, List.length_drop]; omega
  have hmb' : Ret _ := Ret.mk hmb
  have hml' : Held ms.length 4 := hml
  have hwl : ws.toArray.size ≤ 1000 := by rw [List.size_toArray, hI.length]; omega
  clear hmb hms hI
  refine wpAny_mono (comp_listE (fun ex k ys h => (∃ rows, RowsX ex h ys rows ∧ rows.length = k ∧ ∀ a ∈ rows, a.length ≤ 3 ∧ Octs a) ∧ FreshV hp ys) hh hlB hwl ?_ (fun _ _ => ⟨⟨[], .nil, rfl, by simp⟩, fun _ h => nomatch h⟩) (fun _ _ _ _ _ ⟨⟨rows, h1, h2⟩, h3⟩ k => ⟨⟨rows, h1.keep k, h2⟩, h3⟩) ?_ ?_) (fun it s₂ h => ⟨_, FF.ns.keeps h.1, h.2⟩) (fun _ _ e => e)
  · intro b hb
    rw [List.mem_singleton.mp hb]
    obtain ⟨o, _, _, e, _⟩ := FF.ns
    exact ⟨o, e⟩
  · intro C ex k v ys h tk own m hv hJ F N ho hal
    refine wpAny_tests_nil ?_
    simp only [if_true]
    obtain ⟨o, to, rfl, hno⟩ := ints_get (hws : IntsAre ws ms) (by simpa using hv)
    have hob := (hmb' : ∀ m ∈ ms, 0 ≤ m ∧ m ≤ 16000000) o (List.mem_of_getElem? hno)
    have hob1 := hob.1
    have hob2 := hob.2
    have hJ' : Ret _ := Ret.mk hJ
    have hal' : Ret _ := Ret.mk hal
    clear hv hJ hal hob hno hoc hcl FF NN dT c1 c2 hlB hwl
    dsimp only at F N ho ⊢
    iterate 15 (first | walk1 | (dsimp only; walk1))
    have hq0 : 0 ≤ o.fmod 12 := Int.fmod_nonneg_of_pos _ (by decide)
    have hq1 : o.fmod 12 < 12 := Int.fmod_lt_of_pos _ (by decide)
    generalize o.fmod 12 = q at hq0 hq1
    have hd0 : 0 ≤ o.fdiv 12 := by rw [Int.fdiv_eq_ediv_of_nonneg _ (by decide)]; omega
    have hd1 : o.fdiv 12 ≤ 1000000000 := by rw [Int.fdiv_eq_ediv_of_nonneg _ (by decide)]; omega
    generalize o.fdiv 12 = dd at hd0 hd1
    have hTB : Heap.IsList _ _ _ := ⟨_, F.keep _ _ hT, rfl, _, rfl⟩
    refine item_anyK (ns := [0, 1, 1, 1, 1, 1, 2, 2, 2, 2, 2, 3]) hTB (by repeat constructor) hq0 (by simpa using hq1) (by omega) fun tq => ?_
    obtain ⟨c, hc, hc3⟩ : ∃ c : Nat, [0, 1, 1, 1, 1, 1, 2, 2, 2, 2, 2, 3].getD q.toNat 0 = (c : Int) ∧ c ≤ 3 := sizes_at (by omega)
    rw [hc]
    clear hc hTB
    iterate 4 (first | walk1 | (dsimp only; walk1))
    refine use_octets (TB.keeps F.keep) (Lo.le (Lo.deeper hA) (by decide)) hd0 hd1 (by omega) hf0 hf1 (XB.keeps F.keep) ?_
    intro r vs' n' h9 tk9 nsr e9 hr hg hI9 hl9 ho9
    obtain ⟨⟨rows, hR, hrl, hra⟩, hVy⟩ := (hJ' : (∃ rows, RowsX ex h ys rows ∧ rows.length = k ∧ ∀ a ∈ rows, a.length ≤ 3 ∧ Octs a) ∧ FreshV hp ys)
    refine CEnd.mk (fr_ext F e9) (news_add F (news_ext N e9) hr hg) (fun p hp => .tail _ hp) ⟨⟨rows ++ [nsr], (hR.keep fun b o _ e => e9 b o e).append (.cons ⟨r, vs'.toArray, n', rfl, fresh_ex hr hal', hg, hI9⟩ .nil), by simp [hrl], ?_⟩, FreshV.append hVy (FreshV.one (fresh_under (kB : Ext hp _) (fresh_under F.keep hr)))⟩
    intro a ha
    rcases List.mem_append.mp ha with ha | ha
    · exact hra a ha
    · rw [List.mem_singleton.mp ha]; exact ⟨by omega, ho9⟩
  · intro D ex h9 tk9 ys hD hDe hl2 hJ2 hk2 hns
    have F9 := fr_assign FF hk2 hns
    obtain ⟨nA, hl2⟩ := hl2
    have N9 := news_put FF (news_keep NN hk2) hD hl2
    obtain ⟨⟨rows, hR, hrl, hra⟩, hVy⟩ := hJ2
    have hVy' : Ret _ := Ret.mk hVy
    clear hVy
    have hrl4 : rows.length = 4 := by rw [hrl, List.size_toArray]; rw [IntsAre.length (hws : IntsAre ws ms)]; exact hml
    have hra' : Ret _ := Ret.mk hra
    have hrl' : Held rows.length 4 := hrl4
    have hys : ys.length = 4 := by rw [hR.length]; exact hrl4
    have hD' : Ret _ := Ret.mk hD
    clear hra hrl hk2 hns XB TB hlB hwl FF NN dT cT cN hT c1 c2 hml hrl4
    k_steps
    rename Fr _ _ _ _ => FF
    rename News _ _ _ _ => NN
    refine use_tails (T.keeps FF.keep) (Lo.le (Lo.deeper hA) (by decide)) (Fr.lst FF hn) hj hlen hoc (X.keeps FF.keep) ?_
    intro rt vt ntl hT9 tkT eT hrt hgt hRt
    have FT := fr_ext FF eT
    have hrtL : rt ≠ hp.objs.size := fun q => by obtain ⟨o, e⟩ := fr_alive FF; rw [q, e] at hrt; cases hrt
    have hrtB : hp.get? rt = none := by
      cases q : hp.get? rt with
      | none => rfl
      | some o => have := FF.keep _ _ q; rw [hrt] at this; cases this
    have hRA : RowsX [hp.objs.size, D] hT9 ys rows := (((hR.sub (ex' := [D]) (fun a ha => List.mem_singleton.mp ha ▸ hDe)).offL FF).keep (h' := hT9) (fun b o _ e => eT b o e))
    have hDg : hT9.get? D = some (W.listOf ys.toArray nA) := eT _ _ (NN _ (.head _)).1
    have hDB : hp.get? D = none := (NN _ (.head _)).2.2
    have hDL : D ≠ hp.objs.size := (NN _ (.head _)).2.1
    have hrtD : rt ≠ D := alive_ne (NN _ (.head _)).1 hrt
    obtain ⟨NT, hoff, how⟩ := split_all (c := [(D, W.listOf ys.toArray nA)]) (mu := [D]) (L := hp.objs.size) (h₀ := hp) (h := hT9) (fun p hp => by rw [List.mem_singleton.mp hp]; exact ⟨hDg, hDL, hDB⟩) rfl
    simp only [List.cons_append, List.nil_append] at NT
    have hmem : ∀ a o, a ∉ [hp.objs.size, D] → hp.get? a = none → hT9.get? a = some o → (a, o) ∈ allOf hp hT9 [hp.objs.size, D] := fun a o h1 h2 h3 => mem_allOf h1 h2 h3
    have hmt := hmem rt _ (by simp [hrtL, hrtD]) hrtB hgt
    generalize allOf hp hT9 [hp.objs.size, D] = own at NT how hmem hmt hoff
    have hmem' : Ret _ := Ret.mk hmem
    have hmt' : Ret _ := Ret.mk hmt
    obtain ⟨yb, yr, hyy⟩ := hRA.head (by intro q; rw [q] at hrl'; exact absurd hrl' (by unfold Held; decide))
    have hRt' : RowsX [hp.objs.size, D] hT9 vt (tailsO true ns) := RowsX.offL FT (hRt.offRows (by rw [← hyy]; exact hDg))
    have hRt' : Ret _ := Ret.mk hRt'
    have htl : vt.length = (tailsO true ns).length := hRt.length
    have htn : 0 < (tailsO true ns).length := tailsO_pos
    have htb : (tailsO true ns).length ≤ 25 := by have := tailsO_len (b := true) (ns := ns); have : ns.length ≤ 8 := hlen; omega
    have hto := tailsO_octs (b := true) hoc
    have hoc' : Ret _ := Ret.mk hoc
    have hto' : Ret _ := Ret.mk hto
    have hR' : Ret _ := Ret.mk hRA
    have FT' : Ret _ := Ret.mk FT
    clear hoc hto hR hRt FF NN eT hrt hgt hD hRA hmem hmt
    generalize htlN : (tailsO true ns).length = N at htl htn htb
    dsimp only at FT NT ⊢
    k_steps
    rename Fr _ _ _ _ => FF
    rename News _ _ _ _ => NN
    have NRt : News _ _ _ [(rt, W.listOf vt.toArray ntl)] := fun p hp => NN p (by rw [List.mem_singleton.mp hp]; exact .tail _ hmt')
    refine KM.len_K (n := N) NRt (.head _) (by rw [List.size_toArray]; exact htl) (by omega) ?_
    clear NRt
    iterate 1 (first | walk1 | (dsimp only; walk1))
    have hq0 : 0 ≤ (cs.getD (Int.toNat 6) 0).fmod (N : Int) := Int.fmod_nonneg_of_pos _ (by omega)
    have hq1 : (cs.getD (Int.toNat 6) 0).fmod (N : Int) < N := Int.fmod_lt_of_pos _ (by omega)
    generalize (cs.getD (Int.toNat 6) 0).fmod (N : Int) = q at hq0 hq1
    obtain ⟨j, rfl⟩ : ∃ j : Nat, q = j := ⟨q.toNat, by omega⟩
    have hjN : j < N := by omega
    obtain ⟨row, hrow⟩ : ∃ row, (tailsO true ns)[j]? = some row := ⟨_, List.getElem?_eq_getElem (by omega)⟩
    obtain ⟨v, hv, hRow⟩ := (hRt' : RowsX [hp.objs.size, D] hT9 vt (tailsO true ns)).get hrow
    have hrowO : Octs row := (hto' : ∀ row ∈ tailsO true ns, Octs row) row (List.mem_of_getElem? hrow)
    obtain ⟨ra, rvs, rn, rfl, hraX, hra, hrI⟩ := hRow
    have kN : KeepBut [hp.objs.size, D] hT9 _ := keepBut_all FF NN (FT' : Fr _ _ _ _).keep (fun p hq => .tail _ (how ▸ hq))
    have hlrt : Heap.IsList _ rt vt.toArray := ⟨_, (NN _ (.tail _ hmt')).1, rfl, _, rfl⟩
    have hlra : Heap.IsList _ ra rvs := ⟨_, kN _ _ hraX hra, rfl, _, rfl⟩
    refine item_at (k := j) (x := .ref ra) hlrt (by simpa using hv) (by omega) ?_ (by with_unfolding_all rfl)
    clear hlrt kN hq0 hq1 hv hra
    have hc6 : 0 ≤ cs.getD (Int.toNat 6) 0 ∧ cs.getD (Int.toNat 6) 0 ≤ 16000000 := by
      have h6 : cs.getD (Int.toNat 6) 0 ∈ cs := by rw [List.getD_eq_getElem?_getD, List.getElem?_eq_getElem (show Int.toNat 6 < cs.length by rw [hcl]; decide)]; exact List.getElem_mem _
      have := (hcs' : Cells i cs).2 _ h6
      omega
    have hc60 := hc6.1
    have hc61 := hc6.2
    clear hc6
    iterate 17 (first | walk1 | (dsimp only; walk1))
    have hk0 : 0 ≤ ((cs.getD (Int.toNat 6) 0).fdiv 16).fmod 3 := Int.fmod_nonneg_of_pos _ (by decide)
    have hk1 : ((cs.getD (Int.toNat 6) 0).fdiv 16).fmod 3 < 3 := Int.fmod_lt_of_pos _ (by decide)
    have hrl : rvs.toList.length ≤ 1000 := by rw [hrI.length]; have := tailsO_row (b := true) (ns := ns) row (List.mem_of_getElem? hrow); have : ns.length ≤ 8 := hlen; omega
    refine kba_turn (value' := PySem.Expr.Name (PySem.Str.ofString "_") ⟨0, 0, 0, 0⟩) (fun _ => rfl) ?_
    refine slice_upto (x := 1 + ((cs.getD (Int.toNat 6) 0).fdiv 16).fmod 3) FF NN (by simpa using hlra) hrI (by omega) hrl ?_ (by with_unfolding_all rfl) (fun _ => rfl)
    intro ws2 h8 F8 N8 lt8 hI8
    k_lt lt8
    have hx : ∃ r2 : List Int, IntsAre ws2 r2 ∧ r2.length ≤ 3 ∧ Octs r2 := ⟨_, hI8, by rw [List.length_take]; omega, fun o ho => hrowO o (List.mem_of_mem_take ho)⟩
    clear hI8
    refine Exists.elim hx ?_
    clear hx
    intro row2 hx2
    have hI8 := hx2.1
    have hr2l := hx2.2.1
    have hr2o := hx2.2.2
    clear hx2
    have hI8' : Ret _ := Ret.mk hI8
    have hr2l' : Ret _ := Ret.mk hr2l
    have hr2o' : Ret _ := Ret.mk hr2o
    have ltD := lt8.1
    clear hlra hrl hk0 hk1 hc60 hc61 FF NN hrI hr2l hr2o hI8
    iterate 3 (first | walk1 | (dsimp only; walk1))
    simp only [List.push_toArray] at *
    rename Fr _ _ _ _ => FZ
    rename News _ _ _ (_ :: _) => NZ
    have kp : KeepBut [hp.objs.size, D] hT9 _ := keepBut_all FZ NZ (FT' : Fr _ _ _ _).keep (fun p hq => .tail _ (.tail _ (how ▸ hq)))
    have hsl : h8.objs.size ≠ 0 ∨ True := .inr trivial
    refine agents_tail (ags := rows ++ [row2]) T hA (fr_name (x := Str.ofString "agents") (v := .ref D) FZ rfl) (NZ _ (.tail _ (.head _))).1 hDB hDL (((hR' : RowsX _ _ _ _).keep kp).append (.cons ⟨_, _, _, rfl, nm2 (NZ _ (.head _)).2.1 (Nat.ne_of_gt ltD), (NZ _ (.head _)).1, (show IntsAre ws2.toArray.toList row2 from hI8')⟩ .nil)) (by rw [List.length_append, show rows.length = 4 from hrl']; rfl) ?_ (FreshV.append (hVy' : FreshV hp ys) (FreshV.one (NZ _ (.head _)).2.2)) X ?_
    · intro a ha
      rcases List.mem_append.mp ha with ha | ha
      · have := (hra' : ∀ a ∈ rows, a.length ≤ 3 ∧ Octs a) a ha
        exact ⟨by omega, this.2⟩
      · rw [List.mem_singleton.mp ha]
        exact ⟨Nat.le_trans (hr2l' : row2.length ≤ 3) (by decide), hr2o'⟩
    · intro vs' n' ags' h' tk' e hg hR9 hok hV9
      exact (hret : ∀ (r : Addr) (vs' : List Value) (n : Nat) (ags : List (List Int)) (h' : Heap) (tk : Nat), _) D vs' n' ags' h' tk' e hDB hg hR9 hok hV9
end
end
section
open PySem PySem.W PyProof.Rows PySem.Calls
set_option Elab.async false
set_option maxRecDepth 100000
def eqInt (x : Int) : Value → Bool | .int a _ => a == x | _ => false
theorem ints_at {vs : List Value} {ns : List Int} (h : IntsAre vs ns) : ∀ {i : Nat} {a : Int}, ns[i]? = some a → ∃ t, vs[i]? = some (.int a t) := by
  induction h with
  | nil => intro i a e; simp at e
  | cons y t _ ih =>
    intro i a e
    cases i with
    | zero => simp at e; exact ⟨t, by simp [e]⟩
    | succ i => simpa using ih (by simpa using e)
section
variable {prog : Program} {w : World} {A : Around} {E : Value → Shared → Prop} {s : Shared} {l : Addr} {vs : List Value} {ns : List Int} {n : Nat} {x : Int} {t : Tok} {name : Str}
theorem meth_list {id : String} {pl : Sem Bool} {Q : Value × List Value → Shared → Prop} {its : Array Value} (hl : s.heap.get? l = some (W.listOf its n)) (slot : Slot "list" name id) (hty : typeOf (.builtin id) = pure (.type "method_descriptor"))
    (h : Q (.builtin id, [.ref l]) s) : wpAny (model prog w) A (getMethod (.ref l) name pl) Q E s :=
  getMethod_builtin ⟨_, hl, rfl⟩ PySem.F.plainAttrs_list slot hty (fun a e => by cases e; exact ⟨_, hl, rfl⟩) h
theorem index_ints {Q : Value → Shared → Prop} (hl : s.heap.get? l = some (W.listOf vs.toArray n)) (hi : IntsAre vs ns) (hx : x ∈ ns) (hsz : ns.length ≤ 1000) (h : Q (.int (ns.idxOf x : Nat) s.toks) { s with toks := s.toks + 1 }) :
    wpAny (model prog w) A (call (.builtin "list.index") [.ref l, .int x t]) Q E s := by
  have hlt : ns.idxOf x < ns.length := List.idxOf_lt_length_iff.mpr hx
  have hvl := hi.length
  have at_ : ∀ m (hm : m < vs.toArray.size), ∃ u, vs.toArray[m] = .int (ns.getD m 0) u := fun m hm => by
    have hm' : m < ns.length := by rw [List.size_toArray] at hm; omega
    obtain ⟨u, hu⟩ := ints_at hi (List.getElem?_eq_getElem hm')
    refine ⟨u, ?_⟩
    have e1 : vs.toArray[m]? = some (.int ns[m] u) := by simpa using hu
    rw [Array.getElem?_eq_getElem hm] at e1
    rw [Option.some.inj e1, List.getD_eq_getElem?_getD, List.getElem?_eq_getElem hm']
    rfl
  refine call_meets PySem.F.slot_list_index ⟨_, hl, rfl⟩ PySem.F.entry_list_index (PySem.F.args_list_index_2 _ _) (PySem.MeetsSeq.list_index l vs.toArray n (.int x t) (eqInt x) ?_ (ns.idxOf x) (by rw [List.size_toArray]; omega) (by omega) ?_ ?_) ⟨hl, h⟩
  · intro y hy
    obtain ⟨m, hm, rfl⟩ := Array.getElem_of_mem hy
    obtain ⟨u, e⟩ := at_ m hm
    rw [e]
    exact PySem.MeetsSeq.EqGives.int _ _ _ _
  · obtain ⟨u, e⟩ := at_ (ns.idxOf x) (by rw [List.size_toArray]; omega)
    rw [e]
    show (ns.getD (ns.idxOf x) 0 == x) = true
    rw [List.getD_eq_getElem?_getD, List.getElem?_eq_getElem hlt]
    simp
  · intro m hm hlt2
    obtain ⟨u, e⟩ := at_ m hm
    rw [e]
    show (ns.getD m 0 == x) = false
    have hm' : m < ns.length := by omega
    rw [List.getD_eq_getElem?_getD, List.getElem?_eq_getElem hm']
    rw [Option.getD_some, beq_eq_false_iff_ne]
    intro q
    have := List.not_of_lt_findIdx (p := (· == x)) (xs := ns) (i := m) (by simpa [List.idxOf] using hlt2)
    simp [q] at this
end
end
section
open PySem PySem.W PyProof.Rows PySem.Calls
set_option Elab.async false
set_option maxRecDepth 100000
set_option maxHeartbeats 100000000
def hitO (c : Int) (tails : List (List Int)) (a : List Int) : Bool := (tails.any fun t => t.take (a.map (smallO c)).length == a.map (smallO c)) && (c == 2 || a != [42])
theorem small_octs {c : Int} {ns : List Int} (h : Octs ns) : Octs (ns.map (smallO c)) := fun x hx => by
  obtain ⟨o, ho, rfl⟩ := List.mem_map.mp hx
  have hb := h o ho
  unfold smallO small1 small2
  split
  · rename_i q
    simp only [Bool.or_eq_true, Bool.and_eq_true, decide_eq_true_eq] at q
    omega
  · exact hb
section
variable {prog : Program} {w : World} {A : Around} {E : Value → Shared → Prop} {s : Shared}
theorem ne_nil {a b : Addr} {items : Array Value} {Q : Value → Shared → Prop} (hl : s.heap.IsList a items) (hb : s.heap.IsList b #[]) (hu : A.units < cLine) (h : Q (.bool (items.size != 0)) s) :
    wpAny (model prog w) A (compareOp .NotEq (.ref a) (.ref b)) Q E s := by
  by_cases h0 : items.size = 0
  · rw [show (items.size != 0) = false by rw [h0]; rfl] at h
    refine SeqAt.RcNeAt.lists (e := fun _ => true) hl hb h0 hu (fun j h1 _ => absurd h1 (by omega)) prog w E Q ?_
    rw [h0]
    exact h
  · have q : (items.size != (#[] : Array Value).size) = true := bne_iff_ne.mpr h0
    rw [show (items.size != 0) = true from q] at h
    exact SeqAt.RcNeAt.lists_lengths hl hb q hu prog w E Q h
end
section
variable {w : World} {p : Program} {loose : List Str} {mean : ExcName → Option Value} {mg mb : Str → Option Value} {A : Around} {s : Shared} {E : Value → Shared → Prop} {hp : Heap}
theorem hits_tail {P : Value → Shared → Prop} {l nl : Addr} {vs us : List Value} {ags : List (List Int)} {ns : List Int} {c : Int} {t : Tok} {u : Str → Option Value} {o₁ : Obj} {led : List (Addr × Obj)} (T : Top p loose mean mg mb hp) (hA : Lo A 9)
    (F : Fr hp hp.objs.size s.heap (fun y => if y = Str.ofString "name" then some (.ref nl) else if y = Str.ofString "agents" then some (.ref l) else if y = Str.ofString "coat" then some (.int c t) else u y))
    (N : News hp hp.objs.size s.heap ((hp.objs.size + 1, o₁) :: led)) (ho₁ : ∃ v, o₁.data = .cell v) (hl : hp.IsList l vs.toArray) (hR : RowsX [] hp vs ags) (hAg : AgentsOk ags) (hn : s.heap.IsList nl us.toArray) (hj : IntsAre us ns) (hlen : LenLe ns 8) (hoc : Octs ns) (hc : 0 ≤ c ∧ c ≤ 2) :
    (KK w.params).In hp → (∀ (r : Addr) (vs' : List Value) (n : Nat) (h' : Heap) (tk : Nat), Ext hp h' → hp.get? r = none → h'.get? r = some (W.listOf vs'.toArray n) → LSm.BoolsAre vs' (ags.map (hitO c (tailsO (c == 1) (ns.map (smallO c))))) → P (.ref r) { s with heap := h', toks := tk }) →
    wpAny (model PySem.Challenge.rw_tx0025_01.row.prog w) (A.deeper (envOfC (Str.ofString "_law_hits") (scopeAt 35) hp.objs.size 205 (.ref 204))) (execs ((bodyAt 35).drop 1) (envOfC (Str.ofString "_law_hits") (scopeAt 35) hp.objs.size 205 (.ref 204))) (RetP P) noExc s := by
  k_fill
  intro X ret
  obtain ⟨h0, gs, dr, tk, os⟩ := s
  have hh : A.handled = none := hA.hd
  have hret : Ret _ := Ret.mk ret
  clear ret
  dsimp only at F N hn ⊢
  conv =>
    arg 3
    arg 1
    whnf
  conv in (scopeAt 35) => whnf
  conv in (scopeAt 35) => whnf
  have hl16 : ns.length ≤ 16 := Nat.le_trans hlen (by decide)
  have hlen' : Ret _ := Ret.mk hlen
  have hR' : Ret _ := Ret.mk hR
  have hAg' : Ret _ := Ret.mk hAg
  have hoc' : Ret _ := Ret.mk hoc
  k_steps
  with_reducible rename Fr _ _ _ _ => FF
  with_reducible rename News _ _ _ _ => NN
  refine use_small (T.keeps FF.keep) (Lo.le (Lo.deeper hA) (by decide)) hn hj hl16 (X.keeps FF.keep) ?_
  intro r1 vs1 n1 h1 tk1 e1 hr1 hg1 hI1
  have F1 := fr_ext FF e1
  have N1 := news_add FF (news_ext NN e1) hr1 hg1
  have hI1' : Ret _ := Ret.mk hI1
  have hl1 : h1.IsList r1 vs1.toArray := ⟨_, hg1, rfl, _, rfl⟩
  clear FF NN e1 hr1 hg1 hoc hlen hR hAg hl16 hI1
  dsimp only at F1 N1 ⊢
  k_steps
  with_reducible rename Fr _ _ _ _ => FF
  with_reducible rename News _ _ _ _ => NN
  have hsl : LenLe (ns.map (smallO c)) 8 := by show (ns.map (smallO c)).length ≤ 8; rw [List.length_map]; exact hlen'
  refine use_tails (b := c == 1) (T.keeps FF.keep) (Lo.le (Lo.deeper hA) (by decide)) hl1 hI1' hsl (small_octs hoc') (X.keeps FF.keep) ?_
  intro r2 vs2 n2 h2 tk2 e2 hr2 hg2 hR2
  have F2 := fr_ext FF e2
  have N2 := news_add FF (news_ext NN e2) hr2 hg2
  have hR2' : Ret _ := Ret.mk hR2
  clear FF NN e2 hr2 hl1 hR2 hsl
  obtain ⟨nss, hnss⟩ : ∃ nss, tailsO (c == 1) (ns.map (smallO c)) = nss := ⟨_, rfl⟩
  have hTl : nss.length ≤ 25 := by
    have a := tailsO_len (b := c == 1) (ns := ns.map (smallO c))
    rw [hnss, List.length_map] at a
    have b : ns.length ≤ 8 := hlen'
    omega
  have hTr : ∀ row ∈ nss, row.length ≤ 9 := fun row hr => by
    have a := tailsO_row (b := c == 1) (ns := ns.map (smallO c)) row (by rw [hnss]; exact hr)
    rw [List.length_map] at a
    have b : ns.length ≤ 8 := hlen'
    omega
  have hTl' : Ret _ := Ret.mk hTl
  have hTr' : Ret _ := Ret.mk hTr
  clear hTl hTr
  rw [hnss] at hret hR2'
  obtain ⟨cv, hcv⟩ := ho₁
  have hC0 := N2 (hp.objs.size + 1, o₁) (.tail _ (.tail _ (.head _)))
  have hR3 := (RowsX.offL F2 (RowsX.offCell (hR2' : RowsX _ _ _ _) hC0.1 hcv))
  obtain ⟨N3, hoff3, how3⟩ := split_all (c := [(hp.objs.size + 1, o₁)]) (mu := [hp.objs.size + 1]) (L := hp.objs.size) (h₀ := hp) (h := h2) (fun p hq => by rw [List.mem_singleton.mp hq]; exact hC0) rfl
  simp only [List.cons_append, List.nil_append] at N3
  have hr2C : r2 ≠ hp.objs.size + 1 := fun q => by
    have e1 := (N2 _ (.head _)).1
    rw [q] at e1
    rw [hC0.1] at e1
    cases e1
    cases hcv
  have hr2m : (r2, W.listOf vs2.toArray n2) ∈ allOf hp h2 [hp.objs.size, hp.objs.size + 1] := mem_allOf (nm2 (N2 _ (.head _)).2.1 hr2C) (N2 _ (.head _)).2.2 hg2
  have hr2C' : Ret _ := Ret.mk hr2C
  have hg2' : Ret _ := Ret.mk hg2
  clear hr2C
  generalize allOf hp h2 [hp.objs.size, hp.objs.size + 1] = own at N3 hoff3 how3 hr2m
  have how3' : Ret _ := Ret.mk how3
  have hr2m' : Ret _ := Ret.mk hr2m
  have hR3' : Ret _ := Ret.mk hR3
  have hF2 : Ret _ := Ret.mk F2
  have hcv' : Ret _ := Ret.mk hcv
  clear N2 how3 hr2m hR3 hC0 hcv hR2' hI1' hg2
  dsimp only at F2 N3 ⊢
  iterate 9 (first | walk1 | (dsimp only; walk1))
  with_reducible rename Fr _ _ _ _ => FF
  with_reducible rename News _ _ _ _ => NN
  rename_i hZ0 rH hZ1 lH hZ2
  have hF' : Ret _ := Ret.mk FF
  refine' For_growF FF ?hx ?hp ?hs ?hE ?_
  case hx => with_unfolding_all rfl
  case hp => with_unfolding_all rfl
  case hs => (intro _; with_unfolding_all rfl)
  case hE => exact noExc_passes
  iterate 1 (first | walk1 | (dsimp only; walk1))
  have kN : KeepBut [hp.objs.size, hp.objs.size + 1] h2 hZ2 := keepBut_all FF NN (hF2 : Fr _ _ _ _).keep (fun p hq => .tail _ (.tail _ ((how3' : OwnAll _ _ _ _) ▸ hq)))
  have hrHn : h2.get? rH = none := new_off (mu := [hp.objs.size + 1]) (how3' : OwnAll _ _ _ _) NN (.head _) (fun b hb => List.mem_singleton.mp hb ▸ lH.1) lH.2
  have hRz := ((hR3' : RowsX _ _ _ _).off hrHn).keep (h' := hZ2) fun b o hb e => kN b o (fun q => hb (.tail _ q)) e
  have hRz2 := hRz.off (Heap.get?_none_of_le (h := hZ2) (Nat.le_refl _))
  have hr2c : hZ2.get? r2 = some (W.listOf vs2.toArray n2) := (NN _ (.tail _ (.tail _ hr2m'))).1
  have hrHC : hp.objs.size + 1 < rH := lH.1
  have ntu : News hp hp.objs.size hZ2 [(rH, W.listOf #[] 0), (hp.objs.size + 1, o₁)] := fun p hq => NN p (by
    rcases List.mem_cons.mp hq with rfl | hq
    · exact .head _
    · rw [List.mem_singleton.mp hq]; exact .tail _ (.head _))
  have hlc : hZ2.IsList l vs.toArray := Fr.lst FF hl
  have hr2b : hp.get? r2 = none := (NN _ (.tail _ (.tail _ hr2m'))).2.2
  have hr2n : r2 ∉ hp.objs.size :: [rH, hp.objs.size + 1] ++ [hZ2.objs.size] := by
    have a1 : r2 ≠ hp.objs.size := (NN _ (.tail _ (.tail _ hr2m'))).2.1
    have a2 : r2 ≠ rH := fun q => by
      have z : h2.get? r2 = some _ := hg2'
      rw [q, hrHn] at z
      cases z
    have a3 : r2 ≠ hp.objs.size + 1 := hr2C'
    have a4 : r2 ≠ hZ2.objs.size := Nat.ne_of_lt (Heap.lt_size hr2c)
    intro q
    simp only [List.cons_append, List.nil_append, List.mem_cons, List.not_mem_nil, or_false] at q
    rcases q with q | q | q | q
    · exact a1 q
    · exact a2 q
    · exact a3 q
    · exact a4 q
  have hr2n' : Ret _ := Ret.mk hr2n
  have hlm : l ∉ [rH, hp.objs.size + 1] := fun q => by
    obtain ⟨ol, el, _⟩ := hl
    rcases List.mem_cons.mp q with q | q
    · have := (ntu _ (.head _)).2.2
      rw [← q, el] at this; cases this
    · have := (ntu _ (.tail _ (.head _))).2.2
      rw [← List.mem_singleton.mp q, el] at this; cases this
  clear hr2n
  refine loop_list (mu := [rH, hp.objs.size + 1]) [Str.ofString "stands"] (fun i cc h => ∃ vsH nH oC v, cc = [(rH, W.listOf vsH.toArray nH), (hp.objs.size + 1, oC)] ∧ oC.data = .cell v ∧ LSm.BoolsAre vsH ((ags.take i).map (hitO c nss)) ∧ h.get? r2 = some (W.listOf vs2.toArray n2) ∧ RowsX [hZ2.objs.size, rH, hp.objs.size, hp.objs.size + 1] h vs2 nss) hh hlc hlm FF ntu rfl ⟨[], 0, o₁, cv, rfl, hcv', .nil, hr2c, hRz2⟩ ?_ ?_ ?_
  · rintro i cc h h' ⟨vsH, nH, oC, v, rfl, h1, h2, h3, h4⟩ k
    exact ⟨vsH, nH, oC, v, rfl, h1, h2, k _ _ (hr2n' : ¬ _) h3, h4.keep fun b o hb e => k b o (fun q => hb (by
      simp only [List.cons_append, List.nil_append, List.mem_cons, List.not_mem_nil, or_false] at q ⊢
      rcases q with q | q | q | q
      · exact .inr (.inr (.inl q))
      · exact .inr (.inl q)
      · exact .inr (.inr (.inr q))
      · exact .inl q)) e⟩
  · rintro i v u' cc h tk' own' hv ⟨vsH, nH, oC, cvv, rfl, g1, g2, g3, g4⟩ hcc hof hal F5 N5 how5
    have hiv : i < vs.length := by
      have : vs[i]? = some v := by simpa using hv
      exact (List.getElem?_eq_some_iff.mp this).1
    obtain ⟨ag, hag⟩ : ∃ ag, ags[i]? = some ag := ⟨_, List.getElem?_eq_getElem (by rw [← RowsX.length (hR' : RowsX [] hp vs ags)]; exact hiv)⟩
    have hagm : ag ∈ ags := List.mem_of_getElem? hag
    have hAg1 : ags.length = 6 := (show AgentsOk ags from hAg').1
    have hag5 : ag.length ≤ 5 := ((show AgentsOk ags from hAg').2 ag hagm).1
    obtain ⟨va, hva, hrow⟩ := (hR' : RowsX [] hp vs ags).get hag
    obtain rfl : va = v := by have : vs[i]? = some v := by simpa using hv
                              rw [hva] at this; exact Option.some.inj this
    obtain ⟨la, vsa, na, rfl, -, hla, hia⟩ := hrow
    have hag' : Held _ _ := hag
    have g2' : Ret _ := Ret.mk g2
    have g3' : Ret _ := Ret.mk g3
    have g4' : Ret _ := Ret.mk g4
    have hF5 : Ret _ := Ret.mk F5
    have hvl : vsH.length ≤ 8 := by
      have := g2.length
      rw [List.length_map, List.length_take] at this
      omega
    obtain ⟨vsl⟩ := vsa
    have hlaB : hp.IsList la vsl.toArray := ⟨_, hla, rfl, _, rfl⟩
    have hia : IntsAre vsl ag := hia
    have hal16 : ag.length ≤ 16 := by omega
    clear hag hva hv g2 g3 g4 FF NN kN hRz hRz2 hr2c ntu hlc hal hla hrHn hiv hagm hAg1 hag5 hlm
    simp only [List.cons_append, List.nil_append] at N5
    k_steps
    with_reducible rename Fr _ _ _ _ => FF
    with_reducible rename News _ _ _ _ => NN
    refine use_small (T.keeps FF.keep) (Lo.le (Lo.deeper hA) (by decide)) (Fr.lst FF hlaB) hia hal16 (X.keeps FF.keep) ?_
    intro r5 vs5 n5 h5 tk5 e5 hr5 hg5 hI5
    have F6 := fr_ext FF e5
    have N6 := news_add FF (news_ext NN e5) hr5 hg5
    have lt5 : ∀ p ∈ (rH, W.listOf vsH.toArray nH) :: (hp.objs.size + 1, oC) :: own', p.1 ≠ r5 := fun p hq q => by
      have := (NN p hq).1
      rw [q, hr5] at this; cases this
    have hne1 : @Ne Nat r5 rH := (lt5 _ (.head _)).symm
    have hne2 : @Ne Nat r5 (hp.objs.size + 1) := (lt5 _ (.tail _ (.head _))).symm
    clear FF NN e5 hr5 hg5
    dsimp only at F6 N6 ⊢
    iterate 7 (first | walk1 | (dsimp only; walk1))
    with_reducible rename Fr _ _ _ _ => FF
    with_reducible rename News _ _ _ _ => NN
    rename _ = Data.cell (some (Value.ref r5)) => dC
    have XB := X.keeps FF.keep
    have TB := T.keeps FF.keep
    have hl5c : Heap.IsList _ r5 vs5.toArray := NN.isList (.head _)
    have cS : Heap.IsCell _ _ (some (.ref r5)) := ⟨_, NN.get (.tail _ (.tail _ (.head _))), dC⟩
    have hr2X : r2 ∉ [hp.objs.size, rH, hp.objs.size + 1] := fun q => (hr2n' : ¬ _) (List.mem_append_left _ q)
    have kB : KeepBut [hp.objs.size, rH, hp.objs.size + 1] h _ := keepBut_all FF NN (hF5 : Fr _ _ _ _).keep (fun p hq => .tail _ (.tail _ (.tail _ ((how5 : OwnAll _ _ _ _) ▸ hq))))
    have hl2c : Heap.IsList _ r2 vs2.toArray := ⟨_, kB _ _ hr2X g3', rfl, _, rfl⟩
    have hRc := (g4' : RowsX _ _ _ _).keep (fun b o hb e => kB b o (fun q => hb (by
      simp only [List.mem_cons, List.not_mem_nil, or_false] at q ⊢
      rcases q with q | q | q
      · exact .inr (.inr (.inl q))
      · exact .inr (.inl q)
      · exact .inr (.inr (.inr q)))) e)
    have hv2e : vs2.length = nss.length := hRc.length
    have hv2 : vs2.toArray.size ≤ 1000 := by
      rw [List.size_toArray, hv2e]
      exact Nat.le_trans (hTl' : _ ≤ _) (by decide)
    refine comp_list (fun ex k ys h => (ys.length != 0) = ((nss.take k).any fun t => t.take (ag.map (smallO c)).length == ag.map (smallO c))) hh hl2c hv2 (fun _ h => nomatch h) (fun _ _ => rfl) (fun _ _ _ _ _ h _ => h) ?_ ?_
    · intro C ex k v ys hC tkC ownC mC hvC hJ FC NC hoC halC
      refine wpAny_tests_one ?_
      have hkv : k < vs2.length := by
        have : vs2[k]? = some v := by simpa using hvC
        exact (List.getElem?_eq_some_iff.mp this).1
      obtain ⟨row, hrow⟩ : ∃ row, nss[k]? = some row := ⟨_, List.getElem?_eq_getElem (by rw [← hv2e]; exact hkv)⟩
      have hrl9 : row.length ≤ 9 := (hTr' : ∀ row ∈ nss, row.length ≤ 9) row (List.mem_of_getElem? hrow)
      clear hkv
      obtain ⟨v', hv', hRow⟩ := hRc.get hrow
      obtain rfl : v' = v := by have : vs2[k]? = some v := by simpa using hvC
                                rw [hv'] at this; exact Option.some.inj this
      obtain ⟨ra, rvs, rn, rfl, -, hra, hrI⟩ := hRow
      clear FF NN
      dsimp only at FC NC hoC ⊢
      have hl5C : Heap.IsList _ r5 vs5.toArray := Fr.lst FC hl5c
      obtain ⟨rvl⟩ := rvs
      have hlrC : Heap.IsList _ ra rvl.toArray := ⟨_, FC.keep _ _ hra, rfl, _, rfl⟩
      have hrI : IntsAre rvl row := hrI
      iterate 12 (first | walk1 | (dsimp only; walk1))
      have hI5l : vs5.toArray.size = (ag.map (smallO c)).length := by rw [List.size_toArray]; exact hI5.length
      have hal16' : (ag.map (smallO c)).length ≤ 16 := by rw [List.length_map]; exact hal16
      refine PySem.Calls.call_len_list hl5C (by rw [hI5l]; omega) ?_
      rw [hI5l]
      iterate 1 (first | walk1 | (dsimp only; walk1))
      refine slice_upto (x := ((ag.map (smallO c)).length : Nat)) FC NC hlrC hrI (by omega) (by rw [hrI.length]; omega) ?_ (by with_unfolding_all rfl) (by intro _; with_unfolding_all rfl)
      intro vs7 h7 F7 N7 lt7 hI7
      have hl7 : Heap.IsList h7 _ vs7.toArray := N7.isList (.head _)
      have hl57 : Heap.IsList h7 r5 vs5.toArray := Fr.lst F7 hl5c
      clear hlrC hl5C
      iterate 1 (first | walk1 | (dsimp only; walk1))
      refine ke_eq_ints hl7 hl57 hI7 hI5 (by have := hA.un; show A.units + 3 + 64 < cLine; unfold cLine; omega) ?_
      have hJ' : Ret _ := Ret.mk hJ
      have hrow' : Held _ _ := hrow
      generalize hb : decide (row.take (((ag.map (smallO c)).length : Nat) : Int).toNat = ag.map (smallO c)) = b
      have hb' : Held _ _ := hb
      clear hJ hrow hb hl57 hl7
      have hbt : (row.take (ag.map (smallO c)).length == ag.map (smallO c)) = b := by
        have q : decide (row.take (((ag.map (smallO c)).length : Nat) : Int).toNat = ag.map (smallO c)) = b := hb'
        rw [Int.toNat_natCast] at q
        cases b
        · exact beq_eq_false_iff_ne.mpr (of_decide_eq_false q)
        · exact beq_iff_eq.mpr (of_decide_eq_true q)
      have jn : ((nss.take (k + 1)).any fun t => t.take (ag.map (smallO c)).length == ag.map (smallO c)) = ((ys.length != 0) || b) := by
        rw [Mine.take_snoc (show nss[k]? = some row from hrow'), List.any_append, ← (show (ys.length != 0) = _ from hJ')]
        simp only [List.any_cons, List.any_nil, Bool.or_false]
        rw [hbt]
      have jn' : Held _ _ := jn
      clear hbt jn
      cases b
      · iterate 2 (first | walk1 | (dsimp only; walk1))
        refine CEnd.mk F7 N7 (fun p hp => .tail _ hp) ?_
        show (ys.length != 0) = _
        rw [show _ = _ from jn', Bool.or_false]
      · iterate 2 (first | walk1 | (dsimp only; walk1))
        iterate 1 (first | walk1 | (dsimp only; walk1))
        refine CEnd.mk F7 N7 (fun p hp => .tail _ hp) ?_
        show ((ys ++ [_]).length != 0) = _
        rw [show _ = _ from jn', Bool.or_true, List.length_append]
        rfl
    · intro D ex h8 tk8 ys hD hDex hPL hJ8 hK8
      obtain ⟨nD, hPL⟩ := hPL
      have eD : Ext _ h8 := fun b o e => hK8 b o (List.not_mem_nil) e
      have F8 := fr_ext FF eD
      have N8 := news_add FF (news_ext NN eD) hD hPL
      have hlD : h8.IsList D ys.toArray := ⟨_, hPL, rfl, _, rfl⟩
      have hJ8' : Ret _ := Ret.mk hJ8
      have hDr : D ≠ rH := alive_ne (NN _ (.tail _ (.head _))).1 hD
      have hDc : D ≠ hp.objs.size + 1 := alive_ne (NN _ (.tail _ (.tail _ (.head _)))).1 hD
      have dC' : Ret _ := Ret.mk dC
      clear FF NN hPL hK8 eD XB TB cS hl5c hRc hl2c kB hv2 hJ8 dC
      dsimp only at F8 N8 ⊢
      iterate 3 (first | walk1 | (dsimp only; walk1))
      with_reducible rename Fr _ _ _ _ => FF
      with_reducible rename News _ _ _ _ => NN
      refine ne_nil (items := ys.toArray) ⟨_, (NN (D, W.listOf ys.toArray nD) (.tail _ (.head _))).1, rfl, _, rfl⟩ ⟨_, (NN _ (.head _)).1, rfl, _, rfl⟩ (by have := hA.un; show A.units + 3 < cLine; unfold cLine; omega) ?_
      have hJ9 : (ys.toArray.size != 0) = (nss.any fun t => t.take (ag.map (smallO c)).length == ag.map (smallO c)) := by
        have q : (ys.length != 0) = _ := hJ8'
        rw [List.size_toArray, q, List.size_toArray, hv2e, List.take_length]
      rw [hJ9]
      generalize hb1 : (nss.any fun t => t.take (ag.map (smallO c)).length == ag.map (smallO c)) = b1
      have hb1' : Held _ _ := hb1
      clear hJ9 hb1 hlD
      cases b1
      · iterate 13 (first | walk1 | (dsimp only; walk1))
        iterate 4 (first | walk1 | (dsimp only; walk1))
        have hbv : hitO c nss ag = false := by unfold hitO; rw [show _ = _ from hb1']; rfl
        with_reducible rename News _ _ _ _ => NN
        with_reducible rename Fr _ _ _ _ => FF
        simp only [List.push_toArray] at NN
        refine TurnG.nx (hF5 : Fr _ _ _ _) how5 FF NN (fun p hq => by simp [hq]) (cont := [(rH, W.listOf (vsH ++ [Value.bool false]).toArray (nH + 1)), (hp.objs.size + 1, _)]) rfl ?_ (by intro z hz hs; obtain ⟨z1, -⟩ := ne_of_stored hs; simp [hz, z1]) fun kp => ⟨vsH ++ [Value.bool false], nH + 1, _, _, rfl, (dC' : _ = _), ?_, kp _ _ hr2X (g3' : _ = _), RowsX.keep (g4' : RowsX _ _ _ _) (fun b o hb e => kp b o (fun q => hb (by
          simp only [List.mem_cons, List.not_mem_nil, or_false] at q ⊢
          rcases q with q | q | q
          · exact .inr (.inr (.inl q))
          · exact .inr (.inl q)
          · exact .inr (.inr (.inr q)))) e)⟩
        · intro p hq
          rcases List.mem_cons.mp hq with rfl | hq
          · k_mem
          · rw [List.mem_singleton.mp hq]; k_mem
        · rw [Mine.take_snoc (show ags[i]? = some ag from hag'), List.map_append]
          refine kbo_app (g2' : LSm.BoolsAre _ _) ?_
          rw [List.map_cons, hbv]
          exact .cons _ .nil
      · iterate 19 (first | walk1 | (dsimp only; walk1))
        generalize hc2 : (c == 2) = b2
        have hc2' : Held _ _ := hc2
        clear hc2
        cases b2
        · iterate 10 (first | walk1 | (dsimp only; walk1))
          with_reducible rename News _ _ _ _ => NN
          with_reducible rename Fr _ _ _ _ => FF
          refine ke_ne_ints (ms := [42]) (Fr.lst FF hlaB) ⟨_, (NN _ (.head _)).1, rfl, _, rfl⟩ hia (.cons _ _ .nil) (by have := hA.un; show A.units + 3 + 64 < cLine; unfold cLine; omega) ?_
          generalize hb3 : (!decide (ag = [42])) = b3
          have hb3' : Held _ _ := hb3
          clear hb3
          iterate 4 (first | walk1 | (dsimp only; walk1))
          have hbv : hitO c nss ag = b3 := by
            unfold hitO
            rw [show _ = _ from hb1', show (c == 2) = _ from hc2', ← (show _ = b3 from hb3')]
            simp only [Bool.true_and, Bool.false_or]
            cases q : decide (ag = [42])
            · exact bne_iff_ne.mpr (of_decide_eq_false q)
            · rw [of_decide_eq_true q]; rfl
          with_reducible rename News _ _ _ _ => NN
          with_reducible rename Fr _ _ _ _ => FF
          simp only [List.push_toArray] at NN
          refine TurnG.nx (hF5 : Fr _ _ _ _) how5 FF NN (fun p hq => by simp [hq]) (cont := [(rH, W.listOf (vsH ++ [Value.bool b3]).toArray (nH + 1)), (hp.objs.size + 1, _)]) rfl ?_ (by intro z hz hs; obtain ⟨z1, -⟩ := ne_of_stored hs; simp [hz, z1]) fun kp => ⟨vsH ++ [Value.bool b3], nH + 1, _, _, rfl, (dC' : _ = _), ?_, kp _ _ hr2X (g3' : _ = _), RowsX.keep (g4' : RowsX _ _ _ _) (fun b o hb e => kp b o (fun q => hb (by
            simp only [List.mem_cons, List.not_mem_nil, or_false] at q ⊢
            rcases q with q | q | q
            · exact .inr (.inr (.inl q))
            · exact .inr (.inl q)
            · exact .inr (.inr (.inr q)))) e)⟩
          · intro p hq
            rcases List.mem_cons.mp hq with rfl | hq
            · k_mem
            · rw [List.mem_singleton.mp hq]; k_mem
          · rw [Mine.take_snoc (show ags[i]? = some ag from hag'), List.map_append]
            refine kbo_app (g2' : LSm.BoolsAre _ _) ?_
            rw [List.map_cons, hbv]
            exact .cons _ .nil
        · iterate 6 (first | walk1 | (dsimp only; walk1))
          have hbv : hitO c nss ag = true := by unfold hitO; rw [show _ = _ from hb1', show (c == 2) = _ from hc2']; rfl
          with_reducible rename News _ _ _ _ => NN
          with_reducible rename Fr _ _ _ _ => FF
          simp only [List.push_toArray] at NN
          refine TurnG.nx (hF5 : Fr _ _ _ _) how5 FF NN (fun p hq => by simp [hq]) (cont := [(rH, W.listOf (vsH ++ [Value.bool true]).toArray (nH + 1)), (hp.objs.size + 1, _)]) rfl ?_ (by intro z hz hs; obtain ⟨z1, -⟩ := ne_of_stored hs; simp [hz, z1]) fun kp => ⟨vsH ++ [Value.bool true], nH + 1, _, _, rfl, (dC' : _ = _), ?_, kp _ _ hr2X (g3' : _ = _), RowsX.keep (g4' : RowsX _ _ _ _) (fun b o hb e => kp b o (fun q => hb (by
            simp only [List.mem_cons, List.not_mem_nil, or_false] at q ⊢
            rcases q with q | q | q
            · exact .inr (.inr (.inl q))
            · exact .inr (.inl q)
            · exact .inr (.inr (.inr q)))) e)⟩
          · intro p hq
            rcases List.mem_cons.mp hq with rfl | hq
            · k_mem
            · rw [List.mem_singleton.mp hq]; k_mem
          · rw [Mine.take_snoc (show ags[i]? = some ag from hag'), List.map_append]
            refine kbo_app (g2' : LSm.BoolsAre _ _) ?_
            rw [List.map_cons, hbv]
            exact .cons _ .nil
  · rintro h9 tk9 u9 cc own9 F9 N9 hcc9 how9 ⟨vsH, nH, oC, cvv, rfl, g1, g2, g3, g4⟩
    have g2' : Ret _ := Ret.mk g2
    clear hlm hlc ntu hrHn hRz hRz2 kN g2 g3 g4 FF NN how9 hcc9
    simp only [List.cons_append, List.nil_append] at N9
    k_steps
    with_reducible rename News _ _ _ _ => NN
    with_reducible rename Fr _ _ _ _ => FF
    refine RetP.mk ((hret : ∀ (r : Addr), _) _ _ _ _ _ FF.keep (NN _ (.head _)).2.2 (NN _ (.head _)).1 ?_)
    have q : LSm.BoolsAre vsH _ := g2'
    rw [List.size_toArray, RowsX.length (hR' : RowsX [] hp vs ags), List.take_length] at q
    exact q
end
end
section
open PySem PySem.W PyProof.Rows PySem.Calls
set_option Elab.async false
set_option maxRecDepth 100000
set_option maxHeartbeats 100000000
/-- the name ahead of its first slash, as the first two coats read it -/
def headO (c : Int) (ns : List Int) : List Int := if c < 2 ∧ (47 : Int) ∈ ns then ns.take (ns.idxOf 47) else ns
theorem fr_under {h₀ h : Heap} {L : Addr} {m : Str → Option Value} {a b : Str} {va : Option Value} {vb : Value} (F : Fr h₀ L h (fun y => if y = a then va else m y)) (hb : m b = some vb) : Fr h₀ L h (fun y => if y = a then va else if y = b then some vb else m y) := by
  have : (fun y => if y = a then va else m y) = fun y => if y = a then va else if y = b then some vb else m y := by
    funext y
    by_cases h : y = b
    · rw [if_pos h, h, hb]
    · rw [if_neg h]
  exact this ▸ F
section
variable {w : World} {p : Program} {loose : List Str} {mean : ExcName → Option Value} {mg mb : Str → Option Value} {A : Around} {s : Shared} {E : Value → Shared → Prop}
theorem use_hits {P : Value → Shared → Prop} {l nl : Addr} {vs us : List Value} {ags : List (List Int)} {ns : List Int} {c : Int} {t : Tok} {nn : Nat} (T : Top p loose mean mg mb s.heap) (hA : Lo A 10)
    (hl : s.heap.IsList l vs.toArray) (hR : RowsX [] s.heap vs ags) (hAg : AgentsOk ags) (hn : s.heap.get? nl = some (W.listOf us.toArray nn)) (hj : IntsAre us ns) (hlen : LenLe ns 8) (hoc : Octs ns) (hc : 0 ≤ c ∧ c ≤ 2) :
    (KK w.params).In s.heap → (∀ (r : Addr) (vs' : List Value) (n : Nat) (h' : Heap) (tk : Nat), Ext s.heap h' → s.heap.get? r = none → h'.get? r = some (W.listOf vs'.toArray n) →
      LSm.BoolsAre vs' (ags.map (hitO c (tailsO (c == 1) ((headO c ns).map (smallO c))))) → P (.ref r) { s with heap := h', toks := tk }) → wpAny (model PySem.Challenge.rw_tx0025_01.row.prog w) A (call (.ref 205) [.ref l, .ref nl, .int c t]) P E s := by
  k_fill
  intro X ret
  obtain ⟨hp, gs, dr, tk, os⟩ := s
  dsimp only at T X ret hl hn hR
  have hro := hA.room
  have hh : A.handled = none := hA.hd
  k_dflt (refine' enterC (binds := [("agents", .ref l), ("name", .ref nl), ("coat", .int c t)]) ?k3 ?k5 ?k6 ?k7 ?k8 ?k9 ?kB ?knd ?_ ?c2 ?c3 ?c4; (case k3 => k_asm); (case k5 => k_asm); (case k6 => k_is); (case k7 => k_is); (case k8 => exact hro); (case k9 => exact BindsTo.of_eq rfl); (case kB => exact kinds_by rfl); (case knd => decide); (case c2 => exact rfl); (case c3 => exact rfl); (case c4 => exact rfl); intro h₁ tk₁ cells F₁ N₁ Y; dsimp only at F₁ N₁ Y ⊢)
  have hret : Ret _ := Ret.mk ret
  clear ret
  obtain ⟨o₁, rfl, c1⟩ := CellsAre.one Y
  clear Y
  have hlen' : Ret _ := Ret.mk hlen
  have hoc' : Ret _ := Ret.mk hoc
  have hAg' : Ret _ := Ret.mk hAg
  have hc' : Ret _ := Ret.mk hc
  have hR' : Ret _ := Ret.mk hR
  have hl16 : ns.length ≤ 1000 := Nat.le_trans hlen (by decide)
  clear hlen hoc hAg hc hR
  iterate 8 (first | walk1 | (dsimp only; walk1))
  generalize hb : decide (c < 2) = b
  have hb' : Held _ _ := hb
  clear hb
  cases b
  · iterate 4 (first | walk1 | (dsimp only; walk1))
    have hh : headO c ns = ns := by
      unfold headO
      rw [if_neg (fun q => absurd q.1 (of_decide_eq_false hb'))]
    rw [hh] at hret
    refine hits_tail T (Lo.le hA (by decide)) (fr_name (fr_name (fr_name F₁ rfl) rfl) rfl) N₁ ⟨_, c1⟩ hl hR' hAg' (Fr.lst F₁ ⟨_, hn, rfl, _, rfl⟩) hj hlen' hoc' hc' X hret
  · iterate 5 (first | walk1 | (dsimp only; walk1))
    refine in_list_ints (Fr.lst F₁ ⟨_, hn, rfl, _, rfl⟩) hj ?_
    generalize hb2 : (ns.any fun x => x == 47) = b2
    have hb2' : Held _ _ := hb2
    clear hb2
    cases b2
    · iterate 5 (first | walk1 | (dsimp only; walk1))
      have h47 : (47 : Int) ∉ ns := fun q => by
        have e : (ns.any fun x => x == 47) = false := hb2'
        rw [List.any_eq_false] at e
        exact e _ q (by decide)
      have hh : headO c ns = ns := by
        unfold headO
        rw [if_neg (fun q => h47 q.2)]
      rw [hh] at hret
      refine hits_tail T (Lo.le hA (by decide)) (fr_name (fr_name (fr_name F₁ rfl) rfl) rfl) N₁ ⟨_, c1⟩ hl hR' hAg' (Fr.lst F₁ ⟨_, hn, rfl, _, rfl⟩) hj hlen' hoc' hc' X hret
    · have h47 : (47 : Int) ∈ ns := by
        have e : (ns.any fun x => x == 47) = true := hb2'
        rw [List.any_eq_true] at e
        obtain ⟨x, hx, q⟩ := e
        rw [beq_iff_eq] at q
        exact q ▸ hx
      have hh : headO c ns = ns.take (ns.idxOf 47) := by
        unfold headO
        rw [if_pos ⟨of_decide_eq_true hb', h47⟩]
      rw [hh] at hret
      clear hh
      have h47' : Ret _ := Ret.mk h47
      clear h47
      iterate 14 (first | walk1 | (dsimp only; walk1))
      refine meth_list (F₁.keep _ _ hn) PySem.F.slot_list_index PySem.F.type_list_index ?_
      iterate 4 (first | walk1 | (dsimp only; walk1))
      refine index_ints (F₁.keep _ _ hn) hj (h47' : (47 : Int) ∈ ns) hl16 ?_
      iterate 1 (first | walk1 | (dsimp only; walk1))
      refine slice_upto (x := (ns.idxOf (47 : Int) : Nat)) F₁ N₁ (Fr.lst F₁ ⟨_, hn, rfl, _, rfl⟩) hj (by omega) (by rw [hj.length]; exact hl16) ?_ (by with_unfolding_all rfl) (by intro _; with_unfolding_all rfl)
      intro vs7 h7 F7 N7 lt7 hI7
      iterate 3 (first | walk1 | (dsimp only; walk1))
      with_reducible rename News _ _ _ _ => NN
      with_reducible rename Fr _ _ _ _ => FF
      rw [Int.toNat_natCast] at hI7
      have FG := fr_under (b := Str.ofString "agents") (vb := .ref l) (fr_under (b := Str.ofString "coat") (vb := .int c t) FF rfl) rfl
      refine hits_tail T (Lo.le hA (by decide)) FG (NN.perm (news' := [(hp.objs.size + 1, o₁), _]) (fun p hq => by
        rcases List.mem_cons.mp hq with rfl | hq
        · exact .tail _ (.head _)
        · rw [List.mem_singleton.mp hq]; exact .head _)) ⟨_, c1⟩ hl hR' hAg' (NN.isList (.head _)) hI7 ?_ ?_ hc' X hret
      · show (ns.take _).length ≤ 8
        rw [List.length_take]
        exact Nat.le_trans (Nat.min_le_right _ _) hlen'
      · exact fun o ho => (hoc' : Octs ns) o (List.mem_of_mem_take ho)
end
end
section
open PySem PySem.W PyProof.Rows PySem.Calls PySem.Sre
set_option Elab.async false
set_option maxRecDepth 100000
set_option maxHeartbeats 4000000
open Builtin.Re
def iter : Nat → M → M
  | 0, m => m
  | n + 1, m => iter n m.step
theorem step_done {m : M} (h : m.outcome.isSome = true) : m.step = m := by unfold M.step; rw [if_pos h]
theorem iter_done {m : M} (h : m.outcome.isSome = true) : ∀ n, iter n m = m
  | 0 => rfl
  | n + 1 => by show iter n m.step = m; rw [step_done h]; exact iter_done h n
theorem runFor_iter : ∀ (n : Nat) (m : M), m.runFor n = iter n m
  | 0, _ => rfl
  | n + 1, m => by
    show (if m.outcome.isSome then m else M.runFor n m.step) = iter n m.step
    split
    · rename_i h
      rw [step_done h, iter_done h]
    · exact runFor_iter n _
theorem iter_add : ∀ (a b : Nat) (m : M), iter (a + b) m = iter b (iter a m)
  | 0, b, m => by rw [Nat.zero_add]; rfl
  | a + 1, b, m => by rw [Nat.succ_add]; exact iter_add a b m.step
theorem iter_le {m : M} {a b : Nat} (h : (iter a m).outcome.isSome = true) (hab : a ≤ b) : iter b m = iter a m := by
  obtain ⟨c, rfl⟩ := Nat.le.dest hab
  rw [iter_add, iter_done h]
section
variable {MM : Model} {A : Around} {E : Value → Shared → Prop} {s : Shared}
theorem wp_reDrive {Q : M → Shared → Prop} : ∀ (turns n : Nat) (m : M), (iter n m).outcome.isSome = true → n ≤ 4 * turns → turns ≠ 0 → Q (iter n m) s → wpAny MM A (reDrive turns m) Q E s
  | 0, _, _, _, _, h0, _ => absurd rfl h0
  | turns + 1, n, m, ho, hn, _, h => by
    show wpAny MM A (if (m.runFor 4).outcome.isSome then pure (m.runFor 4) else do rule "sre.turn"; reDrive turns (m.runFor 4)) Q E s
    rw [runFor_iter]
    by_cases hq : (iter 4 m).outcome.isSome = true
    · rw [if_pos hq]
      refine wpAny_pure ?_
      by_cases h4 : n ≤ 4
      · rw [iter_le ho h4]; exact h
      · rw [← iter_le hq (Nat.le_of_not_le h4)]; exact h
    · rw [if_neg hq]
      refine wpAny_bind (wpAny_rule ?_)
      have h4 : 4 < n := by
        refine Nat.lt_of_not_le fun h4 => hq ?_
        rw [iter_le ho h4]; exact ho
      obtain ⟨k, rfl⟩ := Nat.le.dest (Nat.le_of_lt h4)
      rw [iter_add] at ho h
      exact wp_reDrive turns k _ ho (by omega) (by omega) h
theorem wp_toEnd {Q : Option M → Shared → Prop} {m : M} {n : Nat} (hn : n ≤ 100000) (ho : (iter n m).outcome.isSome = true) (h1 : (iter n m).outcome matches some .matched → Q (some (iter n m)) s) (h2 : (iter n m).outcome matches some .failed → Q none s) (h3 : ((iter n m).outcome matches some (.stuck _)) = false) :
    wpAny MM A (reRunToEnd m) Q E s := by
  unfold reRunToEnd
  refine wpAny_bind (wp_reDrive (2 ^ 64) n m ho (by omega) (by decide) ?_)
  refine wpAny_bind (wpAny_forIn_list _ (fun _ _ s' => s' = s) _ ?_ ?_ _ _ rfl)
  · rintro i rest b s' rfl
    split
    · refine wpAny_bind (wpAny_rule (wpAny_pure ?_))
      exact rfl
    · refine wpAny_pure ?_
      exact rfl
  · rintro b s' rfl
    cases e : (iter n m).outcome with
    | none => rw [e] at ho; cases ho
    | some o =>
      rw [e] at h1 h2 h3
      cases o with
      | matched => exact wpAny_pure (h1 rfl)
      | failed => exact wpAny_pure (h2 rfl)
      | stuck why => cases h3
end
def noEq (t : Array Nat) (a b : Nat) : Prop := ∀ i, a ≤ i → i < b → (t.getD i 0 == 61) = false
def figs : List Nat := [48, 49, 50, 51, 52, 53, 54, 55, 56, 57, 65, 66, 67, 68, 69, 70]
theorem go_hit {t : Array Nat} {q : Nat} (hq : q + 2 < t.size) (he : (t.getD q 0 == 61) = true) (h1 : t.getD (q + 1) 0 ∈ figs) (h2 : t.getD (q + 2) 0 ∈ figs) : ∀ (d p : Nat) (first must : Bool) (sn : Sre.Seen), p + d = q → noEq t p q →
    ∃ (n : Nat) (m : M), n ≤ 2 * d + 6 ∧ iter n (tryAt t p first must sn) = m ∧ (m.outcome matches some .matched) = true ∧ m.start = q ∧ m.handed = q + 3 ∧ m.lastmark = -1 ∧ m.lastindex = -1
  | 0, p, first, must, sn, e, _ => by
    obtain rfl : p = q := e
    obtain ⟨m, hm, k⟩ := after_hit (first := first) (must := must) (sn := sn.add 16) hq h1 h2
    refine ⟨6, m, by omega, ?_, k⟩
    show (tryAt t p first must sn).step.step.step.step.step.step = m
    rw [step_hit (by omega) he]
    exact hm
  | d + 1, p, first, must, sn, e, hno => by
    obtain ⟨n, m, hn, hi, k⟩ := go_hit hq he h1 h2 d (p + 1) false false (sn.add 16) (by omega) fun i a b => hno i (by omega) b
    refine ⟨2 + n, m, by omega, ?_, k⟩
    rw [iter_add, ← hi]
    congr 1
    show (tryAt t p first must sn).step.step = _
    rw [step_miss (.inr (hno p (Nat.le_refl _) (by omega)))]
    exact back_more (sn := sn.add 16) (by omega)
theorem go_miss {t : Array Nat} : ∀ (d p : Nat) (first must : Bool) (sn : Sre.Seen), p + d = t.size → noEq t p t.size →
    ∃ (n : Nat), n ≤ 2 * d + 3 ∧ ((iter n (tryAt t p first must sn)).outcome matches some .failed) = true
  | 0, p, first, must, sn, e, _ => by
    obtain rfl : p = t.size := e
    refine ⟨3, by omega, ?_⟩
    show ((tryAt t t.size first must sn).step.step.step.outcome matches some .failed) = true
    rw [step_miss (.inl (Nat.le_refl _))]
    exact back_end (sn := sn.add 16) (by omega)
  | d + 1, p, first, must, sn, e, hno => by
    obtain ⟨n, hn, hi⟩ := go_miss d (p + 1) false false (sn.add 16) (by omega) fun i a b => hno i (by omega) b
    refine ⟨2 + n, by omega, ?_⟩
    rw [iter_add]
    have : iter 2 (tryAt t p first must sn) = tryAt t (p + 1) false false (sn.add 16) := by
      show (tryAt t p first must sn).step.step = _
      rw [step_miss (.inr (hno p (Nat.le_refl _) (by omega)))]
      exact back_more (sn := sn.add 16) (by omega)
    rw [this]
    exact hi
theorem search_eq {t : Array Nat} {p : Nat} {must : Bool} (h : p + 2 < t.size) : forSearch reCode t 0 p t.size must = tryAt t p true must (({} : Sre.Seen).add 14) := by
  unfold forSearch
  have e : (decide (p > t.size) || decide (t.size - p < 3)) = false := by
    rw [Bool.or_eq_false_iff, decide_eq_false_iff_not, decide_eq_false_iff_not]
    omega
  rw [if_neg (by show ¬ ((decide (p > t.size) || decide (t.size - p < 3)) = true); rw [e]; decide)]
  rfl
theorem search_no {t : Array Nat} {p : Nat} {must : Bool} (h : ¬ p + 2 < t.size) : ((iter 1 (forSearch reCode t 0 p t.size must)).outcome matches some .failed) = true := by
  unfold forSearch
  rw [if_pos (by show (decide (p > t.size) || decide (t.size - p < 3)) = true; rw [Bool.or_eq_true, decide_eq_true_eq, decide_eq_true_eq]; omega)]
  rfl
section
variable {MM : Model} {A : Around} {E : Value → Shared → Prop} {s : Shared} {Q : Option M → Shared → Prop} {t : Array Nat} {p q : Nat} {must : Bool}
theorem search_hit (hpq : p ≤ q) (hq : q + 2 < t.size) (hsz : t.size ≤ 1000) (he : (t.getD q 0 == 61) = true) (h1 : t.getD (q + 1) 0 ∈ figs) (h2 : t.getD (q + 2) 0 ∈ figs) (hno : noEq t p q)
    (h : ∀ m : M, m.start = q → m.handed = q + 3 → m.lastmark = -1 → m.lastindex = -1 → Q (some m) s) : wpAny MM A (reRunToEnd (forSearch reCode t 0 p t.size must)) Q E s := by
  rw [search_eq (by omega)]
  obtain ⟨n, m, hn, hi, ho, a, b, c, d⟩ := go_hit hq he h1 h2 (q - p) p true must (({} : Sre.Seen).add 14) (by omega) hno
  refine wp_toEnd (n := n) (by omega) ?_ (fun _ => ?_) (fun k => ?_) ?_
  · rw [hi]; revert ho; cases m.outcome <;> simp
  · rw [hi]; exact h m a b c d
  · rw [hi] at k; revert ho k; cases m.outcome with
    | none => simp
    | some o => cases o <;> simp
  · rw [hi]; revert ho; cases m.outcome with
    | none => simp
    | some o => cases o <;> simp
theorem search_miss (hp : p ≤ t.size) (hsz : t.size ≤ 1000) (hno : noEq t p t.size) (h : Q none s) : wpAny MM A (reRunToEnd (forSearch reCode t 0 p t.size must)) Q E s := by
  have key : ∃ n, n ≤ 100000 ∧ ((iter n (forSearch reCode t 0 p t.size must)).outcome matches some .failed) = true := by
    by_cases hq : p + 2 < t.size
    · obtain ⟨n, hn, hi⟩ := go_miss (t := t) (t.size - p) p true must (({} : Sre.Seen).add 14) (by omega) hno
      exact ⟨n, by omega, by rw [search_eq hq]; exact hi⟩
    · exact ⟨1, by omega, search_no hq⟩
  obtain ⟨n, hn, ho⟩ := key
  generalize forSearch reCode t 0 p t.size must = m0 at ho ⊢
  refine wp_toEnd (n := n) hn ?_ (fun k => ?_) (fun _ => h) ?_
  · revert ho; cases (iter n m0).outcome <;> simp
  · revert ho k; cases (iter n m0).outcome with
    | none => simp
    | some o => cases o <;> simp
  · revert ho; cases (iter n m0).outcome with
    | none => simp
    | some o => cases o <;> simp
end
end
section
open PySem PySem.W PyProof.Rows PySem.Calls
set_option Elab.async false
set_option maxRecDepth 100000
theorem pa_match : PlainAttrs "re.Match" :=
  ⟨⟨"object.__getattribute__", by rw [typeLookup_type, builtinLookup_eq_fast]; kernel_rfl, by decide +kernel⟩, by rw [typeLookup_type, builtinLookup_eq_fast]; kernel_rfl⟩
theorem pa_pattern : PlainAttrs "re.Pattern" :=
  ⟨⟨"object.__getattribute__", by rw [typeLookup_type, builtinLookup_eq_fast]; kernel_rfl, by decide +kernel⟩, by rw [typeLookup_type, builtinLookup_eq_fast]; kernel_rfl⟩
theorem slot_group : Slot "re.Match" "group" "re.Match.group" :=
  .of (owner := "re.Match") (n := "group") (by rw [typeLookup_type, builtinLookup_eq_fast]; kernel_rfl) (by decide +kernel) (by decide +kernel) (by decide +kernel)
    (by first | exact .inl (by decide +kernel) | exact .inr (by decide +kernel)) (by rw [isSubtype_type]; kernel_rfl)
theorem type_group : typeOf (.builtin "re.Match.group") = pure (.type "method_descriptor") := by show builtinType _ = _; rw [builtinType_eq_fast]; kernel_rfl
theorem entry_group : entryFor table "re.Match.group" = some Builtin.«re.Match.group» := entryFor_of_fast (by kernel_rfl)
theorem args_group (a b : Value) : argsOk "re.Match.group" ⟨[a, b], []⟩ := by unfold argsOk; kernel_rfl
theorem slot_sub : Slot "re.Pattern" "sub" "re.Pattern.sub" :=
  .of (owner := "re.Pattern") (n := "sub") (by rw [typeLookup_type, builtinLookup_eq_fast]; kernel_rfl) (by decide +kernel) (by decide +kernel) (by decide +kernel)
    (by first | exact .inl (by decide +kernel) | exact .inr (by decide +kernel)) (by rw [isSubtype_type]; kernel_rfl)
theorem type_sub : typeOf (.builtin "re.Pattern.sub") = pure (.type "method_descriptor") := by show builtinType _ = _; rw [builtinType_eq_fast]; kernel_rfl
theorem entry_sub : entryFor table "re.Pattern.sub" = some Builtin.«re.Pattern.sub» := entryFor_of_fast (by kernel_rfl)
theorem entry_sub_loop : entryFor table "re.Pattern.sub.loop" = some Builtin.«re.Pattern.sub.loop» := entryFor_of_fast (by kernel_rfl)
theorem plain_sub_loop : plainId "re.Pattern.sub.loop" = true := by decide +kernel
theorem args_sub (a b c : Value) : argsOk "re.Pattern.sub" ⟨[a, b, c], []⟩ := by unfold argsOk; kernel_rfl
end
section
open PySem PySem.W PyProof.Rows PySem.Calls
set_option Elab.async false
set_option maxRecDepth 100000
set_option maxHeartbeats 100000000
open Builtin.Re
def matchO (x : Str) (t : Tok) (pat tp : Addr) (y2 y3 y4 : Value) : Obj := ⟨.type "re.Match", none, .fields #[.str x t, .ref pat, y2, y3, y4, .ref tp], #[]⟩
def spanO (b e : Nat) (n : Nat) : Obj := ⟨.type "tuple", none, .seq #[rawInt b, rawInt e] n, #[]⟩
section
variable {prog : Program} {w : World} {A : Around} {E : Value → Shared → Prop} {s : Shared}
theorem call_group {Q : Value → Shared → Prop} {m tp pat : Addr} {x : Str} {t u : Tok} {y2 y3 y4 : Value} {b e n : Nat} (hM : s.heap.get? m = some (matchO x t pat tp y2 y3 y4)) (hT : s.heap.get? tp = some (spanO b e n)) (hx : x.cps.size ≤ 1000)
    (h : Q (.str ⟨x.cps.extract b e⟩ s.toks) { s with toks := s.toks + 1 }) : wpAny (model prog w) A (call (.builtin "re.Match.group") [.ref m, .int 0 u]) Q E s := by
  refine wpAny_call_entry slot_group ⟨_, hM, rfl⟩ entry_group ?_ (args_group _ _)
  show wpAny _ _ (noKeywords "Match.group" ⟨[.ref m, .int 0 u], []⟩ >>= _) _ _ _
  refine wpAny_bind (wpAny_pure ?_)
  show wpAny _ _ (reFound (.ref m) >>= _) _ _ _
  refine wpAny_bind ?_
  unfold reFound
  refine wpAny_bind (wpAny_fieldsOf hM rfl ?_)
  show wpAny _ _ (reRawItems (.ref tp) >>= _) _ _ _
  refine wpAny_bind ?_
  unfold reRawItems
  refine wpAny_bind (wpAny_seqItems hT rfl (wpAny_pure (wpAny_pure ?_)))
  show wpAny _ _ (reGroupNumber _ (.int 0 u) >>= _) _ _ _
  refine wpAny_bind ?_
  unfold reGroupNumber
  show wpAny _ _ (asInt? (.int 0 u) >>= _) _ _ _
  refine wpAny_bind (wpAny_pure ?_)
  show wpAny _ _ (asIndex (.int 0 u) >>= _) _ _ _
  refine wpAny_bind ?_
  unfold asIndex
  show wpAny _ _ (asInt? (.int 0 u) >>= _) _ _ _
  refine wpAny_bind (wpAny_pure (wpAny_pure ?_))
  dsimp only
  rw [if_neg (by simp)]
  refine wpAny_pure ?_
  show wpAny _ _ (reGroupText _ 0 .none >>= _) _ _ _
  refine wpAny_bind ?_
  rw [show (Array.map reRawOf ((some #[rawInt b, rawInt e]).getD #[])) = #[(b : Int), (e : Int)] by simp [reRawOf, rawInt]]
  unfold reGroupText
  show wpAny _ _ (if (((b : Nat) : Int) < 0 || ((e : Nat) : Int) < 0) = true then pure Value.none else do
    let (text, kind) ← reTextOf (.str x t)
    reSlice text kind ((b : Nat) : Int).toNat ((e : Nat) : Int).toNat) _ _ _
  rw [if_neg (by simp)]
  unfold reTextOf
  refine wpAny_bind (wpAny_bind (wpAny_pure (wpAny_pure ?_)))
  show wpAny _ _ (mkStr ⟨x.cps.extract b e⟩) _ _ _
  refine wpAny_mkStr (wpAny_pure ⟨_, rfl, h⟩) ?_
  show (x.cps.extract b e).size ≤ sizeLine
  have : (x.cps.extract b e).size ≤ x.cps.size := by rw [Array.size_extract]; omega
  unfold sizeLine; omega
theorem meth_group {Q : Value × List Value → Shared → Prop} {pl : Sem Bool} {m tp pat : Addr} {x : Str} {t : Tok} {y2 y3 y4 : Value} (hM : s.heap.get? m = some (matchO x t pat tp y2 y3 y4))
    (h : Q (.builtin "re.Match.group", [.ref m]) s) : wpAny (model prog w) A (getMethod (.ref m) "group" pl) Q E s :=
  getMethod_builtin ⟨_, hM, rfl⟩ pa_match slot_group type_group (fun a e => by cases e; exact ⟨_, hM, rfl⟩) h
end
section
variable {w : World} {p : Program} {loose : List Str} {mean : ExcName → Option Value} {mg mb : Str → Option Value} {A : Around} {s : Shared} {E : Value → Shared → Prop}
theorem use_umatch {P : Value → Shared → Prop} {m tp : Addr} {x : Str} {t : Tok} {y2 y3 y4 : Value} {b e n c d : Nat} (T : Top p loose mean mg mb s.heap) (hA : Lo A 7)
    (hM : s.heap.get? m = some (matchO x t 92 tp y2 y3 y4)) (hT : s.heap.get? tp = some (spanO b e n)) (hx : x.cps.size ≤ 1000) (he : x.cps.extract b e = #[61, c, d]) (hc : c ∈ hexU) (hd : d ∈ hexU) :
    (KK w.params).In s.heap → (∀ (h' : Heap) (tk : Nat) (t' : Tok), Ext s.heap h' → P (.str ⟨#[16 * hexVal c + hexVal d]⟩ t') { s with heap := h', toks := tk }) → wpAny (model PySem.Challenge.rw_tx0025_01.row.prog w) A (call (.ref 150) [.ref m]) P E s := by
  k_fill
  intro X ret
  obtain ⟨hp, gs, dr, tk, os⟩ := s
  dsimp only at T X ret hM hT
  have hro := hA.room
  have hh : A.handled = none := hA.hd
  have hret : Ret _ := Ret.mk ret
  clear ret
  k_dflt (refine' enter (binds := [("match", .ref m)]) ?k3 ?k5 ?k6 ?k7 ?k8 ?k9 ?kB ?_ ?c2 ?c3 ?c4 ?c5; (case k3 => k_asm); (case k5 => k_asm); (case k6 => k_is); (case k7 => k_is); (case k8 => exact hro); (case k9 => exact BindsTo.of_eq rfl); (case c5 => decide); (case kB => exact locs rfl); (case c2 => exact rfl); (case c3 => exact rfl); (case c4 => exact rfl); intro h₁ F₁ N₁; dsimp only at F₁ N₁ ⊢)
  iterate 5 (first | walk1 | (dsimp only; walk1))
  refine meth_group (F₁.keep _ _ hM) ?_
  iterate 4 (first | walk1 | (dsimp only; walk1))
  refine call_group (F₁.keep _ _ hM) (F₁.keep _ _ hT) hx ?_
  rw [he]
  iterate 3 (first | walk1 | (dsimp only; walk1))
  k_steps
  with_reducible rename Fr _ _ _ _ => FF
  refine use_unquote (T.keeps FF.keep) (Lo.le (Lo.deeper hA) (by decide)) hc hd (X.keeps FF.keep) ?_
  intro h8 tk8 t8 e8
  have F8 := fr_ext FF e8
  clear FF
  k_steps
  exact RetP.mk ((hret : ∀ (h' : Heap) (tk : Nat) (t' : Tok), _) _ _ _ F8.keep)
end
end
section
open PySem PySem.W PyProof.Rows PySem.Calls
set_option Elab.async false
set_option maxRecDepth 100000
set_option maxHeartbeats 4000000
open Builtin.Re
def CodedAs (k : Nat) (xs : List Nat) : Prop := (xs = [k] ∧ k ≠ 61) ∨ ∃ a b, xs = [61, a, b] ∧ a ∈ hexU ∧ b ∈ hexU ∧ 16 * hexVal a + hexVal b = k
theorem coded_cases {g : Nat → List Nat} : ∀ (ks : List Nat), (∀ k ∈ ks, CodedAs k (g k)) → (ks.flatMap g = ks ∧ ∀ k ∈ ks, k ≠ 61) ∨ ∃ pl e rest a b, ks = pl ++ e :: rest ∧ pl.flatMap g = pl ∧ (∀ k ∈ pl, k ≠ 61) ∧ g e = [61, a, b] ∧ a ∈ hexU ∧ b ∈ hexU ∧ 16 * hexVal a + hexVal b = e
  | [], _ => .inl ⟨rfl, fun _ h => nomatch h⟩
  | k :: ks, h => by
    rcases h k (.head _) with ⟨h1, h2⟩ | ⟨a, b, h1, h2, h3, h4⟩
    · rcases coded_cases ks (fun j hj => h j (.tail _ hj)) with ⟨p, q⟩ | ⟨pl, e, rest, a, b, rfl, p1, p2, p3⟩
      · left
        refine ⟨by rw [List.flatMap_cons, h1, p]; rfl, fun j hj => ?_⟩
        rcases List.mem_cons.mp hj with rfl | hj
        · exact h2
        · exact q j hj
      · right
        refine ⟨k :: pl, e, rest, a, b, rfl, by rw [List.flatMap_cons, h1, p1]; rfl, fun j hj => ?_, p3⟩
        rcases List.mem_cons.mp hj with rfl | hj
        · exact h2
        · exact p2 j hj
    · exact .inr ⟨[], k, ks, a, b, rfl, rfl, (fun _ h => nomatch h), h1, h2, h3, h4⟩
theorem getD_arr (l : List Nat) (i : Nat) : l.toArray.getD i 0 = l.getD i 0 := by simp [List.getD_eq_getElem?_getD]
theorem noEq_mid {pre pl post : List Nat} (h : ∀ k ∈ pl, k ≠ 61) : noEq (pre ++ pl ++ post).toArray pre.length (pre.length + pl.length) := by
  intro i h1 h2
  rw [getD_arr, List.getD_eq_getElem?_getD, List.append_assoc, List.getElem?_append_right h1, List.getElem?_append_left (by omega), List.getElem?_eq_getElem (by omega), Option.getD_some, beq_eq_false_iff_ne]
  exact h _ (List.getElem_mem _)
theorem extr_mid {pre pl post : List Nat} : (pre ++ pl ++ post).toArray.extract pre.length (pre.length + pl.length) = pl.toArray := by
  rw [List.extract_toArray]
  congr 1
  rw [List.extract_eq_take_drop, Nat.add_sub_cancel_left, List.append_assoc, List.drop_left, List.take_left]
section
variable {prog : Program} {w : World} {A : Around} {E : Value → Shared → Prop} {s : Shared}
theorem whole_target {Q : ReTarget → Shared → Prop} {x : Str} {t : Tok} (h92 : s.heap.get? 92 = some (o92 w.params)) (h91 : s.heap.get? 91 = some (o91 w.params)) (h : Q ⟨.ref 92, .str x t, reCode, x.cps, 0, 0, 0, x.cps.size⟩ s) :
    wpAny (model prog w) A (reWholeTarget (.ref 92) (.str x t)) Q E s := by
  unfold reWholeTarget
  refine wpAny_bind (wpAny_fieldsOf h92 rfl ?_)
  show wpAny _ _ (reTextOf (.str x t) >>= _) _ _ _
  unfold reTextOf
  refine wpAny_bind (wpAny_bind (wpAny_pure (wpAny_pure ?_)))
  dsimp only
  rw [if_neg (by decide), if_neg (by decide)]
  unfold reNoCollectionInside
  rw [if_neg (by decide)]
  refine wpAny_bind (wpAny_pure ?_)
  unfold reRawItems
  refine wpAny_bind (wpAny_bind ?_)
  refine wpAny_seqItems h91 rfl ?_
  refine wpAny_pure (wpAny_pure ?_)
  simp only [Option.getD_some, List.map_toArray, List.map_cons, List.map_nil, reRawOf]
  exact h
theorem wp_push {M : Model} {L : Addr} {vs : List Value} {n : Nat} {v : Value} {Q : Unit → Shared → Prop} (hL : s.heap.get? L = some (W.listOf vs.toArray n)) (hz : vs.length ≤ 2000)
    (h : ∀ h', h'.get? L = some (W.listOf (vs ++ [v]).toArray (n + 1)) → (∀ b o, b ≠ L → s.heap.get? b = some o → h'.get? b = some o) → Q () { s with heap := h' }) : wpAny M A (updateSeq L (·.push v)) Q E s := by
  refine wpAny_updateSeq hL rfl (h _ ?_ ?_) (by rw [List.size_toArray]; unfold sizeLine; omega) (by rw [Array.size_push, List.size_toArray]; unfold sizeLine; omega)
  · refine (Heap.get?_update_self _ hL rfl).trans (congrArg some ?_)
    show (⟨.type "list", none, .seq (vs.toArray.push v) (if (vs.toArray.push v).size == vs.toArray.size then n else n + 1), #[]⟩ : Obj) = _
    rw [if_neg (by rw [Array.size_push]; simp), List.push_toArray]
  · intro b o hb e
    exact (Heap.get?_update_other _ _ (Ne.symm hb)).trans e
end
theorem flat_len (ys : List Str) : (ys.map (·.length)).sum = (ys.flatMap fun y => y.cps.toList).length := by
  induction ys with
  | nil => rfl
  | cons y ys ih => rw [List.map_cons, List.sum_cons, List.flatMap_cons, List.length_append, ih]; rfl
section
variable {w : World} {p : Program} {loose : List Str} {mean : ExcName → Option Value} {mg mb : Str → Option Value} {A : Around} {h₀ : Heap} {gs : Array GenState} {dr : Drawn} {os : OsState}
theorem sub_item {Q : Fin → Shared → Prop} {E : Value → Shared → Prop} {C : Code} {m : Sre.M} {l : List Nat} {t : Tok} {L : Addr} {vs : List Value} {n b c d : Nat} {h : Heap} {tk : Nat} (T : Top p loose mean mg mb h₀) (hA : Lo A 7) (X : (KK w.params).In h₀) (hL0 : h₀.get? L = none) (hl : l.length ≤ 900) (hvs : vs.length ≤ 2000)
    (e : Ext h₀ h) (hL : h.get? L = some (W.listOf vs.toArray n)) (hs : m.start = b) (hh : m.handed = b + 3) (hx : l.toArray.extract b (b + 3) = #[61, c, d]) (hc : c ∈ hexU) (hd : d ∈ hexU)
    (ret : ∀ (h' : Heap) (tk' : Nat) (t' : Tok), Ext h₀ h' → h'.get? L = some (W.listOf (vs ++ [Value.str ⟨#[16 * hexVal c + hexVal d]⟩ t']).toArray (n + 1)) → Q (.again C) ⟨h', gs, dr, tk', os⟩) :
    wpAny (model PySem.Challenge.rw_tx0025_01.row.prog w) A (do
      let found ← reNewMatch (.ref 92) (.str ⟨l.toArray⟩ t) 0 0 l.toArray.size m
      let item ← holding [found] (if ((1 : Int) == 1) = true then call (.ref 150) [found] else do
        let x ← reFound found
        reExpand (.ref 150) x)
      if (item != .none) = true then do
        updateSeq L (·.push item)
        again C
      else again C) Q E ⟨h, gs, dr, tk, os⟩ := by
  refine wpAny_bind ?_
  unfold reNewMatch
  dsimp only
  rw [if_neg (by simp)]
  refine wpAny_bind (wpAny_newTuple ?_ (by simp [sizeLine]))
  refine wpAny_newObj_type ?_ (by size_fits)
  refine wpAny_bind (wpAny_holding ?_)
  rw [if_pos (show ((1 : Int) == 1) = true from rfl)]
  dsimp only
  show wpAny _ _ (call (.ref 150) [.ref (h.push (spanO m.start m.handed 0)).objs.size]) _ _ ⟨(h.push (spanO m.start m.handed 0)).push (matchO ⟨l.toArray⟩ t 92 h.objs.size (rawInt (0 : Nat)) (rawInt l.toArray.size) (rawInt m.lastindex)), gs, dr, tk, os⟩
  rw [hs, hh]
  generalize hM : matchO ⟨l.toArray⟩ t 92 h.objs.size (rawInt (0 : Nat)) (rawInt l.toArray.size) (rawInt m.lastindex) = oM
  have e2 : Ext h ((h.push (spanO b (b + 3) 0)).push oM) := fun a o q => Heap.get?_push_of_some _ (Heap.get?_push_of_some _ q)
  have e3 : Ext h₀ ((h.push (spanO b (b + 3) 0)).push oM) := fun a o q => e2 a o (e a o q)
  refine use_umatch (T.keeps e3) hA (hM := by rw [← hM]; exact Heap.get?_push_size _ rfl) (hT := Heap.get?_push_of_some _ (Heap.get?_push_size _ rfl)) (by show l.toArray.size ≤ 1000; rw [List.size_toArray]; omega) hx hc hd (X.keeps e3) ?_
  intro h4 tk4 t4 e4
  have e5 : Ext h₀ h4 := fun a o q => e4 a o (e3 a o q)
  rw [if_pos (show ((Value.str (⟨#[16 * hexVal c + hexVal d]⟩ : Str) t4) != Value.none) = true from rfl)]
  refine wpAny_bind (wp_push (e4 _ _ (e2 _ _ hL)) hvs ?_)
  intro h5 hL5 k5
  refine wpAny_pure (ret h5 tk4 t4 (fun a o q => k5 a o (fun z => ?_) (e5 a o q)) hL5)
  rw [z, hL0] at q
  cases q
theorem sub_end {Q : Fin → Shared → Prop} {E : Value → Shared → Prop} {prog : Program} {T : Array Nat} {L : Addr} {vs : List Value} {ys : List Str} {n : Nat} {cnt : Int} {s : Shared} {res : List Nat} (hL : s.heap.get? L = some (W.listOf vs.toArray n)) (hst : StrsAre vs ys) (hfl : (ys.flatMap fun y => y.cps.toList) = res) (hz : res.length ≤ 900) (hy : ys.length ≤ res.length)
    (ret' : ∀ (tk' : Nat) (t' : Tok), Q (.done (.ret (.str ⟨res.toArray⟩ t'))) { s with toks := tk' }) :
    wpAny (model prog w) A (do
      let joiner ← reSlice T 0 0 0
      let it ← seqItems? (Value.ref L)
      if (it.getD #[]).isEmpty = true then do
          let text ← pure joiner
          if false = true then do
              let x ← holding [text] do
                    let y ← mkInt cnt
                    newTuple [text, y]
              ret x
            else ret text
        else do
          let text ← call (Value.builtin (if ((0 : Nat) == 0) = true then "str.join" else "bytes.join")) [joiner, Value.ref L]
          if false = true then do
              let x ← holding [text] do
                    let y ← mkInt cnt
                    newTuple [text, y]
              ret x
            else ret text) Q E s := by
  have e0 : T.extract 0 0 = #[] := by simp
  refine wpAny_bind ?_
  show wpAny _ _ (mkStr ⟨T.extract 0 0⟩) _ _ _
  rw [e0]
  refine wpAny_mkStr ?_ (by show (#[] : Array Nat).size ≤ _; simp)
  refine wpAny_bind (wpAny_seqItems hL rfl ?_)
  by_cases hv : vs = []
  · subst hv
    cases hst
    rw [if_pos (by rfl)]
    refine wpAny_bind (wpAny_pure ?_)
    rw [if_neg (by simp)]
    refine wpAny_pure ?_
    have : res = [] := hfl.symm
    subst this
    exact ret' _ _
  · rw [if_neg (by
      intro q
      have q' : vs.toArray.isEmpty = true := q
      rw [Array.isEmpty_iff] at q'
      exact hv (by simpa using q'))]
    rw [if_pos (show ((0 : Nat) == 0) = true from rfl)]
    refine wpAny_bind (join_list ⟨_, hL, rfl, _, rfl⟩ (by simpa using hst) (by rw [flat_len, hfl]; show _ + _ * 0 ≤ _; omega) ?_)
    intro t' k
    rw [if_neg (by simp)]
    refine wpAny_pure ?_
    have ej := join_empty ys
    rw [hfl] at ej
    have ej' : Txt.join ⟨#[]⟩ ys = ⟨res.toArray⟩ := ej
    rw [ej']
    exact ret' _ _
theorem sub_loop {g : Nat → List Nat} {R : Result → Shared → Prop} {l res : List Nat} {t : Tok} {L : Addr} (T : Top p loose mean mg mb h₀) (hA : Lo A 9) (X : (KK w.params).In h₀) (h92 : h₀.get? 92 = some (o92 w.params)) (h91 : h₀.get? 91 = some (o91 w.params)) (hL0 : h₀.get? L = none) (hl : l.length ≤ 900) (hz : res.length ≤ 900)
    (hR : ∀ (h' : Heap) (tk : Nat) (t' : Tok), Ext h₀ h' → R (.ok (.ret (.str ⟨res.toArray⟩ t'))) ⟨h', gs, dr, tk, os⟩) :
    ∀ (N : Nat) (ks pre dec : List Nat) (vs : List Value) (ys : List Str) (n : Nat) (cnt : Int) (must : Bool) (h : Heap) (tk : Nat), ks.length < N → l = pre ++ ks.flatMap g → (∀ k ∈ ks, CodedAs k (g k)) → StrsAre vs ys → (ys.flatMap fun y => y.cps.toList) = dec → dec ++ ks = res → ys.length ≤ dec.length → Ext h₀ h →
      h.get? L = some (W.listOf vs.toArray n) →
      codeAny (model PySem.Challenge.rw_tx0025_01.row.prog w) A (.builtin "re.Pattern.sub.loop" ⟨[.ref 92, .str ⟨l.toArray⟩ t, .ref 150, rawInt 1, rawInt 0, rawInt cnt, rawInt pre.length, rawInt pre.length, .bool must, .ref L, .bool false], []⟩) R ⟨h, gs, dr, tk, os⟩ := by
  intro N
  induction N with
  | zero => intro ks pre dec vs ys n cnt must h tk hks; exact absurd hks (Nat.not_lt_zero _)
  | succ N ih =>
    intro ks pre dec vs ys n cnt must h tk hks hle hcd hst hdec hres hyl e hL
    have hdl : dec.length ≤ 900 := by rw [← hres, List.length_append] at hz; omega
    have hvl : vs.length ≤ 900 := by rw [strs_len hst]; omega
    refine codeAny_builtin entry_sub_loop ?_
    rw [Around.under_plainId plain_sub_loop _]
    show wpAny _ A.in1 (reWholeTarget (.ref 92) (.str ⟨l.toArray⟩ t) >>= _) _ _ _
    refine wpAny_bind (whole_target (e _ _ h92) (e _ _ h91) ?_)
    dsimp only
    rw [if_neg (by decide)]
    refine wpAny_bind ?_
    rw [if_neg (by simp)]
    show wpAny _ _ (reRunToEnd (Sre.forSearch reCode l.toArray 0 pre.length l.toArray.size must)) _ _ _
    rcases coded_cases ks hcd with ⟨hf, hne⟩ | ⟨pl, e1, rest, a, b, rfl, hpl, hne, hge, ha, hb, hab⟩
    · have hl2 : l = pre ++ ks ++ [] := by rw [List.append_nil, hle, hf]
      have hno : noEq l.toArray pre.length l.toArray.size := by
        have := noEq_mid (pre := pre) (post := []) hne
        rw [← hl2] at this
        rw [List.size_toArray, show l.length = pre.length + ks.length by rw [hl2, List.append_nil, List.length_append]]
        exact this
      refine search_miss (by rw [List.size_toArray, hl2]; simp) (by rw [List.size_toArray]; omega) hno ?_
      dsimp only
      rw [Int.toNat_natCast]
      by_cases h0 : ks = []
      · subst h0
        rw [if_neg (by rw [List.size_toArray, hl2]; simp)]
        refine sub_end hL hst (hdec.trans (by rw [← hres, List.append_nil])) hz (by rw [← hres, List.append_nil]; exact hyl) fun tk' t' => hR _ _ _ e
      · have hkp : 0 < ks.length := List.length_pos_iff.mpr h0
        rw [if_pos (by rw [List.size_toArray, hl2]; simp; omega)]
        have hex : l.toArray.extract pre.length l.toArray.size = ks.toArray := by
          have := extr_mid (pre := pre) (pl := ks) (post := [])
          rw [← hl2] at this
          rw [List.size_toArray, show l.length = pre.length + ks.length by rw [hl2, List.append_nil, List.length_append]]
          exact this
        refine wpAny_bind ?_
        show wpAny _ _ (mkStr ⟨l.toArray.extract pre.length l.toArray.size⟩) _ _ _
        rw [hex]
        refine wpAny_mkStr ?_ (by show ks.toArray.size ≤ _; rw [List.size_toArray]; unfold sizeLine; rw [← hres, List.length_append] at hz; omega)
        refine wpAny_bind (wp_push hL (by omega) ?_)
        intro h5 hL5 k5
        refine sub_end (ys := ys ++ [⟨ks.toArray⟩]) (res := res) hL5 (strs_append hst (.cons _ _ .nil)) (by rw [List.flatMap_append, hdec, ← hres]; simp) hz (by rw [← hres, List.length_append, List.length_append, List.length_singleton]; omega) fun tk' t' => hR _ _ _ (fun a o q => k5 a o (fun z => ?_) (e a o q))
        rw [z, hL0] at q
        cases q
    · have hfl : (pl ++ e1 :: rest).flatMap g = pl ++ [61, a, b] ++ rest.flatMap g := by rw [List.flatMap_append, List.flatMap_cons, hpl, hge, List.append_assoc]
      rw [hfl] at hle
      have hl2 : l = pre ++ pl ++ ([61, a, b] ++ rest.flatMap g) := by rw [hle]; simp
      have hl3 : l = (pre ++ pl) ++ [61, a, b] ++ rest.flatMap g := by rw [hle]; simp
      have hll : l.length = pre.length + pl.length + 3 + (rest.flatMap g).length := by rw [hl3]; simp only [List.length_append, List.length_cons, List.length_nil]
      have at_ : ∀ i, i < 3 → l.toArray.getD (pre.length + pl.length + i) 0 = [61, a, b].getD i 0 := fun i hi => by
        rw [getD_arr, hl3, List.getD_eq_getElem?_getD, List.append_assoc, List.getElem?_append_right (by rw [List.length_append]; omega), List.length_append, Nat.add_sub_cancel_left, List.getElem?_append_left (by simpa using hi), List.getD_eq_getElem?_getD]
      have hex : l.toArray.extract (pre.length + pl.length) (pre.length + pl.length + 3) = #[61, a, b] := by
        have := extr_mid (pre := pre ++ pl) (pl := [61, a, b]) (post := rest.flatMap g)
        rw [← hl3, List.length_append] at this
        exact this
      refine search_hit (q := pre.length + pl.length) (by omega) (by rw [List.size_toArray]; omega) (by rw [List.size_toArray]; omega) (by have := at_ 0 (by decide); rw [Nat.add_zero] at this; rw [this]; rfl) (by rw [at_ 1 (by decide)]; exact ha) (by rw [at_ 2 (by decide)]; exact hb) (by rw [hl2]; exact noEq_mid hne) ?_
      intro m hms hmh _ _
      dsimp only
      rw [hms, hmh, Int.toNat_natCast]
      have hres2 : (dec ++ pl ++ [e1]) ++ rest = res := by rw [← hres]; simp
      have hnx : ∀ (vs' : List Value) (ys' : List Str) (n' : Nat) (h' : Heap) (tk' : Nat), StrsAre vs' ys' → (ys'.flatMap fun y => y.cps.toList) = dec ++ pl ++ [e1] → ys'.length ≤ (dec ++ pl ++ [e1]).length → Ext h₀ h' → h'.get? L = some (W.listOf vs'.toArray n') →
          codeAny (model PySem.Challenge.rw_tx0025_01.row.prog w) A (.builtin "re.Pattern.sub.loop" ⟨[.ref 92, .str ⟨l.toArray⟩ t, .ref 150, rawInt 1, rawInt 0, rawInt (cnt + 1), rawInt (pre.length + pl.length + 3 : Nat), rawInt (pre.length + pl.length + 3 : Nat), .bool (pre.length + pl.length + 3 == pre.length + pl.length), .ref L, .bool false], []⟩) R ⟨h', gs, dr, tk', os⟩ := by
        intro vs' ys' n' h' tk' q1 q2 q3 q4 q5
        have := ih rest (pre ++ pl ++ [61, a, b]) (dec ++ pl ++ [e1]) vs' ys' n' (cnt + 1) (pre.length + pl.length + 3 == pre.length + pl.length) h' tk' (by rw [List.length_append, List.length_cons] at hks; omega) hl3 (fun k hk => hcd k (by simp [hk])) q1 q2 hres2 q3 q4 q5
        rw [show (pre ++ pl ++ [61, a, b]).length = pre.length + pl.length + 3 by simp only [List.length_append, List.length_cons, List.length_nil]] at this
        exact this
      by_cases h0 : pl = []
      · subst h0
        rw [if_neg (by simp)]
        rw [if_neg (by decide)]
        refine sub_item T (Lo.le (Lo.in1 hA) (by decide)) X hL0 hl (by omega) e hL hms hmh hex ha hb ?_
        intro h6 tk6 t6 e6 hL6
        rw [hab] at hL6
        exact ⟨plainId_quiet plain_sub_loop _, hnx _ (ys ++ [⟨#[e1]⟩]) _ _ _ (strs_append hst (.cons _ _ .nil)) (by rw [List.flatMap_append, hdec, List.append_nil]; rfl) (by rw [List.length_append, List.length_append, List.length_append, List.length_singleton, List.length_singleton]; omega) e6 hL6⟩
      · have hkp : 0 < pl.length := List.length_pos_iff.mpr h0
        rw [if_pos (by omega)]
        have hexp : l.toArray.extract pre.length (pre.length + pl.length) = pl.toArray := by rw [hl2]; exact extr_mid
        refine wpAny_bind ?_
        show wpAny _ _ (mkStr ⟨l.toArray.extract pre.length (pre.length + pl.length)⟩) _ _ _
        rw [hexp]
        refine wpAny_mkStr ?_ (by show pl.toArray.size ≤ _; rw [List.size_toArray]; unfold sizeLine; omega)
        refine wpAny_bind (wp_push hL (by omega) ?_)
        intro h5 hL5 k5
        have e5 : Ext h₀ h5 := fun a o q => k5 a o (fun z => by rw [z, hL0] at q; cases q) (e a o q)
        rw [if_neg (by decide)]
        refine sub_item T (Lo.le (Lo.in1 hA) (by decide)) X hL0 hl (by rw [List.length_append, List.length_singleton]; omega) e5 hL5 hms hmh hex ha hb ?_
        intro h6 tk6 t6 e6 hL6
        rw [hab] at hL6
        exact ⟨plainId_quiet plain_sub_loop _, hnx _ (ys ++ [⟨pl.toArray⟩] ++ [⟨#[e1]⟩]) _ _ _ (strs_append (strs_append hst (.cons _ _ .nil)) (.cons _ _ .nil)) (by rw [List.flatMap_append, List.flatMap_append, hdec]; simp) (by simp only [List.length_append, List.length_singleton]; omega) e6 hL6⟩
end
end
section
open PySem PySem.W PyProof.Rows PySem.Calls
set_option Elab.async false
set_option maxRecDepth 100000
set_option maxHeartbeats 4000000
open Builtin.Re
theorem fn_call : typeLookup (.type "function") "__call__" = pure (some (.builtin "function.__call__")) := by rw [typeLookup_type, builtinLookup_eq_fast]; kernel_rfl
theorem sub_str_bytearray : isSubtype (.type "str") (.type "bytearray") = pure false := by rw [isSubtype_type]; kernel_rfl
section
variable {w : World} {p : Program} {loose : List Str} {mean : ExcName → Option Value} {mg mb : Str → Option Value} {A : Around} {E : Value → Shared → Prop} {s : Shared}
theorem meth_sub {prog : Program} {Q : Value × List Value → Shared → Prop} {pl : Sem Bool} (h92 : s.heap.get? 92 = some (o92 w.params)) (h : Q (.builtin "re.Pattern.sub", [.ref 92]) s) : wpAny (model prog w) A (getMethod (.ref 92) "sub" pl) Q E s :=
  getMethod_builtin ⟨_, h92, rfl⟩ pa_pattern slot_sub type_sub (fun a e => by cases e; exact ⟨_, h92, rfl⟩) h
theorem call_sub {P : Value → Shared → Prop} {g : Nat → List Nat} {ks : List Nat} {t : Tok} (T : Top p loose mean mg mb s.heap) (hA : Lo A 10) (X : (KK w.params).In s.heap) (h92 : s.heap.get? 92 = some (o92 w.params)) (h91 : s.heap.get? 91 = some (o91 w.params)) (h150 : s.heap.get? 150 = some (o150 w.params))
    (hcd : ∀ k ∈ ks, CodedAs k (g k)) (hl : (ks.flatMap g).length ≤ 900) (hz : ks.length ≤ 900) (ret : ∀ (h' : Heap) (tk : Nat) (t' : Tok), Ext s.heap h' → P (.str ⟨ks.toArray⟩ t') { s with heap := h', toks := tk }) :
    wpAny (model PySem.Challenge.rw_tx0025_01.row.prog w) A (call (.builtin "re.Pattern.sub") [.ref 92, .ref 150, .str ⟨(ks.flatMap g).toArray⟩ t]) P E s := by
  refine wpAny_call (codeAny_call_builtin slot_sub.plain entry_sub (slot_sub.check _ _ _ _ _ _ _ _ ⟨_, h92, rfl⟩ (args_sub _ _ _) ?_))
  show wpAny _ _ (reNamed "re.Pattern.sub" "sub" ["repl", "string", "count"] 2 [.ref 150, .str ⟨(ks.flatMap g).toArray⟩ t] [] >>= _) _ _ _
  have e : reNamed "re.Pattern.sub" "sub" ["repl", "string", "count"] 2 [.ref 150, .str ⟨(ks.flatMap g).toArray⟩ t] [] = pure [some (.ref 150), some (.str ⟨(ks.flatMap g).toArray⟩ t), none] := rfl
  rw [e]
  refine wpAny_bind (wpAny_pure ?_)
  dsimp only
  refine wpAny_bind (wpAny_pure ?_)
  refine wpAny_bind (wpAny_specialOf ⟨_, h150, rfl⟩ fn_call ?_)
  rw [if_pos (by rfl)]
  refine wpAny_bind (wpAny_pure ?_)
  rw [if_pos (by rfl)]
  refine wpAny_bind (wpAny_pure ?_)
  refine wpAny_bind (wpAny_holding (whole_target h92 h91 ?_))
  dsimp only
  rw [if_pos (by rfl)]
  refine wpAny_bind ?_
  unfold reNotHeld
  refine wpAny_bind (wpAny_isInstance (T := "str") (typeIs_str _ _ _) sub_str_bytearray ?_)
  rw [if_neg (by decide)]
  refine wpAny_pure ?_
  refine wpAny_bind (wpAny_newList ?_ (by simp [sizeLine]))
  refine wpAny_pure ⟨plainId_quiet plain_sub_loop _, ?_⟩
  obtain ⟨hp, gs, dr, tk, os⟩ := s
  refine sub_loop (l := ks.flatMap g) (res := ks) (g := g) T (Lo.le hA (by decide)) X h92 h91 (Heap.get?_none_of_le (Nat.le_refl _)) hl hz (fun h' tk' t' e => ret h' tk' t' e) (ks.length + 1) ks [] [] [] [] 0 0 false _ _ (Nat.lt_succ_self _) rfl hcd .nil rfl rfl (Nat.le_refl _) (fun b o q => Heap.get?_push_of_some _ q) (Heap.get?_push_size _ rfl)
end
end
section
open PySem PySem.W PyProof.Rows PySem.Calls
set_option Elab.async false
set_option maxRecDepth 100000
set_option maxHeartbeats 100000000
section
variable {w : World} {p : Program} {loose : List Str} {mean : ExcName → Option Value} {mg mb : Str → Option Value} {A : Around} {E : Value → Shared → Prop} {s : Shared}
theorem use_hdecode {P : Value → Shared → Prop} {g : Nat → List Nat} {ks : List Nat} {x : Str} {t : Tok} (T : Top p loose mean mg mb s.heap) (hA : Lo A 12) (htk : 0 < s.toks) (hxl : x.length ≤ 300) (hz : ks.length ≤ 900)
    (hcd : ∀ k ∈ ks, CodedAs k (g k)) (hl : (ks.flatMap g).length ≤ 900) (hx : Txt.replace x (Str.ofString "_") (Str.ofString " ") = ⟨(ks.flatMap g).toArray⟩) :
    (KK w.params).In s.heap → (∀ (h' : Heap) (tk : Nat) (t' : Tok), Ext s.heap h' → P (.str ⟨ks.toArray⟩ t') { s with heap := h', toks := tk }) → wpAny (model PySem.Challenge.rw_tx0025_01.row.prog w) A (call (.ref 157) [.str x t]) P E s := by
  k_fill
  intro X ret
  obtain ⟨hp, gs, dr, tk, os⟩ := s
  dsimp only at T X ret htk
  have hro := hA.room
  have hh : A.handled = none := hA.hd
  have hret : Ret _ := Ret.mk ret
  have hcd' : Ret _ := Ret.mk hcd
  have hl' : Ret _ := Ret.mk hl
  have hz' : Ret _ := Ret.mk hz
  have hx' : Held _ _ := hx
  clear ret hcd hl hz hx
  k_dflt (refine' enter (binds := [("s", .str x t)]) ?k3 ?k5 ?k6 ?k7 ?k8 ?k9 ?kB ?_ ?c2 ?c3 ?c4 ?c5; (case k3 => k_asm); (case k5 => k_asm); (case k6 => k_is); (case k7 => k_is); (case k8 => exact hro); (case k9 => exact BindsTo.of_eq rfl); (case c5 => decide); (case kB => exact locs rfl); (case c2 => exact rfl); (case c3 => exact rfl); (case c4 => exact rfl); intro h₁ F₁ N₁; dsimp only at F₁ N₁ ⊢)
  with_reducible refine wpAny_execs_cons ?_
  dsimp only [List.length_cons, List.length_nil]
  have hxl' : x.length ≤ 1048576 := by omega
  iterate 17 (first | walk1 | (dsimp only; walk1))
  with_reducible rename Fr _ _ _ _ => FF
  have XF := X.keeps FF.keep
  have h92 := XF 92 (o92 w.params) (by k_is)
  have h91 := XF 91 (o91 w.params) (by k_is)
  have h150 := XF 150 (o150 w.params) (by k_is)
  refine meth_sub h92 ?_
  have XF' : Ret _ := Ret.mk XF
  have h1' : Ret _ := Ret.mk h92
  have h2' : Ret _ := Ret.mk h91
  have h3' : Ret _ := Ret.mk h150
  clear XF h92 h91 h150
  iterate 6 (first | walk1 | (dsimp only; walk1))
  rw [show Txt.replace x (Str.ofString "_") (Str.ofString " ") = _ from hx']
  refine call_sub (T.keeps FF.keep) (Lo.le (Lo.deeper hA) (by decide)) XF' h1' h2' h3' hcd' hl' hz' ?_
  intro h8 tk8 t8 e8
  have F8 := fr_ext FF e8
  clear FF
  exact RetP.mk ((hret : ∀ (h' : Heap) (tk : Nat) (t' : Tok), _) _ _ _ F8.keep)
end
end
section
open PySem PySem.W PyProof.Rows PySem.Calls
set_option Elab.async false
set_option maxRecDepth 100000
set_option maxHeartbeats 4000000
/-- a set of just these texts -/
def StrSet (prog : Program) (w : World) (h : Heap) (a : Addr) (es : List Str) (b : Nat) : Prop := ∃ m, m ≤ b ∧ h.SetOf (PySem.strKind prog w) a (fun x => es.contains x) m
section
variable {prog : Program} {w : World} {A : Around} {E : Value → Shared → Prop} {s : Shared}
theorem set_loop {R : Result → Shared → Prop} (hh : A.in1.handled = none) {l I S : Addr} (hlI : l ≠ I) (hSI : S ≠ I) (hSl : S ≠ l) {items : Array Value} {es : List Str} (hes : StrsAre items.toList es) (hb : items.size + 1 < scanBound) :
    ∀ (k i : Nat) (s : Shared), items.size - i = k → i ≤ items.size → s.heap.IsListIter I l i → s.heap.IsList l items → StrSet prog w s.heap S (es.take i) i →
      (∀ h' tk, (∀ b o, b ≠ S → b ≠ I → s.heap.get? b = some o → h'.get? b = some o) → StrSet prog w h' S es items.size → R (.ok (.ret .none)) { s with heap := h', toks := tk }) →
      codeAny (model prog w) A (.builtin "set.update.loop" ⟨[.ref S, .ref I], []⟩) R s := by
  have W := Walks.list (prog := prog) (w := w) hh I l hlI items
  have hel : es.length = items.size := by rw [← strs_len hes, Array.length_toList]
  intro k
  induction k with
  | zero =>
    intro i s hk hi hit hl ⟨m, hm, hS⟩ hR
    have hin : i = items.size := by omega
    subst hin
    refine codeAny_builtin F.entry_set_update_loop ?_
    rw [Around.under_plainId F.plain_set_update_loop _]
    show wpAny _ A.in1 (pyNext (.ref I) >>= _) _ _ s
    refine wpAny_bind (W.done s _ _ ⟨hit, hl⟩ fun h' tk hk' => ?_)
    refine wpAny_pure (hR h' tk (fun b o _ h2 e => hk' b o (by simpa using h2) e) ⟨m, hm, ?_⟩)
    obtain ⟨o, es', ep, t, ho, rest⟩ := hS
    have := hk' S o (by simpa using hSI) ho
    rw [List.take_of_length_le (by omega)] at rest
    exact ⟨o, es', ep, t, this, rest⟩
  | succ k ih =>
    intro i s hk hi hit hl ⟨m, hm, hS⟩ hR
    have hlt : i < items.size := by omega
    refine codeAny_builtin F.entry_set_update_loop ?_
    rw [Around.under_plainId F.plain_set_update_loop _]
    show wpAny _ A.in1 (pyNext (.ref I) >>= _) _ _ s
    refine wpAny_bind (W.item i s _ _ hlt ⟨hit, hl⟩ fun v h' tk hP hst' hk' => ?_)
    obtain ⟨x, t, rfl, hx⟩ := strs_get hes (show items.toList[i]? = some v by simpa using hP)
    have hS' : h'.SetOf (PySem.strKind prog w) S (fun x => (es.take i).contains x) m := by
      obtain ⟨o, es', ep, tb, ho, rest⟩ := hS
      exact ⟨o, es', ep, tb, hk' S o (by simpa using hSI) ho, rest⟩
    show wpAny _ A.in1 (holding [Value.str x t] (setAdd S (.str x t)) >>= _) _ _ _
    refine wpAny_bind (wpAny_holding ?_)
    unfold setAdd
    refine wpAny_holding ?_
    refine wpAny_bind ((PySem.strKind prog w).pyHash (k := x) (strKind_is _ _ _ _) ?_)
    refine wpAny_setAddHashed_of (knd := PySem.strKind prog w) (strKind_is _ _ _ _) rfl hS' (by omega) fun h2 hsb hS2 => ?_
    refine wpAny_pure ⟨plainId_quiet F.plain_set_update_loop _, ih (i + 1) _ (by omega) hlt ?_ ?_ ⟨_, ?_, SetOf_congr hS2 (fun y => ?_) rfl⟩ fun h3 tk3 k3 hS3 => hR h3 tk3 (fun b o h1 h2' e => k3 b o h1 h2' ?_) hS3⟩
    · exact hst'.1.at fun o e => by rw [hsb.2 I (Ne.symm hSI)]; exact e
    · exact hst'.2.at fun o e => by rw [hsb.2 l (Ne.symm hSl)]; exact e
    · split <;> omega
    · rw [Mine.take_snoc hx, List.contains_append]
      congr 1
      simp
    · rw [hsb.2 b h1]
      exact hk' b o (by simpa using h2') e
/-- a set is made of a list of texts -/
theorem call_set_strs {l : Addr} {vs : List Value} {es : List Str} {n : Nat} {Q : Value → Shared → Prop} (hh : A.handled = none) (hl : s.heap.get? l = some (W.listOf vs.toArray n)) (hes : StrsAre vs es) (hb : vs.length ≤ 100)
    (h : ∀ (h' : Heap) (tk : Nat), StrSet prog w h' s.heap.objs.size es vs.length → (∀ b o, s.heap.get? b = some o → h'.get? b = some o) → Q (.ref s.heap.objs.size) { s with heap := h', toks := tk }) :
    wpAny (model prog w) A (call (.type "set") [.ref l]) Q E s := by
  obtain ⟨c, tl, hmro⟩ := F.called_set.mro
  have hmade := F.called_set.made
  have hsub := F.called_set.sub
  have h1 := F.called_set.notType
  have h2 := F.called_set.canCreate
  have hct := F.typeCall_set_1 (.ref l)
  have hbs : vs.toArray.size + 1 < scanBound := by rw [List.size_toArray]; unfold scanBound; omega
  refine wpAny_call (codeAny_of_tree ?_)
  show wpAny _ _ (callAny (.type "set") _) _ _ _
  refine wpAny_pure ⟨Code.quiet_builtin _ (by decide +kernel), codeAny_builtin F.entry_type_call ?_⟩
  rw [Around.under_plain (weight_type_call_type "set" [.ref l] []) rfl]
  repeat (any_goals (first | assumption | wp_step))
  refine codeAny_mono (code_set_new_1 (.ref l) (E := E) (Q₁ := fun obj s₁ => ∃ led : Bool, obj = .ref s.heap.objs.size ∧ s₁ = { s with heap := s.heap.push { cls := .type "set", dict := none, data := .set #[] 0 (.fresh 0 0 led) } }) fun led => ⟨led, rfl, rfl⟩) fun r s₁ hr => ?_
  cases r with
  | error e => exact hr
  | ok fl =>
    cases fl with
    | ret obj =>
      obtain ⟨led, rfl, rfl⟩ := hr
      have hS : (s.heap.push { cls := .type "set", dict := none, data := .set #[] 0 (.fresh 0 0 led) }).get? s.heap.objs.size = some { cls := .type "set", dict := none, data := .set #[] 0 (.fresh 0 0 led) } := Heap.get?_push_size _ rfl
      have hT : Shared.TypeIs { s with heap := s.heap.push { cls := .type "set", dict := none, data := .set #[] 0 (.fresh 0 0 led) } } (.ref s.heap.objs.size) "set" := ⟨_, hS, rfl⟩
      have hli := F.called_set.init.lookup
      have hbi := F.called_set.init.bind (.ref s.heap.objs.size)
      repeat (any_goals (first | assumption | wp_step))
      refine codeAny_mono (codeAny_call_builtin (R := wants (fun r s₂ => r = .none ∧ ∃ h' tk, s₂ = { s with heap := h', toks := tk } ∧ StrSet prog w h' s.heap.objs.size es vs.length ∧ (∀ b o, s.heap.get? b = some o → h'.get? b = some o)) E) F.called_set.init.plain F.entry_set_init (check_set_init_1 hT ?_)) fun r₂ s₂ hr₂ => ?_
      · have hol' : (s.heap.push { cls := .type "set", dict := none, data := .set #[] 0 (.fresh 0 0 led) }).get? l = some (W.listOf vs.toArray n) := Heap.get?_push_of_some _ hl
        have hsls := F.sub_list_set
        have hslf := F.sub_list_frozenset
        have hne : (Value.type "list" == Value.type "dict") = false := by decide
        have hl1 : (s.heap.push { cls := .type "set", dict := none, data := .set #[] 0 (.fresh 0 0 led) }).IsList l vs.toArray := ⟨_, hol', rfl, n, rfl⟩
        unfold W.listOf at hol'
        unfold Builtin.«set.__init__» noKeywords Builtin.Frozenset.updateFrom
        clear h hmro hmade h1 h2 hct hli hbi hT
        generalize hPI : pyIter = PI
        wp_walk
        subst hPI
        refine wpAny_pyIter_list hl1 ?_
        refine wpAny_bind (wpAny_runValue ?_)
        have hlS : l < s.heap.objs.size := Heap.lt_size hl
        have hneI : l ≠ (s.heap.push { cls := .type "set", dict := none, data := .set #[] 0 (.fresh 0 0 led) }).objs.size := by
          rw [Heap.size_push]; exact Nat.ne_of_lt (Nat.lt_succ_of_lt hlS)
        have hSI : s.heap.objs.size ≠ (s.heap.push { cls := .type "set", dict := none, data := .set #[] 0 (.fresh 0 0 led) }).objs.size := by
          rw [Heap.size_push]; exact Nat.ne_of_lt (Nat.lt_succ_self _)
        have hSl : s.heap.objs.size ≠ l := Nat.ne_of_gt hlS
        have hes' : StrsAre vs.toArray.toList es := hes
        refine set_loop (A := A.in1.in1) (by simp [hh]) hneI hSI hSl hes' hbs (vs.toArray.size - 0) 0 _ rfl (Nat.zero_le _) ⟨_, Heap.get?_push_size _ rfl, rfl, rfl⟩ (hl1.push _) ?_ ?_
        · have hget : ((s.heap.push { cls := .type "set", dict := none, data := .set #[] 0 (.fresh 0 0 led) }).push { cls := .type "list_iterator", data := .fields #[.ref l, .int 0 0] }).get? s.heap.objs.size = some { cls := .type "set", dict := none, data := .set #[] 0 (.fresh 0 0 led) } := Heap.get?_push_of_some _ hS
          exact ⟨0, Nat.le_refl _, SetOf_congr ((PyProof.Rows.setObjOf_fresh (knd := PySem.strKind prog w) led).setOf hget (by unfold scanBound; omega)) (fun _ => rfl) rfl⟩
        · intro h5 tk5 k5 hS5
          refine wpAny_pure ?_
          show wpAny _ _ (ret Value.none) _ _ _
          refine wpAny_pure ⟨rfl, h5, tk5, rfl, by rw [List.size_toArray] at hS5; exact hS5, fun b o e => ?_⟩
          have hb0 : b < s.heap.objs.size := Heap.lt_size e
          exact k5 b o (Nat.ne_of_lt hb0) (by rw [Heap.size_push]; exact Nat.ne_of_lt (Nat.lt_succ_of_lt hb0)) (Heap.get?_push_of_some _ (Heap.get?_push_of_some _ e))
      · cases r₂ with
        | error e => exact hr₂
        | ok fl₂ =>
          cases fl₂ with
          | ret r =>
            obtain ⟨rfl, h', tk, rfl, hS', hk'⟩ := hr₂
            repeat (any_goals (first | assumption | wp_step))
            exact h _ _ hS' hk'
          | _ => exact hr₂.elim
    | _ => exact hr.elim
end
end
section
open PySem PySem.W PyProof.Rows PySem.Calls
set_option Elab.async false
set_option maxRecDepth 100000
set_option maxHeartbeats 4000000
theorem ty_contains : typeOf (.builtin "set.__contains__") = pure (.type "method_descriptor") := by show builtinType _ = _; rw [builtinType_eq_fast]; kernel_rfl
theorem lk_contains : typeLookup (.type "set") "__contains__" = pure (some (.builtin "set.__contains__")) := F.slot_set_contains.lookup
theorem md_get : typeLookup (.type "method_descriptor") "__get__" = pure (some (.builtin "method_descriptor.__get__")) := by rw [typeLookup_type, builtinLookup_eq_fast]; kernel_rfl
theorem md_set : typeLookup (.type "method_descriptor") "__set__" = pure none := by rw [typeLookup_type, builtinLookup_eq_fast]; kernel_rfl
theorem md_delete : typeLookup (.type "method_descriptor") "__delete__" = pure none := by rw [typeLookup_type, builtinLookup_eq_fast]; kernel_rfl
theorem slot_mdget : Slot "method_descriptor" "__get__" "method_descriptor.__get__" :=
  .of (owner := "method_descriptor") (n := "__get__") (by rw [typeLookup_type, builtinLookup_eq_fast]; kernel_rfl) (by decide +kernel) (by decide +kernel) (by decide +kernel)
    (by first | exact .inl (by decide +kernel) | exact .inr (by decide +kernel)) (by rw [isSubtype_type]; kernel_rfl)
theorem entry_mdget : entryFor table "method_descriptor.__get__" = some Builtin.«method_descriptor.__get__» := entryFor_of_fast (by kernel_rfl)
theorem args_mdget (a b c : Value) : argsOk "method_descriptor.__get__" ⟨[a, b, c], []⟩ := by unfold argsOk; kernel_rfl
theorem told_contains : Manifest.toldItsClass.contains "set.__contains__" = false := by decide +kernel
def boundO (S : Addr) : Obj := { cls := .type "builtin_function_or_method", data := .fields #[.builtin "set.__contains__", .ref S] }
theorem ga_contains {prog : Program} {w : World} {A : Around} {E : Value → Shared → Prop} {S : Addr} {dat : Data} {sl : Array (Option Value)} {Q : Value → Shared → Prop} {hp : Heap} {g : Array GenState} {d : Drawn} {tk : Nat} {os : OsState} {u : Tok}
    (hx : hp.get? S = some { cls := .type "set", dict := none, data := dat, slots := sl }) (es : Array (Int × Value)) (ep : Nat) (tb : SetTable) (hdat : dat = .set es ep tb)
    (h : Q (.ref hp.objs.size) ⟨hp.push (boundO S), g, d, tk, os⟩) : wpAny (model prog w) A (Builtin.«object.__getattribute__» ⟨[.ref S, .str "__contains__" u], []⟩) (fun fin s' => ∃ v, fin = .done (.ret v) ∧ Q v s') E ⟨hp, g, d, tk, os⟩ := by
  subst hdat
  have hT : (⟨hp, g, d, tk, os⟩ : Shared).TypeIs (.ref S) "set" := ⟨_, hx, rfl⟩
  have f1 := ty_contains
  have f2 := lk_contains
  have f3 := md_get
  have f4 := md_set
  have f5 := md_delete
  have hname : (["__module__", "__name__", "__qualname__", "__doc__", "__annotations__"] : List Str).contains (Str.ofString "__contains__") = false := by decide
  unfold Builtin.«object.__getattribute__»
  refine wpAny_bind (wpAny_pure (a := (Value.ref S, [Value.str (Str.ofString "__contains__") u])) ?_)
  dsimp only
  refine wpAny_bind (wpAny_pure (a := Str.ofString "__contains__") ?_)
  refine wpAny_bind (wpAny_typeOf hT ?_)
  refine wpAny_bind ?_
  unfold Builtin.ObjectAttr.find
  refine wpAny_bind (wpAny_of_eq f2 ?_)
  refine wpAny_bind (wpAny_specialOf (T := "method_descriptor") ty_contains md_get ?_)
  refine wpAny_bind (wpAny_bind ?_)
  unfold Builtin.ObjectAttr.takesStores
  refine wpAny_bind (wpAny_specialOf (T := "method_descriptor") ty_contains md_set ?_)
  rw [if_neg (by decide)]
  refine wpAny_bind (wpAny_specialOf (T := "method_descriptor") ty_contains md_delete ?_)
  refine wpAny_pure ?_
  rw [if_neg (by decide)]
  refine wpAny_pure ?_
  dsimp only
  repeat (any_goals (first | assumption | wp_step))
  have hT2 : (⟨hp, g, d, tk, os⟩ : Shared).TypeIs (.builtin "set.__contains__") "method_descriptor" := ty_contains
  refine codeAny_call_builtin slot_mdget.plain entry_mdget (slot_mdget.check _ _ _ _ _ _ _ _ hT2 (args_mdget _ _ _) ?_)
  have f6 := told_contains
  have f7 := sub_set_self
  show wpAny _ _ (Builtin.«method_descriptor.__get__» _) _ _ _
  refine wpAny_bind (wpAny_pure (a := (Value.builtin "set.__contains__", some (Value.ref S), some (Value.type "set"))) ?_)
  dsimp only
  rw [f6]
  rw [if_neg (by decide)]
  have f8 : (".".intercalate ("set.__contains__".cutAt '.').dropLast) = "set" := by decide +kernel
  refine wpAny_bind ?_
  refine wpAny_bind (m := pure (Str.ofString (("set.__contains__".cutAt '.').getLastD ""), Value.type (".".intercalate ("set.__contains__".cutAt '.').dropLast))) (wpAny_pure ?_)
  dsimp only
  rw [f8]
  refine wpAny_bind (wpAny_isInstance hT sub_set_self ?_)
  rw [if_neg (by decide)]
  refine wpAny_pure ?_
  refine wpAny_bind (wpAny_newObj_type ?_ (by size_fits))
  refine wpAny_pure ?_
  exact wpAny_pure ⟨_, rfl, h⟩
theorem get_contains {prog : Program} {w : World} {A : Around} {E : Value → Shared → Prop} {s : Shared} {S : Addr} {es : List Str} {b : Nat} {ex : Bool} {Q : Value → Shared → Prop} (hS : StrSet prog w s.heap S es b)
    (h : Q (.ref s.heap.objs.size) { s with heap := s.heap.push (boundO S), toks := s.toks + 1 }) : wpAny (model prog w) A (getAttr (.ref S) "__contains__" ex) Q E s := by
  obtain ⟨m, -, ⟨cls, dct, dat, sl⟩, es', ep, tb, ho, ⟨hc, hd, -⟩, hdat, -⟩ := hS
  simp only at hc hd hdat
  subst hc hd
  obtain ⟨hp, g, d, tk, os⟩ := s
  have hT : ∀ tk', (⟨hp, g, d, tk', os⟩ : Shared).TypeIs (.ref S) "set" := fun _ => ⟨_, ho, rfl⟩
  unfold getAttr getAttrBy
  refine wpAny_bind (wpAny_mkText (wpAny_holding ?_))
  refine wpAny_bind (wpAny_typeOf (hT _) ?_)
  refine wpAny_bind (wpAny_of_eq F.slot_set_getattribute.lookup ?_)
  dsimp only
  rw [if_neg (by decide)]
  unfold getAttrByItsOwn
  refine wpAny_bind (wpAny_pure ?_)
  refine wpAny_bind (wpAny_attempt (wpAny_holding ?_))
  unfold callGetattribute
  rw [if_neg (by simp [onTheHeap])]
  unfold boundAndCalled
  refine wpAny_bind (wpAny_of_eq (F.slot_set_getattribute.bind _) ?_)
  refine wpAny_call_entry F.slot_set_getattribute (hT _) PySem.F.entry_set_ga ?_ (F.args_set_getattribute_2 _ _)
  refine ga_contains ho es' ep tb hdat ?_
  exact wpAny_pure h
end
section
open PySem PySem.W PyProof.Rows PySem.Calls
set_option Elab.async false
set_option maxRecDepth 100000
set_option maxHeartbeats 4000000
theorem fi_slot_iter : Slot "filter" "__iter__" "filter.__iter__" :=
  .of (owner := "filter") (n := "__iter__") (by rw [typeLookup_type, builtinLookup_eq_fast]; kernel_rfl) (by decide +kernel) (by decide +kernel) (by decide +kernel)
    (by first | exact .inl (by decide +kernel) | exact .inr (by decide +kernel)) (by rw [isSubtype_type]; kernel_rfl)
theorem fi_slot_next : Slot "filter" "__next__" "filter.__next__" :=
  .of (owner := "filter") (n := "__next__") (by rw [typeLookup_type, builtinLookup_eq_fast]; kernel_rfl) (by decide +kernel) (by decide +kernel) (by decide +kernel)
    (by first | exact .inl (by decide +kernel) | exact .inr (by decide +kernel)) (by rw [isSubtype_type]; kernel_rfl)
theorem fi_slot_init : Slot "filter" "__init__" "object.__init__" :=
  .of (owner := "object") (n := "__init__") (by rw [typeLookup_type, builtinLookup_eq_fast]; kernel_rfl) (by decide +kernel) (by decide +kernel) (by decide +kernel)
    (by first | exact .inl (by decide +kernel) | exact .inr (by decide +kernel)) (by rw [isSubtype_type]; kernel_rfl)
theorem fi_entry_iter : entryFor table "filter.__iter__" = some Builtin.«dict_keyiterator.__iter__» :=
  entryFor_alias (id' := "dict_keyiterator.__iter__") (by kernel_rfl) (by first | rfl | decide +kernel) (by decide +kernel) (by kernel_rfl)
theorem fi_entry_next : entryFor table "filter.__next__" = some Builtin.«filter.__next__» := entryFor_of_fast (by kernel_rfl)
theorem fi_entry_new : entryFor table "filter.__new__" = some Builtin.«filter.__new__» := entryFor_of_fast (by kernel_rfl)
theorem fi_args_iter (a : Value) : argsOk "filter.__iter__" ⟨[a], []⟩ := by unfold argsOk; kernel_rfl
theorem fi_args_next (a : Value) : argsOk "filter.__next__" ⟨[a], []⟩ := by unfold argsOk; kernel_rfl
theorem fi_mro : mroOf (.type "filter") = pure [.type "filter", .type "object"] := by rw [mroOf_type]; kernel_rfl
theorem fi_lookup_new : typeLookup (.type "filter") "__new__" = pure (some (.builtin "filter.__new__")) := by rw [typeLookup_type, builtinLookup_eq_fast]; kernel_rfl
theorem fi_called : TypeCalled "filter" "filter.__new__" "object.__init__" :=
  ⟨by decide +kernel, by decide +kernel, ⟨_, _, fi_mro⟩, madeBy_type fi_mro fi_lookup_new (by decide +kernel), by decide +kernel, by rw [isSubtype_type]; kernel_rfl, fi_slot_init⟩
theorem fi_typeCall (a b : Value) : checkTypeCall "filter" ⟨[a, b], []⟩ = pure () := by kernel_rfl
theorem fi_newCall (a b : Value) : checkBuiltinCall "filter.__new__" ⟨[.type "filter", a, b], []⟩ = pure () := by kernel_rfl
theorem fi_sub : isSubtype (.type "filter") (.type "filter") = pure true := by rw [isSubtype_type]; kernel_rfl
theorem fi_no_len : typeLookup (.type "filter") "__len__" = pure none := by rw [typeLookup_type, builtinLookup_eq_fast]; kernel_rfl
theorem fi_no_hint : typeLookup (.type "filter") "__length_hint__" = pure none := by rw [typeLookup_type, builtinLookup_eq_fast]; kernel_rfl
def filtO (bm it : Addr) : Obj := { cls := .type "filter", data := .fields #[.ref bm, .ref it] }
def litO (l : Addr) : Obj := { cls := .type "list_iterator", data := .fields #[.ref l, .int 0 0] }
theorem fi_new (bm l : Addr) (items : Array Value) (n : Nat) :
    Meets (Builtin.«filter.__new__» ⟨[.type "filter", .ref bm, .ref l], []⟩) (fun _ R s => s.heap.get? l = some (W.listOf items n) ∧
      R (.ok (.ret (.ref (s.heap.push (litO l)).objs.size))) { s with heap := (s.heap.push (litO l)).push (filtO bm s.heap.objs.size) }) :=
  .of_wp fun prog w A R s h => by
    obtain ⟨hp, g, d, tk, os⟩ := s; obtain ⟨hl, h⟩ := h
    have hsub := fi_sub
    have hL : Heap.IsList (Shared.heap ⟨hp, g, d, tk, os⟩) l items := ⟨_, hl, rfl, n, rfl⟩
    unfold Builtin.«filter.__new__»
    wp_walk using wpAny_pyIter_list hL
    exact ⟨_, rfl, h⟩
section
variable {prog : Program} {w : World} {A : Around} {E : Value → Shared → Prop} {s : Shared}
theorem call_filter {bm l : Addr} {items : Array Value} {n : Nat} {Q : Value → Shared → Prop} (hl : s.heap.get? l = some (W.listOf items n))
    (h : Q (.ref (s.heap.objs.size + 1)) { s with heap := (s.heap.push (litO l)).push (filtO bm s.heap.objs.size) }) : wpAny (model prog w) A (call (.type "filter") [.ref bm, .ref l]) Q E s := by
  refine callType_new fi_called (by decide) (fi_typeCall _ _) (fi_newCall _ _) (fun obj => PySem.F.args_object_init_3 obj _ _) fi_entry_new (fi_new bm l items n) ⟨hl, ?_⟩
  have z : (s.heap.push (litO l)).objs.size = s.heap.objs.size + 1 := Heap.size_push ..
  have g : ((s.heap.push (litO l)).push (filtO bm s.heap.objs.size)).get? (s.heap.push (litO l)).objs.size = some _ := Heap.get?_push_size _ rfl
  show _ ∧ _
  rw [z] at g ⊢
  exact ⟨⟨_, g, rfl⟩, h⟩
end
end
section
open PySem PySem.W PyProof.Rows PySem.Calls
set_option Elab.async false
set_option maxRecDepth 100000
set_option maxHeartbeats 4000000
theorem sub_set_module : isSubtype (.type "set") (.type "module") = pure false := by rw [isSubtype_type]; kernel_rfl
theorem bc_sig : Manifest.signature? "set.__contains__" = some ⟨.oneArg, "set.__contains__", "__contains__", .self, [⟨"object", .posOnly, true⟩]⟩ := by
  rw [signature?_of (id := "set.__contains__") (n := ['_', '_', 's', 'n', 'i', 'a', 't', 'n', 'o', 'c', '_', '_']) (o := ['t', 'e', 's']) (by kernel_rfl) PySem.F.owner_set]; kernel_rfl
theorem bc_kind : builtinKind "set.__contains__" = some .method := by decide +kernel
theorem bc_name : Bind.lastOf "set.__contains__" = "__contains__" := by decide +kernel
theorem bc_set : Bind.lastOf "set" = "set" := by decide +kernel
theorem bc_var : Manifest.varargsMethods.contains "set.__contains__" = false := by decide +kernel
theorem bc_args (a b : Value) : Bind.checkArgs "set.__contains__" ⟨.oneArg, s!"{Bind.lastOf "set"}.{Bind.lastOf "set.__contains__"}", "__contains__", .self, [⟨"object", .posOnly, true⟩]⟩ ⟨[a, b], []⟩ = pure () := by kernel_rfl
section
variable {prog : Program} {w : World} {A : Around} {E : Value → Shared → Prop} {s : Shared}
theorem check_bound {Q : Unit → Shared → Prop} {S : Addr} {es : List Str} {b : Nat} {x : Value} (hS : StrSet prog w s.heap S es b) (h : Q () s) : wpAny (model prog w) A (checkBoundCall "set.__contains__" ⟨[.ref S, x], []⟩) Q E s := by
  obtain ⟨m, -, o, es', ep, tb, ho, ⟨hc, hd, -⟩, hdat, -⟩ := hS
  have hT : s.TypeIs (.ref S) "set" := ⟨_, ho, hc⟩
  unfold checkBoundCall
  rw [bc_sig]
  dsimp only
  rw [bc_kind]
  dsimp only
  rw [if_neg (by decide)]
  refine wpAny_bind (wpAny_isInstance hT sub_set_module ?_)
  rw [if_neg (by rw [bc_var]; decide)]
  refine wpAny_bind ?_
  show wpAny _ _ (loadHead S >>= _) _ _ _
  refine wpAny_bind (wpAny_loadPart ho ?_)
  rw [hdat]
  refine wpAny_pure ?_
  rw [if_neg (by dsimp only; decide)]
  refine wpAny_bind (wpAny_typeOf hT ?_)
  exact wpAny_of_eq (bc_args _ _) h
theorem set_has {Q : Value → Shared → Prop} {S : Addr} {es : List Str} {b : Nat} {x : Str} {t : Tok} (hS : StrSet prog w s.heap S es b) (h : Q (.bool (es.contains x)) { s with toks := s.toks + 1 }) :
    wpAny (model prog w) A (Builtin.«frozenset.__contains__» ⟨[.ref S, .str x t], []⟩) (fun fin s' => ∃ v, fin = .done (.ret v) ∧ Q v s') E s := by
  obtain ⟨m, -, hS⟩ := hS
  unfold Builtin.«frozenset.__contains__» Builtin.Frozenset.oneOther
  simp only [List.isEmpty_nil, bind_assoc]
  unfold Builtin.Frozenset.addrOf Builtin.Frozenset.withSetAsKey setContains
  refine wpAny_bind (wpAny_pure ?_)
  try dsimp only
  refine wpAny_bind (wpAny_pure ?_)
  try dsimp only
  refine wpAny_bind (wpAny_tryCatch (wpAny_holding ?_))
  refine wpAny_bind ((PySem.strKind prog w).pyHash (k := x) (strKind_is _ _ _ _) ?_)
  refine wpAny_bind (wpAny_setFind_of (s := { s with toks := s.toks + 1 }) (strKind_is _ _ _ _) rfl hS fun r hr => ?_)
  refine wpAny_pure ?_
  show wpAny _ _ (ret (Value.bool r.isSome)) _ _ _
  rw [hr]
  exact wpAny_pure ⟨_, rfl, h⟩
theorem call_bound {Q : Value → Shared → Prop} {bm S : Addr} {es : List Str} {b : Nat} {x : Str} {t : Tok} (hb : s.heap.get? bm = some (boundO S)) (hS : StrSet prog w s.heap S es b) (h : Q (.bool (es.contains x)) { s with toks := s.toks + 1 }) :
    wpAny (model prog w) A (call (.ref bm) [.str x t]) Q E s := by
  refine wpAny_call (codeAny_of_tree ?_)
  show wpAny _ _ (callAny (.ref bm) ⟨[.str x t], []⟩) _ _ _
  unfold callAny
  refine wpAny_bind (wpAny_load hb ?_)
  unfold boundO
  dsimp only
  rw [if_pos (by decide)]
  show wpAny _ _ (if (Value.type "builtin_function_or_method" != Value.type "method") = true then do
          checkBoundCall "set.__contains__" ⟨[.ref S, Value.str x t], []⟩
          again (Code.builtin "set.__contains__" ⟨[.ref S, Value.str x t], []⟩)
        else again (Code.call (.builtin "set.__contains__") ⟨[.ref S, Value.str x t], []⟩)) _ _ _
  rw [if_pos (by decide)]
  refine wpAny_bind (check_bound hS ?_)
  refine wpAny_pure ⟨plainId_quiet PySem.F.slot_set_contains.plain _, codeAny_builtin entry_set_contains ?_⟩
  refine wpAny_mono (set_has (E := E) hS h) (fun fin s' q => ?_) (fun _ _ q => q)
  obtain ⟨v, rfl, q⟩ := q
  exact q
/-! the list iterator's next -/
theorem lit_item {it l : Addr} {i : Nat} {items : Array Value} {x : Value} {Q : Option Value → Shared → Prop} (hit : s.heap.IsListIter it l i) (hl : s.heap.IsList l items) (hx : items[i]? = some x)
    (hQ : ∀ h', h'.IsListIter it l (i + 1) → Heap.SameBut it s.heap h' → Q (some x) { s with heap := h' }) : wpAny (model prog w) A (callSpecial? (.ref it) "__next__") Q E s := by
  obtain ⟨o, ho, hc, hd⟩ := id hit
  obtain ⟨ol, hol, _, nl, hdl⟩ := hl
  refine wpAny_callSpecial?_slot hit.typeIs slot_listiter_next (wpAny_call_entry slot_listiter_next hit.typeIs entry_listiter_next ?_ (args_listiter_next _))
  show wpAny _ _ (field (.ref it) 0 >>= _) _ _ s
  refine wpAny_bind (wpAny_field ho hd (x := .ref l) rfl ?_)
  show wpAny _ _ (if (Value.ref l == Value.none) = true then _ else _) _ _ s
  rw [if_neg (show ¬ ((Value.ref l == Value.none) = true) from Bool.false_ne_true)]
  show wpAny _ _ (field (.ref it) 1 >>= _) _ _ s
  refine wpAny_bind (wpAny_field ho hd (x := .int i 0) rfl ?_)
  show wpAny _ _ (seqItems? (.ref l) >>= _) _ _ s
  refine wpAny_bind (wpAny_seqItems hol hdl ?_)
  simp only [Int.toNat_natCast, hx]
  refine wpAny_bind (wpAny_setField ho hd (by simp) (wpAny_pure ⟨x, rfl, hQ _ ?_ (Heap.SameBut.update ..)⟩))
  exact ⟨_, Heap.get?_update_self _ ho (Obj.isFreed_of_fields (Obj.data_mapFields hd _)), (Obj.cls_mapFields ..).trans hc, by
    rw [Obj.data_mapFields hd]; simp [rawInt]⟩
theorem lit_end {it l : Addr} {i : Nat} {items : Array Value} {Q : Option Value → Shared → Prop} (hh : A.handled = none) (hit : s.heap.IsListIter it l i) (hl : s.heap.IsList l items) (hx : items[i]? = none)
    (hQ : ∀ h' e, Heap.ExtBut it s.heap h' → (∃ o, h'.get? e = some o ∧ o.cls = .type "StopIteration") → E (.ref e) { s with heap := h' }) : wpAny (model prog w) A (callSpecial? (.ref it) "__next__") Q E s := by
  obtain ⟨o, ho, hc, hd⟩ := id hit
  obtain ⟨ol, hol, _, nl, hdl⟩ := hl
  refine wpAny_callSpecial?_slot hit.typeIs slot_listiter_next (wpAny_call_entry slot_listiter_next hit.typeIs entry_listiter_next ?_ (args_listiter_next _))
  show wpAny _ _ (field (.ref it) 0 >>= _) _ _ s
  refine wpAny_bind (wpAny_field ho hd (x := .ref l) rfl ?_)
  show wpAny _ _ (if (Value.ref l == Value.none) = true then _ else _) _ _ s
  rw [if_neg (show ¬ ((Value.ref l == Value.none) = true) from Bool.false_ne_true)]
  show wpAny _ _ (field (.ref it) 1 >>= _) _ _ s
  refine wpAny_bind (wpAny_field ho hd (x := .int i 0) rfl ?_)
  show wpAny _ _ (seqItems? (.ref l) >>= _) _ _ s
  refine wpAny_bind (wpAny_seqItems hol hdl ?_)
  simp only [Int.toNat_natCast, hx]
  refine wpAny_bind (wpAny_rule (wpAny_bind (wpAny_setField ho hd (by simp) ?_)))
  show wpAny _ _ (newExc (.type "StopIteration") [] >>= _) _ _ _
  refine wpAny_bind ?_
  simp only [newExc, newTuple]
  refine wpAny_bind (wpAny_newObj_type ?_ (by size_fits))
  refine wpAny_bind (m := firstArgMember _ _) (wpAny_of_eq (a := Value.none) (by first | rfl | (simp only [firstArgMember]; rfl)) ?_)
  refine wpAny_newObj_type ?_ (by size_fits)
  simp only [raiseNew]
  refine wpAny_bind (wpAny_handled ?_)
  rw [show A.in1.handled = none from hh]
  refine wpAny_bind (wpAny_pure (wpAny_throw ?_))
  exact hQ _ _ (((Heap.SameBut.update ..).extBut.push _).push _) ⟨_, Heap.get?_push_size _ rfl, rfl⟩
end
end
section
open PySem PySem.W PyProof.Rows PySem.Calls
set_option Elab.async false
set_option maxRecDepth 100000
set_option maxHeartbeats 4000000
theorem fi_plain_next : plainId "filter.__next__" = true := by decide +kernel
structure Filt (prog : Program) (w : World) (h : Heap) (f bm it l S : Addr) (items : Array Value) (es : List Str) (b i : Nat) : Prop where
  f : h.get? f = some (filtO bm it)
  bm : h.get? bm = some (boundO S)
  set : StrSet prog w h S es b
  it : h.IsListIter it l i
  l : h.IsList l items
section
variable {prog : Program} {w : World} {A : Around} {f bm it l S : Addr} {items : Array Value} {ts es : List Str} {b : Nat}
theorem StrSet.but {h h' : Heap} {S : Addr} {es : List Str} {b : Nat} (x : StrSet prog w h S es b) (k : ∀ o, h.get? S = some o → h'.get? S = some o) : StrSet prog w h' S es b := by
  obtain ⟨m, hm, o, es', ep, t, ho, rest⟩ := x
  exact ⟨m, hm, o, es', ep, t, k o ho, rest⟩
theorem filt_next {R : Result → Shared → Prop} (hh : A.in1.handled = none) (h1 : f ≠ it) (h2 : bm ≠ it) (h3 : S ≠ it) (h4 : l ≠ it) (hts : StrsAre items.toList ts) :
    ∀ (k i : Nat) (s : Shared), items.size - i = k → Filt prog w s.heap f bm it l S items es b i →
      (∀ j x t h' tk, i ≤ j → items[j]? = some (.str x t) → es.contains x = true → (∀ m, i ≤ m → m < j → ∀ y, ts[m]? = some y → es.contains y = false) → h'.IsListIter it l (j + 1) → (∀ c o, c ≠ it → s.heap.get? c = some o → h'.get? c = some o) → s.toks ≤ tk → R (.ok (.ret (.str x t))) { s with heap := h', toks := tk }) →
      ((∀ m, i ≤ m → ∀ y, ts[m]? = some y → es.contains y = false) → ∀ h' tk e, (∀ c o, c ≠ it → s.heap.get? c = some o → h'.get? c = some o) → (∃ o, h'.get? e = some o ∧ o.cls = .type "StopIteration") → s.toks ≤ tk → R (.error (.ref e)) { s with heap := h', toks := tk }) →
      codeAny (model prog w) A (.builtin "filter.__next__" ⟨[.ref f], []⟩) R s := by
  intro k
  induction k with
  | zero =>
    intro i s hk F hit stop
    refine codeAny_builtin fi_entry_next ?_
    rw [Around.under_plainId fi_plain_next _]
    show wpAny _ A.in1 (field (.ref f) 0 >>= _) _ _ s
    refine wpAny_bind (wpAny_field F.f rfl (x := .ref bm) rfl ?_)
    refine wpAny_bind (wpAny_field F.f rfl (x := .ref it) rfl ?_)
    refine wpAny_bind (lit_end hh F.it F.l (by rw [Array.getElem?_eq_none_iff]; omega) fun h' e k' he => ?_)
    refine stop (fun m hm y hy => ?_) h' s.toks e (fun c o hc q => k' c o hc q) he (Nat.le_refl _)
    have := (List.getElem?_eq_some_iff.mp hy).1
    rw [← strs_len hts, Array.length_toList] at this
    omega
  | succ k ih =>
    intro i s hk F hit stop
    have hlt : i < items.size := by omega
    refine codeAny_builtin fi_entry_next ?_
    rw [Around.under_plainId fi_plain_next _]
    show wpAny _ A.in1 (field (.ref f) 0 >>= _) _ _ s
    refine wpAny_bind (wpAny_field F.f rfl (x := .ref bm) rfl ?_)
    refine wpAny_bind (wpAny_field F.f rfl (x := .ref it) rfl ?_)
    obtain ⟨x, t, hx, hxt⟩ := strs_get hts (show items.toList[i]? = some items[i] by simp [hlt])
    have hxi : items[i]? = some (.str x t) := by rw [Array.getElem?_eq_getElem hlt, hx]
    refine wpAny_bind (lit_item F.it F.l hxi fun h' hit' k' => ?_)
    have kb : ∀ c o, c ≠ it → s.heap.get? c = some o → h'.get? c = some o := fun c o hc q => (k'.2 c hc).trans q
    have F' : Filt prog w h' f bm it l S items es b (i + 1) := ⟨kb _ _ h1 F.f, kb _ _ h2 F.bm, F.set.but fun o q => kb _ _ h3 q, hit', F.l.at fun o q => kb _ _ h4 q⟩
    dsimp only
    refine wpAny_bind (wpAny_holding ?_)
    rw [if_neg (show ¬ ((Value.ref bm == Value.none || Value.ref bm == Value.type "bool") = true) from Bool.false_ne_true)]
    refine wpAny_bind (call_bound F'.bm F'.set ?_)
    refine wpAny_holding (wpAny_truthy_bool ?_)
    cases hb : es.contains x with
    | true =>
      rw [if_pos rfl]
      exact wpAny_pure (hit i x t h' (s.toks + 1) (Nat.le_refl _) hxi hb (fun m a c => absurd c (Nat.not_lt.mpr a)) hit' kb (Nat.le_succ _))
    | false =>
      rw [if_neg (by decide)]
      have skip : ∀ m y, ts[m]? = some y → m = i → es.contains y = false := fun m y hy e => by
        rw [e, hxt] at hy
        rw [← Option.some.inj hy]; exact hb
      refine wpAny_pure ⟨plainId_quiet fi_plain_next _, ih (i + 1) ⟨h', s.gens, s.drawn, s.toks + 1, s.os⟩ (by omega) F' ?_ ?_⟩
      · intro j x' t' h2 tk2 hij hx' hc' hno hit2 k2 ht2
        refine hit j x' t' h2 tk2 (by omega) hx' hc' (fun m a c y hy => ?_) hit2 (fun c o hc q => k2 c o hc (kb c o hc q)) (Nat.le_trans (Nat.le_succ _) ht2)
        by_cases e : m = i
        · exact skip m y hy e
        · exact hno m (by omega) c y hy
      · intro hno h2 tk2 e2 k2 he2 ht2
        refine stop (fun m a y hy => ?_) h2 tk2 e2 (fun c o hc q => k2 c o hc (kb c o hc q)) he2 (Nat.le_trans (Nat.le_succ _) ht2)
        by_cases e : m = i
        · exact skip m y hy e
        · exact hno m (by omega) y hy
/-- how many of the first i pass -/
def kept (ts es : List Str) (i : Nat) : Nat := ((ts.take i).filter fun a => es.contains a).length
theorem take_filter_step {ts es : List Str} {i j : Nat} (hij : i ≤ j) (h : ∀ m, i ≤ m → m < j → ∀ y, ts[m]? = some y → es.contains y = false) : (ts.take j).filter (fun a => es.contains a) = (ts.take i).filter fun a => es.contains a := by
  obtain ⟨d, rfl⟩ := Nat.le.dest hij
  clear hij
  induction d with
  | zero => rfl
  | succ d ih =>
    rw [← ih fun m a c => h m a (by omega)]
    cases q : ts[i + d]? with
    | none =>
      have hl : ts.length ≤ i + d := List.getElem?_eq_none_iff.mp q
      rw [List.take_of_length_le (i := i + (d + 1)) (by omega), List.take_of_length_le (i := i + d) hl]
    | some y =>
      rw [show i + (d + 1) = i + d + 1 from rfl, Mine.take_snoc q, List.filter_append]
      have := h (i + d) (by omega) (by omega) y q
      rw [List.filter_cons, if_neg (by rw [this]; decide), List.filter_nil, List.append_nil]
theorem kept_at {ts es : List Str} {i j : Nat} {x : Str} (hij : i ≤ j) (h : ∀ m, i ≤ m → m < j → ∀ y, ts[m]? = some y → es.contains y = false) (hx : ts[j]? = some x) (hc : es.contains x = true) :
    (ts.filter fun a => es.contains a)[kept ts es i]? = some x ∧ kept ts es (j + 1) = kept ts es i + 1 := by
  have e1 : (ts.take (j + 1)).filter (fun a => es.contains a) = (ts.take i).filter (fun a => es.contains a) ++ [x] := by
    rw [Mine.take_snoc hx, List.filter_append, take_filter_step hij h, List.filter_cons, if_pos hc, List.filter_nil]
  refine ⟨?_, by unfold kept; rw [e1, List.length_append]; rfl⟩
  have e2 : ts.filter (fun a => es.contains a) = (ts.take (j + 1)).filter (fun a => es.contains a) ++ (ts.drop (j + 1)).filter fun a => es.contains a := by rw [← List.filter_append, List.take_append_drop]
  rw [e2, e1, List.append_assoc]
  unfold kept
  rw [List.getElem?_append_right (Nat.le_refl _), Nat.sub_self]
  rfl
theorem kept_end {ts es : List Str} {i : Nat} (h : ∀ m, i ≤ m → ∀ y, ts[m]? = some y → es.contains y = false) : kept ts es i = (ts.filter fun a => es.contains a).length := by
  unfold kept
  by_cases hi : i ≤ ts.length
  · rw [← take_filter_step hi (fun m a _ => h m a), List.take_length]
  · rw [List.take_of_length_le (by omega)]
theorem filt_walk (hh : A.in1.handled = none) (h1 : f ≠ it) (h2 : bm ≠ it) (h3 : S ≠ it) (h4 : l ≠ it) (hts : StrsAre items.toList ts) :
    WalksS prog w A f [f, bm, S, it, l] [it] (fun a b => a = b) (ts.filter fun a => es.contains a).length (fun i v => ∃ x t, v = .str x t ∧ (ts.filter fun a => es.contains a)[i]? = some x)
      (fun c s => ∃ i, kept ts es i = c ∧ Filt prog w s.heap f bm it l S items es b i) where
  sub := fun c hc => by rw [List.mem_singleton.mp hc]; simp
  grefl := fun _ => rfl
  gtrans := fun _ _ _ p q => p.trans q
  frame := fun c s h' tk ⟨i, hi, F⟩ _ hk => ⟨i, hi, hk f (by simp) _ F.f, hk bm (by simp) _ F.bm, F.set.but fun o q => hk S (by simp) _ q, F.it.at fun o q => hk it (by simp) o q, F.l.at fun o q => hk l (by simp) o q⟩
  item := fun c s Q E hc ⟨i, hi, F⟩ hQ => by
    have hT : s.TypeIs (.ref f) "filter" := ⟨_, F.f, rfl⟩
    unfold pyNext
    refine wpAny_bind (wpAny_attempt (wpAny_callSpecial?_slot (name := Str.ofString "__next__") hT fi_slot_next (wpAny_call (codeAny_of_tree ?_))))
    show wpAny _ A.in1 (do checkBuiltinCall "filter.__next__" ⟨[.ref f], []⟩; again (.builtin "filter.__next__" ⟨[.ref f], []⟩)) _ _ s
    refine wpAny_bind (fi_slot_next.check _ _ _ _ _ _ _ _ hT (fi_args_next _) (wpAny_pure ⟨plainId_quiet fi_plain_next _, filt_next hh h1 h2 h3 h4 hts _ i s rfl F ?_ ?_⟩))
    · intro j x t h' tk hij hx hcx hno hit k' ht
      have hxj : ts[j]? = some x := by
        obtain ⟨a, t', e, q⟩ := strs_get hts (show items.toList[j]? = some (.str x t) by simpa using hx)
        cases e; exact q
      obtain ⟨g1, g2⟩ := kept_at hij hno hxj hcx
      exact wpAny_pure (hQ _ _ ⟨x, t, rfl, by rw [← hi]; exact g1⟩ ⟨j + 1, by rw [g2, hi], k' _ _ h1 F.f, k' _ _ h2 F.bm, F.set.but fun o q => k' _ _ h3 q, hit, F.l.at fun o q => k' _ _ h4 q⟩
        ⟨fun c o hc q => k' c o (by simpa using hc) q, rfl, rfl, rfl, ht⟩)
    · intro hno
      have := kept_end hno
      omega
  done := fun s Q E ⟨i, hi, F⟩ hQ => by
    have hT : s.TypeIs (.ref f) "filter" := ⟨_, F.f, rfl⟩
    unfold pyNext
    refine wpAny_bind (wpAny_attempt (wpAny_callSpecial?_slot (name := Str.ofString "__next__") hT fi_slot_next (wpAny_call (codeAny_of_tree ?_))))
    show wpAny _ A.in1 (do checkBuiltinCall "filter.__next__" ⟨[.ref f], []⟩; again (.builtin "filter.__next__" ⟨[.ref f], []⟩)) _ _ s
    refine wpAny_bind (fi_slot_next.check _ _ _ _ _ _ _ _ hT (fi_args_next _) (wpAny_pure ⟨plainId_quiet fi_plain_next _, filt_next hh h1 h2 h3 h4 hts _ i s rfl F ?_ ?_⟩))
    · intro j x t h' tk hij hx hcx hno hit k' ht
      have hxj : ts[j]? = some x := by
        obtain ⟨a, t', e, q⟩ := strs_get hts (show items.toList[j]? = some (.str x t) by simpa using hx)
        cases e; exact q
      obtain ⟨g1, -⟩ := kept_at hij hno hxj hcx
      rw [hi] at g1
      have := (List.getElem?_eq_some_iff.mp g1).1
      omega
    · intro hno h' tk e k' he ht
      obtain ⟨o, ho, hc⟩ := he
      refine wpAny_bind (wpAny_isInstance (T := "StopIteration") (b := true) ⟨o, ho, hc⟩ isSubtype_stop ?_)
      exact wpAny_pure (hQ _ ⟨fun c o hc q => k' c o (by simpa using hc) q, rfl, rfl, rfl, ht⟩)
  self := fun c s Q E ⟨i, hi, F⟩ hQ => by
    have hT : s.TypeIs (.ref f) "filter" := ⟨_, F.f, rfl⟩
    refine wpAny_pyIter_slot hT fi_slot_iter (wpAny_call_entry fi_slot_iter hT fi_entry_iter ?_ (fi_args_iter _))
    show wpAny _ _ (ret (.ref f)) _ _ s
    exact wpAny_pure ⟨_, rfl, "filter", _, hT, fi_slot_next.lookup, hQ⟩
end
section
variable {prog : Program} {w : World} {A : Around} {s : Shared} {R : Result → Shared → Prop}
variable {I : Addr} {fp wr : List Addr} {G : Array GenState → Array GenState → Prop} {n : Nat} {P : Nat → Value → Prop} {St : Nat → Shared → Prop}
/-- a list drawn from a filter -/
theorem ext_filter (W : WalksS prog w A.in1 I fp wr G n P St) (hT : ∀ i s, St i s → s.TypeIs (.ref I) "filter") (S : Addr) (c₀ : Nat) (hst : St 0 s) (hSf : S ∉ fp) (hI : I ∈ fp) (hn : n ≤ 1000)
    (hS : s.heap.get? S = some { cls := .type "list", data := .seq #[] c₀ })
    (hR : ∀ s' acc' c', Moved (S :: wr) G s s' → s'.heap.get? S = some { cls := .type "list", dict := none, data := .seq acc' c', slots := #[] } → ItemsOf P acc' n → R (.ok (.ret .none)) s') :
    wpAny (model prog w) A.in1 (Builtin.List.listExtendWith (.ref S) (.ref I) .none)
      (fun fin s' => match fin with | .done f => R (.ok f) s' | .again c' => c'.quiet = true ∧ codeAny (model prog w) A c' R s') (fun e s' => R (.error e) s') s := by
  have hSI : S ≠ I := fun e => hSf (e ▸ hI)
  have hn' : n ≤ sizeLine := Nat.le_trans hn (by decide)
  unfold Builtin.List.listExtendWith
  refine wpAny_bind (wpAny_typeOf (hT 0 _ hst) ?_)
  have h1 : Builtin.List.listSameRef (.ref S) (.ref I) = false := by simp [Builtin.List.listSameRef, hSI]
  have h2 : (Value.type "filter" == Value.type "list") = false := by decide
  have h3 : (Value.type "filter" == Value.type "tuple") = false := by decide
  simp only [h1, h2, h3, Bool.or_false, Bool.false_eq_true, if_false]
  refine wpAny_bind (W.self 0 _ _ _ hst ?_)
  refine wpAny_bind (wpAny_holding ?_)
  unfold Builtin.List.listLengthHint
  refine wpAny_bind (wpAny_specialOf (hT 0 _ hst) fi_no_len ?_)
  show wpAny _ A.in1 (specialOf (Value.ref I) (Str.ofString "__length_hint__") >>= _) _ _ _
  refine wpAny_bind (wpAny_specialOf (hT 0 _ hst) fi_no_hint ?_)
  refine wpAny_pure ?_
  show wpAny _ A.in1 (rule "list.extend.makes-room" >>= fun _ => Builtin.List.listTouch (.ref S) >>= fun _ =>
    again (.builtin "list.extend.loop" ⟨[.ref S, .ref I, .none], []⟩)) _ _ _
  refine wpAny_bind (wpAny_rule ?_)
  refine wpAny_bind ?_
  show wpAny _ A.in1 (updateSeq S (·.push .none) >>= fun _ => updateSeq S (·.pop)) _ _ _
  refine wpAny_bind (wpAny_updateSeq hS rfl ?_)
  have hS₂ := Heap.get?_update_self (Obj.mapSeq (·.push Value.none)) hS rfl
  refine wpAny_updateSeq (hz := by seq_fits) hS₂ rfl ?_
  have hS₃ := Heap.get?_update_self (Obj.mapSeq (·.pop)) hS₂ rfl
  have oth : ∀ b o, b ≠ S → s.heap.get? b = some o → ((s.heap.update S (Obj.mapSeq (·.push Value.none))).update S (Obj.mapSeq (·.pop))).get? b = some o :=
    fun b o hb e => (Heap.get?_update_other _ _ (Ne.symm hb)).trans ((Heap.get?_update_other _ _ (Ne.symm hb)).trans e)
  refine wpAny_pure ⟨plainId_quiet F.plain_extend_loop _, codeAny_extend_loopS W hn' _ hSf _ n 0 _ _ _ rfl (Nat.zero_le _)
    (W.frame 0 s _ s.toks hst (Nat.le_refl _) fun b hb o e => oth b o (fun h => hSf (h ▸ hb)) e) hS₃ (ItemsOf.nil P) fun s' acc' c' hm hS' hacc => ?_⟩
  exact hR s' acc' c' (Moved.trans W.gtrans ((Moved.refl W.grefl).then_heap (Nat.le_refl _) fun b o hb e => oth b o (fun h => hb (h ▸ List.mem_cons_self)) e) hm) hS' hacc
end
section
variable {prog : Program} {w : World} {A : Around} {E : Value → Shared → Prop} {s : Shared} {f bm it l S : Addr} {vs : List Value} {nl : Nat} {ts es : List Str} {b : Nat}
theorem items_strs {fs : List Str} {acc : Array Value} (h : ItemsOf (fun i v => ∃ x t, v = .str x t ∧ fs[i]? = some x) acc fs.length) : StrsAre acc.toList fs := by
  have go : ∀ (us : List Value) (fs : List Str), us.length = fs.length → (∀ (j : Nat) v, us[j]? = some v → ∃ x t, v = .str x t ∧ fs[j]? = some x) → StrsAre us fs := by
    intro us
    induction us with
    | nil => intro fs hl _; rw [List.length_eq_zero_iff.mp hl.symm]; exact .nil
    | cons u us ih =>
      intro fs hl hp
      cases fs with
      | nil => cases hl
      | cons y ys =>
        obtain ⟨x, t, rfl, hx⟩ := hp 0 u rfl
        cases hx
        exact .cons _ _ (ih ys (by simpa using hl) fun j v hv => hp (j + 1) v hv)
  exact go _ _ (by rw [Array.length_toList]; exact h.1) fun j v hv => h.2 j v (by simpa using hv)
theorem call_list_filter {Q : Value → Shared → Prop} (hh : A.handled = none) (h1 : f ≠ it) (h2 : bm ≠ it) (h3 : S ≠ it) (h4 : l ≠ it) (hts : StrsAre vs ts) (hn : ts.length ≤ 1000)
    (F : Filt prog w s.heap f bm it l S vs.toArray es b 0)
    (hQ : ∀ (h' : Heap) (tk n : Nat) (us : List Value), s.toks ≤ tk → (∀ c o, c ≠ it → s.heap.get? c = some o → h'.get? c = some o) → h'.get? s.heap.objs.size = some (W.listOf us.toArray n) → StrsAre us (ts.filter fun a => es.contains a) → Q (.ref s.heap.objs.size) { s with heap := h', toks := tk }) :
    wpAny (model prog w) A (call (.type "list") [.ref f]) Q E s := by
  have hfl : (ts.filter fun a => es.contains a).length ≤ 1000 := Nat.le_trans (List.length_filter_le _ _) hn
  have W := filt_walk (prog := prog) (w := w) (A := A.in1.in1) (f := f) (bm := bm) (S := S) (b := b) (es := es) (items := vs.toArray) (by exact hh) h1 h2 h3 h4 (by simpa using hts)
  have lt : ∀ {a : Addr} {o : Obj}, s.heap.get? a = some o → a < s.heap.objs.size := fun e => Heap.lt_size e
  have hSf : s.heap.objs.size ∉ [f, bm, S, it, l] := by
    have a1 := lt F.f
    have a2 := lt F.bm
    have a3 : S < s.heap.objs.size := by obtain ⟨m, -, o, _, _, _, ho, -⟩ := F.set; exact lt ho
    have a4 : it < s.heap.objs.size := by obtain ⟨o, ho, -⟩ := F.it; exact lt ho
    have a5 : l < s.heap.objs.size := by obtain ⟨o, ho, -⟩ := F.l; exact lt ho
    intro q
    simp only [List.mem_cons, List.not_mem_nil, or_false] at q
    rcases q with q | q | q | q | q
    · exact Nat.ne_of_gt a1 q
    · exact Nat.ne_of_gt a2 q
    · exact Nat.ne_of_gt a3 q
    · exact Nat.ne_of_gt a4 q
    · exact Nat.ne_of_gt a5 q
  refine callType_codes (Q₁ := fun obj s₁ => obj = .ref s.heap.objs.size ∧ s₁ = { s with heap := s.heap.push { cls := .type "list", data := .seq #[] } }) PySem.F.called_list (PySem.F.typeCall_list_1 _) PySem.F.entry_list_init (code_list_new _ ⟨rfl, rfl⟩) fun obj s₁ hob => ?_
  obtain ⟨rfl, rfl⟩ := hob
  have hS : (s.heap.push { cls := .type "list", data := .seq #[] }).get? s.heap.objs.size = some { cls := .type "list", data := .seq #[] } := Heap.get?_push_size _ rfl
  refine ⟨⟨_, hS, rfl⟩, PySem.F.args_list_init_2 _ _, ?_⟩
  show wpAny _ A.in1.in1 (do let old ← Builtin.List.listItems (.ref s.heap.objs.size); Builtin.List.listUpdate (.ref s.heap.objs.size) (fun _ => #[]); letGo old.toList.reverse; Builtin.List.listExtendWith (.ref s.heap.objs.size) (.ref f) .none) _ _ _
  refine wpAny_bind ?_
  unfold Builtin.List.listItems
  refine wpAny_bind (wpAny_seqItems hS rfl (wpAny_pure ?_))
  show wpAny _ A.in1.in1 (updateSeq s.heap.objs.size (fun _ => #[]) >>= fun _ => letGo (#[] : Array Value).toList.reverse >>= fun _ => Builtin.List.listExtendWith (.ref s.heap.objs.size) (.ref f) .none) _ _ _
  refine wpAny_bind (wpAny_updateSeq hS rfl ?_)
  have hS₂ := Heap.get?_update_self (Obj.mapSeq (fun _ => (#[] : Array Value))) hS rfl
  have oth : ∀ c o, s.heap.get? c = some o → ((s.heap.push { cls := .type "list", data := .seq #[] }).update s.heap.objs.size (Obj.mapSeq (fun _ => (#[] : Array Value)))).get? c = some o :=
    fun c o e => (Heap.get?_update_other _ _ (Nat.ne_of_gt (lt e))).trans (Heap.get?_push_of_some _ e)
  refine wpAny_bind (wpAny_letGo ?_)
  refine ext_filter W (fun c s' ⟨i, _, F'⟩ => ⟨_, F'.f, rfl⟩) _ _ ⟨0, rfl, oth _ _ F.f, oth _ _ F.bm, F.set.but fun o q => oth _ _ q, F.it.at fun o q => oth _ _ q, F.l.at fun o q => oth _ _ q⟩ hSf (.head _) hfl hS₂ ?_
  intro s' acc c' hm hg hit
  obtain ⟨h', g', d', tk', os'⟩ := s'
  have eg : s.gens = g' := hm.gens
  have ed : d' = s.drawn := hm.drawn
  have eo : os' = s.os := hm.os
  subst eg ed eo
  obtain ⟨us⟩ := acc
  refine ⟨rfl, hQ h' tk' c' us hm.toks (fun c o hc e => hm.heap c o ?_ (oth c o e)) hg (items_strs hit)⟩
  simp only [List.mem_cons, List.not_mem_nil, or_false, not_or]
  exact ⟨Nat.ne_of_lt (lt e), hc⟩
end
end
section
open PySem PySem.W PyProof.Rows PySem.Calls
set_option Elab.async false
set_option maxRecDepth 100000
set_option maxHeartbeats 100000000
local macro_rules | `(tactic| walk_at "mine.pad") => `(tactic| fail)
local macro_rules | `(tactic| walk_at "mine.pad") => `(tactic| fail)
local macro_rules | `(tactic| walk_at "mine.pad") => `(tactic| fail)
local macro_rules | `(tactic| walk_at "mine.pad") => `(tactic| fail)
local macro_rules | `(tactic| walk_at "getAttr ref") => `(tactic| (k_dflt (refine' rec_get ?k1 ?k2 ?ka ?kb ?k4 ?k5 ?k6 ?k7 ?k8 ?k9 ?_; (case k1 => k_asm); (case k2 => k_asm); (case ka => assumption); (case kb => assumption); (case k4 => k_is); (case k5 => k_is); (case k6 => k_is); (case k7 => k_is); (case k8 => k_get); (case k9 => k_handed))))
local macro_rules | `(tactic| walk_at "call ref") => `(tactic| (with_unfolding_all (refine' use_entry ?T ?A ?X ?_; (case T => exact Top.keeps (by assumption) (Fr.keep (by k_asm))); (case A => exact Lo.le (Lo.deeper (by assumption)) (by decide)); (case X => exact Frag.In.keeps (by assumption) (Fr.keep (by k_asm))); intro x dx r1 r2 ta tb tc td h5 tk5 e5 n5 l0 l2 l3 l4; have F' := fr_ext (by k_asm) e5; have N' := news_adds (by k_asm) (news_ext (by k_asm) e5) n5; clear e5 n5; k_lt2 l2; k_lt2 l3; k_lt2 l4; simp only [entryD, List.cons_append, List.nil_append] at N'; (try dsimp only at F' N'))))
section
variable {w : World} {p : Program} {loose : List Str} {mean : ExcName → Option Value} {mg mb : Str → Option Value} {A : Around} {s : Shared} {E : Value → Shared → Prop}
theorem use_merge {P : Value → Shared → Prop} {x y : Addr} {vs us : List Value} {ts es : List Str} (T : Top p loose mean mg mb s.heap) (hA : Lo A 7) (hr : RecAt w s.heap x vs.toArray) (hr' : RecAt w s.heap y us.toArray) (hi : StrsAre vs ts) (hj : StrsAre us es) (hlen : ts.length ≤ 16) (hlen' : es.length ≤ 16) :
    (KK w.params).In s.heap → (∀ (r : Addr) (vs' : List Value) (h' : Heap) (tk : Nat), Ext s.heap h' → RecNew w s.heap h' r vs'.toArray → StrsAre vs' (ts.filter fun a => es.contains a) → P (.ref r) { s with heap := h', toks := tk }) → wpAny (model PySem.Challenge.rw_tx0025_01.row.prog w) A (call (.ref 87) [.ref x, .ref y]) P E s := by
  k_fill
  intro X ret
  obtain ⟨hp, gs, dr, tk, os⟩ := s
  obtain ⟨dx, ra, rb, n, ta, tb, tc, td, e1, e2, e3, e4⟩ := hr
  obtain ⟨dx', ra', rb', n', ta', tb', tc', td', e1', e2', e3', e4'⟩ := hr'
  dsimp only [entryD] at T X ret e1 e2 e3 e4 e1' e2' e3' e4'
  have hro := hA.room
  have hh : A.handled = none := hA.hd
  k_dflt (refine' enter (binds := [("e1", .ref x), ("e2", .ref y)]) ?k3 ?k5 ?k6 ?k7 ?k8 ?k9 ?kB ?_ ?c2 ?c3 ?c4 ?c5; (case k3 => k_asm); (case k5 => k_asm); (case k6 => k_is); (case k7 => k_is); (case k8 => exact hro); (case k9 => exact BindsTo.of_eq rfl); (case c5 => decide); (case kB => exact locs rfl); (case c2 => exact rfl); (case c3 => exact rfl); (case c4 => exact rfl); intro h₁ F₁ N₁; dsimp only at F₁ N₁ ⊢)
  have hret : Ret _ := Ret.mk ret
  have hl : hp.IsList ra vs.toArray := ⟨_, e3, rfl, _, rfl⟩
  have hl' : hp.IsList ra' us.toArray := ⟨_, e3', rfl, _, rfl⟩
  clear ret
  iterate 26 (first | walk1 | (dsimp only; walk1))
  with_reducible rename Fr _ _ _ _ => FF
  with_reducible rename News _ _ _ _ => NN
  rename_i xE dE rE1 rE2 ta9 tb9 tc9 td9 h5 tk5 l0 l2 l3 l4 hN
  have hlen2 : us.length ≤ 100 := by rw [strs_len hj]; omega
  refine call_set_strs hA.hd (FF.keep _ _ e3') hj hlen2 ?_
  intro h2 tk2 hS2 k2
  refine get_contains hS2 ?_
  dsimp only at hS2 k2 ⊢
  have x3 : Ext hN (h2.push (boundO hN.objs.size)) := fun c o q => Heap.get?_push_of_some _ (k2 c o q)
  have hb3 : (h2.push (boundO hN.objs.size)).get? h2.objs.size = some (boundO hN.objs.size) := Heap.get?_push_size _ rfl
  have hS3 := hS2.but (h' := h2.push (boundO hN.objs.size)) fun o q => Heap.get?_push_of_some _ q
  have hlt2 : hN.objs.size < h2.objs.size := by obtain ⟨m, -, o, _, _, _, ho, -⟩ := hS2; exact Heap.lt_size ho
  have hsz3 : (h2.push (boundO hN.objs.size)).objs.size = h2.objs.size + 1 := Heap.size_push ..
  generalize h2.push (boundO hN.objs.size) = h3 at x3 hb3 hS3 hsz3 ⊢
  have F3 := fr_ext FF x3
  have N3 := news_ext NN x3
  have x3' : Ret _ := Ret.mk x3
  have hNt : Ret _ := Ret.mk NN
  have hS3' : Ret _ := Ret.mk hS3
  have hb3' : Ret _ := Ret.mk hb3
  clear k2 hS2 x3 FF NN hS3 hb3
  iterate 5 (first | walk1 | (dsimp only; walk1))
  with_reducible rename Fr _ _ _ _ => FF
  with_reducible rename News _ _ _ _ => NN
  have hra3 : h3.get? ra = some (W.listOf vs.toArray n) := FF.keep _ _ e3
  refine call_filter hra3 ?_
  iterate 1 (first | walk1 | (dsimp only; walk1))
  have hbm : h2.objs.size < h3.objs.size := by omega
  have hSm : hN.objs.size < h3.objs.size := by omega
  have hram : ra < h3.objs.size := Heap.lt_size hra3
  have x4 : Ext h3 ((h3.push (litO ra)).push (filtO h2.objs.size h3.objs.size)) := fun c o q => Heap.get?_push_of_some _ (Heap.get?_push_of_some _ q)
  have hit4 : ((h3.push (litO ra)).push (filtO h2.objs.size h3.objs.size)).get? h3.objs.size = some (litO ra) := Heap.get?_push_of_some _ (Heap.get?_push_size _ rfl)
  have hf4 : ((h3.push (litO ra)).push (filtO h2.objs.size h3.objs.size)).get? (h3.objs.size + 1) = some (filtO h2.objs.size h3.objs.size) := by
    have z : (h3.push (litO ra)).objs.size = h3.objs.size + 1 := Heap.size_push ..
    rw [← z]; exact Heap.get?_push_size _ rfl
  generalize (h3.push (litO ra)).push (filtO h2.objs.size h3.objs.size) = h4 at x4 hit4 hf4 ⊢
  refine call_list_filter (f := h3.objs.size + 1) (it := h3.objs.size) (bm := h2.objs.size) (S := hN.objs.size) (b := us.length) hA.hd (Nat.ne_of_gt (Nat.lt_succ_self _)) (Nat.ne_of_lt hbm) (Nat.ne_of_lt hSm) (Nat.ne_of_lt hram) hi (by omega)
    ⟨hf4, x4 _ _ hb3', StrSet.but hS3' fun o q => x4 _ _ q, ⟨_, hit4, rfl, rfl⟩, ⟨_, x4 _ _ hra3, rfl, _, rfl⟩⟩ ?_
  intro h5' tk6 n6 ws6 ht6 k6 hg6 hst6
  have x6 : Ext h3 h5' := fun c o q => k6 c o (Nat.ne_of_lt (Heap.lt_size q)) (x4 c o q)
  have hn4 : h3.get? h4.objs.size = none := by
    cases q : h3.get? h4.objs.size with
    | none => rfl
    | some o => exact absurd (Heap.lt_size (x4 _ _ q)) (Nat.lt_irrefl _)
  have F6 := fr_ext FF x6
  have N6 := news_add FF (news_ext NN x6) hn4 hg6
  have hst6' : Ret _ := Ret.mk hst6
  have ltx : @LT.lt Nat _ xE h4.objs.size := Heap.lt_size (x4 _ _ (NN _ (.tail _ (.tail _ (.head _)))).1)
  have ltd : @LT.lt Nat _ dE h4.objs.size := Heap.lt_size (x4 _ _ (NN _ (.tail _ (.tail _ (.tail _ (.head _))))).1)
  have lt1 : @LT.lt Nat _ rE1 h4.objs.size := Heap.lt_size (x4 _ _ (NN _ (.tail _ (.head _))).1)
  have lt2 : @LT.lt Nat _ rE2 h4.objs.size := Heap.lt_size (x4 _ _ (NN _ (.head _)).1)
  generalize h4.objs.size = rL at F6 N6 ltx ltd lt1 lt2 hg6 hn4 ⊢
  clear FF NN x4 hit4 hf4 hbm hSm hram hra3 x6 k6 hg6 hst6 hn4 ht6 hsz3 hlt2
  iterate 12 (first | walk1 | (dsimp only; walk1))
  with_reducible rename Fr _ _ _ _ => FF
  with_reducible rename News _ _ _ _ => NN
  refine add_rows (vs := []) (us := []) (ns := []) (ms := []) FF NN (FF.lst ⟨_, e4, rfl, _, rfl⟩) (FF.lst ⟨_, e4', rfl, _, rfl⟩) .nil .nil (by decide) ?_
  intro h7 vs7 F7 N7 lt7 hI7
  obtain rfl : vs7 = [] := List.length_eq_zero_iff.mp hI7.length
  dsimp only at F7 N7 lt7 ⊢
  have m1 : @LT.lt Nat _ _ _ := lt7 _ (.head _)
  have m2 : @LT.lt Nat _ _ _ := lt7 _ (.tail _ (.head _))
  have m3 : @LT.lt Nat _ _ _ := lt7 _ (.tail _ (.tail _ (.head _)))
  have m4 : @LT.lt Nat _ _ _ := lt7 _ (.tail _ (.tail _ (.tail _ (.head _))))
  have m5 : @LT.lt Nat _ _ _ := lt7 _ (.tail _ (.tail _ (.tail _ (.tail _ (.head _)))))
  dsimp only at m1 m2 m3 m4 m5
  clear FF NN lt7 hI7
  k_steps
  with_reducible rename Fr _ _ _ _ => FF
  with_reducible rename News _ _ _ _ => NN
  have hr : ∀ (r : Addr) (vs' : List Value) (h' : Heap) (tk : Nat), Ext hp h' → RecNew w hp h' r vs'.toArray → StrsAre vs' (ts.filter fun a => es.contains a) → P (.ref r) ⟨h', gs, dr, tk, os⟩ := hret
  refine' RetP.mk (hr xE ws6 _ _ FF.keep ⟨dE, rL, ?rb, n6, ta9, tb9, tc9, td9, ?q1, ?q2, ?q3, ?q4⟩ hst6')
  case q1 => exact ⟨(NN (xE, instObj 76 dE) (by k_mem)).1, (NN (xE, instObj 76 dE) (by k_mem)).2.2⟩
  case q2 => exact ⟨(NN (dE, _) (by k_mem)).1, (NN (dE, _) (by k_mem)).2.2⟩
  case q4 => exact ⟨(NN (_, W.listOf #[] 0) (.head _)).1, (NN (_, W.listOf #[] 0) (.head _)).2.2⟩
  case q3 => exact ⟨(NN (rL, _) (by k_mem)).1, (NN (rL, _) (by k_mem)).2.2⟩
end
end
section
open PySem PySem.W PyProof.Rows PySem.Calls
set_option Elab.async false
set_option maxRecDepth 100000
/-! loops whose target is any: the turn begins with the storing of the item -/
section
variable {prog : Program} {w : World} {A : Around} {E : Value → Shared → Prop} {s : Shared} {env : Env} {h₀ : Heap}
def ForAt (prog : Program) (w : World) (A : Around) (env : Env) (target : Expr) (body : List Stmt) (Q : Flow → Shared → Prop) (E : Value → Shared → Prop) (it : Value) (s : Shared) : Prop :=
  codeAny (model prog w) A (.forLoop target it body [] env) (fun r s' => match r with | .ok f => Q f s' | .error e => cameBackBy (model prog w) A env E e s') s
theorem For_T {L : Addr} {h : Heap} {m : Str → Option Value} {Q : Flow → Shared → Prop} {target iter : Expr} {body : List Stmt} {pos : Pos} (_F : Fr h₀ L h m) (hs : ∀ x, foldedSetIterable iter env x = pure x)
    (h : wpAny (model prog w) A (eval iter env) (fun xv s₁ => wpAny (model prog w) A (pyIter xv) (fun it s₂ => ForAt prog w A env target body Q E it s₂) E s₁) E s) :
    wpAny (model prog w) A (exec (.For target iter body [] pos) env) Q E s := wpAny_For h hs
theorem forLoop_T (n0 : Nat) (hn0 : n0 ≤ s.toks) {R : Result → Shared → Prop} {target : Expr} {body : List Stmt} {I : Addr} {fp wr mu : List Addr} {n : Nat} {P : Nat → Value → Prop} {St : Nat → Heap → Prop} {m : Str → Option Value} {cont : List (Addr × Obj)}
    (W : Walks prog w A I fp wr n P St) (hal : ∀ i h, St i h → ∀ b ∈ wr, ∃ o, h.get? b = some o)
    (hgo : ∀ i v (s : Shared) (Q : Unit → Shared → Prop) (E : Value → Shared → Prop), P i v → St (i + 1) s.heap → Q () s → wpAny (model prog w) A (letOwnedTupleGo target (.ref I) v) Q E s)
    (hLf : env.locals ∉ fp) (hmf : ∀ b ∈ mu, b ∉ fp) (hwr : ∀ b ∈ wr, h₀.get? b = none)
    (hst : St 0 s.heap) (F : Fr h₀ env.locals s.heap m) (N : News h₀ env.locals s.heap cont) (hmu : cont.map (·.1) = mu)
    (J : Nat → List (Addr × Obj) → (Str → Option Value) → Heap → Prop) (h0 : J 0 cont m s.heap)
    (mono : ∀ i c m h h', J i c m h → KeepBut (env.locals :: mu ++ wr) h h' → J i c m h')
    (step : ∀ i v m₁ c h tk own, n0 ≤ tk → i < n → P i v → J i c m₁ h → c.map (·.1) = mu → OwnOff own mu → (∀ b ∈ wr, ∃ o, h.get? b = some o) →
      Fr h₀ env.locals h m₁ → News h₀ env.locals h (c ++ own) → own = allOf h₀ h (env.locals :: mu) →
      wpAny (model prog w) A (assign target env v) (fun _ s₂ => wpAny (model prog w) A (execs body env) (GEnd h₀ env.locals mu own (J (i + 1)) { s with heap := h, toks := tk } (fun v s' => R (.ok (.ret v)) s') fun s' => R (.ok .next) s') (notedBy (model prog w) A env fun e s' => R (.error e) s') s₂) (notedBy (model prog w) A env fun e s' => R (.error e) s') { s with heap := h, toks := tk })
    (hR : ∀ h' tk m' c own, Fr h₀ env.locals h' m' → News h₀ env.locals h' (c ++ own) → c.map (·.1) = mu → own = allOf h₀ h' (env.locals :: mu) → J n c m' h' → R (.ok .next) { s with heap := h', toks := tk }) :
    codeAny (model prog w) A (.forLoop target (.ref I) body [] env) R s := by
  have hLw : env.locals ∉ wr := fun h => hLf (W.sub _ h)
  have hmw : ∀ b ∈ mu, b ∉ wr := fun b hb h => hmf b hb (W.sub _ h)
  have old : ∀ b o, h₀.get? b = some o → b ∉ wr := fun b o e hb => by rw [hwr b hb] at e; cases e
  have whole : ∀ {h : Heap} {c : List (Addr × Obj)}, News h₀ env.locals h c → c.map (·.1) = mu → News h₀ env.locals h (c ++ allOf h₀ h (env.locals :: mu)) ∧ OwnOff (allOf h₀ h (env.locals :: mu)) mu := fun {h c} N _ =>
    ⟨N.append (news_allOf (.head _)), fun p hp b hb q => off_allOf p hp (q ▸ .tail _ hb)⟩
  refine codeAny_forLoop_any
    (fun k s' => ∃ h' tk m' c i, s' = { s with heap := h', toks := tk } ∧ St i h' ∧ Fr h₀ env.locals h' m' ∧ News h₀ env.locals h' c ∧ c.map (·.1) = mu ∧ J i c m' h' ∧ i ≤ n ∧ k = n + 1 - i ∧ n0 ≤ tk) ?_ (n + 1)
    ⟨s.heap, s.toks, m, cont, 0, rfl, hst, F, N, hmu, h0, Nat.zero_le _, rfl, hn0⟩
  rintro k s' ⟨h', tk, m', c, i, rfl, hst', F', N', hc', hJ, hi, rfl, htk⟩
  have next : ∀ h₁ : Heap, (∀ b o, b ∉ wr → h'.get? b = some o → h₁.get? b = some o) → Fr h₀ env.locals h₁ m' ∧ News h₀ env.locals h₁ c ∧ J i c m' h₁ := fun h₁ hk₁ =>
    ⟨⟨F'.ns.at' fun o e => hk₁ _ o hLw e, fun b o e => hk₁ b o (old b o e) (F'.keep b o e), F'.above⟩, fun p hp => ⟨hk₁ _ _ (hmw _ (hc' ▸ List.mem_map_of_mem hp)) (N' p hp).1, (N' p hp).2⟩,
      mono _ _ _ _ _ hJ fun b o hb e => hk₁ b o (fun q => hb (List.mem_append_right _ q)) e⟩
  by_cases hlt : i < n
  · refine wpAny_with_toks (n := n0) htk ?_
    refine W.item i _ _ _ hlt hst' fun v h₁ tk₁ hP hst₁ hk₁ htk₁ => hgo i v _ _ _ hP hst₁ ?_
    obtain ⟨F₁, N₁, J₁⟩ := next h₁ hk₁
    obtain ⟨N₃, off⟩ := whole N₁ hc'
    refine wpAny_with_toks (n := n0) htk₁ ?_
    refine wpAny_mono (step i v m' c h₁ _ _ htk₁ hlt hP J₁ hc' off (hal _ _ hst₁) F₁ N₃ rfl) (fun _ s₂ h₂ ht₂ => wpAny_with_toks (n := n0) ht₂ (wpAny_mono h₂ (fun f s₃ h₃ ht₃ => ?_) fun _ _ e _ => e)) fun _ _ e _ => e
    have fin : ∀ s₃, n0 ≤ s₃.toks → GEnd h₀ env.locals mu (allOf h₀ h₁ (env.locals :: mu)) (J (i + 1)) { s with heap := h₁, toks := tk₁ } (fun v s' => R (.ok (.ret v)) s') (fun s' => R (.ok .next) s') .next s₃ →
        ∃ k', k' < n + 1 - i ∧ ∃ h' tk m' c i, s₃ = { s with heap := h', toks := tk } ∧ St i h' ∧ Fr h₀ env.locals h' m' ∧ News h₀ env.locals h' c ∧ c.map (·.1) = mu ∧ J i c m' h' ∧ i ≤ n ∧ k' = n + 1 - i ∧ n0 ≤ tk := by
      rintro s₃ ht₃ ⟨h₃', tk₃, m₃, c₃, led, rfl, F₃, N₃, ho, hc₃, hl, hJ₃⟩
      refine ⟨n + 1 - (i + 1), by omega, h₃', tk₃, m₃, c₃, i + 1, rfl, ?_, F₃, fun p hp => N₃ p (hl p hp), hc₃, hJ₃, hlt, rfl, ht₃⟩
      refine W.frame _ _ _ hst₁ fun b hb o e => keepBut_all F₃ N₃ F₁.keep ho b o (fun q => ?_) e
      rcases List.mem_cons.mp q with rfl | q
      · exact hLf hb
      · exact hmf b q hb
    cases f with
    | ret v => exact h₃
    | brk => exact h₃
    | cont => exact fin s₃ ht₃ h₃
    | next => exact fin s₃ ht₃ h₃
  · have hin : i = n := by omega
    subst hin
    refine W.done _ _ _ hst' fun h₁ tk₁ hk₁ => wpAny_execs_nil ?_
    obtain ⟨F₁, N₁, J₁⟩ := next h₁ hk₁
    exact hR h₁ tk₁ m' c _ F₁ (whole N₁ hc').1 hc' rfl J₁
variable {Q : Flow → Shared → Prop} {x : Str} {target : Expr} {body : List Stmt} {mu : List Addr} {m₀ : Str → Option Value} {cont : List (Addr × Obj)}
theorem loopT_range {r : Addr} {n : Nat} {t u v : Tok} (stored : List Str) (J : Nat → List (Addr × Obj) → Heap → Prop)
    (hh : A.handled = none) (hE : PassesOwn (model prog w) A env E) (hgo : ∀ v it, letOwnedTupleGo target it v = pure ()) (hr : IsRange s.heap r 0 n 1 t u v) (hn : n ≤ 1000) (F : Fr h₀ env.locals s.heap m₀) (N : News h₀ env.locals s.heap cont) (hmu : cont.map (·.1) = mu) (h0 : J 0 cont s.heap)
    (mono : ∀ i c h h', J i c h → KeepBut (env.locals :: mu ++ [s.heap.objs.size]) h h' → J i c h')
    (step : ∀ i t (u : Str → Option Value) c h tk own, i < n → J i c h → c.map (·.1) = mu → OwnOff own mu → Alive h s.heap.objs.size →
      Fr h₀ env.locals h (fun y => if y = x then u y else if stored.contains y then u y else m₀ y) → News h₀ env.locals h (c ++ own) → OwnAll h₀ h (env.locals :: mu) own →
      wpAny (model prog w) A (assign target env (.int (i : Nat) t)) (fun _ s₂ => wpAny (model prog w) A (execs body env) (TurnG h₀ env.locals mu own x stored m₀ (J (i + 1)) { s with heap := h, toks := tk } Q) E s₂) E { s with heap := h, toks := tk })
    (done : ∀ h' tk (u : Str → Option Value) c own, Fr h₀ env.locals h' (fun y => if y = x then u y else if stored.contains y then u y else m₀ y) → News h₀ env.locals h' (c ++ own) → c.map (·.1) = mu → OwnAll h₀ h' (env.locals :: mu) own → J n c h' → Q .next { s with heap := h', toks := tk }) :
    wpAny (model prog w) A (pyIter (.ref r)) (fun it s₂ => ForAt prog w A env target body Q E it s₂) E s := by
  have hsz : Builtin.Range.rangeSize 0 n 1 = (n : Int) := by
    unfold Builtin.Range.rangeSize
    split <;> simp_all <;> omega
  have hsm : Builtin.Range.small 0 n 1 = true := by
    unfold Builtin.Range.small
    rw [hsz]
    simp [Builtin.Range.rangeFitsLong]
    omega
  refine wpAny_pyIter_range hr hsm ?_
  have hmlt : ∀ b ∈ mu, b < s.heap.objs.size := fun b hb => by
    subst hmu
    obtain ⟨p, hp, rfl⟩ := List.mem_map.mp hb
    exact Heap.lt_size (N p hp).1
  refine forLoop_T 0 (Nat.zero_le _) (mu := mu) (m := m₀) (cont := cont) (Walks.range hh s.heap.objs.size 0 1 n) ?hal (fun i v s Q E _ _ q => wpAny_of_eq (hgo _ _) q) ?_ ?_ ?_ (by show IsRangeIter _ _ _ _ _; rw [hsz]; simpa using Heap.get?_push_size _ rfl) (F.push _) (news_ext N fun _ _ e => Heap.get?_push_of_some _ e) hmu
    (fun i c m h => J i c h ∧ ∀ z, z ≠ x → stored.contains z = false → m z = m₀ z) ⟨?_, fun _ _ _ => rfl⟩ (fun i c m h h' a b => ⟨mono i c h h' a.1 b, a.2⟩) ?_ ?_
  case hal =>
    rintro i h e b hb
    rw [List.mem_singleton.mp hb]
    exact ⟨_, e⟩
  · intro hm
    exact absurd F.ns.lt (List.mem_singleton.mp hm ▸ Nat.lt_irrefl _)
  · intro b hb hm
    exact absurd (hmlt b hb) (List.mem_singleton.mp hm ▸ Nat.lt_irrefl _)
  · intro b hb
    rw [List.mem_singleton.mp hb]
    exact next_is_new F
  · exact mono _ _ _ _ h0 fun b o _ e => Heap.get?_push_of_some _ e
  · rintro i v m₁ c h tk own - hi ⟨t, rfl⟩ hJ hc ho hal F N how
    simp only [Int.mul_one, Int.zero_add]
    rw [map_split' hJ.2] at F
    exact wpAny_passesOwn hE (wpAny_mono (step i t m₁ c h tk own hi hJ.1 hc ho (hal _ (.head _)) F N how) (fun _ _ q => wpAny_passesOwn hE q) fun _ _ e => e)
  · intro h' tk m' c own F N hc how hJ
    rw [map_split' hJ.2] at F
    exact done h' tk m' c own F N hc how hJ.1
theorem loopT_list (n0 : Nat) (hn0 : n0 ≤ s.toks) {l : Addr} {items : Array Value} {elts : List Expr} {x1 : Nat} {tp : Pos} (stored : List Str) (J : Nat → List (Addr × Obj) → Heap → Prop)
    (hh : A.handled = none) (hE : PassesOwn (model prog w) A env E) (href : ∀ (i : Nat) (v : Value), items[i]? = some v → ∃ a, v = Value.ref a) (hl : s.heap.IsList l items) (hlm : l ∉ mu) (F : Fr h₀ env.locals s.heap m₀) (N : News h₀ env.locals s.heap cont) (hmu : cont.map (·.1) = mu) (h0 : J 0 cont s.heap)
    (mono : ∀ i c h h', J i c h → KeepBut (env.locals :: mu ++ [s.heap.objs.size]) h h' → J i c h')
    (step : ∀ i v (u : Str → Option Value) c h tk own, n0 ≤ tk → items[i]? = some v → J i c h → c.map (·.1) = mu → OwnOff own mu → Alive h s.heap.objs.size →
      Fr h₀ env.locals h (fun y => if y = x then u y else if stored.contains y then u y else m₀ y) → News h₀ env.locals h (c ++ own) → OwnAll h₀ h (env.locals :: mu) own →
      wpAny (model prog w) A (assign (.Tuple elts x1 tp) env v) (fun _ s₂ => wpAny (model prog w) A (execs body env) (TurnG h₀ env.locals mu own x stored m₀ (J (i + 1)) { s with heap := h, toks := tk } Q) E s₂) E { s with heap := h, toks := tk })
    (done : ∀ h' tk (u : Str → Option Value) c own, Fr h₀ env.locals h' (fun y => if y = x then u y else if stored.contains y then u y else m₀ y) → News h₀ env.locals h' (c ++ own) → c.map (·.1) = mu → OwnAll h₀ h' (env.locals :: mu) own → J items.size c h' → Q .next { s with heap := h', toks := tk }) :
    wpAny (model prog w) A (pyIter (.ref l)) (fun it s₂ => ForAt prog w A env (.Tuple elts x1 tp) body Q E it s₂) E s := by
  refine wpAny_pyIter_list hl ?_
  obtain ⟨o, ho, hd⟩ := hl
  have hlt := Heap.lt_size ho
  have hmlt : ∀ b ∈ mu, b < s.heap.objs.size := fun b hb => by
    subst hmu
    obtain ⟨p, hp, rfl⟩ := List.mem_map.mp hb
    exact Heap.lt_size (N p hp).1
  refine forLoop_T n0 ?hn (mu := mu) (m := m₀) (cont := cont) (Walks.list hh s.heap.objs.size l (Nat.ne_of_lt hlt) items) ?hal (fun i v s Q E hv hst q => ?_) ?_ ?_ ?_ ⟨⟨_, Heap.get?_push_size _ rfl, rfl, rfl⟩, ⟨o, Heap.get?_push_of_some _ ho, hd⟩⟩ (F.push _) (news_ext N fun _ _ e => Heap.get?_push_of_some _ e) hmu
    (fun i c m h => J i c h ∧ ∀ z, z ≠ x → stored.contains z = false → m z = m₀ z) ⟨?_, fun _ _ _ => rfl⟩ (fun i c m h h' a b => ⟨mono i c h h' a.1 b, a.2⟩) ?_ ?_
  case hal =>
    rintro i h ⟨⟨o, e, _⟩, _⟩ b hb
    rw [List.mem_singleton.mp hb]
    exact ⟨o, e⟩
  case hn => exact hn0
  · obtain ⟨a, rfl⟩ := href i v hv
    exact wpAny_letOwnedTupleGo_listiter hst.1 q
  · intro hm
    rcases List.mem_cons.mp hm with q | q
    · exact absurd F.ns.lt (q ▸ Nat.lt_irrefl _)
    · exact list_ne F ⟨o, ho, hd⟩ (List.mem_singleton.mp q).symm
  · intro b hb hm
    rcases List.mem_cons.mp hm with q | q
    · exact absurd (hmlt b hb) (q ▸ Nat.lt_irrefl _)
    · exact hlm (List.mem_singleton.mp q ▸ hb)
  · intro b hb
    rw [List.mem_singleton.mp hb]
    exact next_is_new F
  · exact mono _ _ _ _ h0 fun b o _ e => Heap.get?_push_of_some _ e
  · rintro i v m₁ c h tk own htk hi hv hJ hc ho hal F N how
    rw [map_split' hJ.2] at F
    exact wpAny_passesOwn hE (wpAny_mono (step i v m₁ c h tk own htk hv hJ.1 hc ho (hal _ (.head _)) F N how) (fun _ _ q => wpAny_passesOwn hE q) fun _ _ e => e)
  · intro h' tk m' c own F N hc how hJ
    rw [map_split' hJ.2] at F
    exact done h' tk m' c own F N hc how hJ.1
end
/-- a statement behind which the tokens are known to be at work -/
theorem execs_pos {prog : Program} {w : World} {A : Around} {E : Value → Shared → Prop} {s : Shared} {env : Env} {st : Stmt} {rest : List Stmt} {Q : Flow → Shared → Prop} (hn : 0 < s.toks)
    (h : wpAny (model prog w) A (exec st env) (fun f s' => 0 < s'.toks → match f with | .next => wpAny (model prog w) A (execs rest env) Q E s' | f => Q f s') E s) : wpAny (model prog w) A (execs (st :: rest) env) Q E s :=
  wpAny_execs_cons (wpAny_with_toks (n := 1) hn (wpAny_mono h (fun f s' q t => by have := q t; cases f <;> exact this) fun _ _ e _ => e))
end
section
open PySem PySem.W PyProof.Rows PySem.Calls
set_option Elab.async false
set_option maxRecDepth 100000
set_option maxHeartbeats 100000000
section
variable {prog : Program} {w : World} {A : Around} {s : Shared} {E : Value → Shared → Prop} {K : Frag} {h₀ : Heap} {L : Addr} {m : Str → Option Value}
theorem own_get {x dx C : Addr} {es : List DictEntry} {n : Nat} {name : Str} {v : Value} {ex : Bool} {Q : Value → Shared → Prop} {attr : Option Value} (F : Fr h₀ L s.heap m) (X : K.In h₀) (e1 : s.heap.get? x = some (instObj C dx)) (e2 : s.heap.get? dx = some (W.dictOf es n)) (hg : plainGet K C name = true) (hh : hasDictIn K C = true)
    (ha : findIn K (.ref C) name = some attr) (hn : noGet K attr = true) (hl : getL name es = some (some v)) (hv : handedIn v = true) (h : Q v { s with toks := s.toks + 1 }) :
    wpAny (model prog w) A (getAttr (.ref x) name ex) Q E s :=
  get_own F X ⟨e1, rfl, rfl, e2⟩ hg hh ha hn hl hv h
theorem own_meth {x dx C f : Addr} {es : List DictEntry} {n : Nat} {name : Str} {pl : Sem Bool} {Q : Value × List Value → Shared → Prop} (F : Fr h₀ L s.heap m) (X : K.In h₀) (e1 : s.heap.get? x = some (instObj C dx)) (e2 : s.heap.get? dx = some (W.dictOf es n)) (hg : plainGet K C name = true)
    (hf : findIn K (.ref C) name = some (some (.ref f))) (ht : isFn K (.ref f) = true) (hl : getL name es = some none) (h : Q (.ref f, [.ref x]) s) : wpAny (model prog w) A (getMethod (.ref x) name pl) Q E s :=
  method_inst F X ⟨e1, rfl, rfl, e2⟩ hg hf ht hl h
end
section
variable {w : World} {A : Around} {s : Shared} {E : Value → Shared → Prop} {h₀ : Heap} {L : Addr} {m : Str → Option Value}
theorem rec_agents {x : Addr} {items : Array Value} {ex : Bool} {Q : Value → Shared → Prop} (F : Fr h₀ L s.heap m) (hr : RecAt w s.heap x items) :
    (KK w.params).In h₀ → (∀ ra n, s.heap.get? ra = some (W.listOf items n) → Q (.ref ra) { s with toks := s.toks + 1 }) → wpAny (model PySem.Challenge.rw_tx0025_01.row.prog w) A (getAttr (.ref x) (Str.ofString "useragents") ex) Q E s := by
  k_fill
  intro X ret
  obtain ⟨dx, ra, rb, n, ta, tb, tc, td, e1, e2, e3, e4⟩ := hr
  unfold entryD at e2
  k_dflt (refine' own_get F X e1 e2 ?k1 ?k2 ?k3 ?k4 ?k5 ?k6 (ret ra n e3); (case k1 => k_is); (case k2 => k_is); (case k3 => k_is); (case k4 => k_is); (case k5 => k_get); (case k6 => k_handed))
theorem rec_applies {x : Addr} {items : Array Value} {pl : Sem Bool} {Q : Value × List Value → Shared → Prop} (F : Fr h₀ L s.heap m) (hr : RecAt w s.heap x items) :
    (KK w.params).In h₀ → Q (.ref 66, [.ref x]) s → wpAny (model PySem.Challenge.rw_tx0025_01.row.prog w) A (getMethod (.ref x) (Str.ofString "applies_to") pl) Q E s := by
  k_fill
  intro X ret
  obtain ⟨dx, ra, rb, n, ta, tb, tc, td, e1, e2, e3, e4⟩ := hr
  unfold entryD at e2
  k_dflt (refine' own_meth F X e1 e2 ?k1 ?k2 ?k3 ?k4 ret; (case k1 => k_is); (case k2 => k_is); (case k3 => k_is); (case k4 => k_get))
end
end
section
open PySem PySem.W PyProof.Rows PySem.Calls
set_option Elab.async false
set_option maxRecDepth 100000
set_option maxHeartbeats 4000000
/-- the ints that a list on the heap holds -/
def rowOf (h : Heap) : Value → List Int
  | .ref a => match h.get? a with
    | some o => match o.data with
      | .seq vs _ => vs.toList.map fun v => match v with | .int i _ => i | _ => 0
      | _ => []
    | none => []
  | _ => []
theorem row_map : ∀ {vs : List Value} {ns : List Int}, IntsAre vs ns → (vs.map fun v => match v with | .int i _ => i | _ => 0) = ns
  | _, _, .nil => rfl
  | _, _, .cons n t h => by rw [List.map_cons, row_map h]
theorem rowOf_row {ex : List Addr} {h : Heap} {v : Value} {ns : List Int} (x : RowX ex h v ns) : rowOf h v = ns := by
  obtain ⟨a, vs, n, rfl, -, hg, hi⟩ := x
  show (match h.get? a with | some o => _ | none => _) = _
  rw [hg]
  exact row_map hi
section
variable {prog : Program} {w : World} {A : Around} {s : Shared} {E : Value → Shared → Prop}
theorem rows_any {ex : List Addr} {h : Heap} {vs : List Value} {rows : List (List Int)} (R : RowsX ex h vs rows) (ms : List Int) : (vs.any fun y => rowOf h y == ms) = rows.any fun r => r == ms := by
  induction R with
  | nil => rfl
  | cons a _ ih => rw [List.any_cons, List.any_cons, ih, rowOf_row a]
theorem rows_mem {ex : List Addr} {h : Heap} {vs : List Value} {rows : List (List Int)} (R : RowsX ex h vs rows) : ∀ y ∈ vs, ∃ ns, RowX ex h y ns := by
  induction R with
  | nil => intro y hy; cases hy
  | cons a _ ih =>
    intro y hy
    rcases List.mem_cons.mp hy with rfl | hy
    · exact ⟨_, a⟩
    · exact ih y hy
theorem in_rows {ex : List Addr} {l b : Addr} {vs us : List Value} {rows : List (List Int)} {ms : List Int} {Q : Value → Shared → Prop} (hl : s.heap.IsList l vs.toArray) (R : RowsX ex s.heap vs rows) (hb : s.heap.IsList b us.toArray) (hi : IntsAre us ms) (hu : A.units + 200 < cLine)
    (h : Q (.bool (rows.any fun r => r == ms)) s) : wpAny (model prog w) A (compareOp .In (.ref b) (.ref l)) Q E s := by
  refine SeqAt.in_listAt (fun y => rowOf s.heap y == ms) hl (fun y hy => ?_) ?_
  · obtain ⟨ns, x⟩ := rows_mem R y (by simpa using hy)
    obtain ⟨a, ⟨xs⟩, n, rfl, -, hg, hx⟩ := id x
    rw [rowOf_row x]
    have := keq_ints (A := A) ⟨_, hg, rfl, _, rfl⟩ hx hb hi (by show A.units + 1 + 64 < _; omega)
    have e : decide (ns = ms) = (ns == ms) := by
      cases q : ns == ms
      · exact decide_eq_false (beq_eq_false_iff_ne.mp q)
      · exact decide_eq_true (beq_iff_eq.mp q)
    rw [← e]
    exact this
  · rw [← Array.any_toList, show vs.toArray.toList = vs from rfl, rows_any R]
    exact h
theorem ne_strs {a b : Addr} {vs us : List Value} {ts : List Str} {Q : Value → Shared → Prop} (hl : s.heap.IsList a vs.toArray) (hb : s.heap.IsList b us.toArray) (hi : StrsAre vs ts) (hj : StrsAre us ts) (hu : A.units < cLine) (h : Q (.bool false) s) :
    wpAny (model prog w) A (compareOp .NotEq (.ref a) (.ref b)) Q E s := by
  have e1 := strs_len hi
  have e2 := strs_len hj
  refine SeqAt.RcNeAt.lists (e := fun _ => true) hl hb (by rw [List.size_toArray, List.size_toArray]; omega) hu (fun j h1 h2 => ?_) prog w E Q ?_
  · obtain ⟨x, t, ex, hx⟩ := strs_get hi (i := j) (v := vs.toArray[j]) (by simp)
    obtain ⟨y, u, ey, hy⟩ := strs_get hj (i := j) (v := us.toArray[j]) (by simp)
    rw [hx] at hy
    cases hy
    rw [ex, ey]
    have := SeqAt.EqAt.str_str (A := A.in1) (s := s) x t x u
    rw [beq_self_eq_true] at this
    exact this
  · have : ((List.range vs.toArray.size).all fun _ => true) = true := by simp
    rw [this]
    exact h
theorem bools_any : ∀ {vs : List Value} {bs : List Bool}, LSm.BoolsAre vs bs → (vs.any fun y => match y with | .bool b => b | _ => false) = bs.any id
  | _, _, .nil => rfl
  | _, _, .cons b h => by rw [List.any_cons, List.any_cons, bools_any h]; rfl
theorem bools_mem : ∀ {vs : List Value} {bs : List Bool}, LSm.BoolsAre vs bs → ∀ y ∈ vs, ∃ b, y = .bool b
  | _, _, .nil => fun y hy => nomatch hy
  | _, _, .cons b h => fun y hy => by
    rcases List.mem_cons.mp hy with rfl | hy
    · exact ⟨b, rfl⟩
    · exact bools_mem h y hy
theorem in_bools {l : Addr} {vs : List Value} {bs : List Bool} {Q : Value → Shared → Prop} (hl : s.heap.IsList l vs.toArray) (hi : LSm.BoolsAre vs bs) (h : Q (.bool (bs.any id)) s) :
    wpAny (model prog w) A (compareOp .In (.bool true) (.ref l)) Q E s := by
  refine SeqAt.in_listAt (fun y => match y with | .bool b => b | _ => false) hl (fun y hy => ?_) ?_
  · obtain ⟨b, rfl⟩ := bools_mem hi y (by simpa using hy)
    have := SeqAt.EqAt.bool_bool (A := A.in1) (s := s) b true
    rw [beq_true] at this
    exact this
  · rw [← Array.any_toList, show vs.toArray.toList = vs from rfl, bools_any hi]
    exact h
end
end
section
open PySem PySem.W PyProof.Rows PySem.Calls
set_option Elab.async false
set_option maxRecDepth 100000
set_option maxHeartbeats 100000000
def forBody : Option Stmt → List Stmt | some (.For _ _ b _ _) => b | _ => []
def coatBody : List Stmt := forBody (bodyAt 38)[8]?
def placeBody : List Stmt := forBody coatBody[3]?
def kBody : List Stmt := forBody placeBody[1]?
abbrev lawEnv (hp : Heap) : Env := envOfC (Str.ofString "law") (scopeAt 38) hp.objs.size 224 (.ref 223)
theorem strs_at : ∀ {vs : List Value} {ts : List Str}, StrsAre vs ts → ∀ {i : Nat} {a : Str}, ts[i]? = some a → ∃ t, vs[i]? = some (.str a t)
  | _, _, .cons y t _, 0, _, e => ⟨t, by simpa using e⟩
  | _, _, .cons _ _ h, i + 1, _, e => by simpa using strs_at h (by simpa using e)
theorem bools_at : ∀ {vs : List Value} {bs : List Bool}, LSm.BoolsAre vs bs → ∀ {i : Nat} {b : Bool}, bs[i]? = some b → vs[i]? = some (.bool b)
  | _, _, .cons b _, 0, _, e => by simpa using e
  | _, _, .cons _ h, i + 1, _, e => by simpa using bools_at h (by simpa using e)
section
variable {w : World} {p : Program} {loose : List Str} {mean : ExcName → Option Value} {mg mb : Str → Option Value} {A : Around} {s : Shared} {hp : Heap}
theorem k_turn {Q : Flow → Shared → Prop} {k pl : Nat} {tK tP : Tok} {u : Str → Option Value} {oA oC oW oH : Obj} {own : List (Addr × Obj)} {wL hL : Addr} {ws hs : List Value} {wx : List Str} {hx : List Bool} {nw nh : Nat} {x0 y0 : Str} {b0 : Bool}
    (T : Top p loose mean mg mb hp) (hA : Lo A 12)
    (F : Fr hp hp.objs.size s.heap (fun y => if y = Str.ofString "k" then some (.int (k : Nat) tK) else if y = Str.ofString "place" then some (.int (pl : Nat) tP) else u y))
    (N : News hp hp.objs.size s.heap ((hp.objs.size + 1, oA) :: (hp.objs.size + 2, oC) :: (hp.objs.size + 3, oW) :: (hp.objs.size + 4, oH) :: own))
    (hW : oW.data = .cell (some (.ref wL))) (hH : oH.data = .cell (some (.ref hL)))
    (hw : (wL, W.listOf ws.toArray nw) ∈ own) (hws : StrsAre ws wx) (hh' : (hL, W.listOf hs.toArray nh) ∈ own) (hhs : LSm.BoolsAre hs hx)
    (hk : k < 6) (hpl : pl < 2) (hx0 : wx[k + 2]? = some x0) (hy0 : wx[pl]? = some y0) (hb0 : hx[k]? = some b0) (hxl : x0.length ≤ 1000) (hyl : y0.length ≤ 1000)
    (agree : hitS (headS y0) x0 = b0) :
    (KK w.params).In hp → (∀ h' tk led, Fr hp hp.objs.size h' (fun y => if y = Str.ofString "k" then some (.int (k : Nat) tK) else if y = Str.ofString "place" then some (.int (pl : Nat) tP) else u y) → News hp hp.objs.size h' led →
      (∀ p ∈ (hp.objs.size + 1, oA) :: (hp.objs.size + 2, oC) :: (hp.objs.size + 3, oW) :: (hp.objs.size + 4, oH) :: own, p ∈ led) → Q .next { s with heap := h', toks := tk }) →
    wpAny (model PySem.Challenge.rw_tx0025_01.row.prog w) (A.deeper (lawEnv hp)) (execs kBody (lawEnv hp)) Q noExc s := by
  k_fill
  intro X ret
  obtain ⟨h0, gs, dr, tk, os⟩ := s
  have hh : A.handled = none := hA.hd
  have hret : Ret _ := Ret.mk ret
  clear ret
  dsimp only at F N ⊢
  conv =>
    arg 3
    arg 1
    whnf
  unfold lawEnv
  conv in (scopeAt 38) => whnf
  conv in (scopeAt 38) => whnf
  obtain ⟨tx, hx1⟩ := strs_at hws hx0
  obtain ⟨ty, hy1⟩ := strs_at hws hy0
  have hb1 := bools_at hhs hb0
  have hx1' : Held _ _ := hx1
  have hy1' : Held _ _ := hy1
  have hb1' : Held _ _ := hb1
  have hw' : Ret _ := Ret.mk hw
  have hg' : Ret _ := Ret.mk hh'
  have hN0 : Ret _ := Ret.mk N
  have hagree : Held _ _ := agree
  clear hx1 hy1 hb1 hw hh' hx0 hy0 hb0 agree hws hhs
  iterate 21 (first | walk1 | (dsimp only; walk1))
  refine item_at (k := k + 2) (x := .str x0 tx) ⟨_, (N (wL, W.listOf ws.toArray nw) (.tail _ (.tail _ (.tail _ (.tail _ hw'))))).1, rfl, _, rfl⟩ (by simpa using (show ws[k + 2]? = _ from hx1')) (by omega) ?_ (by with_unfolding_all rfl)
  iterate 3 (first | walk1 | (dsimp only; walk1))
  with_reducible rename Fr _ _ _ _ => FF
  with_reducible rename News _ _ _ _ => NN
  refine ⟨X.keeps FF.keep, ?_⟩
  refine use_record (T.keeps FF.keep) (Lo.le (Lo.deeper hA) (by decide)) (vs := [.str x0 tx]) (NN _ (.head _)).1 (by simp) (by simp) (X.keeps FF.keep) ?_
  intro rr h5 tk5 e5 hR5n
  have hR5 := hR5n.at
  have F5 := fr_ext FF e5
  have N5 := news_ext NN e5
  have hR5' : Ret _ := Ret.mk hR5
  clear FF NN e5 hR5n hR5
  dsimp only at F5 N5 ⊢
  refine rec_applies F5 hR5' X ?_
  iterate 5 (first | walk1 | (dsimp only; walk1))
  refine item_at (k := pl) (x := .str y0 ty) ⟨_, (N5 (wL, W.listOf ws.toArray nw) (.tail _ (.tail _ (.tail _ (.tail _ (.tail _ hw')))))).1, rfl, _, rfl⟩ (by simpa using (show ws[pl]? = _ from hy1')) (by omega) ?_ (by with_unfolding_all rfl)
  iterate 1 (first | walk1 | (dsimp only; walk1))
  refine ⟨X.keeps F5.keep, ?_⟩
  refine use_applies (T.keeps F5.keep) (Lo.le (Lo.deeper hA) (by decide)) hR5' (.cons x0 tx .nil) (fun a ha => by rw [List.mem_singleton.mp ha]; exact hxl) hyl (X.keeps F5.keep) ?_
  intro h6 tk6 e6
  have F6 := fr_ext F5 e6
  have N6 := news_ext N5 e6
  clear F5 N5 e6
  rw [show ([x0].any (hitS (headS y0))) = b0 by rw [List.any_cons, List.any_nil, Bool.or_false]; exact hagree]
  dsimp only at F6 N6 ⊢
  iterate 4 (first | walk1 | (dsimp only; walk1))
  refine item_at (k := k) (x := .bool b0) ⟨_, (N6 (hL, W.listOf hs.toArray nh) (.tail _ (.tail _ (.tail _ (.tail _ (.tail _ hg')))))).1, rfl, _, rfl⟩ (by simpa using (show hs[k]? = _ from hb1')) (by omega) ?_ (by with_unfolding_all rfl)
  iterate 1 (first | walk1 | (dsimp only; walk1))
  refine ⟨X.keeps F6.keep, ?_⟩
  refine use_same (T.keeps F6.keep) (Lo.le (Lo.deeper hA) (by decide)) (X.keeps F6.keep) ?_
  intro h7 tk7 e7
  have F7 := fr_ext F6 e7
  have N7 := news_ext N6 e7
  clear F6 N6 e7
  rw [beq_self_eq_true]
  dsimp only at F7 N7 ⊢
  k_steps
  exact (show ∀ h' tk led, _ from hret) h7 tk7 _ F7 N7 (fun q hq => .tail _ hq)
end
end
section
open PySem PySem.W PyProof.Rows PySem.Calls
set_option Elab.async false
set_option maxRecDepth 100000
set_option maxHeartbeats 100000000
/-- a row, as a ledger tells it -/
def RowIn (Z : List (Addr × Obj)) (v : Value) (ns : List Int) : Prop := ∃ a vs n, v = .ref a ∧ (a, W.listOf vs n) ∈ Z ∧ IntsAre vs.toList ns
inductive RowsIn (Z : List (Addr × Obj)) : List Value → List (List Int) → Prop
  | nil : RowsIn Z [] []
  | cons {v : Value} {ns : List Int} {vs : List Value} {nss : List (List Int)} : RowIn Z v ns → RowsIn Z vs nss → RowsIn Z (v :: vs) (ns :: nss)
def RecIn (w : World) (Z : List (Addr × Obj)) (x : Addr) (items : Array Value) : Prop := ∃ (dx ra rb : Addr) (n : Nat) (a b c d : Tok), (x, instObj 76 dx) ∈ Z ∧ (dx, entryD w a b c d ra rb) ∈ Z ∧ (ra, W.listOf items n) ∈ Z ∧ (rb, W.listOf #[] 0) ∈ Z
/-- h holds the ledger Z -/
def Holds (Z : List (Addr × Obj)) (h : Heap) : Prop := ∀ p ∈ Z, h.get? p.1 = some p.2
theorem RowIn.at {Z : List (Addr × Obj)} {h : Heap} {v : Value} {ns : List Int} (x : RowIn Z v ns) (k : Holds Z h) : RowX [] h v ns := let ⟨a, vs, n, e, hm, hi⟩ := x; ⟨a, vs, n, e, List.not_mem_nil, k _ hm, hi⟩
theorem RowsIn.at {Z : List (Addr × Obj)} {h : Heap} {vs : List Value} {nss : List (List Int)} (x : RowsIn Z vs nss) (k : Holds Z h) : RowsX [] h vs nss := by
  induction x with
  | nil => exact .nil
  | cons a _ ih => exact .cons (a.at k) ih
theorem RowsIn.length {Z : List (Addr × Obj)} {vs : List Value} {nss : List (List Int)} (x : RowsIn Z vs nss) : vs.length = nss.length := by
  induction x with
  | nil => rfl
  | cons a _ ih => simp [ih]
theorem RowsIn.get {Z : List (Addr × Obj)} {vs : List Value} {nss : List (List Int)} (x : RowsIn Z vs nss) : ∀ {i : Nat} {ns : List Int}, nss[i]? = some ns → ∃ v, vs[i]? = some v ∧ RowIn Z v ns := by
  induction x with
  | nil => intro i ns e; simp at e
  | cons a _ ih =>
    intro i ns e
    cases i with
    | zero => simp at e; subst e; exact ⟨_, rfl, a⟩
    | succ i => exact ih (by simpa using e)
theorem RecIn.at {w : World} {Z : List (Addr × Obj)} {h : Heap} {x : Addr} {items : Array Value} (r : RecIn w Z x items) (k : Holds Z h) : RecAt w h x items := let ⟨dx, ra, rb, n, a, b, c, d, e1, e2, e3, e4⟩ := r; ⟨dx, ra, rb, n, a, b, c, d, k _ e1, k _ e2, k _ e3, k _ e4⟩
/-- a ledger off what a loop writes -/
def ZOff (hp : Heap) (ex : List Addr) (Z : List (Addr × Obj)) : Prop := ∀ p ∈ Z, p.1 ∉ ex ∧ hp.get? p.1 = none
theorem own_sub {hp h : Heap} {ex : List Addr} {Z own : List (Addr × Obj)} (off : ZOff hp ex Z) (k : Holds Z h) (how : OwnAll hp h ex own) : ∀ p ∈ Z, p ∈ own := fun p hp => by
  rw [show own = allOf _ h ex from how]
  exact mem_allOf (off p hp).1 (off p hp).2 (k p hp)
theorem holds_keep {ex : List Addr} {h h' : Heap} {Z : List (Addr × Obj)} (k : Holds Z h) (kb : KeepBut ex h h') (off : ∀ p ∈ Z, p.1 ∉ ex) : Holds Z h' := fun p hp => kb _ _ (off p hp) (k p hp)
theorem news_holds {hp h : Heap} {L : Addr} {Z led : List (Addr × Obj)} (N : News hp L h led) (s : ∀ p ∈ Z, p ∈ led) : Holds Z h := fun p hp => (N p (s p hp)).1
section
variable {w : World} {p : Program} {loose : List Str} {mean : ExcName → Option Value} {mg mb : Str → Option Value} {A : Around} {s : Shared} {hp : Heap}
/-- what a turn over the places asks of the rows -/
structure PlaceOk (ags : List (List Int)) (nm : List Int) (c : Int) (wx : List Str) (pl : Nat) : Prop where
  len : wx.length = 8
  short : ∀ x ∈ wx, x.length ≤ 1000
  agree : ∀ k x y, k < 6 → wx[k + 2]? = some x → wx[pl]? = some y → (ags.map (hitO c (tailsO (c == 1) ((headO c nm).map (smallO c)))))[k]? = some (hitS (headS y) x)
theorem place_turn {Q : Flow → Shared → Prop} {pl : Nat} {tP tC : Tok} {u : Str → Option Value} {oA oC oW oH : Obj} {own Z : List (Addr × Obj)} {agL nmL wL shL mgL : Addr} {avs nvs ws svs mvs : List Value} {ags nms : List (List Int)} {nm sh : List Int} {c : Int} {wx mx : List Str} {na nn nw nsh : Nat} {v₀ : Option Value}
    (T : Top p loose mean mg mb hp) (hA : Lo A 14)
    (F : Fr hp hp.objs.size s.heap (fun y => if y = Str.ofString "place" then some (.int (pl : Nat) tP) else if y = Str.ofString "names" then some (.ref nmL) else if y = Str.ofString "merged" then some (.ref mgL) else if y = Str.ofString "shared" then some (.ref shL) else u y))
    (N : News hp hp.objs.size s.heap ((hp.objs.size + 1, oA) :: (hp.objs.size + 2, oC) :: (hp.objs.size + 3, oW) :: (hp.objs.size + 4, oH) :: own))
    (hoff : OwnOff own [hp.objs.size + 1, hp.objs.size + 2, hp.objs.size + 3, hp.objs.size + 4])
    (hcA : oA.data = .cell (some (.ref agL))) (hcC : oC.data = .cell (some (.int c tC))) (hcW : oW.data = .cell (some (.ref wL))) (hcH : oH.data = .cell v₀)
    (hZ : ∀ p ∈ Z, p ∈ own) (zoff : ZOff hp [hp.objs.size, hp.objs.size + 1, hp.objs.size + 2, hp.objs.size + 3, hp.objs.size + 4] Z)
    (zA : (agL, W.listOf avs.toArray na) ∈ Z) (zN : (nmL, W.listOf nvs.toArray nn) ∈ Z) (zW : (wL, W.listOf ws.toArray nw) ∈ Z) (zS : (shL, W.listOf svs.toArray nsh) ∈ Z) (zM : RecIn w Z mgL mvs.toArray)
    (rA : RowsIn Z avs ags) (rN : RowsIn Z nvs nms) (rS : IntsAre svs sh) (rW : StrsAre ws wx) (rM : StrsAre mvs mx)
    (okA : AgentsOk ags) (hnm : nms[pl]? = some nm) (hnl : LenLe nm 8) (hno : Octs nm) (hc : 0 ≤ c ∧ c ≤ 2) (hpl : pl < 2) (ok : PlaceOk ags nm c wx pl)
    (hsh : ∀ k ∈ sh, 0 ≤ k ∧ k < 4) (hshl : sh.length ≤ 4) (hmx : ∀ x ∈ mx, x.length ≤ 1000)
    (okM : ∀ y, wx[pl]? = some y → mx.any (hitS (headS y)) = (sh.map fun k => (ags.map (hitO c (tailsO (c == 1) ((headO c nm).map (smallO c))))).getD k.toNat false).any id) :
    (KK w.params).In hp → (∀ h' tk (m' : Str → Option Value) oH' v' led, Fr hp hp.objs.size h' m' → (∀ z, z ≠ Str.ofString "k" → m' z = (if z = Str.ofString "place" then some (.int (pl : Nat) tP) else if z = Str.ofString "names" then some (.ref nmL) else if z = Str.ofString "merged" then some (.ref mgL) else if z = Str.ofString "shared" then some (.ref shL) else u z)) → News hp hp.objs.size h' led →
      (∀ p ∈ (hp.objs.size + 1, oA) :: (hp.objs.size + 2, oC) :: (hp.objs.size + 3, oW) :: (hp.objs.size + 4, oH') :: own, p ∈ led) → oH'.data = .cell v' → Q .next { s with heap := h', toks := tk }) →
    wpAny (model PySem.Challenge.rw_tx0025_01.row.prog w) (A.deeper (lawEnv hp)) (execs placeBody (lawEnv hp)) Q noExc s := by
  k_fill
  intro X ret
  obtain ⟨h0, gs, dr, tk, os⟩ := s
  have hh : A.handled = none := hA.hd
  have hret : Ret _ := Ret.mk ret
  clear ret
  dsimp only at F N ⊢
  conv =>
    arg 3
    arg 1
    whnf
  unfold lawEnv
  conv in (scopeAt 38) => whnf
  conv in (scopeAt 38) => whnf
  have zW' : Ret _ := Ret.mk zW
  have zA' : Ret _ := Ret.mk zA
  have zN' : Ret _ := Ret.mk zN
  have zS' : Ret _ := Ret.mk zS
  have rA' : Ret _ := Ret.mk rA
  have rW' : Ret _ := Ret.mk rW
  have rS' : Ret _ := Ret.mk rS
  have rM' : Ret _ := Ret.mk rM
  have okA' : Ret _ := Ret.mk okA
  have hno' : Ret _ := Ret.mk hno
  have hsh' : Ret _ := Ret.mk hsh
  have hmx' : Ret _ := Ret.mk hmx
  have okM' : Ret _ := Ret.mk okM
  have zoff' : Ret _ := Ret.mk zoff
  have hZ' : Ret _ := Ret.mk hZ
  obtain ⟨nv, hnv, nmA, ⟨nus⟩, nnu, rfl, zNm, hNi⟩ := rN.get hnm
  have hNi : IntsAre nus nm := hNi
  have hnv' : Held _ _ := hnv
  have zNm' : Ret _ := Ret.mk zNm
  clear zW zA zN zS rA rN rW rS rM okA hno hsh hmx okM zoff hZ hnv zNm hnm
  iterate 11 (first | walk1 | (dsimp only; walk1))
  have kZ : Holds Z h0 := news_holds N fun q hq => .tail _ (.tail _ (.tail _ (.tail _ ((show ∀ p ∈ Z, p ∈ own from hZ') q hq))))
  refine item_at (k := pl) (x := .ref nmA) ⟨_, kZ (nmL, W.listOf nvs.toArray nn) zN', rfl, _, rfl⟩ (by simpa using (show nvs[pl]? = _ from hnv')) (by omega) ?_ (by with_unfolding_all rfl)
  iterate 3 (first | walk1 | (dsimp only; walk1))
  refine ⟨X.keeps F.keep, ?_⟩
  refine use_hits (T.keeps F.keep) (Lo.le (Lo.deeper hA) (by decide)) ⟨_, kZ (agL, W.listOf avs.toArray na) zA', rfl, _, rfl⟩ (RowsIn.at (rA' : RowsIn _ _ _) kZ) okA' (kZ (nmA, W.listOf nus.toArray nnu) zNm') hNi hnl hno' hc (X.keeps F.keep) ?_
  intro hL hs nh h5 tk5 e5 hr5 hg5 hB5
  have F5 := fr_ext F e5
  have N5 := news_add F (news_ext N e5) hr5 hg5
  have hB5' : Ret _ := Ret.mk hB5
  have hLc : @Ne Nat hL (hp.objs.size + 4) := alive_ne (N (hp.objs.size + 4, oH) (.tail _ (.tail _ (.tail _ (.head _))))).1 hr5
  have hL0 : hL ∉ [hp.objs.size, hp.objs.size + 1, hp.objs.size + 2, hp.objs.size + 3, hp.objs.size + 4] := by
    have a0 : hL ≠ hp.objs.size := (N5 _ (.head _)).2.1
    have a1 : hL ≠ hp.objs.size + 1 := alive_ne (N (hp.objs.size + 1, oA) (.head _)).1 hr5
    have a2 : hL ≠ hp.objs.size + 2 := alive_ne (N (hp.objs.size + 2, oC) (.tail _ (.head _))).1 hr5
    have a3 : hL ≠ hp.objs.size + 3 := alive_ne (N (hp.objs.size + 3, oW) (.tail _ (.tail _ (.head _)))).1 hr5
    intro q
    simp only [List.mem_cons, List.not_mem_nil, or_false] at q
    rcases q with q | q | q | q | q
    · exact a0 q
    · exact a1 q
    · exact a2 q
    · exact a3 q
    · exact hLc q
  have zoff2 : ZOff hp [hp.objs.size, hp.objs.size + 1, hp.objs.size + 2, hp.objs.size + 3, hp.objs.size + 4] ((hL, W.listOf hs.toArray nh) :: Z) := fun q hq => by
    rcases List.mem_cons.mp hq with rfl | hq
    · exact ⟨hL0, (N5 _ (.head _)).2.2⟩
    · exact (show ZOff _ _ _ from zoff') q hq
  have zoff2' : Ret _ := Ret.mk zoff2
  clear kZ zoff2 hL0 F N hr5 hg5 e5 hB5
  dsimp only at F5 N5 ⊢
  iterate 3 (first | walk1 | (dsimp only; walk1))
  with_reducible rename Fr _ _ _ _ => FF
  with_reducible rename News _ _ _ _ => NN
  have hF0 : Ret _ := Ret.mk FF
  refine' For_growF FF ?hx ?hp ?hs ?hE ?_
  case hx => with_unfolding_all rfl
  case hp => with_unfolding_all rfl
  case hs => (intro _; with_unfolding_all rfl)
  case hE => exact noExc_passes
  k_steps
  rename_i h6 oH2 F6 N6 dH h7 tk7 t1 u1 v1 hr7 F7 N7 k7
  dsimp only at hr7 F7 N7 k7 ⊢
  have dH' : Ret _ := Ret.mk dH
  have N7c : News hp hp.objs.size h7 [(hp.objs.size + 1, oA), (hp.objs.size + 2, oC), (hp.objs.size + 3, oW), (hp.objs.size + 4, oH2)] := fun q hq => N7 q (by
    simp only [List.mem_cons, List.not_mem_nil, or_false] at hq ⊢
    rcases hq with rfl | rfl | rfl | rfl
    · exact .inr (.inl rfl)
    · exact .inr (.inr (.inl rfl))
    · exact .inr (.inr (.inr (.inl rfl)))
    · exact .inr (.inr (.inr (.inr (.inl rfl)))))
  have kZ7 : Holds ((hL, W.listOf hs.toArray nh) :: Z) h7 := news_holds N7 fun q hq => by
    rcases List.mem_cons.mp hq with rfl | hq
    · exact .head _
    · exact .tail _ (.tail _ (.tail _ (.tail _ (.tail _ ((show ∀ p ∈ Z, p ∈ own from hZ') q hq)))))
  have hlt7 : ∀ q ∈ (hL, W.listOf hs.toArray nh) :: Z, q.1 ≠ h7.objs.size := fun q hq => Nat.ne_of_lt (Heap.lt_size (kZ7 q hq))
  have hlt7' : Ret _ := Ret.mk hlt7
  have hNall : ∀ q ∈ own, h7.get? q.1 = some q.2 ∧ q.1 ≠ h7.objs.size := fun q hq => ⟨(N7 q (.tail _ (.tail _ (.tail _ (.tail _ (.tail _ hq)))))).1, Nat.ne_of_lt (Heap.lt_size (N7 q (.tail _ (.tail _ (.tail _ (.tail _ (.tail _ hq)))))).1)⟩
  have hNnew : ∀ q ∈ own, q.1 ≠ hp.objs.size ∧ hp.get? q.1 = none := fun q hq => (N7 q (.tail _ (.tail _ (.tail _ (.tail _ (.tail _ hq)))))).2
  have hNnew' : Ret _ := Ret.mk hNnew
  clear hlt7 F6 N6 dH hNnew
  refine loop_range (n := 6) (mu := [hp.objs.size + 1, hp.objs.size + 2, hp.objs.size + 3, hp.objs.size + 4]) [] (fun i c h => c = [(hp.objs.size + 1, oA), (hp.objs.size + 2, oC), (hp.objs.size + 3, oW), (hp.objs.size + 4, oH2)] ∧ Holds ((hL, W.listOf hs.toArray nh) :: Z) h ∧ Holds own h) hh hr7 (by decide) F7 N7c rfl ⟨rfl, kZ7, fun q hq => (hNall q hq).1⟩ ?_ ?_ ?_
  · rintro i c h h' ⟨rfl, h1, h3⟩ k
    refine ⟨rfl, holds_keep h1 k fun q hq r => ?_, holds_keep h3 k fun q hq r => ?_⟩
    · rcases List.mem_append.mp r with r | r
      · exact ((show ZOff _ _ _ from zoff2') q hq).1 r
      · exact (show ∀ q ∈ (hL, W.listOf hs.toArray nh) :: Z, q.1 ≠ h7.objs.size from hlt7') q hq (List.mem_singleton.mp r)
    · rcases List.mem_append.mp r with r | r
      · rcases List.mem_cons.mp r with r | r
        · exact ((show ∀ q ∈ own, _ from hNnew') q hq).1 r
        · exact hoff q hq _ r rfl
      · exact (hNall q hq).2 (List.mem_singleton.mp r)
  · rintro i ti u' cc h tk' own' hi ⟨rfl, g1, g2⟩ hcc hof hal F8 N8 how8
    obtain ⟨x0, hx0⟩ : ∃ x, wx[i + 2]? = some x := ⟨_, List.getElem?_eq_getElem (by rw [ok.len]; omega)⟩
    obtain ⟨y0, hy0⟩ : ∃ x, wx[pl]? = some x := ⟨_, List.getElem?_eq_getElem (by rw [ok.len]; omega)⟩
    have hsub := own_sub (show ZOff _ _ _ from zoff2') g1 how8
    refine k_turn (k := i) (x0 := x0) (y0 := y0) T (Lo.le hA (by decide)) (u := fun y => if y = Str.ofString "names" then some (.ref nmL) else if y = Str.ofString "merged" then some (.ref mgL) else if y = Str.ofString "shared" then some (.ref shL) else u y) F8 N8 hcW dH' (hsub _ (.tail _ zW')) rW' (hsub _ (.head _)) hB5' hi hpl hx0 hy0 (ok.agree i x0 y0 hi hx0 hy0) (ok.short _ (List.mem_of_getElem? hx0)) (ok.short _ (List.mem_of_getElem? hy0)) rfl X ?_
    intro h9 tk9 led9 F9 N9 hs9
    refine TurnG.nx F8 how8 F9 N9 (fun q hq => hs9 q (.tail _ (.tail _ (.tail _ (.tail _ hq))))) (cont := [(hp.objs.size + 1, oA), (hp.objs.size + 2, oC), (hp.objs.size + 3, oW), (hp.objs.size + 4, oH2)]) rfl (fun q hq => hs9 q (List.mem_append_left own' hq)) (by intro z hz _; simp [hz]) fun kp => ⟨rfl, holds_keep g1 kp fun q hq => ((show ZOff _ _ _ from zoff2') q hq).1, holds_keep g2 kp fun q hq r => ?_⟩
    rcases List.mem_cons.mp r with r | r
    · exact ((show ∀ q ∈ own, _ from hNnew') q hq).1 r
    · exact hoff q hq _ r rfl
  · rintro h9 tk9 u9 cc own9 F9 N9 hcc9 how9 ⟨rfl, g1, g2⟩
    have hsub := own_sub (show ZOff _ _ _ from zoff2') g1 how9
    have hsub2 : ∀ q ∈ own, q ∈ own9 := fun q hq => by
      rw [show own9 = allOf _ h9 _ from how9]
      refine mem_allOf (fun r => ?_) ((show ∀ q ∈ own, _ from hNnew') q hq).2 (g2 q hq)
      rcases List.mem_cons.mp r with r | r
      · exact ((show ∀ q ∈ own, _ from hNnew') q hq).1 r
      · exact hoff q hq _ r rfl
    have hsub' : Ret _ := Ret.mk hsub
    have hsub2' : Ret _ := Ret.mk hsub2
    have F9 : Fr hp hp.objs.size h9 (fun y => if y = Str.ofString "k" then u9 y else if y = Str.ofString "place" then some (.int (pl : Nat) tP) else if y = Str.ofString "names" then some (.ref nmL) else if y = Str.ofString "merged" then some (.ref mgL) else if y = Str.ofString "shared" then some (.ref shL) else u y) := F9
    simp only [List.cons_append, List.nil_append] at N9
    clear hsub hsub2 how9 g1 g2 hcc9 F7 N7 N7c k7 hr7 kZ7 hNall
    iterate 10 (first | walk1 | (dsimp only; walk1))
    have kZ9 : Holds ((hL, W.listOf hs.toArray nh) :: Z) h9 := news_holds N9 fun q hq => .tail _ (.tail _ (.tail _ (.tail _ ((show ∀ p ∈ _, p ∈ own9 from hsub') q hq))))
    have kZ9' : Ret _ := Ret.mk kZ9
    refine rec_applies F9 (zM.at fun q hq => kZ9 q (.tail _ hq)) X ?_
    clear kZ9
    obtain ⟨y0, hy0⟩ : ∃ x, wx[pl]? = some x := ⟨_, List.getElem?_eq_getElem (by rw [ok.len]; omega)⟩
    obtain ⟨ty, hy1⟩ := strs_at rW' hy0
    have hyl : y0.length ≤ 1000 := ok.short _ (List.mem_of_getElem? hy0)
    have hy0' : Held _ _ := hy0
    have hy1' : Held _ _ := hy1
    clear hy0 hy1
    iterate 5 (first | walk1 | (dsimp only; walk1))
    refine item_at (k := pl) (x := .str y0 ty) ⟨_, (show Holds _ h9 from kZ9') (wL, W.listOf ws.toArray nw) (.tail _ zW'), rfl, _, rfl⟩ (by simpa using (show ws[pl]? = _ from hy1')) (by omega) ?_ (by with_unfolding_all rfl)
    iterate 1 (first | walk1 | (dsimp only; walk1))
    refine ⟨X.keeps F9.keep, ?_⟩
    refine use_applies (T.keeps F9.keep) (Lo.le (Lo.deeper hA) (by decide)) (zM.at fun q hq => (show Holds _ h9 from kZ9') q (.tail _ hq)) rM' hmx' hyl (X.keeps F9.keep) ?_
    intro h10 tk10 e10
    have F10 := fr_ext F9 e10
    have N10 := news_ext N9 e10
    have kZ10 : Holds ((hL, W.listOf hs.toArray nh) :: Z) h10 := fun q hq => e10 _ _ ((show Holds _ h9 from kZ9') q hq)
    have kZ10' : Ret _ := Ret.mk kZ10
    rw [(show ∀ y, wx[pl]? = some y → _ from okM') y0 hy0']
    clear F9 N9 e10 kZ10 hy0' hy1' kZ9'
    dsimp only at F10 N10 ⊢
    iterate 5 (first | walk1 | (dsimp only; walk1))
    have XB := X.keeps F10.keep
    have TB := T.keeps F10.keep
    have cH : Heap.IsCell h10 (hp.objs.size + 1 + 1 + 1 + 1) (some (.ref hL)) := ⟨_, (N10 (hp.objs.size + 4, oH2) (.tail _ (.tail _ (.tail _ (.head _))))).1, dH'⟩
    have hlS : h10.IsList shL svs.toArray := ⟨_, (show Holds _ h10 from kZ10') (shL, W.listOf svs.toArray nsh) (.tail _ zS'), rfl, _, rfl⟩
    have hlH : h10.IsList hL hs.toArray := ⟨_, (show Holds _ h10 from kZ10') (hL, W.listOf hs.toArray nh) (.head _), rfl, _, rfl⟩
    have hsl : svs.toArray.size ≤ 1000 := by rw [List.size_toArray, IntsAre.length (show IntsAre svs sh from rS')]; omega
    have hrB := hB5'
    have hBl : (ags.map (hitO c (tailsO (c == 1) ((headO c nm).map (smallO c))))).length = 6 := by rw [List.length_map]; exact (show AgentsOk ags from okA').1
    generalize hBB : ags.map (hitO c (tailsO (c == 1) ((headO c nm).map (smallO c)))) = B at hrB hBl ⊢
    have hrB' : Ret _ := Ret.mk hrB
    have hBl' : Held _ _ := hBl
    clear hrB hBl hBB
    refine comp_list (fun ex i ys h => LSm.BoolsAre ys ((sh.take i).map fun k => B.getD k.toNat false)) hh hlS hsl (fun _ h => nomatch h) (fun _ _ => .nil) (fun _ _ _ _ _ h _ => h) ?_ ?_
    · intro C ex i v ys hC tkC ownC mC hvC hJ FC NC hoC halC
      refine wpAny_tests_nil ?_
      simp only [if_true]
      obtain ⟨k, tk9', rfl, hk⟩ := ints_get (show IntsAre svs sh from rS') (by simpa using hvC)
      have hk4 := (show ∀ k ∈ sh, _ from hsh') k (List.mem_of_getElem? hk)
      obtain ⟨kn, rfl⟩ : ∃ n : Nat, k = (n : Int) := ⟨k.toNat, by omega⟩
      have hkn : kn < 4 := by omega
      have hJ' : Ret _ := Ret.mk hJ
      have hk' : Held _ _ := hk
      clear hJ hvC hk hk4
      dsimp only at FC NC hoC ⊢
      iterate 3 (first | walk1 | (dsimp only; walk1))
      have hbk : B[kn]? = some (B.getD kn false) := by
        have hb : B.length = 6 := hBl'
        rw [List.getD_eq_getElem?_getD, List.getElem?_eq_getElem (by omega)]
        rfl
      have hhk := bools_at (show LSm.BoolsAre hs B from hrB') hbk
      refine item_at (k := kn) (x := .bool (B.getD kn false)) (Fr.lst FC hlH) (by simpa using hhk) (by omega) ?_ (by with_unfolding_all rfl)
      refine CEnd.mk FC NC (fun q hq => hq) ?_
      show LSm.BoolsAre (ys ++ [.bool (B.getD kn false)]) _
      rw [Mine.take_snoc (show sh[i]? = some (kn : Int) from hk'), List.map_append]
      exact kbo_app (show LSm.BoolsAre ys _ from hJ') (.cons _ .nil)
    · intro D ex h11 tk11 ys hD hDex hPL hJ hK
      obtain ⟨nD, hPL⟩ := hPL
      have eD : Ext h10 h11 := fun b o e => hK b o (List.not_mem_nil) e
      have F11 := fr_ext F10 eD
      have N11 := news_add F10 (news_ext N10 eD) hD hPL
      have hJ11 : LSm.BoolsAre ys (sh.map fun k => B.getD k.toNat false) := by
        rw [List.size_toArray, IntsAre.length (show IntsAre svs sh from rS'), List.take_length] at hJ
        exact hJ
      refine in_bools ⟨_, hPL, rfl, _, rfl⟩ hJ11 ?_
      generalize ((sh.map fun k => B.getD k.toNat false).any id) = bb
      clear F10 N10 hD hPL hJ hJ11 hK eD XB TB cH hlS hlH
      dsimp only at F11 N11 ⊢
      iterate 1 (first | walk1 | (dsimp only; walk1))
      refine ⟨X.keeps F11.keep, ?_⟩
      refine use_same (T.keeps F11.keep) (Lo.le (Lo.deeper hA) (by decide)) (X.keeps F11.keep) ?_
      intro h12 tk12 e12
      have F12 := fr_ext F11 e12
      have N12 := news_ext N11 e12
      clear F11 N11 e12
      rw [beq_self_eq_true]
      dsimp only at F12 N12 ⊢
      k_steps
      refine (show ∀ h' tk (m' : Str → Option Value) oH' v' led, _ from hret) h12 tk12 _ oH2 _ _ F12 (fun z hz => by simp [hz]) N12 (fun q hq => ?_) dH'
      rcases List.mem_append.mp (show q ∈ [(hp.objs.size + 1, oA), (hp.objs.size + 2, oC), (hp.objs.size + 3, oW), (hp.objs.size + 4, oH2)] ++ own from hq) with hq | hq
      · exact .tail _ (List.mem_append_left own9 hq)
      · exact .tail _ (.tail _ (.tail _ (.tail _ (.tail _ ((show ∀ q ∈ own, q ∈ own9 from hsub2') q hq)))))
end
end
section
open PySem PySem.W PyProof.Rows PySem.Calls
set_option Elab.async false
set_option maxRecDepth 100000
set_option maxHeartbeats 100000000
theorem rowsIn_append {Z : List (Addr × Obj)} {vs us : List Value} {nss mss : List (List Int)} (x : RowsIn Z vs nss) (y : RowsIn Z us mss) : RowsIn Z (vs ++ us) (nss ++ mss) := by
  induction x with
  | nil => exact y
  | cons a _ ih => exact .cons a ih
section
variable {w : World} {p : Program} {loose : List Str} {mean : ExcName → Option Value} {mg mb : Str → Option Value} {A : Around} {s : Shared} {hp : Heap}
def pick (wx : List Str) (k : Int) : Str := wx.getD (k.toNat + 2) ⟨#[]⟩
theorem coat_tail {Q : Flow → Shared → Prop} {tC : Tok} {u : Str → Option Value} {oA oC oW oH : Obj} {own own3 Z : List (Addr × Obj)} {agL nmL wL shL mgL : Addr} {avs nvs ws svs mvs : List Value} {ags nms : List (List Int)} {sh : List Int} {c : Int} {wx : List Str} {na nn nw nsh : Nat} {v₀ : Option Value}
    (T : Top p loose mean mg mb hp) (hA : Lo A 15)
    (F : Fr hp hp.objs.size s.heap (fun y => if y = Str.ofString "merged" then some (.ref mgL) else if y = Str.ofString "names" then some (.ref nmL) else if y = Str.ofString "shared" then some (.ref shL) else u y))
    (N : News hp hp.objs.size s.heap ((hp.objs.size + 1, oA) :: (hp.objs.size + 2, oC) :: (hp.objs.size + 3, oW) :: (hp.objs.size + 4, oH) :: own3))
    (hown : ∀ p ∈ own, p ∈ own3) (hoff : OwnOff own [hp.objs.size + 1, hp.objs.size + 2, hp.objs.size + 3, hp.objs.size + 4])
    (hcA : oA.data = .cell (some (.ref agL))) (hcC : oC.data = .cell (some (.int c tC))) (hcW : oW.data = .cell (some (.ref wL))) (hcH : oH.data = .cell v₀)
    (hZ : ∀ p ∈ Z, p ∈ own3) (zoff : ZOff hp [hp.objs.size, hp.objs.size + 1, hp.objs.size + 2, hp.objs.size + 3, hp.objs.size + 4] Z)
    (zA : (agL, W.listOf avs.toArray na) ∈ Z) (zN : (nmL, W.listOf nvs.toArray nn) ∈ Z) (zW : (wL, W.listOf ws.toArray nw) ∈ Z) (zS : (shL, W.listOf svs.toArray nsh) ∈ Z) (zM : RecIn w Z mgL mvs.toArray)
    (rA : RowsIn Z avs ags) (rN : RowsIn Z nvs nms) (rS : IntsAre svs sh) (rW : StrsAre ws wx) (rM : StrsAre mvs (sh.map (pick wx)))
    (okA : AgentsOk ags) (hnl : nms.length = 2) (hnO : ∀ nm ∈ nms, LenLe nm 8 ∧ Octs nm) (hc : 0 ≤ c ∧ c ≤ 2) (hwl : wx.length = 8) (hws : ∀ x ∈ wx, x.length ≤ 1000)
    (ok : ∀ pl nm, pl < 2 → nms[pl]? = some nm → PlaceOk ags nm c wx pl)
    (hsh : ∀ k ∈ sh, 0 ≤ k ∧ k < 4) (hshl : sh.length ≤ 4)
    (okM : ∀ pl nm y, pl < 2 → nms[pl]? = some nm → wx[pl]? = some y → (sh.map (pick wx)).any (hitS (headS y)) = (sh.map fun k => (ags.map (hitO c (tailsO (c == 1) ((headO c nm).map (smallO c))))).getD k.toNat false).any id)
    (okN : ((sh.map (pick wx)).any fun x => x == Str.ofString "*") = (decide (c < 2) && (sh.map fun k => ags.getD k.toNat []).any fun r => r == [42])) :
    (KK w.params).In hp → (∀ h' tk (m' : Str → Option Value) oH' v' led, Fr hp hp.objs.size h' m' → (∀ z, z ≠ Str.ofString "place" → [Str.ofString "k"].contains z = false → m' z = (if z = Str.ofString "merged" then some (.ref mgL) else if z = Str.ofString "names" then some (.ref nmL) else if z = Str.ofString "shared" then some (.ref shL) else u z)) → News hp hp.objs.size h' led →
      (∀ p ∈ (hp.objs.size + 1, oA) :: (hp.objs.size + 2, oC) :: (hp.objs.size + 3, oW) :: (hp.objs.size + 4, oH') :: own, p ∈ led) → oH'.data = .cell v' → Q .next { s with heap := h', toks := tk }) →
    wpAny (model PySem.Challenge.rw_tx0025_01.row.prog w) (A.deeper (lawEnv hp)) (execs (coatBody.drop 2) (lawEnv hp)) Q noExc s := by
  k_fill
  intro X ret
  obtain ⟨h0, gs, dr, tk, os⟩ := s
  have hh : A.handled = none := hA.hd
  have hret : Ret _ := Ret.mk ret
  clear ret
  dsimp only at F N ⊢
  conv =>
    arg 3
    arg 1
    whnf
  unfold lawEnv
  conv in (scopeAt 38) => whnf
  conv in (scopeAt 38) => whnf
  have zW' : Ret _ := Ret.mk zW
  have zA' : Ret _ := Ret.mk zA
  have zN' : Ret _ := Ret.mk zN
  have zS' : Ret _ := Ret.mk zS
  have zM' : Ret _ := Ret.mk zM
  have rA' : Ret _ := Ret.mk rA
  have rN' : Ret _ := Ret.mk rN
  have rW' : Ret _ := Ret.mk rW
  have rS' : Ret _ := Ret.mk rS
  have rM' : Ret _ := Ret.mk rM
  have okA' : Ret _ := Ret.mk okA
  have hnO' : Ret _ := Ret.mk hnO
  have hsh' : Ret _ := Ret.mk hsh
  have hws' : Ret _ := Ret.mk hws
  have ok' : Ret _ := Ret.mk ok
  have okM' : Ret _ := Ret.mk okM
  have okN' : Ret _ := Ret.mk okN
  have zoff' : Ret _ := Ret.mk zoff
  have hZ' : Ret _ := Ret.mk hZ
  have hown' : Ret _ := Ret.mk hown
  have hoff' : Ret _ := Ret.mk hoff
  clear zW zA zN zS zM rA rN rS rW rM okA hnO hsh hws ok okM okN zoff hZ hown hoff
  have kZ : Holds Z h0 := news_holds N fun q hq => .tail _ (.tail _ (.tail _ (.tail _ ((show ∀ p ∈ Z, p ∈ own3 from hZ') q hq))))
  have kZ' : Ret _ := Ret.mk kZ
  clear kZ
  iterate 5 (first | walk1 | (dsimp only; walk1))
  refine rec_agents F ((show RecIn w Z mgL mvs.toArray from zM').at kZ') X ?_
  intro raL nraL hraL
  have hraL' : Ret _ := Ret.mk hraL
  clear hraL
  iterate 2 (first | walk1 | (dsimp only; walk1))
  have XB := X.keeps F.keep
  have TB := T.keeps F.keep
  have cW : Heap.IsCell h0 (hp.objs.size + 1 + 1 + 1) (some (.ref wL)) := ⟨_, (N (hp.objs.size + 3, oW) (.tail _ (.tail _ (.head _)))).1, hcW⟩
  have hlS : h0.IsList shL svs.toArray := ⟨_, (show Holds Z h0 from kZ') (shL, W.listOf svs.toArray nsh) zS', rfl, _, rfl⟩
  have hlW : h0.IsList wL ws.toArray := ⟨_, (show Holds Z h0 from kZ') (wL, W.listOf ws.toArray nw) zW', rfl, _, rfl⟩
  have hsl : svs.toArray.size ≤ 1000 := by rw [List.size_toArray, IntsAre.length (show IntsAre svs sh from rS')]; omega
  refine comp_list (fun ex i ys h => StrsAre ys ((sh.take i).map (pick wx))) hh hlS hsl (fun _ h => nomatch h) (fun _ _ => .nil) (fun _ _ _ _ _ h _ => h) ?_ ?_
  · intro C ex i v ys hC tkC ownC mC hvC hJ FC NC hoC halC
    refine wpAny_tests_nil ?_
    simp only [if_true]
    obtain ⟨k, tk9', rfl, hk⟩ := ints_get (show IntsAre svs sh from rS') (by simpa using hvC)
    have hk4 := (show ∀ k ∈ sh, _ from hsh') k (List.mem_of_getElem? hk)
    obtain ⟨kn, rfl⟩ : ∃ n : Nat, k = (n : Int) := ⟨k.toNat, by omega⟩
    have hkn : kn < 4 := by omega
    have hJ' : Ret _ := Ret.mk hJ
    have hk' : Held _ _ := hk
    clear hJ hvC hk hk4
    dsimp only at FC NC hoC ⊢
    iterate 6 (first | walk1 | (dsimp only; walk1))
    have hxk : wx[kn + 2]? = some (pick wx (kn : Int)) := by
      unfold pick
      rw [Int.toNat_natCast, List.getD_eq_getElem?_getD, List.getElem?_eq_getElem (by omega)]
      rfl
    obtain ⟨tx, htx⟩ := strs_at (show StrsAre ws wx from rW') hxk
    refine item_at (k := kn + 2) (x := .str (pick wx (kn : Int)) tx) (Fr.lst FC hlW) (by simpa using htx) (by omega) ?_ (by with_unfolding_all rfl)
    refine CEnd.mk FC NC (fun q hq => hq) ?_
    show StrsAre (ys ++ [.str (pick wx (kn : Int)) tx]) _
    rw [Mine.take_snoc (show sh[i]? = some (kn : Int) from hk'), List.map_append]
    exact strs_append (show StrsAre ys _ from hJ') (.cons _ _ .nil)
  · intro D ex h1 tk1 ys hD hDex hPL hJ hK
    obtain ⟨nD, hPL⟩ := hPL
    have eD : Ext h0 h1 := fun b o e => hK b o (List.not_mem_nil) e
    have F1 := fr_ext F eD
    have N1 := news_ext N eD
    have kZ1 : Holds Z h1 := fun q hq => eD _ _ ((show Holds Z h0 from kZ') q hq)
    have kZ1' : Ret _ := Ret.mk kZ1
    rw [List.size_toArray, IntsAre.length (show IntsAre svs sh from rS'), List.take_length] at hJ
    refine ne_strs ⟨_, eD _ _ (show h0.get? raL = _ from hraL'), rfl, _, rfl⟩ ⟨_, hPL, rfl, _, rfl⟩ (show StrsAre mvs _ from rM') hJ (by have := hA.un; show A.units + 3 < cLine; unfold cLine; omega) ?_
    clear F N hD hPL hJ hK eD XB TB cW hlS hlW hsl kZ1 kZ' hraL'
    dsimp only at F1 N1 ⊢
    iterate 4 (first | walk1 | (dsimp only; walk1))
    refine' For_growF F1 ?hx ?hp ?hs ?hE ?_
    case hx => with_unfolding_all rfl
    case hp => with_unfolding_all rfl
    case hs => (intro _; with_unfolding_all rfl)
    case hE => exact noExc_passes
    k_steps
    rename_i h7 tk7 t1 u1 v1 hr7 F7 N7 k7
    dsimp only at hr7 F7 N7 k7 ⊢
    have N7c : News hp hp.objs.size h7 [(hp.objs.size + 1, oA), (hp.objs.size + 2, oC), (hp.objs.size + 3, oW), (hp.objs.size + 4, oH)] := fun q hq => N7 q (List.mem_append_left own3 hq)
    have kZ7 : Holds Z h7 := fun q hq => k7 _ _ ((show Holds Z h1 from kZ1') q hq)
    have kO7 : Holds own h7 := fun q hq => (N7 q (.tail _ (.tail _ (.tail _ (.tail _ ((show ∀ p ∈ own, p ∈ own3 from hown') q hq)))))).1
    have hlt7 : ∀ q ∈ Z, q.1 ≠ h7.objs.size := fun q hq => Nat.ne_of_lt (Heap.lt_size (kZ7 q hq))
    have hlt8 : ∀ q ∈ own, q.1 ≠ h7.objs.size := fun q hq => Nat.ne_of_lt (Heap.lt_size (kO7 q hq))
    have hNnew : ∀ q ∈ own, q.1 ≠ hp.objs.size ∧ hp.get? q.1 = none := fun q hq => (N7 q (.tail _ (.tail _ (.tail _ (.tail _ ((show ∀ p ∈ own, p ∈ own3 from hown') q hq)))))).2
    have hNnew' : Ret _ := Ret.mk hNnew
    have hlt7' : Ret _ := Ret.mk hlt7
    have hlt8' : Ret _ := Ret.mk hlt8
    have zoffO : ZOff hp [hp.objs.size, hp.objs.size + 1, hp.objs.size + 2, hp.objs.size + 3, hp.objs.size + 4] own := fun q hq => ⟨fun r => by
      rcases List.mem_cons.mp r with r | r
      · exact (hNnew q hq).1 r
      · exact (show OwnOff own _ from hoff') q hq _ r rfl, (hNnew q hq).2⟩
    have zoffO' : Ret _ := Ret.mk zoffO
    clear hlt7 hlt8 hNnew zoffO kZ1' k7
    refine loop_range (n := 2) (mu := [hp.objs.size + 1, hp.objs.size + 2, hp.objs.size + 3, hp.objs.size + 4]) [Str.ofString "k"] (fun i c h => ∃ oH2 v2, c = [(hp.objs.size + 1, oA), (hp.objs.size + 2, oC), (hp.objs.size + 3, oW), (hp.objs.size + 4, oH2)] ∧ oH2.data = .cell v2 ∧ Holds Z h ∧ Holds own h) hh hr7 (by decide) F7 N7c rfl ⟨oH, v₀, rfl, hcH, kZ7, kO7⟩ ?_ ?_ ?_
    · rintro i c h h' ⟨oH2, v2, rfl, dH2, g1, g2⟩ k
      refine ⟨oH2, v2, rfl, dH2, holds_keep g1 k fun q hq r => ?_, holds_keep g2 k fun q hq r => ?_⟩
      · rcases List.mem_append.mp r with r | r
        · exact ((show ZOff _ _ Z from zoff') q hq).1 r
        · exact (show ∀ q ∈ Z, q.1 ≠ h7.objs.size from hlt7') q hq (List.mem_singleton.mp r)
      · rcases List.mem_append.mp r with r | r
        · exact ((show ZOff _ _ own from zoffO') q hq).1 r
        · exact (show ∀ q ∈ own, q.1 ≠ h7.objs.size from hlt8') q hq (List.mem_singleton.mp r)
    · rintro i ti u' cc h tk' own' hi ⟨oH2, v2, rfl, dH2, g1, g2⟩ hcc hof hal F8 N8 how8
      obtain ⟨nm, hnm⟩ : ∃ nm, nms[i]? = some nm := ⟨_, List.getElem?_eq_getElem (by omega)⟩
      have hnO := (show ∀ nm ∈ nms, _ from hnO') nm (List.mem_of_getElem? hnm)
      have hsub := own_sub (show ZOff _ _ _ from zoff') g1 how8
      have hsubO := own_sub (show ZOff _ _ own from zoffO') g2 how8
      have hml : ∀ z, z ≠ Str.ofString "place" → [Str.ofString "k"].contains z = false → (if z = Str.ofString "place" then some (.int (i : Nat) ti) else if z = Str.ofString "names" then some (.ref nmL) else if z = Str.ofString "merged" then some (.ref mgL) else if z = Str.ofString "shared" then some (.ref shL) else if z = Str.ofString "place" then some (.int (i : Nat) ti) else if [Str.ofString "k"].contains z then u' z else if z = Str.ofString "merged" then some (Value.ref mgL) else if z = Str.ofString "names" then some (.ref nmL) else if z = Str.ofString "shared" then some (.ref shL) else u z) = (if z = Str.ofString "merged" then some (.ref mgL) else if z = Str.ofString "names" then some (.ref nmL) else if z = Str.ofString "shared" then some (.ref shL) else u z) := by
        intro z hz hs
        by_cases e2 : z = Str.ofString "names"
        · subst e2; rfl
        · by_cases e3 : z = Str.ofString "merged"
          · subst e3; rfl
          · by_cases e4 : z = Str.ofString "shared"
            · subst e4; rfl
            · rw [if_neg hz, if_neg e2, if_neg e3, if_neg e4, if_neg hz, hs, if_neg Bool.false_ne_true]
      have hml' : Ret _ := Ret.mk hml
      clear hml
      refine place_turn (pl := i) (tP := ti) T (Lo.le hA (by decide)) (fr_name (x := Str.ofString "place") (v := .int (i : Nat) ti) (fr_name (x := Str.ofString "names") (v := .ref nmL) (fr_name (x := Str.ofString "merged") (v := .ref mgL) (fr_name (x := Str.ofString "shared") (v := .ref shL) F8 rfl) rfl) rfl) rfl) N8 hof hcA hcC hcW dH2 hsub zoff' zA' zN' zW' zS' zM' rA' rN' rS' rW' rM' okA' hnm hnO.1 hnO.2 hc hi ((show ∀ pl nm, _ from ok') i nm hi hnm) hsh' hshl ?_ (fun y hy => (show ∀ pl nm y, _ from okM') i nm y hi hnm hy) X ?_
      · intro x hx
        obtain ⟨k, hk, rfl⟩ := List.mem_map.mp hx
        have hk4 := (show ∀ k ∈ sh, _ from hsh') k hk
        refine (show ∀ x ∈ wx, _ from hws') _ ?_
        unfold pick
        rw [List.getD_eq_getElem?_getD, List.getElem?_eq_getElem (by omega)]
        exact List.getElem_mem _
      · intro h9 tk9 m9 oH9 v9 led9 F9 hm9 N9 hs9 dH9
        refine TurnG.nx F8 how8 F9 N9 (fun q hq => hs9 q (.tail _ (.tail _ (.tail _ (.tail _ hq))))) (cont := [(hp.objs.size + 1, oA), (hp.objs.size + 2, oC), (hp.objs.size + 3, oW), (hp.objs.size + 4, oH9)]) rfl (fun q hq => hs9 q (List.mem_append_left own' hq)) (fun z hz hs => ?_) fun kp => ⟨oH9, v9, rfl, dH9, holds_keep g1 kp fun q hq => ((show ZOff _ _ Z from zoff') q hq).1, holds_keep g2 kp fun q hq => ((show ZOff _ _ own from zoffO') q hq).1⟩
        rw [hm9 z (ne_of_stored hs).1]
        exact (show ∀ z, _ from hml') z hz hs
    · rintro h9 tk9 u9 cc own9 F9 N9 hcc9 how9 ⟨oH2, v2, rfl, dH2, g1, g2⟩
      have hsub := own_sub (show ZOff _ _ _ from zoff') g1 how9
      have hsubO := own_sub (show ZOff _ _ own from zoffO') g2 how9
      have hsubO' : Ret _ := Ret.mk hsubO
      have hsubZ' : Ret _ := Ret.mk hsub
      have kZ9' : Ret _ := Ret.mk g1
      have dH2' : Ret _ := Ret.mk dH2
      simp only [List.cons_append, List.nil_append] at N9
      clear hsub hsubO how9 g1 g2 hcc9 F7 N7 N7c hr7 kZ7 kO7 dH2
      iterate 10 (first | walk1 | (dsimp only; walk1))
      refine rec_applies F9 ((show RecIn w Z mgL mvs.toArray from zM').at kZ9') X ?_
      iterate 4 (first | walk1 | (dsimp only; walk1))
      refine ⟨X.keeps F9.keep, ?_⟩
      refine use_applies_none (T.keeps F9.keep) (Lo.le (Lo.deeper hA) (by decide)) ((show RecIn w Z mgL mvs.toArray from zM').at kZ9') rM' (X.keeps F9.keep) ?_
      intro h10 tk10 e10
      have F10 := fr_ext F9 e10
      have N10 := news_ext N9 e10
      have kZ10 : Holds Z h10 := fun q hq => e10 _ _ ((show Holds Z h9 from kZ9') q hq)
      have kZ10' : Ret _ := Ret.mk kZ10
      rw [show ((sh.map (pick wx)).any fun x => x == Str.ofString "*") = _ from okN']
      clear F9 N9 e10 kZ10 kZ9'
      dsimp only at F10 N10 ⊢
      iterate 6 (first | walk1 | (dsimp only; walk1))
      generalize decide (c < 2) = b1
      cases b1
      · rw [Bool.false_and]
        iterate 3 (first | walk1 | (dsimp only; walk1))
        refine ⟨X.keeps F10.keep, ?_⟩
        have F11 := F10
        have N11 := N10
        clear F10 N10
        refine use_same (T.keeps F11.keep) (Lo.le (Lo.deeper hA) (by decide)) (X.keeps F11.keep) ?_
        intro h12 tk12 e12
        have F12 := fr_ext F11 e12
        have N12 := news_ext N11 e12
        clear F11 N11 e12
        rw [beq_self_eq_true]
        dsimp only at F12 N12 ⊢
        k_steps
        refine (show ∀ h' tk (m' : Str → Option Value) oH' v' led, _ from hret) h12 tk12 _ oH2 _ _ F12 (fun z hz hs => by simp [hz, (ne_of_stored hs).1]) N12 (fun q hq => ?_) dH2'
        rcases List.mem_append.mp (show q ∈ [(hp.objs.size + 1, oA), (hp.objs.size + 2, oC), (hp.objs.size + 3, oW), (hp.objs.size + 4, oH2)] ++ own from hq) with hq | hq
        · exact List.mem_append_left own9 hq
        · exact .tail _ (.tail _ (.tail _ (.tail _ ((show ∀ q ∈ own, q ∈ own9 from hsubO') q hq))))
      · rw [Bool.true_and]
        iterate 11 (first | walk1 | (dsimp only; walk1))
        with_reducible rename Fr _ _ _ _ => FF
        with_reducible rename News _ _ _ _ => NN
        rename_i l11 h11 lt11
        have XB := X.keeps FF.keep
        have TB := T.keeps FF.keep
        have cG : Heap.IsCell h11 (hp.objs.size + 1) (some (.ref agL)) := ⟨_, (NN (hp.objs.size + 1, oA) (.tail _ (.head _))).1, hcA⟩
        have kZ11 : Holds Z h11 := news_holds NN fun q hq => .tail _ (.tail _ (.tail _ (.tail _ (.tail _ ((show ∀ q ∈ Z, q ∈ own9 from hsubZ') q hq)))))
        have hlS : h11.IsList shL svs.toArray := ⟨_, kZ11 (shL, W.listOf svs.toArray nsh) zS', rfl, _, rfl⟩
        have hlG : h11.IsList agL avs.toArray := ⟨_, kZ11 (agL, W.listOf avs.toArray na) zA', rfl, _, rfl⟩
        have hsl : svs.toArray.size ≤ 1000 := by rw [List.size_toArray, IntsAre.length (show IntsAre svs sh from rS')]; omega
        have kZ11' : Ret _ := Ret.mk kZ11
        have hal : ags.length = 6 := (show AgentsOk ags from okA').1
        clear kZ11
        refine comp_list (fun ex i ys h => RowsIn Z ys ((sh.take i).map fun k => ags.getD k.toNat [])) hh hlS hsl (fun _ h => nomatch h) (fun _ _ => .nil) (fun _ _ _ _ _ h _ => h) ?_ ?_
        · intro C ex i v ys hC tkC ownC mC hvC hJ FC NC hoC halC
          refine wpAny_tests_nil ?_
          simp only [if_true]
          obtain ⟨k, tk9', rfl, hk⟩ := ints_get (show IntsAre svs sh from rS') (by simpa using hvC)
          have hk4 := (show ∀ k ∈ sh, _ from hsh') k (List.mem_of_getElem? hk)
          obtain ⟨kn, rfl⟩ : ∃ n : Nat, k = (n : Int) := ⟨k.toNat, by omega⟩
          have hkn : kn < 4 := by omega
          have hgk : ags[kn]? = some (ags.getD kn []) := by
            rw [List.getD_eq_getElem?_getD, List.getElem?_eq_getElem (by omega)]
            rfl
          obtain ⟨va, hva, hrow⟩ := RowsIn.get (show RowsIn Z avs ags from rA') hgk
          obtain ⟨ra, rvs, rn, rfl, hzr, hir⟩ := id hrow
          have hrow' : Ret _ := Ret.mk hrow
          have hva' : Held _ _ := hva
          have hJ' : Ret _ := Ret.mk hJ
          have hk' : Held _ _ := hk
          clear hJ hvC hk hk4 hgk hva hrow hzr hir
          dsimp only at FC NC hoC ⊢
          iterate 3 (first | walk1 | (dsimp only; walk1))
          refine item_at (k := kn) (x := .ref ra) (Fr.lst FC hlG) (by simpa using (show avs[kn]? = _ from hva')) (by omega) ?_ (by with_unfolding_all rfl)
          refine CEnd.mk FC NC (fun q hq => hq) ?_
          show RowsIn Z (ys ++ [.ref ra]) _
          rw [Mine.take_snoc (show sh[i]? = some (kn : Int) from hk'), List.map_append]
          exact rowsIn_append (show RowsIn Z ys _ from hJ') (.cons (show RowIn Z (.ref ra) _ from hrow') .nil)
        · intro D ex h10b tk1 ys hD hDex hPL hJ hK
          obtain ⟨nD, hPL⟩ := hPL
          have eD : Ext h11 h10b := fun b o e => hK b o (List.not_mem_nil) e
          have F11 := fr_ext FF eD
          have N11 := news_ext NN eD
          have kZ1 : Holds Z h10b := fun q hq => eD _ _ ((show Holds Z h11 from kZ11') q hq)
          rw [List.size_toArray, IntsAre.length (show IntsAre svs sh from rS'), List.take_length] at hJ
          refine in_rows (us := [.int 42 _]) ⟨_, hPL, rfl, _, rfl⟩ (hJ.at kZ1) ⟨_, (N11 _ (.head _)).1, rfl, _, rfl⟩ (.cons 42 _ .nil) (by have := hA.un; show A.units + 3 + 200 < cLine; unfold cLine; omega) ?_
          generalize ((sh.map fun k => ags.getD k.toNat []).any fun r => r == [42]) = bb
          clear FF NN hD hPL hJ hK eD XB TB cG hlS hlG hsl kZ1 kZ11'
          dsimp only at F11 N11 ⊢
          iterate 1 (first | walk1 | (dsimp only; walk1))
          refine ⟨X.keeps F11.keep, ?_⟩
          refine use_same (T.keeps F11.keep) (Lo.le (Lo.deeper hA) (by decide)) (X.keeps F11.keep) ?_
          intro h12 tk12 e12
          have F12 := fr_ext F11 e12
          have N12 := news_ext N11 e12
          clear F11 N11 e12
          rw [beq_self_eq_true]
          dsimp only at F12 N12 ⊢
          k_steps
          refine (show ∀ h' tk (m' : Str → Option Value) oH' v' led, _ from hret) h12 tk12 _ oH2 _ _ F12 (fun z hz hs => by simp [hz, (ne_of_stored hs).1]) N12 (fun q hq => ?_) dH2'
          rcases List.mem_append.mp (show q ∈ [(hp.objs.size + 1, oA), (hp.objs.size + 2, oC), (hp.objs.size + 3, oW), (hp.objs.size + 4, oH2)] ++ own from hq) with hq | hq
          · exact .tail _ (List.mem_append_left own9 hq)
          · exact .tail _ (.tail _ (.tail _ (.tail _ (.tail _ ((show ∀ q ∈ own, q ∈ own9 from hsubO') q hq)))))
end
end
section
open PySem PySem.W PyProof.Rows PySem.Calls
set_option Elab.async false
set_option maxRecDepth 100000
set_option maxHeartbeats 100000000
/-- the three coats of a row -/
def coatS (c : Nat) (ns : List Int) : Str := match c with
  | 0 => ⟨(natsOf ns).toArray⟩
  | 1 => ⟨(trans hc (natsOf ns)).toArray⟩
  | _ => ⟨(qps (natsOf ns)).toArray⟩
def coatO (ns : List Int) (t1 t2 t3 : Tok) : Obj := W.listOf #[.str (coatS 0 ns) t1, .str (coatS 1 ns) t2, .str (coatS 2 ns) t3] 0
def CoatsIn (Z : List (Addr × Obj)) (cvs : List Value) (rows : List (List Int)) : Prop := cvs.length = rows.length ∧ ∀ (i : Nat) (row : List Int), rows[i]? = some row → ∃ a t1 t2 t3, cvs[i]? = some (.ref a) ∧ (a, coatO row t1 t2 t3) ∈ Z
theorem strs8 {ys : List Value} {x0 x1 x2 x3 x4 x5 x6 x7 : Str} (h : StrsAre ys [x0, x1, x2, x3, x4, x5, x6, x7]) : ∃ t0 t1 t2 t3 t4 t5 t6 t7, ys = [.str x0 t0, .str x1 t1, .str x2 t2, .str x3 t3, .str x4 t4, .str x5 t5, .str x6 t6, .str x7 t7] := by
  cases h with | cons _ t0 h =>
  cases h with | cons _ t1 h =>
  cases h with | cons _ t2 h =>
  cases h with | cons _ t3 h =>
  cases h with | cons _ t4 h =>
  cases h with | cons _ t5 h =>
  cases h with | cons _ t6 h =>
  cases h with | cons _ t7 h =>
  cases h
  exact ⟨t0, t1, t2, t3, t4, t5, t6, t7, rfl⟩
theorem rec_news {w : World} {h₀ h h' : Heap} {L x : Addr} {m : Str → Option Value} {led : List (Addr × Obj)} {items : Array Value} (F : Fr h₀ L h m) (N : News h₀ L h' led) (r : RecNew w h h' x items) : ∃ Y, News h₀ L h' (Y ++ led) ∧ RecIn w Y x items ∧ ∀ p ∈ Y, h.get? p.1 = none := by
  obtain ⟨dx, ra, rb, n, a, b, c, d, e1, e2, e3, e4⟩ := r
  refine ⟨[(x, instObj 76 dx), (dx, entryD w a b c d ra rb), (ra, W.listOf items n), (rb, W.listOf #[] 0)], news_add F (news_add F (news_add F (news_add F N e4.2 e4.1) e3.2 e3.1) e2.2 e2.1) e1.2 e1.1, ⟨dx, ra, rb, n, a, b, c, d, .head _, .tail _ (.head _), .tail _ (.tail _ (.head _)), .tail _ (.tail _ (.tail _ (.head _)))⟩, ?_⟩
  intro p hp
  simp only [List.mem_cons, List.not_mem_nil, or_false] at hp
  rcases hp with rfl | rfl | rfl | rfl
  · exact e1.2
  · exact e2.2
  · exact e3.2
  · exact e4.2
theorem coat_at {c : Nat} (hc : c < 3) (row : List Int) (t1 t2 t3 : Tok) : ∃ t, (#[Value.str (coatS 0 row) t1, .str (coatS 1 row) t2, .str (coatS 2 row) t3] : Array Value)[c]? = some (.str (coatS c row) t) := by
  match c, hc with
  | 0, _ => exact ⟨t1, rfl⟩
  | 1, _ => exact ⟨t2, rfl⟩
  | 2, _ => exact ⟨t3, rfl⟩
section
variable {w : World} {p : Program} {loose : List Str} {mean : ExcName → Option Value} {mg mb : Str → Option Value} {A : Around} {s : Shared} {hp : Heap}
/-- what a turn over the coats asks of the rows -/
structure CoatOk (n0 n1 a0 a1 a2 a3 a4 a5 : List Int) (sh : List Int) (ci : Nat) : Prop where
  filt : ([coatS ci a0, coatS ci a1, coatS ci a2, coatS ci a3].filter fun x => [coatS ci a4, coatS ci a2, coatS ci a5, coatS ci a1].contains x) = sh.map (pick ([n0, n1, a0, a1, a2, a3, a4, a5].map (coatS ci)))
  short : ∀ x ∈ [n0, n1, a0, a1, a2, a3, a4, a5].map (coatS ci), x.length ≤ 1000
  place : ∀ pl nm, pl < 2 → [n0, n1][pl]? = some nm → PlaceOk [a0, a1, a2, a3, a4, a5] nm (ci : Nat) ([n0, n1, a0, a1, a2, a3, a4, a5].map (coatS ci)) pl
  okM : ∀ pl nm y, pl < 2 → [n0, n1][pl]? = some nm → ([n0, n1, a0, a1, a2, a3, a4, a5].map (coatS ci))[pl]? = some y → (sh.map (pick ([n0, n1, a0, a1, a2, a3, a4, a5].map (coatS ci)))).any (hitS (headS y)) = (sh.map fun k => ([a0, a1, a2, a3, a4, a5].map (hitO (ci : Nat) (tailsO (((ci : Nat) : Int) == 1) ((headO (ci : Nat) nm).map (smallO (ci : Nat)))))).getD k.toNat false).any id
  okN : ((sh.map (pick ([n0, n1, a0, a1, a2, a3, a4, a5].map (coatS ci)))).any fun x => x == Str.ofString "*") = (decide (((ci : Nat) : Int) < 2) && (sh.map fun k => [a0, a1, a2, a3, a4, a5].getD k.toNat []).any fun r => r == [42])
theorem RowIn.mono {Z Z' : List (Addr × Obj)} {v : Value} {ns : List Int} (x : RowIn Z v ns) (k : ∀ p ∈ Z, p ∈ Z') : RowIn Z' v ns := let ⟨a, vs, n, e, hm, hi⟩ := x; ⟨a, vs, n, e, k _ hm, hi⟩
theorem RowsIn.mono {Z Z' : List (Addr × Obj)} {vs : List Value} {nss : List (List Int)} (x : RowsIn Z vs nss) (k : ∀ p ∈ Z, p ∈ Z') : RowsIn Z' vs nss := by
  induction x with
  | nil => exact .nil
  | cons a _ ih => exact .cons (a.mono k) ih
theorem RecIn.mono {w : World} {Z Z' : List (Addr × Obj)} {x : Addr} {items : Array Value} (r : RecIn w Z x items) (k : ∀ p ∈ Z, p ∈ Z') : RecIn w Z' x items := let ⟨dx, ra, rb, n, a, b, c, d, e1, e2, e3, e4⟩ := r; ⟨dx, ra, rb, n, a, b, c, d, k _ e1, k _ e2, k _ e3, k _ e4⟩
theorem coat_turn {Q : Flow → Shared → Prop} {ci : Nat} {tC : Tok} {u : Str → Option Value} {oA oC oW oH : Obj} {own Z : List (Addr × Obj)} {agL nmL coL shL : Addr} {avs nvs cvs svs : List Value} {n0 n1 a0 a1 a2 a3 a4 a5 : List Int} {sh : List Int} {na nn nc nsh : Nat} {v₀ v₁ : Option Value}
    (T : Top p loose mean mg mb hp) (hA : Lo A 15)
    (F : Fr hp hp.objs.size s.heap (fun y => if y = Str.ofString "names" then some (.ref nmL) else if y = Str.ofString "shared" then some (.ref shL) else if y = Str.ofString "coats" then some (.ref coL) else u y))
    (N : News hp hp.objs.size s.heap ((hp.objs.size + 1, oA) :: (hp.objs.size + 2, oC) :: (hp.objs.size + 3, oW) :: (hp.objs.size + 4, oH) :: own))
    (hoff : OwnOff own [hp.objs.size + 1, hp.objs.size + 2, hp.objs.size + 3, hp.objs.size + 4])
    (hcA : oA.data = .cell (some (.ref agL))) (hcC : oC.data = .cell (some (.int (ci : Nat) tC))) (hcW : oW.data = .cell v₁) (hcH : oH.data = .cell v₀)
    (hZ : ∀ p ∈ Z, p ∈ own) (zoff : ZOff hp [hp.objs.size, hp.objs.size + 1, hp.objs.size + 2, hp.objs.size + 3, hp.objs.size + 4] Z)
    (zA : (agL, W.listOf avs.toArray na) ∈ Z) (zN : (nmL, W.listOf nvs.toArray nn) ∈ Z) (zC : (coL, W.listOf cvs.toArray nc) ∈ Z) (zS : (shL, W.listOf svs.toArray nsh) ∈ Z)
    (rA : RowsIn Z avs [a0, a1, a2, a3, a4, a5]) (rN : RowsIn Z nvs [n0, n1]) (rS : IntsAre svs sh) (rC : CoatsIn Z cvs [n0, n1, a0, a1, a2, a3, a4, a5])
    (okA : AgentsOk [a0, a1, a2, a3, a4, a5]) (hn0 : LenLe n0 8 ∧ Octs n0) (hn1 : LenLe n1 8 ∧ Octs n1) (hci : ci < 3)
    (hsh : ∀ k ∈ sh, 0 ≤ k ∧ k < 4) (hshl : sh.length ≤ 4) (ok : CoatOk n0 n1 a0 a1 a2 a3 a4 a5 sh ci) :
    (KK w.params).In hp → (∀ h' tk (m' : Str → Option Value) oW' oH' v' v'' led, Fr hp hp.objs.size h' m' → (∀ z, z ≠ Str.ofString "place" → [Str.ofString "k"].contains z = false → z ≠ Str.ofString "merged" → m' z = (if z = Str.ofString "names" then some (.ref nmL) else if z = Str.ofString "shared" then some (.ref shL) else if z = Str.ofString "coats" then some (.ref coL) else u z)) → News hp hp.objs.size h' led →
      (∀ p ∈ (hp.objs.size + 1, oA) :: (hp.objs.size + 2, oC) :: (hp.objs.size + 3, oW') :: (hp.objs.size + 4, oH') :: own, p ∈ led) → oW'.data = .cell v' → oH'.data = .cell v'' → Q .next { s with heap := h', toks := tk }) →
    wpAny (model PySem.Challenge.rw_tx0025_01.row.prog w) (A.deeper (lawEnv hp)) (execs coatBody (lawEnv hp)) Q noExc s := by
  k_fill
  intro X ret
  obtain ⟨h0, gs, dr, tk, os⟩ := s
  have hh : A.handled = none := hA.hd
  have hret : Ret _ := Ret.mk ret
  clear ret
  dsimp only at F N ⊢
  conv =>
    arg 3
    arg 1
    whnf
  unfold lawEnv
  conv in (scopeAt 38) => whnf
  conv in (scopeAt 38) => whnf
  have zC' : Ret _ := Ret.mk zC
  have zA' : Ret _ := Ret.mk zA
  have zN' : Ret _ := Ret.mk zN
  have zS' : Ret _ := Ret.mk zS
  have rA' : Ret _ := Ret.mk rA
  have rN' : Ret _ := Ret.mk rN
  have rC' : Ret _ := Ret.mk rC
  have rS' : Ret _ := Ret.mk rS
  have okA' : Ret _ := Ret.mk okA
  have hn0' : Ret _ := Ret.mk hn0
  have hn1' : Ret _ := Ret.mk hn1
  have hsh' : Ret _ := Ret.mk hsh
  have ok' : Ret _ := Ret.mk ok
  have zoff' : Ret _ := Ret.mk zoff
  have hZ' : Ret _ := Ret.mk hZ
  clear zC zA zN zS rA rN rC rS okA hn0 hn1 hsh ok zoff hZ
  iterate 4 (first | walk1 | (dsimp only; walk1))
  have kZ : Holds Z h0 := news_holds N fun q hq => .tail _ (.tail _ (.tail _ (.tail _ ((show ∀ p ∈ Z, p ∈ own from hZ') q hq))))
  have kZ' : Ret _ := Ret.mk kZ
  have XB := X.keeps F.keep
  have TB := T.keeps F.keep
  have cC : Heap.IsCell h0 (hp.objs.size + 1 + 1) (some (.int (ci : Nat) tC)) := ⟨_, (N (hp.objs.size + 2, oC) (.tail _ (.head _))).1, hcC⟩
  have hlC : h0.IsList coL cvs.toArray := ⟨_, kZ (coL, W.listOf cvs.toArray nc) zC', rfl, _, rfl⟩
  have hcl : cvs.toArray.size ≤ 1000 := by rw [List.size_toArray, (show CoatsIn _ _ _ from rC').1]; simp
  clear kZ
  refine comp_list (fun ex i ys h => StrsAre ys (([n0, n1, a0, a1, a2, a3, a4, a5].take i).map (coatS ci))) hh hlC hcl (fun _ h => nomatch h) (fun _ _ => .nil) (fun _ _ _ _ _ h _ => h) ?_ ?_
  · intro C ex i v ys hC tkC ownC mC hvC hJ FC NC hoC halC
    refine wpAny_tests_nil ?_
    simp only [if_true]
    have hv : cvs[i]? = some v := by simpa using hvC
    have hil : i < [n0, n1, a0, a1, a2, a3, a4, a5].length := by rw [← (show CoatsIn _ _ _ from rC').1]; exact (List.getElem?_eq_some_iff.mp hv).1
    obtain ⟨row, hrow⟩ : ∃ row, [n0, n1, a0, a1, a2, a3, a4, a5][i]? = some row := ⟨_, List.getElem?_eq_getElem hil⟩
    obtain ⟨ra, q1, q2, q3, hv2, hz⟩ := (show CoatsIn _ _ _ from rC').2 i row hrow
    rw [hv] at hv2
    obtain rfl := Option.some.inj hv2
    obtain ⟨tq, htq⟩ := coat_at hci row q1 q2 q3
    have hJ' : Ret _ := Ret.mk hJ
    have hrow' : Held _ _ := hrow
    have htq' : Held _ _ := htq
    have hz' : Ret _ := Ret.mk hz
    clear hJ hvC hv hil hrow htq hz
    dsimp only at FC NC hoC ⊢
    iterate 3 (first | walk1 | (dsimp only; walk1))
    refine item_at (k := ci) (x := .str (coatS ci row) tq) ⟨_, FC.keep _ _ ((show Holds Z h0 from kZ') (ra, coatO row q1 q2 q3) hz'), rfl, _, rfl⟩ htq' (by omega) ?_ (by with_unfolding_all rfl)
    refine CEnd.mk FC NC (fun q hq => hq) ?_
    show StrsAre (ys ++ [.str (coatS ci row) tq]) _
    rw [Mine.take_snoc (show [n0, n1, a0, a1, a2, a3, a4, a5][i]? = some row from hrow'), List.map_append]
    exact strs_append (show StrsAre ys _ from hJ') (.cons _ _ .nil)
  · intro D ex h1 tk1 ys hD hDex hPL hJ hK
    obtain ⟨nD, hPL⟩ := hPL
    have eD : Ext h0 h1 := fun b o e => hK b o (List.not_mem_nil) e
    have F1 := fr_ext F eD
    have N1 := news_add F (news_ext N eD) hD hPL
    have kZ1 : Holds Z h1 := fun q hq => eD _ _ ((show Holds Z h0 from kZ') q hq)
    rw [List.size_toArray, (show CoatsIn _ _ _ from rC').1, List.take_length] at hJ
    obtain ⟨t0, t1, t2, t3, t4, t5, t6, t7, rfl⟩ := strs8 hJ
    have hJw : Ret _ := Ret.mk hJ
    have hD0 : hp.get? D = none := (N1 _ (.head _)).2.2
    have hDex : D ∉ [hp.objs.size, hp.objs.size + 1, hp.objs.size + 2, hp.objs.size + 3, hp.objs.size + 4] := by
      have b0 : D ≠ hp.objs.size := (N1 _ (.head _)).2.1
      have b1 : D ≠ hp.objs.size + 1 := alive_ne (N (hp.objs.size + 1, oA) (.head _)).1 hD
      have b2 : D ≠ hp.objs.size + 2 := alive_ne (N (hp.objs.size + 2, oC) (.tail _ (.head _))).1 hD
      have b3 : D ≠ hp.objs.size + 3 := alive_ne (N (hp.objs.size + 3, oW) (.tail _ (.tail _ (.head _)))).1 hD
      have b4 : D ≠ hp.objs.size + 4 := alive_ne (N (hp.objs.size + 4, oH) (.tail _ (.tail _ (.tail _ (.head _))))).1 hD
      intro q
      simp only [List.mem_cons, List.not_mem_nil, or_false] at q
      rcases q with q | q | q | q | q
      · exact b0 q
      · exact b1 q
      · exact b2 q
      · exact b3 q
      · exact b4 q
    have hDex' : Ret _ := Ret.mk hDex
    have hD0' : Held _ _ := hD0
    have hoff' : Ret _ := Ret.mk hoff
    clear hDex hD0
    have hDw : @Ne Nat D (hp.objs.size + 3) := alive_ne (N (hp.objs.size + 3, oW) (.tail _ (.tail _ (.head _)))).1 hD
    clear F N hD hPL hJ hK eD XB TB cC hlC hcl kZ1
    dsimp only at F1 N1 ⊢
    iterate 20 (first | walk1 | (dsimp only; walk1))
    with_reducible rename Fr _ _ _ _ => FF
    with_reducible rename News _ _ _ _ => NN
    rename_i tk00 h2 oW2 dW2
    have hsp : slicePick [Value.str (coatS ci n0) t0, .str (coatS ci n1) t1, .str (coatS ci a0) t2, .str (coatS ci a1) t3, .str (coatS ci a2) t4, .str (coatS ci a3) t5, .str (coatS ci a4) t6, .str (coatS ci a5) t7].toArray (some 2) (some 6) none = #[.str (coatS ci a0) t2, .str (coatS ci a1) t3, .str (coatS ci a2) t4, .str (coatS ci a3) t5] := slicePick_run _ 2 6 (by simp) (by decide)
    refine slice_list3 FF NN (NN.isList (.head _)) (.int 2 _) (.int 6 _) .none (by simp) ?_ (by with_unfolding_all rfl) (by intro _; with_unfolding_all rfl) (by simp [sizeLine])
    rw [hsp]
    intro h3 F3 N3
    have dW2' : Ret _ := Ret.mk dW2
    have hsz2 : @LT.lt Nat _ D (h2.objs.size + 1) := Nat.lt_succ_of_lt (Heap.lt_size (NN (D, _) (.head _)).1)
    dsimp only at F3 N3 ⊢
    generalize h2.objs.size + 1 = sl at N3 hsz2 ⊢
    clear FF NN hsp dW2
    iterate 1 (first | walk1 | (dsimp only; walk1))
    refine ⟨X.keeps F3.keep, ?_⟩
    refine use_record (T.keeps F3.keep) (Lo.le (Lo.deeper hA) (by decide)) (vs := [Value.str (coatS ci a0) t2, .str (coatS ci a1) t3, .str (coatS ci a2) t4, .str (coatS ci a3) t5]) (N3 _ (.head _)).1 (by simp) (by simp) (X.keeps F3.keep) ?_
    intro r1 h4 tk4 e4 hR4
    have F4 := fr_ext F3 e4
    obtain ⟨Y4, N4, hR4, hY4⟩ := rec_news F3 (news_ext N3 e4) hR4
    have hDY : ∀ q ∈ Y4, q.1 ≠ D := fun q hq r => by
      have := hY4 q hq
      rw [r, (N3 (D, _) (.tail _ (.head _))).1] at this
      cases this
    have hR4' : Ret _ := Ret.mk hR4
    clear F3 N3 e4 hR4 hY4
    have N4 : News hp hp.objs.size h4 ((D, W.listOf [Value.str (coatS ci n0) t0, .str (coatS ci n1) t1, .str (coatS ci a0) t2, .str (coatS ci a1) t3, .str (coatS ci a2) t4, .str (coatS ci a3) t5, .str (coatS ci a4) t6, .str (coatS ci a5) t7].toArray nD) :: (hp.objs.size + 1, oA) :: (hp.objs.size + 2, oC) :: (hp.objs.size + 3, oW2) :: (hp.objs.size + 4, oH) :: (own ++ Y4)) := fun q hq => N4 q (by
      simp only [List.mem_cons, List.mem_append] at hq ⊢
      rcases hq with hq | hq | hq | hq | hq | hq | hq
      · exact .inr (.inr (.inl hq))
      · exact .inr (.inr (.inr (.inl hq)))
      · exact .inr (.inr (.inr (.inr (.inl hq))))
      · exact .inr (.inr (.inr (.inr (.inr (.inl hq)))))
      · exact .inr (.inr (.inr (.inr (.inr (.inr (.inl hq))))))
      · exact .inr (.inr (.inr (.inr (.inr (.inr (.inr hq))))))
      · exact .inl hq)
    generalize hown2 : own ++ Y4 = own2 at N4
    have hs2 : ∀ q ∈ own, q ∈ own2 := fun q hq => hown2 ▸ List.mem_append_left _ hq
    have hy2 : ∀ q ∈ Y4, q ∈ own2 := fun q hq => hown2 ▸ List.mem_append_right _ hq
    have hs2' : Ret _ := Ret.mk hs2
    have hy2' : Ret _ := Ret.mk hy2
    clear hs2 hy2 hown2 hDY
    dsimp only at N4 ⊢
    iterate 29 (first | walk1 | (dsimp only; walk1))
    with_reducible rename Fr _ _ _ _ => FF
    with_reducible rename News _ _ _ _ => NN
    rename_i l5 h5 lt5
    refine ⟨X.keeps FF.keep, ?_⟩
    refine use_record (T.keeps FF.keep) (Lo.le (Lo.deeper hA) (by decide)) (vs := [Value.str (coatS ci a4) t6, .str (coatS ci a2) t4, .str (coatS ci a5) t7, .str (coatS ci a1) t3]) (NN _ (.head _)).1 (by simp) (by simp) (X.keeps FF.keep) ?_
    intro r2 h6 tk6 e6 hR6
    have F6 := fr_ext FF e6
    have N6 := news_ext NN e6
    have hR6a := hR6.at
    have hR4a : RecAt w h6 r1 _ := (show RecIn w Y4 r1 _ from hR4').at fun q hq => (N6 q (.tail _ (.tail _ (.tail _ (.tail _ (.tail _ (.tail _ ((show ∀ q ∈ Y4, q ∈ own2 from hy2') q hq)))))))).1
    have hR6' : Ret _ := Ret.mk hR6a
    have hR5' : Ret _ := Ret.mk hR4a
    clear FF NN e6 hR6 hR6a hR4a
    dsimp only at F6 N6 ⊢
    iterate 1 (first | walk1 | (dsimp only; walk1))
    refine ⟨X.keeps F6.keep, ?_⟩
    refine use_merge (T.keeps F6.keep) (Lo.le (Lo.deeper hA) (by decide)) hR5' hR6' (.cons _ _ (.cons _ _ (.cons _ _ (.cons _ _ .nil)))) (.cons _ _ (.cons _ _ (.cons _ _ (.cons _ _ .nil)))) (by simp) (by simp) (X.keeps F6.keep) ?_
    intro r3 mvs h7 tk7 e7 hR7 hst7
    have F7 := fr_ext F6 e7
    obtain ⟨Y7, N7, hR7, hY7⟩ := rec_news F6 (news_ext N6 e7) hR7
    have kZ7 : Holds Z h7 := fun q hq => (N7 q (List.mem_append_right _ (.tail _ (.tail _ (.tail _ (.tail _ (.tail _ (.tail _ ((show ∀ q ∈ own, q ∈ own2 from hs2') q ((show ∀ p ∈ Z, p ∈ own from hZ') q hq)))))))))).1
    have hc6 : ∀ a o, (a, o) ∈ [(hp.objs.size + 1, oA), (hp.objs.size + 2, oC), (hp.objs.size + 3, oW2), (hp.objs.size + 4, oH)] → ∀ q ∈ Y7, q.1 ≠ a := fun a o hm q hq r => by
      have := hY7 q hq
      rw [r, (N6 (a, o) (.tail _ (.tail _ (List.mem_append_left own2 hm)))).1] at this
      cases this
    have hYz : ZOff hp [hp.objs.size, hp.objs.size + 1, hp.objs.size + 2, hp.objs.size + 3, hp.objs.size + 4] Y7 := fun q hq => by
      refine ⟨fun r => ?_, (N7 q (List.mem_append_left _ hq)).2.2⟩
      simp only [List.mem_cons, List.not_mem_nil, or_false] at r
      rcases r with r | r | r | r | r
      · exact (N7 q (List.mem_append_left _ hq)).2.1 r
      · exact hc6 _ oA (.head _) q hq r
      · exact hc6 _ oC (.tail _ (.head _)) q hq r
      · exact hc6 _ oW2 (.tail _ (.tail _ (.head _))) q hq r
      · exact hc6 _ oH (.tail _ (.tail _ (.tail _ (.head _)))) q hq r
    have hYz' : Ret _ := Ret.mk hYz
    have hR7' : Ret _ := Ret.mk hR7
    have hst7' : Ret _ := Ret.mk hst7
    have N8 : News hp hp.objs.size h7 ((hp.objs.size + 1, oA) :: (hp.objs.size + 2, oC) :: (hp.objs.size + 3, oW2) :: (hp.objs.size + 4, oH) :: ((D, W.listOf [Value.str (coatS ci n0) t0, .str (coatS ci n1) t1, .str (coatS ci a0) t2, .str (coatS ci a1) t3, .str (coatS ci a2) t4, .str (coatS ci a3) t5, .str (coatS ci a4) t6, .str (coatS ci a5) t7].toArray nD) :: (Y7 ++ own2))) := fun q hq => N7 q (by
      simp only [List.mem_cons, List.mem_append] at hq ⊢
      rcases hq with hq | hq | hq | hq | hq | hq | hq
      · exact .inr (.inr (.inr (.inl hq)))
      · exact .inr (.inr (.inr (.inr (.inl hq))))
      · exact .inr (.inr (.inr (.inr (.inr (.inl hq)))))
      · exact .inr (.inr (.inr (.inr (.inr (.inr (.inl hq))))))
      · exact .inr (.inr (.inl hq))
      · exact .inl hq
      · exact .inr (.inr (.inr (.inr (.inr (.inr (.inr hq)))))))
    generalize hown3 : (D, W.listOf [Value.str (coatS ci n0) t0, .str (coatS ci n1) t1, .str (coatS ci a0) t2, .str (coatS ci a1) t3, .str (coatS ci a2) t4, .str (coatS ci a3) t5, .str (coatS ci a4) t6, .str (coatS ci a5) t7].toArray nD) :: (Y7 ++ own2) = own3 at N8
    have hown3' : Held _ _ := hown3
    clear N7 F6 N6 e7 hR7 hst7 hY7 hc6 hYz hown3 kZ7 hR6' hR5' hoff
    dsimp only at F7 N8 ⊢
    iterate 2 (first | walk1 | (dsimp only; walk1))
    with_reducible rename Fr _ _ _ _ => FF
    with_reducible rename News _ _ _ _ => NN
    have hst8 : StrsAre mvs (sh.map (pick ([n0, n1, a0, a1, a2, a3, a4, a5].map (coatS ci)))) := by
      have := (show StrsAre mvs _ from hst7')
      rw [(show CoatOk n0 n1 a0 a1 a2 a3 a4 a5 sh ci from ok').filt] at this
      exact this
    have sZ : ∀ q ∈ Z, q ∈ (D, W.listOf [Value.str (coatS ci n0) t0, .str (coatS ci n1) t1, .str (coatS ci a0) t2, .str (coatS ci a1) t3, .str (coatS ci a2) t4, .str (coatS ci a3) t5, .str (coatS ci a4) t6, .str (coatS ci a5) t7].toArray nD) :: (Y7 ++ Z) := fun q hq => .tail _ (List.mem_append_right _ hq)
    have hZ3 : ∀ q ∈ (D, W.listOf [Value.str (coatS ci n0) t0, .str (coatS ci n1) t1, .str (coatS ci a0) t2, .str (coatS ci a1) t3, .str (coatS ci a2) t4, .str (coatS ci a3) t5, .str (coatS ci a4) t6, .str (coatS ci a5) t7].toArray nD) :: (Y7 ++ Z), q ∈ own3 := fun q hq => by
      rw [← (show _ = own3 from hown3')]
      rcases List.mem_cons.mp hq with rfl | hq
      · exact .head _
      · rcases List.mem_append.mp hq with hq | hq
        · exact .tail _ (List.mem_append_left _ hq)
        · exact .tail _ (List.mem_append_right _ ((show ∀ q ∈ own, q ∈ own2 from hs2') q ((show ∀ p ∈ Z, p ∈ own from hZ') q hq)))
    have zoff3 : ZOff hp [hp.objs.size, hp.objs.size + 1, hp.objs.size + 2, hp.objs.size + 3, hp.objs.size + 4] ((D, W.listOf [Value.str (coatS ci n0) t0, .str (coatS ci n1) t1, .str (coatS ci a0) t2, .str (coatS ci a1) t3, .str (coatS ci a2) t4, .str (coatS ci a3) t5, .str (coatS ci a4) t6, .str (coatS ci a5) t7].toArray nD) :: (Y7 ++ Z)) := fun q hq => by
      rcases List.mem_cons.mp hq with rfl | hq
      · exact ⟨hDex', hD0'⟩
      · rcases List.mem_append.mp hq with hq | hq
        · exact (show ZOff _ _ Y7 from hYz') q hq
        · exact (show ZOff _ _ Z from zoff') q hq
    refine coat_tail (own := own) (own3 := own3) (Z := (D, W.listOf [Value.str (coatS ci n0) t0, .str (coatS ci n1) t1, .str (coatS ci a0) t2, .str (coatS ci a1) t3, .str (coatS ci a2) t4, .str (coatS ci a3) t5, .str (coatS ci a4) t6, .str (coatS ci a5) t7].toArray nD) :: (Y7 ++ Z)) (c := (ci : Nat)) (wx := [n0, n1, a0, a1, a2, a3, a4, a5].map (coatS ci)) (ws := [Value.str (coatS ci n0) t0, .str (coatS ci n1) t1, .str (coatS ci a0) t2, .str (coatS ci a1) t3, .str (coatS ci a2) t4, .str (coatS ci a3) t5, .str (coatS ci a4) t6, .str (coatS ci a5) t7]) (u := fun y => if y = Str.ofString "coats" then some (.ref coL) else u y)
      T hA FF NN (fun q hq => ?_) hoff' hcA hcC dW2' hcH hZ3 zoff3 (sZ _ zA') (sZ _ zN') (.head _) (sZ _ zS') (RecIn.mono (show RecIn w Y7 r3 mvs.toArray from hR7') fun q hq => .tail _ (List.mem_append_left _ hq)) (RowsIn.mono (show RowsIn Z _ _ from rA') sZ) (RowsIn.mono (show RowsIn Z _ _ from rN') sZ) rS' hJw hst8 okA' rfl ?_ (by omega) (by simp) (show CoatOk n0 n1 a0 a1 a2 a3 a4 a5 sh ci from ok').short (show CoatOk n0 n1 a0 a1 a2 a3 a4 a5 sh ci from ok').place hsh' hshl (show CoatOk n0 n1 a0 a1 a2 a3 a4 a5 sh ci from ok').okM (show CoatOk n0 n1 a0 a1 a2 a3 a4 a5 sh ci from ok').okN X ?_
    · rw [← (show _ = own3 from hown3')]
      exact .tail _ (List.mem_append_right _ ((show ∀ q ∈ own, q ∈ own2 from hs2') q hq))
    · intro nm hnm
      rcases List.mem_cons.mp hnm with rfl | hnm
      · exact hn0'
      · rw [List.mem_singleton.mp hnm]; exact hn1'
    · intro h9 tk9 m9 oH9 v9 led9 F9 hm9 N9 hs9 dH9
      refine (show ∀ h' tk (m' : Str → Option Value) oW' oH' v' v'' led, _ from hret) h9 tk9 m9 oW2 oH9 _ _ led9 F9 (fun z h1 h2 h3 => ?_) N9 hs9 dW2' dH9
      rw [hm9 z h1 h2, if_neg h3]
end
end
section
open PySem PySem.W PyProof.Rows PySem.Calls
set_option Elab.async false
set_option maxRecDepth 100000
set_option maxHeartbeats 4000000
/-! one sign for another -/
def swapC (c d k : Nat) : Nat := if k = c then d else k
theorem swap_free (c d : Nat) : ∀ l : List Nat, c ∉ l → l.map (swapC c d) = l
  | [], _ => rfl
  | k :: r, h => by
    rw [List.map_cons, swap_free c d r fun m => h (.tail _ m)]
    unfold swapC
    have hk : ¬ k = c := fun e => h (by rw [e]; exact .head _)
    rw [if_neg hk]
theorem swap_parts (c d : Nat) : ∀ parts : List Str, (∀ p ∈ parts, c ∉ p.cps.toList) → (Str.join ⟨#[c]⟩ parts).cps.toList.map (swapC c d) = (Str.join ⟨#[d]⟩ parts).cps.toList
  | [], _ => rfl
  | [p], h => swap_free c d _ (h p (.head _))
  | p :: q :: r, h => by
    have ih := swap_parts c d (q :: r) fun a ha => h a (.tail _ ha)
    show (p ++ ⟨#[c]⟩ ++ Str.join ⟨#[c]⟩ (q :: r)).cps.toList.map _ = (p ++ ⟨#[d]⟩ ++ Str.join ⟨#[d]⟩ (q :: r)).cps.toList
    simp only [Str.cps_append, Array.toList_append, List.map_append]
    rw [ih, swap_free c d _ (h p (.head _))]
    congr 2
    show [swapC c d c] = [d]
    unfold swapC
    rw [if_pos rfl]
theorem replace_sign (x : Str) (c d : Nat) : Txt.replace x ⟨#[c]⟩ ⟨#[d]⟩ = ⟨(x.cps.toList.map (swapC c d)).toArray⟩ := by
  have h : (Txt.replace x ⟨#[c]⟩ ⟨#[d]⟩).cps.toList = x.cps.toList.map (swapC c d) := by
    rw [StrLaws.replace_one, ← swap_parts c d _ (StrLaws.split_free x c), StrLaws.join_split]
  rw [← h]
/-- what stands for an octet behind the replacing -/
def gO (k : Nat) : List Nat := if k = 32 then [32] else (hc k).cps.toList
theorem hc_swap {k : Nat} (hk : k < 256) : (hc k).cps.toList.map (swapC 95 32) = gO k := by
  revert k
  decide +kernel
theorem gO_coded {k : Nat} (hk : k < 256) : CodedAs k (gO k) := by
  have h : ∀ k < 256, gO k = [k] ∧ k ≠ 61 ∨ (gO k = [61, hexC (k / 16), hexC (k % 16)] ∧ hexC (k / 16) ∈ hexU ∧ hexC (k % 16) ∈ hexU ∧ 16 * hexVal (hexC (k / 16)) + hexVal (hexC (k % 16)) = k) := by decide +kernel
  rcases h k hk with h | h
  · exact .inl h
  · exact .inr ⟨_, _, h⟩
theorem gO_len (k : Nat) : (gO k).length ≤ 3 := by
  unfold gO
  split
  · exact Nat.le_of_ble_eq_true rfl
  · have := hc_len k
    rw [Array.length_toList]
    exact this
theorem flat_le {g : Nat → List Nat} {b : Nat} (h : ∀ k, (g k).length ≤ b) : ∀ ks : List Nat, (ks.flatMap g).length ≤ b * ks.length
  | [] => Nat.zero_le _
  | k :: ks => by
    have := flat_le h ks
    have := h k
    rw [List.flatMap_cons, List.length_append, List.length_cons, Nat.mul_succ]
    omega
theorem hdr_replace {ks : List Nat} (h : ∀ k ∈ ks, k < 256) : Txt.replace ⟨(trans hc ks).toArray⟩ (Str.ofString "_") (Str.ofString " ") = ⟨(ks.flatMap gO).toArray⟩ := by
  rw [show Str.ofString "_" = ⟨#[95]⟩ from rfl, show Str.ofString " " = ⟨#[32]⟩ from rfl, replace_sign]
  congr 2
  show (trans hc ks).map (swapC 95 32) = _
  unfold trans
  induction ks with
  | nil => rfl
  | cons k ks ih =>
    rw [List.flatMap_cons, List.map_append, hc_swap (h k (.head _)), ih fun j hj => h j (.tail _ hj), List.flatMap_cons]
end
section
open PySem PySem.W PyProof.Rows PySem.Calls
set_option Elab.async false
set_option maxRecDepth 100000
set_option maxHeartbeats 100000000
/-- whose octets are another's there -/
def sharedN (a0 a1 a2 a3 a4 a5 : List Int) (i : Nat) : List Nat := (List.range i).filter fun k => [a4, a2, a5, a1].any fun r => r == [a0, a1, a2, a3, a4, a5].getD k []
def sharedO (a0 a1 a2 a3 a4 a5 : List Int) : List Int := (sharedN a0 a1 a2 a3 a4 a5 4).map Int.ofNat
section
variable {w : World} {p : Program} {loose : List Str} {mean : ExcName → Option Value} {mg mb : Str → Option Value} {A : Around} {s : Shared} {hp : Heap}
theorem CoatsIn.mono {Z Z' : List (Addr × Obj)} {cvs : List Value} {rows : List (List Int)} (h : CoatsIn Z cvs rows) (k : ∀ p ∈ Z, p ∈ Z') : CoatsIn Z' cvs rows := ⟨h.1, fun i row e => let ⟨a, t1, t2, t3, e1, e2⟩ := h.2 i row e; ⟨a, t1, t2, t3, e1, k _ e2⟩⟩
theorem law_rest {P : Value → Shared → Prop} {u : Str → Option Value} {oA oC oW oH : Obj} {own Z : List (Addr × Obj)} {agL nmL coL : Addr} {avs nvs cvs : List Value} {n0 n1 a0 a1 a2 a3 a4 a5 : List Int} {na nn nc : Nat} {v₀ v₁ v₂ : Option Value}
    (T : Top p loose mean mg mb hp) (hA : Lo A 16)
    (F : Fr hp hp.objs.size s.heap (fun y => if y = Str.ofString "names" then some (.ref nmL) else if y = Str.ofString "coats" then some (.ref coL) else u y))
    (N : News hp hp.objs.size s.heap ((hp.objs.size + 1, oA) :: (hp.objs.size + 2, oC) :: (hp.objs.size + 3, oW) :: (hp.objs.size + 4, oH) :: own))
    (hcA : oA.data = .cell (some (.ref agL))) (hcC : oC.data = .cell v₂) (hcW : oW.data = .cell v₁) (hcH : oH.data = .cell v₀)
    (hZ : ∀ p ∈ Z, p ∈ own) (zoff : ZOff hp [hp.objs.size, hp.objs.size + 1, hp.objs.size + 2, hp.objs.size + 3, hp.objs.size + 4] Z)
    (zA : (agL, W.listOf avs.toArray na) ∈ Z) (zN : (nmL, W.listOf nvs.toArray nn) ∈ Z) (zC : (coL, W.listOf cvs.toArray nc) ∈ Z)
    (rA : RowsIn Z avs [a0, a1, a2, a3, a4, a5]) (rN : RowsIn Z nvs [n0, n1]) (rC : CoatsIn Z cvs [n0, n1, a0, a1, a2, a3, a4, a5])
    (okA : AgentsOk [a0, a1, a2, a3, a4, a5]) (hn0 : LenLe n0 8 ∧ Octs n0) (hn1 : LenLe n1 8 ∧ Octs n1)
    (ok : ∀ ci, ci < 3 → CoatOk n0 n1 a0 a1 a2 a3 a4 a5 (sharedO a0 a1 a2 a3 a4 a5) ci) (ret : ∀ (h' : Heap) (tk : Nat), Ext hp h' → P (.bool true) { s with heap := h', toks := tk }) :
    (KK w.params).In hp → wpAny (model PySem.Challenge.rw_tx0025_01.row.prog w) (A.deeper (lawEnv hp)) (execs ((bodyAt 38).drop 7) (lawEnv hp)) (RetP P) noExc s := by
  k_fill
  intro X
  obtain ⟨h0, gs, dr, tk, os⟩ := s
  have hh : A.handled = none := hA.hd
  have hret : Ret _ := Ret.mk ret
  clear ret
  dsimp only at F N ⊢
  conv =>
    arg 3
    arg 1
    whnf
  unfold lawEnv
  conv in (scopeAt 38) => whnf
  conv in (scopeAt 38) => whnf
  have zC' : Ret _ := Ret.mk zC
  have zA' : Ret _ := Ret.mk zA
  have zN' : Ret _ := Ret.mk zN
  have rA' : Ret _ := Ret.mk rA
  have rN' : Ret _ := Ret.mk rN
  have rC' : Ret _ := Ret.mk rC
  have okA' : Ret _ := Ret.mk okA
  have hn0' : Ret _ := Ret.mk hn0
  have hn1' : Ret _ := Ret.mk hn1
  have ok' : Ret _ := Ret.mk ok
  have zoff' : Ret _ := Ret.mk zoff
  have hZ' : Ret _ := Ret.mk hZ
  clear zC zA zN rA rN rC okA hn0 hn1 ok zoff hZ
  have kZ : Holds Z h0 := news_holds N fun q hq => .tail _ (.tail _ (.tail _ (.tail _ ((show ∀ p ∈ Z, p ∈ own from hZ') q hq))))
  have kZ' : Ret _ := Ret.mk kZ
  clear kZ
  refine wpAny_execs_cons ?_
  refine' Assign_ListComp_J ?k0 ?k1 ?k2 ?k3 ?k4 ?k5 ?k7 ?k8 ?_ ?k6
  case k0 => with_unfolding_all exact rfl
  case k1 => with_unfolding_all exact rfl
  case k2 => with_unfolding_all decide
  case k3 => with_unfolding_all exact rfl
  case k4 => with_unfolding_all decide
  case k5 => with_unfolding_all exact rfl
  case k7 => with_unfolding_all exact rfl
  case k8 => with_unfolding_all exact rfl
  case k6 => (intro _; with_unfolding_all exact rfl)
  k_steps
  rename_i h7 tk7 t1 u1 v1 hr7 F7 N7 k7
  dsimp only at hr7 F7 N7 k7 ⊢
  have kZ7 : Holds Z h7 := fun q hq => k7 _ _ ((show Holds Z h0 from kZ') q hq)
  have XB := X.keeps F7.keep
  have TB := T.keeps F7.keep
  have cG : Heap.IsCell h7 (hp.objs.size + 1) (some (.ref agL)) := ⟨_, (N7 (hp.objs.size + 1, oA) (.head _)).1, hcA⟩
  have hlG : h7.IsList agL avs.toArray := ⟨_, kZ7 (agL, W.listOf avs.toArray na) zA', rfl, _, rfl⟩
  obtain ⟨g0, g1, g2, g3, g4, g5, hav⟩ : ∃ g0 g1 g2 g3 g4 g5, avs = [.ref g0, .ref g1, .ref g2, .ref g3, .ref g4, .ref g5] := by
    have := (show RowsIn Z avs _ from rA')
    clear rA' hlG zA'
    cases this with | cons x0 r => cases r with | cons x1 r => cases r with | cons x2 r => cases r with | cons x3 r => cases r with | cons x4 r => cases r with | cons x5 r =>
    cases r
    obtain ⟨g0, _, _, rfl, _⟩ := x0
    obtain ⟨g1, _, _, rfl, _⟩ := x1
    obtain ⟨g2, _, _, rfl, _⟩ := x2
    obtain ⟨g3, _, _, rfl, _⟩ := x3
    obtain ⟨g4, _, _, rfl, _⟩ := x4
    obtain ⟨g5, _, _, rfl, _⟩ := x5
    exact ⟨g0, g1, g2, g3, g4, g5, rfl⟩
  subst hav
  have kZ7' : Ret _ := Ret.mk kZ7
  clear kZ7
  refine wpAny_mono (comp_rangeE (n := 4) (fun ex i ys h => IntsAre ys ((sharedN a0 a1 a2 a3 a4 a5 i).map Int.ofNat)) hh hr7 (by decide) ?_ (fun _ _ => .nil) (fun _ _ _ _ _ h _ => h) ?_ ?_) (fun it s₂ h => ⟨_, F7.ns.keeps h.1, h.2⟩) (fun _ _ e => e)
  · intro b hb
    rw [List.mem_singleton.mp hb]
    obtain ⟨o, _, _, e, _⟩ := F7.ns
    exact ⟨o, e⟩
  · intro C ex i ti ys hC tkC ownC mC hi hJ FC NC hoC halC
    refine wpAny_tests_one ?_
    have hJ' : Ret _ := Ret.mk hJ
    clear hJ
    dsimp only at FC NC hoC ⊢
    have hlGC := Fr.lst FC hlG
    have hlGC' : Ret _ := Ret.mk hlGC
    clear hlGC
    iterate 4 (first | walk1 | (dsimp only; walk1))
    have hgi : [a0, a1, a2, a3, a4, a5][i]? = some ([a0, a1, a2, a3, a4, a5].getD i []) := by
      have hi6 : i < [a0, a1, a2, a3, a4, a5].length := by show i < 6; omega
      rw [List.getD_eq_getElem?_getD, List.getElem?_eq_getElem hi6]
      rfl
    obtain ⟨va, hva, hrow⟩ := RowsIn.get (show RowsIn Z _ _ from rA') hgi
    obtain ⟨ra, ⟨rvs⟩, rn, rfl, hzr, hir⟩ := id hrow
    have hir : IntsAre rvs _ := hir
    have hir' : Ret _ := Ret.mk hir
    have hzr' : Ret _ := Ret.mk hzr
    refine item_at (k := i) (x := .ref ra) hlGC' (by simpa using hva) (by omega) ?_ (by with_unfolding_all rfl)
    clear hgi hva hrow hzr hir
    iterate 5 (first | walk1 | (dsimp only; walk1))
    refine item_at (k := 4) (x := .ref g4) hlGC' rfl (by decide) ?_ (by with_unfolding_all rfl)
    iterate 4 (first | walk1 | (dsimp only; walk1))
    refine item_at (k := 2) (x := .ref g2) hlGC' rfl (by decide) ?_ (by with_unfolding_all rfl)
    iterate 4 (first | walk1 | (dsimp only; walk1))
    refine item_at (k := 5) (x := .ref g5) hlGC' rfl (by decide) ?_ (by with_unfolding_all rfl)
    iterate 4 (first | walk1 | (dsimp only; walk1))
    refine item_at (k := 1) (x := .ref g1) hlGC' rfl (by decide) ?_ (by with_unfolding_all rfl)
    iterate 2 (first | walk1 | (dsimp only; walk1))
    with_reducible rename Fr _ _ _ _ => FF
    with_reducible rename News _ _ _ _ => NN
    rename_i l8 h8 lt8
    have kZ8 : Holds Z h8 := fun q hq => FF.keep _ _ ((show Holds Z h7 from kZ7') q hq)
    have hr4 : RowsX [] h8 [.ref g4, .ref g2, .ref g5, .ref g1] [a4, a2, a5, a1] := by
      have := RowsIn.at (show RowsIn Z _ _ from rA') kZ8
      cases this with | cons x0 r => cases r with | cons x1 r => cases r with | cons x2 r => cases r with | cons x3 r => cases r with | cons x4 r => cases r with | cons x5 r =>
      exact .cons x4 (.cons x2 (.cons x5 (.cons x1 .nil)))
    refine in_rows ⟨_, (NN _ (.head _)).1, rfl, _, rfl⟩ hr4 ⟨_, kZ8 (ra, W.listOf rvs.toArray rn) hzr', rfl, _, rfl⟩ hir' (by have := hA.un; show A.units + 3 + 200 < cLine; unfold cLine; omega) ?_
    have hnx : (sharedN a0 a1 a2 a3 a4 a5 (i + 1)).map Int.ofNat = (sharedN a0 a1 a2 a3 a4 a5 i).map Int.ofNat ++ (if ([a4, a2, a5, a1].any fun r => r == [a0, a1, a2, a3, a4, a5].getD i []) = true then [(i : Int)] else []) := by
      unfold sharedN
      rw [List.range_succ, List.filter_append, List.map_append]
      congr 1
      rw [List.filter_cons]
      split <;> rfl
    generalize hb : ([a4, a2, a5, a1].any fun r => r == [a0, a1, a2, a3, a4, a5].getD i []) = b at hnx ⊢
    have hnx' : Held _ _ := hnx
    clear hr4 kZ8 hb hnx
    cases b
    · iterate 2 (first | walk1 | (dsimp only; walk1))
      refine CEnd.mk FF NN (fun q hq => .tail _ hq) ?_
      show IntsAre ys _
      rw [show _ = _ from hnx', if_neg Bool.false_ne_true, List.append_nil]
      exact hJ'
    · iterate 3 (first | walk1 | (dsimp only; walk1))
      refine CEnd.mk FF NN (fun q hq => .tail _ hq) ?_
      show IntsAre (ys ++ [.int (i : Nat) ti]) _
      rw [show _ = _ from hnx', if_pos rfl]
      exact IntsAre.append (show IntsAre ys _ from hJ') (.cons _ _ .nil)
  · intro D ex h8 tk8 ys hD hDe hPL hJ8 hk8 hns
    have F8 := fr_assign F7 hk8 hns
    obtain ⟨nD, hPL⟩ := hPL
    have N8 := news_put F7 (news_keep N7 hk8) hD hPL
    have hJ8' : Ret _ := Ret.mk hJ8
    have hDex : D ∉ [hp.objs.size, hp.objs.size + 1, hp.objs.size + 2, hp.objs.size + 3, hp.objs.size + 4] := by
      have b0 : D ≠ hp.objs.size := (N8 _ (.head _)).2.1
      have b1 : D ≠ hp.objs.size + 1 := alive_ne (N7 (hp.objs.size + 1, oA) (.head _)).1 hD
      have b2 : D ≠ hp.objs.size + 2 := alive_ne (N7 (hp.objs.size + 2, oC) (.tail _ (.head _))).1 hD
      have b3 : D ≠ hp.objs.size + 3 := alive_ne (N7 (hp.objs.size + 3, oW) (.tail _ (.tail _ (.head _)))).1 hD
      have b4 : D ≠ hp.objs.size + 4 := alive_ne (N7 (hp.objs.size + 4, oH) (.tail _ (.tail _ (.tail _ (.head _))))).1 hD
      intro q
      simp only [List.mem_cons, List.not_mem_nil, or_false] at q
      rcases q with q | q | q | q | q
      · exact b0 q
      · exact b1 q
      · exact b2 q
      · exact b3 q
      · exact b4 q
    have hDex' : Ret _ := Ret.mk hDex
    clear hDex F7 N7 hk8 hns hD hDe hPL hJ8 XB TB cG hlG hr7 k7
    dsimp only at F8 N8 ⊢
    refine wpAny_execs_cons ?_
    refine For_T F8 ?hs ?_
    case hs => (intro _; with_unfolding_all rfl)
    k_steps
    rename_i h9 tk9 t2 u2 v2 hr9 F9 N9 k9
    dsimp only at hr9 F9 N9 k9 ⊢
    have hZ2 : ∀ q ∈ (D, W.listOf ys.toArray nD) :: Z, q ∈ (D, W.listOf ys.toArray nD) :: (hp.objs.size + 1, oA) :: (hp.objs.size + 2, oC) :: (hp.objs.size + 3, oW) :: (hp.objs.size + 4, oH) :: own := fun q hq => by
      rcases List.mem_cons.mp hq with rfl | hq
      · exact .head _
      · exact .tail _ (.tail _ (.tail _ (.tail _ (.tail _ ((show ∀ p ∈ Z, p ∈ own from hZ') q hq)))))
    have kZ9 : Holds ((D, W.listOf ys.toArray nD) :: Z) h9 := news_holds N9 hZ2
    have zoff2 : ZOff hp [hp.objs.size, hp.objs.size + 1, hp.objs.size + 2, hp.objs.size + 3, hp.objs.size + 4] ((D, W.listOf ys.toArray nD) :: Z) := fun q hq => by
      rcases List.mem_cons.mp hq with rfl | hq
      · exact ⟨hDex', (N9 _ (.head _)).2.2⟩
      · exact (show ZOff _ _ Z from zoff') q hq
    have hlt9 : ∀ q ∈ (D, W.listOf ys.toArray nD) :: Z, q.1 ≠ h9.objs.size := fun q hq => Nat.ne_of_lt (Heap.lt_size (kZ9 q hq))
    have N9c : News hp hp.objs.size h9 [(hp.objs.size + 1, oA), (hp.objs.size + 2, oC), (hp.objs.size + 3, oW), (hp.objs.size + 4, oH)] := fun q hq => N9 q (.tail _ (List.mem_append_left own hq))
    have zoff2' : Ret _ := Ret.mk zoff2
    have hlt9' : Ret _ := Ret.mk hlt9
    have sZ : ∀ q ∈ Z, q ∈ (D, W.listOf ys.toArray nD) :: Z := fun q hq => .tail _ hq
    have sZ' : Ret _ := Ret.mk sZ
    have hsh : ∀ k ∈ sharedO a0 a1 a2 a3 a4 a5, 0 ≤ k ∧ k < 4 := fun k hk => by
      obtain ⟨j, hj, rfl⟩ := List.mem_map.mp hk
      have := (List.mem_range.mp (List.mem_filter.mp hj).1)
      exact ⟨Int.natCast_nonneg _, by show ((j : Nat) : Int) < 4; omega⟩
    have hshl : (sharedO a0 a1 a2 a3 a4 a5).length ≤ 4 := by
      unfold sharedO sharedN
      rw [List.length_map]
      exact Nat.le_trans (List.length_filter_le _ _) (by rw [List.length_range]; exact Nat.le_refl 4)
    have hsh' : Ret _ := Ret.mk hsh
    have hshl' : Ret _ := Ret.mk hshl
    clear hZ2 zoff2 hlt9 sZ k9 hsh hshl
    refine loopT_range (n := 3) (x := Str.ofString "place") (mu := [hp.objs.size + 1, hp.objs.size + 2, hp.objs.size + 3, hp.objs.size + 4]) [Str.ofString "k", Str.ofString "merged"] (fun i c h => ∃ oC' oW' oH' c1 c2 c3, c = [(hp.objs.size + 1, oA), (hp.objs.size + 2, oC'), (hp.objs.size + 3, oW'), (hp.objs.size + 4, oH')] ∧ oC'.data = .cell c1 ∧ oW'.data = .cell c2 ∧ oH'.data = .cell c3 ∧ Holds ((D, W.listOf ys.toArray nD) :: Z) h) hh noExc_passes ?_ hr9 (by decide) F9 N9c rfl ⟨oC, oW, oH, v₂, v₁, v₀, rfl, hcC, hcW, hcH, kZ9⟩ ?_ ?_ ?_
    · intro v it
      with_unfolding_all rfl
    · rintro i c h h' ⟨oC', oW', oH', c1, c2, c3, rfl, d1, d2, d3, g⟩ k
      refine ⟨oC', oW', oH', c1, c2, c3, rfl, d1, d2, d3, holds_keep g k fun q hq r => ?_⟩
      rcases List.mem_append.mp r with r | r
      · exact ((show ZOff _ _ ((D, W.listOf ys.toArray nD) :: Z) from zoff2') q hq).1 r
      · exact (show ∀ q ∈ (D, W.listOf ys.toArray nD) :: Z, q.1 ≠ h9.objs.size from hlt9') q hq (List.mem_singleton.mp r)
    · rintro i ti u' cc h tk' own' hi ⟨oC', oW', oH', c1, c2, c3, rfl, d1, d2, d3, g⟩ hcc hof hal F10 N10 how10
      have hsub := own_sub (show ZOff _ _ ((D, W.listOf ys.toArray nD) :: Z) from zoff2') g how10
      have hsub' : Ret _ := Ret.mk hsub
      have g' : Ret _ := Ret.mk g
      have how10' : Ret _ := Ret.mk how10
      have F10' : Ret _ := Ret.mk F10
      have hof' : Ret _ := Ret.mk hof
      simp only [List.cons_append, List.nil_append] at N10
      clear hsub g how10 hcc F9 N9 N9c kZ9 hr9
      iterate 2 (first | walk1 | (dsimp only; walk1))
      rename_i h11 oC2 F11 N11 dC2
      have F12 := fr_name (x := Str.ofString "names") (v := .ref nmL) (fr_name (x := Str.ofString "shared") (v := .ref D) (fr_name (x := Str.ofString "coats") (v := .ref coL) F11 rfl) rfl) rfl
      refine coat_turn (ci := i) (own := own') (Z := (D, W.listOf ys.toArray nD) :: Z) (sh := sharedO a0 a1 a2 a3 a4 a5) T (Lo.le hA (by decide)) F12 N11 hof' hcA dC2 d2 d3 hsub' zoff2' (.tail _ zA') (.tail _ zN') (.tail _ zC') (.head _) (RowsIn.mono rA' sZ') (RowsIn.mono rN' sZ') hJ8' (CoatsIn.mono rC' sZ') okA' hn0' hn1' hi hsh' hshl' (ok' i hi) X ?_
      intro h13 tk13 m13 oW3 oH3 v3 v4 led13 F13 hm13 N13 hs13 dW3 dH3
      refine TurnG.nx (F10' : Fr _ _ _ _) how10' F13 N13 (fun q hq => hs13 q (.tail _ (.tail _ (.tail _ (.tail _ hq))))) (cont := [(hp.objs.size + 1, oA), (hp.objs.size + 2, oC2), (hp.objs.size + 3, oW3), (hp.objs.size + 4, oH3)]) rfl (fun q hq => hs13 q (List.mem_append_left own' hq)) (fun z hz hs => ?_) fun kp => ⟨oC2, oW3, oH3, _, _, _, rfl, dC2, dW3, dH3, holds_keep (g' : Holds _ _) kp fun q hq => ((show ZOff _ _ ((D, W.listOf ys.toArray nD) :: Z) from zoff2') q hq).1⟩
      obtain ⟨z1, hs2⟩ := ne_of_stored hs
      obtain ⟨z2, -⟩ := ne_of_stored hs2
      rw [hm13 z hz (by simp [z1]) z2]
      by_cases y1 : z = Str.ofString "names"
      · subst y1
        rfl
      · by_cases y2 : z = Str.ofString "shared"
        · subst y2
          rfl
        · by_cases y3 : z = Str.ofString "coats"
          · subst y3
            rfl
          · simp [hz, z1, z2, y1, y2, y3]
    · rintro h10 tk10 u10 cc own10 F10 N10 hcc10 how10 -
      k_steps
      exact RetP.mk ((hret : ∀ (h' : Heap) (tk : Nat), _) _ _ F10.keep)
end
end
section
open PySem PySem.W PyProof.Rows PySem.Calls
set_option Elab.async false
set_option maxRecDepth 100000
set_option maxHeartbeats 100000000
section
variable {w : World} {p : Program} {loose : List Str} {mean : ExcName → Option Value} {mg mb : Str → Option Value} {A : Around} {s : Shared} {hp : Heap}
theorem law_tail {P : Value → Shared → Prop} {u : Str → Option Value} {oA oC oW oH : Obj} {own Z : List (Addr × Obj)} {agL nmL coL : Addr} {avs nvs cvs : List Value} {n0 n1 a0 a1 a2 a3 a4 a5 : List Int} {na nn nc : Nat} {v₀ v₁ v₂ : Option Value}
    (T : Top p loose mean mg mb hp) (hA : Lo A 16)
    (F : Fr hp hp.objs.size s.heap (fun y => if y = Str.ofString "names" then some (.ref nmL) else if y = Str.ofString "coats" then some (.ref coL) else u y))
    (N : News hp hp.objs.size s.heap ((hp.objs.size + 1, oA) :: (hp.objs.size + 2, oC) :: (hp.objs.size + 3, oW) :: (hp.objs.size + 4, oH) :: own))
    (hcA : oA.data = .cell (some (.ref agL))) (hcC : oC.data = .cell v₂) (hcW : oW.data = .cell v₁) (hcH : oH.data = .cell v₀)
    (hZ : ∀ p ∈ Z, p ∈ own) (zoff : ZOff hp [hp.objs.size, hp.objs.size + 1, hp.objs.size + 2, hp.objs.size + 3, hp.objs.size + 4] Z)
    (zA : (agL, W.listOf avs.toArray na) ∈ Z) (zN : (nmL, W.listOf nvs.toArray nn) ∈ Z) (zC : (coL, W.listOf cvs.toArray nc) ∈ Z)
    (rA : RowsIn Z avs [a0, a1, a2, a3, a4, a5]) (rN : RowsIn Z nvs [n0, n1]) (rC : CoatsIn Z cvs [n0, n1, a0, a1, a2, a3, a4, a5])
    (okA : AgentsOk [a0, a1, a2, a3, a4, a5]) (hn0 : LenLe n0 8 ∧ Octs n0) (hn1 : LenLe n1 8 ∧ Octs n1)
    (ok : ∀ ci, ci < 3 → CoatOk n0 n1 a0 a1 a2 a3 a4 a5 (sharedO a0 a1 a2 a3 a4 a5) ci) (ret : ∀ (h' : Heap) (tk : Nat), Ext hp h' → P (.bool true) { s with heap := h', toks := tk }) :
    (KK w.params).In hp → wpAny (model PySem.Challenge.rw_tx0025_01.row.prog w) (A.deeper (lawEnv hp)) (execs ((bodyAt 38).drop 6) (lawEnv hp)) (RetP P) noExc s := by
  k_fill
  intro X
  obtain ⟨h0, gs, dr, tk, os⟩ := s
  have hh : A.handled = none := hA.hd
  have hret : Ret _ := Ret.mk ret
  clear ret
  dsimp only at F N ⊢
  conv =>
    arg 3
    arg 1
    whnf
  unfold lawEnv
  conv in (scopeAt 38) => whnf
  conv in (scopeAt 38) => whnf
  have zC' : Ret _ := Ret.mk zC
  have zA' : Ret _ := Ret.mk zA
  have zN' : Ret _ := Ret.mk zN
  have rA' : Ret _ := Ret.mk rA
  have rN' : Ret _ := Ret.mk rN
  have rC' : Ret _ := Ret.mk rC
  have okA' : Ret _ := Ret.mk okA
  have hn0' : Ret _ := Ret.mk hn0
  have hn1' : Ret _ := Ret.mk hn1
  have ok' : Ret _ := Ret.mk ok
  have zoff' : Ret _ := Ret.mk zoff
  have hZ' : Ret _ := Ret.mk hZ
  have hrow : ∀ row ∈ [n0, n1, a0, a1, a2, a3, a4, a5], row.length ≤ 8 ∧ Octs row := fun row hr => by
    rcases List.mem_cons.mp hr with rfl | hr
    · exact hn0
    · rcases List.mem_cons.mp hr with rfl | hr
      · exact hn1
      · have := okA.2 row hr
        exact ⟨by omega, this.2⟩
  have hrow' : Ret _ := Ret.mk hrow
  clear zC zA zN rA rN rC okA hn0 hn1 ok zoff hZ hrow
  have kZ : Holds Z h0 := news_holds N fun q hq => .tail _ (.tail _ (.tail _ (.tail _ ((show ∀ p ∈ Z, p ∈ own from hZ') q hq))))
  have hlC : h0.IsList coL cvs.toArray := ⟨_, kZ (coL, W.listOf cvs.toArray nc) zC', rfl, _, rfl⟩
  have hltZ : ∀ q ∈ Z, q.1 ≠ h0.objs.size := fun q hq => Nat.ne_of_lt (Heap.lt_size (kZ q hq))
  have hltZ' : Ret _ := Ret.mk hltZ
  have Nc : News hp hp.objs.size h0 [(hp.objs.size + 1, oA), (hp.objs.size + 2, oC), (hp.objs.size + 3, oW), (hp.objs.size + 4, oH)] := fun q hq => N q (List.mem_append_left own hq)
  have hlm : coL ∉ [hp.objs.size + 1, hp.objs.size + 2, hp.objs.size + 3, hp.objs.size + 4] := fun q => ((show ZOff _ _ Z from zoff') _ zC').1 (.tail _ q)
  refine wpAny_execs_cons ?_
  refine For_T F ?hs ?_
  case hs => (intro _; with_unfolding_all rfl)
  have kZ' : Ret _ := Ret.mk kZ
  have hlC' : Ret _ := Ret.mk hlC
  have Nc' : Ret _ := Ret.mk Nc
  clear kZ hlC Nc hltZ
  iterate 1 (first | walk1 | (dsimp only; walk1))
  refine loopT_list (x := Str.ofString "plain") (mu := [hp.objs.size + 1, hp.objs.size + 2, hp.objs.size + 3, hp.objs.size + 4]) 0 ?hn [Str.ofString "header", Str.ofString "quoted"] (fun i c h => c = [(hp.objs.size + 1, oA), (hp.objs.size + 2, oC), (hp.objs.size + 3, oW), (hp.objs.size + 4, oH)] ∧ Holds Z h) hh noExc_passes ?_ hlC' hlm F Nc' rfl ⟨rfl, kZ'⟩ ?_ ?_ ?_
  case hn => exact Nat.zero_le _
  · intro i v hv
    have hv : cvs[i]? = some v := by simpa using hv
    have hil : i < [n0, n1, a0, a1, a2, a3, a4, a5].length := by rw [← (show CoatsIn _ _ _ from rC').1]; exact (List.getElem?_eq_some_iff.mp hv).1
    obtain ⟨ra, q1, q2, q3, hv2, hz⟩ := (show CoatsIn _ _ _ from rC').2 i _ (List.getElem?_eq_getElem hil)
    rw [hv] at hv2
    exact ⟨ra, Option.some.inj hv2⟩
  · rintro i c h h' ⟨rfl, g1⟩ k
    refine ⟨rfl, holds_keep g1 k fun q hq r => ?_⟩
    rcases List.mem_append.mp r with r | r
    · exact ((show ZOff _ _ Z from zoff') q hq).1 r
    · exact (show ∀ q ∈ Z, q.1 ≠ h0.objs.size from hltZ') q hq (List.mem_singleton.mp r)
  · rintro i v u' cc h tk' own' htk' hv ⟨rfl, g1⟩ hcc hof hal F8 N8 how8
    have hv : cvs[i]? = some v := by simpa using hv
    have hil : i < [n0, n1, a0, a1, a2, a3, a4, a5].length := by rw [← (show CoatsIn _ _ _ from rC').1]; exact (List.getElem?_eq_some_iff.mp hv).1
    obtain ⟨row, hrw⟩ : ∃ row, [n0, n1, a0, a1, a2, a3, a4, a5][i]? = some row := ⟨_, List.getElem?_eq_getElem hil⟩
    obtain ⟨ra, q1, q2, q3, hv2, hz⟩ := (show CoatsIn _ _ _ from rC').2 i row hrw
    rw [hv] at hv2
    obtain rfl := Option.some.inj hv2
    have hro := (show ∀ row ∈ [n0, n1, a0, a1, a2, a3, a4, a5], _ from hrow') row (List.mem_of_getElem? hrw)
    have hnl : (natsOf row).length ≤ 8 := by unfold natsOf; rw [List.length_map]; exact hro.1
    have hno : ∀ k ∈ natsOf row, k < 256 := fun k hk => by
      obtain ⟨o, ho, rfl⟩ := List.mem_map.mp hk
      have := hro.2 o ho
      omega
    have hla : h.IsList ra #[.str (coatS 0 row) q1, .str (coatS 1 row) q2, .str (coatS 2 row) q3] := ⟨_, g1 (ra, coatO row q1 q2 q3) hz, rfl, _, rfl⟩
    have hno' : Ret _ := Ret.mk hno
    have hro' : Ret _ := Ret.mk hro
    have g1' : Ret _ := Ret.mk g1
    have hof' : Ret _ := Ret.mk hof
    have how8' : Ret _ := Ret.mk how8
    have F8' : Ret _ := Ret.mk F8
    clear hv hil hrw hz hro hno g1 hof how8 F Nc' hlC' hcc
    simp only [List.cons_append, List.nil_append] at N8
    k_dflt (refine' kun_list F8 N8 hla ?k4 ?k5 ?k6 ?_)
    case k4 => exact hh
    case k5 => with_unfolding_all exact rfl
    case k6 => with_unfolding_all exact rfl
    intro h1 F1 N1
    iterate 10 (first | walk1 | (dsimp only; walk1))
    with_reducible rename Fr _ _ _ _ => FF
    with_reducible rename News _ _ _ _ => NN
    clear hla
    refine wpAny_execs_cons ?_
    iterate 9 (first | walk1 | (dsimp only; walk1))
    refine ⟨X.keeps FF.keep, ?_⟩
    have hfl : ((natsOf row).flatMap gO).length ≤ 900 := by have := flat_le gO_len (natsOf row); omega
    have htl : (trans hc (natsOf row)).length ≤ 24 := by
      have := trans_len' (mp := hc) (cs := natsOf row) fun k _ => hc_len k
      omega
    refine use_hdecode (g := gO) (ks := natsOf row) (T.keeps FF.keep) (Lo.le (Lo.deeper hA) (by decide)) (Nat.succ_pos _) (by show (trans hc (natsOf row)).toArray.size ≤ 300; rw [List.size_toArray]; omega) (by omega) (fun k hk => gO_coded ((show ∀ k ∈ natsOf row, k < 256 from hno') k hk)) hfl (hdr_replace (show ∀ k ∈ natsOf row, k < 256 from hno')) (X.keeps FF.keep) ?_
    intro h4 tk4 t4 e4
    have F4 := fr_ext FF e4
    have N4 := news_ext NN e4
    clear FF NN e4 hfl htl
    dsimp only at F4 N4 ⊢
    have hne0 : ∀ row : List Int, ((⟨(natsOf row).toArray⟩ : Str) != coatS 0 row) = false := fun row => by
      rw [show coatS 0 row = (⟨(natsOf row).toArray⟩ : Str) from rfl]
      exact bne_self_eq_false _
    iterate 2 (first | walk1 | (dsimp only; walk1))
    rw [hne0 row]
    iterate 10 (first | walk1 | (dsimp only; walk1))
    refine ⟨X.keeps F4.keep, ?_⟩
    refine use_decode (ns := natsOf row) (T.keeps F4.keep) (Lo.le (Lo.deeper hA) (by decide)) (show ∀ k ∈ natsOf row, k < 256 from hno') (by omega) rfl (X.keeps F4.keep) ?_
    intro h5 tk5 t5 e5
    have F5 := fr_ext F4 e5
    have N5 := news_ext N4 e5
    clear F4 N4 e5
    dsimp only at F5 N5 ⊢
    iterate 2 (first | walk1 | (dsimp only; walk1))
    rw [hne0 row]
    k_steps
    refine TurnG.nx (F8' : Fr _ _ _ _) how8' F5 N5 (fun q hq => .tail _ (.tail _ (.tail _ (.tail _ hq)))) (cont := [(hp.objs.size + 1, oA), (hp.objs.size + 2, oC), (hp.objs.size + 3, oW), (hp.objs.size + 4, oH)]) rfl (fun q hq => List.mem_append_left own' hq) (fun z hz hs => ?_) fun kp => ⟨rfl, holds_keep (g1' : Holds _ _) kp fun q hq => ((show ZOff _ _ Z from zoff') q hq).1⟩
    obtain ⟨z1, hs2⟩ := ne_of_stored hs
    obtain ⟨z2, -⟩ := ne_of_stored hs2
    simp [hz, z1, z2]
  · rintro h9 tk9 u9 cc own9 F9 N9 hcc9 how9 ⟨rfl, g1⟩
    have hsub := own_sub (show ZOff _ _ Z from zoff') g1 how9
    have F12 := fr_name (x := Str.ofString "names") (v := .ref nmL) (fr_name (x := Str.ofString "coats") (v := .ref coL) F9 rfl) rfl
    simp only [List.cons_append, List.nil_append] at N9
    refine law_rest (own := own9) (Z := Z) T hA F12 N9 hcA hcC hcW hcH hsub zoff' zA' zN' zC' rA' rN' rC' okA' hn0' hn1' ok' hret X
end
end
section
open PySem PySem.W PyProof.Rows PySem.Calls
set_option Elab.async false
set_option maxRecDepth 100000
set_option maxHeartbeats 4000000
/-! block codes of octets -/
def blk (B : Int → List Nat) (ns : List Int) : List Nat := ns.flatMap B
theorem blk_cons (B : Int → List Nat) (o : Int) (ns : List Int) : blk B (o :: ns) = B o ++ blk B ns := List.flatMap_cons
structure PreCode (B : Int → List Nat) : Prop where
  ne : ∀ k, 0 ≤ k ∧ k < 256 → B k ≠ []
  pf : ∀ j k r r', (0 ≤ j ∧ j < 256) → (0 ≤ k ∧ k < 256) → B j ++ r = B k ++ r' → j = k
theorem oct_nat {o : Int} (h : 0 ≤ o ∧ o < 256) : ∃ k : Nat, o = k ∧ k < 256 := ⟨o.toNat, by omega, by omega⟩
theorem PreCode.of {B : Int → List Nat} (dec : List Nat → Nat) (h : ∀ k : Nat, k < 256 → B k ≠ [] ∧ ∀ r, dec (B k ++ r) = k) : PreCode B := by
  refine ⟨fun k hk => ?_, fun j k r r' hj hk e => ?_⟩
  · obtain ⟨k, rfl, h1⟩ := oct_nat hk
    exact (h k h1).1
  · obtain ⟨k, rfl, h1⟩ := oct_nat hk
    obtain ⟨j, rfl, h2⟩ := oct_nat hj
    have a := (h j h2).2 r
    rw [e, (h k h1).2 r'] at a
    rw [a]
theorem Octs.tl {o : Int} {ns : List Int} (h : Octs (o :: ns)) : Octs ns := fun x hx => h x (.tail _ hx)
theorem PreCode.pre {B : Int → List Nat} (C : PreCode B) : ∀ {as ts : List Int}, Octs as → Octs ts → ((blk B as <+: blk B ts) ↔ as <+: ts)
  | [], ts, _, _ => ⟨fun _ => List.nil_prefix, fun _ => List.nil_prefix⟩
  | a :: as, [], ha, _ => by
    constructor
    · rintro ⟨r, e⟩
      rw [blk_cons] at e
      exact absurd (List.append_eq_nil_iff.mp (List.append_eq_nil_iff.mp e).1).1 (C.ne a (ha a (.head _)))
    · intro h
      exact absurd (List.prefix_nil.mp h) (by simp)
  | a :: as, t :: ts, ha, ht => by
    have ih := C.pre ha.tl ht.tl
    rw [blk_cons, blk_cons]
    constructor
    · rintro ⟨r, e⟩
      rw [List.append_assoc] at e
      obtain rfl := C.pf a t _ _ (ha a (.head _)) (ht t (.head _)) e
      exact List.cons_prefix_cons.mpr ⟨rfl, ih.mp ⟨r, List.append_cancel_left e⟩⟩
    · intro h
      obtain ⟨e0, h9⟩ := List.cons_prefix_cons.mp h
      subst e0
      obtain ⟨r, e⟩ := ih.mpr h9
      exact ⟨r, by rw [List.append_assoc, e]⟩
theorem PreCode.inj {B : Int → List Nat} (C : PreCode B) {as ts : List Int} (ha : Octs as) (ht : Octs ts) (e : blk B as = blk B ts) : as = ts := by
  have h1 := (C.pre ha ht).mp ⟨[], by rw [List.append_nil]; exact e⟩
  have h2 := (C.pre ht ha).mp ⟨[], by rw [List.append_nil]; exact e.symm⟩
  exact h1.eq_of_length (Nat.le_antisymm h1.length_le h2.length_le)
/-- where a word stands in a coat -/
theorem stands_iff {B : Int → List Nat} {b : Bool} {as : List Int} (C : PreCode B) (ha : Octs as)
    (loc : ∀ o rest, (0 ≤ o ∧ o < 256) → Octs rest → ((∃ j, j < (B o).length ∧ blk B as <+: (B o).drop j ++ blk B rest) ↔ ∃ t ∈ tailsAt b o rest, as <+: t)) :
    ∀ ns, Octs ns → ((∃ i, i ≤ (blk B ns).length ∧ blk B as <+: (blk B ns).drop i) ↔ ∃ t ∈ tailsO b ns, as <+: t)
  | [], hn => by
    have := C.pre ha hn
    constructor
    · rintro ⟨i, hi, h⟩
      exact ⟨[], .head _, this.mp (by rwa [show blk B [] = [] from rfl, List.drop_nil] at h)⟩
    · rintro ⟨t, ht, h⟩
      rw [List.mem_singleton.mp ht] at h
      exact ⟨0, Nat.zero_le _, this.mpr h⟩
  | o :: rest, hn => by
    have ih := stands_iff C ha loc rest hn.tl
    have lo := loc o rest (hn o (.head _)) hn.tl
    rw [blk_cons, show tailsO b (o :: rest) = tailsAt b o rest ++ tailsO b rest from rfl]
    constructor
    · rintro ⟨i, hi, h⟩
      by_cases hl : i < (B o).length
      · rw [List.drop_append_of_le_length (Nat.le_of_lt hl)] at h
        obtain ⟨t, ht, e⟩ := lo.mp ⟨i, hl, h⟩
        exact ⟨t, List.mem_append_left _ ht, e⟩
      · obtain ⟨j, rfl⟩ : ∃ j, i = (B o).length + j := ⟨i - (B o).length, by omega⟩
        rw [List.drop_append, List.drop_eq_nil_of_le (by omega), List.nil_append, Nat.add_sub_cancel_left] at h
        obtain ⟨t, ht, e⟩ := ih.mp ⟨j, by rw [List.length_append] at hi; omega, h⟩
        exact ⟨t, List.mem_append_right _ ht, e⟩
    · rintro ⟨t, ht, e⟩
      rcases List.mem_append.mp ht with ht | ht
      · obtain ⟨j, hj, h⟩ := lo.mpr ⟨t, ht, e⟩
        exact ⟨j, by rw [List.length_append]; omega, by rw [List.drop_append_of_le_length (Nat.le_of_lt hj)]; exact h⟩
      · obtain ⟨j, hj, h⟩ := ih.mpr ⟨t, ht, e⟩
        refine ⟨(B o).length + j, by rw [List.length_append]; omega, ?_⟩
        rw [List.drop_append, List.drop_eq_nil_of_le (by omega), List.nil_append, Nat.add_sub_cancel_left]
        exact h
theorem contains_iff (X Y : List Nat) : Txt.contains ⟨X.toArray⟩ ⟨Y.toArray⟩ = true ↔ ∃ i, i ≤ X.length ∧ Y <+: X.drop i := by
  unfold Txt.contains
  rw [StrLaws.found_iff]
  show (∃ i, i + Y.length ≤ X.length ∧ _) ↔ _
  constructor
  · rintro ⟨i, h1, h2⟩
    rw [StrLaws.subAt_eq] at h2
    refine ⟨i, by omega, ?_⟩
    rw [List.prefix_iff_eq_take]
    exact (beq_iff_eq.mp h2).symm
  · rintro ⟨i, h1, h2⟩
    refine ⟨i, ?_, ?_⟩
    · have := h2.length_le
      rw [List.length_drop] at this
      omega
    · rw [StrLaws.subAt_eq]
      rw [List.prefix_iff_eq_take] at h2
      exact beq_iff_eq.mpr h2.symm
theorem stands_eq {B : Int → List Nat} {b : Bool} {as ns : List Int} (C : PreCode B) (ha : Octs as) (hn : Octs ns)
    (loc : ∀ o rest, (0 ≤ o ∧ o < 256) → Octs rest → ((∃ j, j < (B o).length ∧ blk B as <+: (B o).drop j ++ blk B rest) ↔ ∃ t ∈ tailsAt b o rest, as <+: t)) :
    Txt.contains ⟨(blk B ns).toArray⟩ ⟨(blk B as).toArray⟩ = (tailsO b ns).any fun t => t.take as.length == as := by
  rw [Bool.eq_iff_iff, contains_iff, stands_iff C ha loc ns hn, List.any_eq_true]
  constructor
  · rintro ⟨t, ht, h⟩
    exact ⟨t, ht, beq_iff_eq.mpr (List.prefix_iff_eq_take.mp h).symm⟩
  · rintro ⟨t, ht, h⟩
    exact ⟨t, ht, List.prefix_iff_eq_take.mpr (beq_iff_eq.mp h).symm⟩
/-- the head of a text, ahead of the first slash -/
theorem head_slash (X : List Nat) : (Txt.split ⟨X.toArray⟩ ⟨#[47]⟩).headD ⟨#[]⟩ = ⟨(X.takeWhile (· != 47)).toArray⟩ := by
  have hj := StrLaws.join_split ⟨X.toArray⟩ ⟨#[47]⟩
  have hf := StrLaws.split_free ⟨X.toArray⟩ 47
  have hp := split_pos ⟨X.toArray⟩ ⟨#[47]⟩
  generalize Txt.split ⟨X.toArray⟩ ⟨#[47]⟩ = l at hj hf hp
  have tw : ∀ (p r : List Nat), 47 ∉ p → (p ++ 47 :: r).takeWhile (· != 47) = p := fun p r h => by
    induction p with
    | nil => rfl
    | cons a p ih =>
      have ha : (a != 47) = true := by rw [bne_iff_ne]; exact fun e => h (e ▸ .head _)
      rw [List.cons_append, List.takeWhile_cons, if_pos ha, ih fun m => h (.tail _ m)]
  have tw0 : ∀ (p : List Nat), 47 ∉ p → p.takeWhile (· != 47) = p := fun p h => by
    induction p with
    | nil => rfl
    | cons a p ih =>
      have ha : (a != 47) = true := by rw [bne_iff_ne]; exact fun e => h (e ▸ .head _)
      rw [List.takeWhile_cons, if_pos ha, ih fun m => h (.tail _ m)]
  match l, hj, hf, hp with
  | [p], hj, hf, _ =>
    have e : p.cps.toList = X := by
      have := congrArg (fun s : PySem.Str => s.cps.toList) hj
      exact this
    show p = _
    rw [← e, tw0 _ (hf p (.head _))]
  | p :: q :: r, hj, hf, _ =>
    have e : p.cps.toList ++ 47 :: (Str.join ⟨#[47]⟩ (q :: r)).cps.toList = X := by
      have : (p ++ ⟨#[47]⟩ ++ Str.join ⟨#[47]⟩ (q :: r)).cps.toList = X := congrArg (fun s : PySem.Str => s.cps.toList) hj
      rw [Str.cps_append, Str.cps_append, Array.toList_append, Array.toList_append, List.append_assoc] at this
      exact this
    show p = _
    rw [← e, tw _ _ (hf p (.head _))]
/-- great letters made small -/
def lo256 (k : Nat) : Nat := (smallO 0 (k : Int)).toNat
theorem lowerOf_256 : ∀ c, c < 256 → Unicode.lowerOf c = [lo256 c] := by decide +kernel
theorem lower_256 {X : List Nat} (h : ∀ c ∈ X, c < 256) : Txt.lower ⟨X.toArray⟩ = ⟨(X.map lo256).toArray⟩ := by
  unfold Txt.lower
  rw [placed_single (⟨X.toArray⟩ : PySem.Str) _ lo256 fun i c hc => by
    have hc' : X.toArray[i]? = some c := by simpa using hc
    have hlt := h c (List.mem_of_getElem? (by simpa using hc))
    show Unicode.lowerAt X.toArray i = _
    unfold Unicode.lowerAt
    rw [hc']
    have hne : (c == 0x3A3) = false := by rw [beq_eq_false_iff_ne]; omega
    simp only [hne, Bool.false_and, Bool.false_eq_true, if_false]
    exact lowerOf_256 c hlt]
  congr 1
  apply Array.toList_inj.mp
  simp
end
section
open PySem PySem.W PyProof.Rows PySem.Calls
set_option Elab.async false
set_option maxRecDepth 100000
set_option maxHeartbeats 4000000
/-! the three coats, octet by octet -/
def coatB (c : Nat) (o : Int) : List Nat := if c = 0 then [o.toNat] else if c = 1 then (hc o.toNat).cps.toList else [61, hexC (o.toNat / 16), hexC (o.toNat % 16)]
/-- and made small -/
def lowB (c : Nat) (o : Int) : List Nat := if c = 0 then [o.toNat] else if c = 1 then (if o = 32 then [95] else if escO o then [61, (fig (o / 16)).toNat, (fig (o % 16)).toNat] else [o.toNat]) else [61, (fig (o / 16)).toNat, (fig (o % 16)).toNat]
def valE (x : Nat) : Nat := if x < 58 then x - 48 else if x < 71 then x - 55 else x - 87
def decE (l : List Nat) : Nat := match l with
  | [] => 0
  | x :: r => if x = 61 then (match r with | a :: b :: _ => 16 * valE a + valE b | _ => 0) else if x = 95 then 32 else x
def chkE (l : List Nat) (k : Nat) : Bool := match l with
  | [x] => x != 61 && (if x = 95 then k == 32 else x == k)
  | [x, a, b] => x == 61 && 16 * valE a + valE b == k
  | _ => false
theorem chkE_ok {l : List Nat} {k : Nat} (h : chkE l k = true) : l ≠ [] ∧ ∀ r, decE (l ++ r) = k := by
  match l, h with
  | [x], h =>
    refine ⟨by simp, fun r => ?_⟩
    have h := Bool.and_eq_true_iff.mp h
    have h1 : x ≠ 61 := bne_iff_ne.mp h.1
    have h2 := h.2
    show (if x = 61 then _ else if x = 95 then 32 else x) = k
    rw [if_neg h1]
    by_cases q : x = 95
    · rw [if_pos q] at h2 ⊢
      exact (beq_iff_eq.mp h2).symm
    · rw [if_neg q] at h2 ⊢
      exact beq_iff_eq.mp h2
  | [x, a, b], h =>
    refine ⟨by simp, fun r => ?_⟩
    have h := Bool.and_eq_true_iff.mp h
    have h1 : x = 61 := beq_iff_eq.mp h.1
    show (if x = 61 then 16 * valE a + valE b else if x = 95 then 32 else x) = k
    rw [if_pos h1]
    exact beq_iff_eq.mp h.2
theorem code_0 : PreCode (coatB 0) := PreCode.of (fun l => l.headD 0) fun k _ => ⟨by show [_] ≠ []; simp, fun r => rfl⟩
theorem lcode_0 : PreCode (lowB 0) := PreCode.of (fun l => l.headD 0) fun k _ => ⟨by show [_] ≠ []; simp, fun r => rfl⟩
theorem code_c : ∀ c < 3, PreCode (coatB c)
  | 0, _ => code_0
  | 1, _ => PreCode.of decE fun k hk => chkE_ok ((by decide +kernel : ∀ k : Nat, k < 256 → chkE (coatB 1 (k : Nat)) k = true) k hk)
  | 2, _ => PreCode.of decE fun k hk => chkE_ok ((by decide +kernel : ∀ k : Nat, k < 256 → chkE (coatB 2 (k : Nat)) k = true) k hk)
theorem lcode_c : ∀ c < 3, PreCode (lowB c)
  | 0, _ => lcode_0
  | 1, _ => PreCode.of decE fun k hk => chkE_ok ((by decide +kernel : ∀ k : Nat, k < 256 → chkE (lowB 1 (k : Nat)) k = true) k hk)
  | 2, _ => PreCode.of decE fun k hk => chkE_ok ((by decide +kernel : ∀ k : Nat, k < 256 → chkE (lowB 2 (k : Nat)) k = true) k hk)
theorem first_tail {B : Int → List Nat} {o : Int} {rest : List Int} : (B o).drop 0 ++ blk B rest = blk B (o :: rest) := (blk_cons B o rest).symm
theorem octs_cons {o : Int} {rest : List Int} (h : 0 ≤ o ∧ o < 256) (hr : Octs rest) : Octs (o :: rest) := fun x hx => by
  rcases List.mem_cons.mp hx with rfl | hx
  · exact h
  · exact hr x hx
/-- a coat of one sign an octet, or one that no word stands in the midst of -/
theorem loc_plain {B : Int → List Nat} {as : List Int} (C : PreCode B) (ha : Octs as) {o : Int} {rest : List Int} (ho : 0 ≤ o ∧ o < 256) (hr : Octs rest)
    (h : ∀ j, 0 < j → j < (B o).length → blk B as <+: (B o).drop j ++ blk B rest → as = []) :
    ((∃ j, j < (B o).length ∧ blk B as <+: (B o).drop j ++ blk B rest) ↔ ∃ t ∈ [o :: rest], as <+: t) := by
  have key := C.pre ha (octs_cons ho hr)
  constructor
  · rintro ⟨j, hj, e⟩
    refine ⟨_, .head _, ?_⟩
    by_cases q : j = 0
    · rw [q, first_tail] at e
      exact key.mp e
    · rw [h j (by omega) hj e]
      exact List.nil_prefix
  · rintro ⟨t, ht, e⟩
    rw [List.mem_singleton.mp ht] at e
    exact ⟨0, List.length_pos_iff.mpr (C.ne o ho), by rw [first_tail]; exact key.mpr e⟩
theorem loc_0 {as : List Int} (ha : Octs as) : ∀ o rest, (0 ≤ o ∧ o < 256) → Octs rest → ((∃ j, j < (lowB 0 o).length ∧ blk (lowB 0) as <+: (lowB 0 o).drop j ++ blk (lowB 0) rest) ↔ ∃ t ∈ tailsAt false o rest, as <+: t) :=
  fun o rest ho hr => loc_plain lcode_0 ha ho hr fun j h1 h2 => by
    have : j < 1 := h2
    omega
theorem low2_mid : ∀ k < 256, ∃ a b, lowB 2 (k : Nat) = [61, a, b] ∧ a ≠ 61 ∧ b ≠ 61 := by
  intro k hk
  have h : ∀ k < 256, (fig ((k : Nat) / 16 : Int)).toNat ≠ 61 ∧ (fig ((k : Nat) % 16 : Int)).toNat ≠ 61 := by decide +kernel
  exact ⟨_, _, rfl, h k hk⟩
theorem loc_2 {as : List Int} (ha : Octs as) : ∀ o rest, (0 ≤ o ∧ o < 256) → Octs rest → ((∃ j, j < (lowB 2 o).length ∧ blk (lowB 2) as <+: (lowB 2 o).drop j ++ blk (lowB 2) rest) ↔ ∃ t ∈ tailsAt false o rest, as <+: t) :=
  fun o rest ho hr => loc_plain (lcode_c 2 (by decide)) ha ho hr fun j h1 h2 e => by
    obtain ⟨k, rfl, hk⟩ := oct_nat ho
    obtain ⟨a, b, e1, ha1, hb1⟩ := low2_mid k hk
    rw [e1] at h2 e
    have h2 : j < 3 := h2
    cases as with
    | nil => rfl
    | cons x as =>
      exfalso
      rw [blk_cons, show lowB 2 x = [61, (fig (x / 16)).toNat, (fig (x % 16)).toNat] from rfl] at e
      obtain ⟨r, e⟩ := e
      have : j = 1 ∨ j = 2 := by omega
      rcases this with rfl | rfl
      · have := (List.cons.inj e).1
        exact ha1 this.symm
      · have := (List.cons.inj e).1
        exact hb1 this.symm
theorem low1_esc : ∀ k : Nat, k < 256 → escO (k : Nat) = true → lowB 1 (k : Nat) = 61 :: (lowB 1 (fig ((k : Nat) / 16)) ++ lowB 1 (fig ((k : Nat) % 16))) ∧ (lowB 1 (fig ((k : Nat) / 16))).length = 1 ∧ (lowB 1 (fig ((k : Nat) % 16))).length = 1 ∧ (0 ≤ fig ((k : Nat) / 16) ∧ fig ((k : Nat) / 16) < 256) ∧ (0 ≤ fig ((k : Nat) % 16) ∧ fig ((k : Nat) % 16) < 256) := by decide +kernel
theorem low1_one : ∀ k : Nat, k < 256 → escO (k : Nat) = false → (lowB 1 (k : Nat)).length = 1 := by decide +kernel
theorem loc_1 {as : List Int} (ha : Octs as) : ∀ o rest, (0 ≤ o ∧ o < 256) → Octs rest → ((∃ j, j < (lowB 1 o).length ∧ blk (lowB 1) as <+: (lowB 1 o).drop j ++ blk (lowB 1) rest) ↔ ∃ t ∈ tailsAt true o rest, as <+: t) := by
  intro o rest ho hr
  have C := lcode_c 1 (by decide)
  cases q : escO o with
  | false =>
    have e : tailsAt true o rest = [o :: rest] := by unfold tailsAt; rw [q]; rfl
    rw [e]
    refine loc_plain C ha ho hr fun j h1 h2 => ?_
    obtain ⟨k, rfl, hk⟩ := oct_nat ho
    rw [low1_one k hk q] at h2
    omega
  | true =>
    have e : tailsAt true o rest = [o :: rest, fig (o / 16) :: fig (o % 16) :: rest, fig (o % 16) :: rest] := by unfold tailsAt; rw [q]; rfl
    rw [e]
    obtain ⟨k, rfl, hk⟩ := oct_nat ho
    obtain ⟨e1, l1, l2, o1, o2⟩ := low1_esc k hk q
    have hlen : (lowB 1 (k : Nat)).length = 3 := by rw [e1, List.length_cons, List.length_append, l1, l2]
    have k0 := C.pre ha (octs_cons ho hr)
    have k1 := C.pre ha (octs_cons o1 (octs_cons o2 hr))
    have k2 := C.pre ha (octs_cons o2 hr)
    have d1 : (lowB 1 (k : Nat)).drop 1 ++ blk (lowB 1) rest = blk (lowB 1) (fig ((k : Nat) / 16) :: fig ((k : Nat) % 16) :: rest) := by
      rw [e1, blk_cons, blk_cons, List.drop_succ_cons, List.drop_zero, List.append_assoc]
    have d2 : (lowB 1 (k : Nat)).drop 2 ++ blk (lowB 1) rest = blk (lowB 1) (fig ((k : Nat) % 16) :: rest) := by
      rw [e1, blk_cons, List.drop_succ_cons, List.drop_append, List.drop_eq_nil_of_le (by omega), l1]
      rfl
    rw [hlen]
    constructor
    · rintro ⟨j, hj, h⟩
      have : j = 0 ∨ j = 1 ∨ j = 2 := by omega
      rcases this with rfl | rfl | rfl
      · rw [first_tail] at h
        exact ⟨_, .head _, k0.mp h⟩
      · rw [d1] at h
        exact ⟨_, .tail _ (.head _), k1.mp h⟩
      · rw [d2] at h
        exact ⟨_, .tail _ (.tail _ (.head _)), k2.mp h⟩
    · rintro ⟨t, ht, h⟩
      simp only [List.mem_cons, List.not_mem_nil, or_false] at ht
      rcases ht with rfl | rfl | rfl
      · exact ⟨0, by decide, by rw [first_tail]; exact k0.mpr h⟩
      · exact ⟨1, by decide, by rw [d1]; exact k1.mpr h⟩
      · exact ⟨2, by decide, by rw [d2]; exact k2.mpr h⟩
theorem low_fact : ∀ c : Nat, c < 3 → ∀ k : Nat, k < 256 → (coatB c (k : Nat)).map lo256 = lowB c (smallO (c : Nat) (k : Nat)) ∧ (coatB c (k : Nat)).all (· < 256) = true := by decide +kernel
theorem slash_fact : ∀ c : Nat, c < 3 → ∀ k : Nat, k < 256 → (c = 2 ∨ k ≠ 47) → (coatB c (k : Nat)).all (· != 47) = true := by decide +kernel
theorem lower_coat {c : Nat} (hc : c < 3) {ns : List Int} (hn : Octs ns) : Txt.lower ⟨(blk (coatB c) ns).toArray⟩ = ⟨(blk (lowB c) (ns.map (smallO (c : Nat)))).toArray⟩ := by
  rw [lower_256]
  · congr 2
    induction ns with
    | nil => rfl
    | cons o ns ih =>
      obtain ⟨k, rfl, hk⟩ := oct_nat (hn o (.head _))
      rw [blk_cons, List.map_append, ih hn.tl, (low_fact c hc k hk).1, List.map_cons, blk_cons]
  · intro x hx
    obtain ⟨o, ho, hx⟩ := List.mem_flatMap.mp hx
    obtain ⟨k, rfl, hk⟩ := oct_nat (hn o ho)
    have := List.all_eq_true.mp (low_fact c hc k hk).2 x hx
    exact of_decide_eq_true this
theorem headO_take {c : Int} (hc : c < 2) (ns : List Int) : headO c ns = ns.takeWhile (· != 47) := by
  unfold headO
  have tw : ∀ l : List Int, (47 : Int) ∈ l → l.take (l.idxOf 47) = l.takeWhile (· != 47) := fun l h => by
    induction l with
    | nil => cases h
    | cons a l ih =>
      by_cases q : a = 47
      · subst q
        simp
      · have h : (47 : Int) ∈ l := by
          rcases List.mem_cons.mp h with h | h
          · exact absurd h.symm q
          · exact h
        have q1 : (a == 47) = false := beq_eq_false_iff_ne.mpr q
        have q2 : (a != 47) = true := bne_iff_ne.mpr q
        rw [List.idxOf_cons, q1, cond_false, List.take_succ_cons, List.takeWhile_cons, if_pos q2, ih h]
  have tw0 : ∀ l : List Int, (47 : Int) ∉ l → l.takeWhile (· != 47) = l := fun l h => by
    induction l with
    | nil => rfl
    | cons a l ih =>
      have ha : (a != 47) = true := by rw [bne_iff_ne]; exact fun e => h (e ▸ .head _)
      rw [List.takeWhile_cons, if_pos ha, ih fun m => h (.tail _ m)]
  by_cases h : (47 : Int) ∈ ns
  · rw [if_pos ⟨hc, h⟩, tw ns h]
  · rw [if_neg (fun q => h q.2), tw0 ns h]
theorem takeWhile_app {p : Nat → Bool} {l r : List Nat} (h : l.all p = true) : (l ++ r).takeWhile p = l ++ r.takeWhile p := by
  induction l with
  | nil => rfl
  | cons a l ih =>
    rw [List.all_cons, Bool.and_eq_true] at h
    rw [List.cons_append, List.takeWhile_cons, if_pos h.1, ih h.2, List.cons_append]
theorem slash_coat {c : Nat} (hc : c < 3) {ns : List Int} (hn : Octs ns) : (blk (coatB c) ns).takeWhile (· != 47) = blk (coatB c) (headO (c : Nat) ns) := by
  by_cases h2 : c = 2
  · have e : headO (c : Nat) ns = ns := by
      unfold headO
      rw [if_neg (by rw [h2]; exact fun q => absurd q.1 (by decide))]
    rw [e]
    induction ns with
    | nil => rfl
    | cons o ns ih =>
      obtain ⟨k, rfl, hk⟩ := oct_nat (hn o (.head _))
      rw [blk_cons, takeWhile_app (slash_fact c hc k hk (.inl h2)), ih hn.tl]
      unfold headO
      rw [if_neg (by rw [h2]; exact fun q => absurd q.1 (by decide))]
  · rw [headO_take (by omega)]
    induction ns with
    | nil => rfl
    | cons o ns ih =>
      obtain ⟨k, rfl, hk⟩ := oct_nat (hn o (.head _))
      by_cases q : k = 47
      · subst q
        have e : coatB c ((47 : Nat) : Int) = [47] := by
          have : c = 0 ∨ c = 1 := by omega
          rcases this with rfl | rfl <;> decide +kernel
        rw [blk_cons, e]
        rfl
      · have q2 : (((k : Nat) : Int) != 47) = true := by rw [bne_iff_ne]; omega
        rw [blk_cons, takeWhile_app (slash_fact c hc k hk (.inr q)), ih hn.tl, List.takeWhile_cons, if_pos q2, blk_cons]
theorem headO_octs {c : Int} {ns : List Int} (h : Octs ns) : Octs (headO c ns) := by
  unfold headO
  split
  · exact fun x hx => h x (List.mem_of_mem_take hx)
  · exact h
theorem star_coat {c : Nat} (hc : c < 3) {a : List Int} (ha : Octs a) : ((⟨(blk (coatB c) a).toArray⟩ : PySem.Str) != ⟨#[42]⟩) = (((c : Nat) : Int) == 2 || a != [42]) := by
  have e1 : ((⟨(blk (coatB c) a).toArray⟩ : PySem.Str) != ⟨#[42]⟩) = true ↔ blk (coatB c) a ≠ [42] := by
    rw [bne_iff_ne]
    constructor
    · intro h q
      rw [q] at h
      exact h rfl
    · intro h q
      have := congrArg (fun s : PySem.Str => s.cps.toList) q
      exact h this
  rw [Bool.eq_iff_iff, e1, Bool.or_eq_true, beq_iff_eq, bne_iff_ne]
  have o42 : Octs [42] := fun x hx => by rw [List.mem_singleton.mp hx]; omega
  by_cases h2 : c = 2
  · subst h2
    constructor
    · intro _
      exact .inl rfl
    · intro _ q
      cases a with
      | nil => cases q
      | cons o a =>
        rw [blk_cons] at q
        have := (List.cons.inj q).1
        exact absurd this (by decide)
  · have e : blk (coatB c) [42] = [42] := by
      have : c = 0 ∨ c = 1 := by omega
      rcases this with rfl | rfl <;> decide +kernel
    constructor
    · intro h
      refine .inr fun q => h ?_
      rw [q, e]
    · rintro (h | h) q
      · omega
      · exact h ((code_c c hc).inj ha o42 (q.trans e.symm))
theorem hit_coat {c : Nat} (hc : c < 3) {nm a : List Int} (hn : Octs nm) (ha : Octs a) :
    hitS (headS ⟨(blk (coatB c) nm).toArray⟩) ⟨(blk (coatB c) a).toArray⟩ = hitO (c : Nat) (tailsO (((c : Nat) : Int) == 1) ((headO (c : Nat) nm).map (smallO (c : Nat)))) a := by
  unfold hitS headS hitO
  rw [head_slash, slash_coat hc hn, lower_coat hc (headO_octs hn), lower_coat hc ha, star_coat hc ha, Bool.and_comm]
  congr 1
  have h1 := small_octs (c := (c : Nat)) (headO_octs (c := (c : Nat)) hn)
  have h2 := small_octs (c := (c : Nat)) ha
  match c, hc with
  | 0, _ => exact stands_eq lcode_0 h2 h1 (loc_0 h2)
  | 1, _ => exact stands_eq (lcode_c 1 (by decide)) h2 h1 (loc_1 h2)
  | 2, _ => exact stands_eq (lcode_c 2 (by decide)) h2 h1 (loc_2 h2)
end
section
open PySem PySem.W PyProof.Rows PySem.Calls
set_option Elab.async false
set_option maxRecDepth 100000
set_option maxHeartbeats 4000000
theorem coatS_blk {c : Nat} (hc : c < 3) (ns : List Int) : coatS c ns = ⟨(blk (coatB c) ns).toArray⟩ := by
  match c, hc with
  | 0, _ =>
    show (⟨(natsOf ns).toArray⟩ : PySem.Str) = _
    congr 2
    induction ns with
    | nil => rfl
    | cons o ns ih => rw [blk_cons, ← ih]; rfl
  | 1, _ =>
    show (⟨(trans Mine.hc (natsOf ns)).toArray⟩ : PySem.Str) = _
    congr 2
    induction ns with
    | nil => rfl
    | cons o ns ih => rw [blk_cons, ← ih]; rfl
  | 2, _ =>
    show (⟨(qps (natsOf ns)).toArray⟩ : PySem.Str) = _
    congr 2
    induction ns with
    | nil => rfl
    | cons o ns ih => rw [blk_cons, ← ih]; rfl
theorem coatS_inj {c : Nat} (hc : c < 3) {a b : List Int} (ha : Octs a) (hb : Octs b) (e : coatS c a = coatS c b) : a = b := by
  rw [coatS_blk hc, coatS_blk hc] at e
  exact (code_c c hc).inj ha hb (congrArg (fun s : PySem.Str => s.cps.toList) e)
theorem coatS_beq {c : Nat} (hc : c < 3) {a b : List Int} (ha : Octs a) (hb : Octs b) : (coatS c a == coatS c b) = (a == b) := by
  rw [Bool.eq_iff_iff, beq_iff_eq, beq_iff_eq]
  exact ⟨coatS_inj hc ha hb, fun e => by rw [e]⟩
theorem coatS_len {c : Nat} (hc : c < 3) {a : List Int} (h : a.length ≤ 8) : (coatS c a).length ≤ 1000 := by
  rw [coatS_blk hc]
  show (blk (coatB c) a).toArray.size ≤ 1000
  rw [List.size_toArray]
  have hl : ∀ o, (coatB c o).length ≤ 3 := fun o => by
    unfold coatB
    split
    · exact Nat.le_of_ble_eq_true rfl
    · split
      · have := hc_len o.toNat
        rw [Array.length_toList]
        exact this
      · exact Nat.le_of_ble_eq_true rfl
  have : ∀ l : List Int, (blk (coatB c) l).length ≤ 3 * l.length := fun l => by
    induction l with
    | nil => exact Nat.zero_le _
    | cons o l ih =>
      have := hl o
      rw [blk_cons, List.length_append, List.length_cons]
      omega
  have := this a
  omega
theorem any_congr' {α : Type} {p q : α → Bool} : ∀ {l : List α}, (∀ a ∈ l, p a = q a) → l.any p = l.any q
  | [], _ => rfl
  | a :: l, h => by rw [List.any_cons, List.any_cons, h a (.head _), any_congr' fun b hb => h b (.tail _ hb)]
theorem two_fact : ∀ c : Nat, c < 3 → (!(((c : Nat) : Int) == 2)) = decide (((c : Nat) : Int) < 2) := by decide
theorem sharedO_mem {a0 a1 a2 a3 a4 a5 : List Int} {k : Int} (h : k ∈ sharedO a0 a1 a2 a3 a4 a5) : ∃ j : Nat, k = j ∧ j < 4 := by
  obtain ⟨j, hj, rfl⟩ := List.mem_map.mp h
  exact ⟨j, rfl, List.mem_range.mp (List.mem_filter.mp hj).1⟩
theorem coat_ok {n0 n1 a0 a1 a2 a3 a4 a5 : List Int} (okA : AgentsOk [a0, a1, a2, a3, a4, a5]) (hn0 : LenLe n0 8 ∧ Octs n0) (hn1 : LenLe n1 8 ∧ Octs n1) : ∀ ci, ci < 3 → CoatOk n0 n1 a0 a1 a2 a3 a4 a5 (sharedO a0 a1 a2 a3 a4 a5) ci := by
  intro c hc
  have hoA : ∀ a ∈ [a0, a1, a2, a3, a4, a5], Octs a := fun a h => (okA.2 a h).2
  have o0 := hoA a0 (.head _)
  have o1 := hoA a1 (.tail _ (.head _))
  have o2 := hoA a2 (.tail _ (.tail _ (.head _)))
  have o3 := hoA a3 (.tail _ (.tail _ (.tail _ (.head _))))
  have o4 := hoA a4 (.tail _ (.tail _ (.tail _ (.tail _ (.head _)))))
  have o5 := hoA a5 (.tail _ (.tail _ (.tail _ (.tail _ (.tail _ (.head _))))))
  have hshort : ∀ x ∈ [n0, n1, a0, a1, a2, a3, a4, a5].map (coatS c), x.length ≤ 1000 := fun x hx => by
    obtain ⟨r, hr, rfl⟩ := List.mem_map.mp hx
    refine coatS_len hc ?_
    rcases List.mem_cons.mp hr with rfl | hr
    · exact hn0.1
    · rcases List.mem_cons.mp hr with rfl | hr
      · exact hn1.1
      · have := (okA.2 r hr).1
        omega
  have hname : ∀ pl nm, pl < 2 → [n0, n1][pl]? = some nm → ([n0, n1, a0, a1, a2, a3, a4, a5].map (coatS c))[pl]? = some (coatS c nm) ∧ Octs nm := fun pl nm hpl e => by
    have : pl = 0 ∨ pl = 1 := by omega
    rcases this with rfl | rfl
    · obtain rfl : n0 = nm := Option.some.inj e
      exact ⟨rfl, hn0.2⟩
    · obtain rfl : n1 = nm := Option.some.inj e
      exact ⟨rfl, hn1.2⟩
  have hag : ∀ (k : Nat) x, ([n0, n1, a0, a1, a2, a3, a4, a5].map (coatS c))[k + 2]? = some x → ∃ a, [a0, a1, a2, a3, a4, a5][k]? = some a ∧ x = coatS c a ∧ Octs a := fun k x e => by
    have e : ([a0, a1, a2, a3, a4, a5].map (coatS c))[k]? = some x := e
    rw [List.getElem?_map] at e
    obtain ⟨a, ha, rfl⟩ := Option.map_eq_some_iff.mp e
    exact ⟨a, ha, rfl, hoA a (List.mem_of_getElem? ha)⟩
  have hpick : ∀ k ∈ sharedO a0 a1 a2 a3 a4 a5, ∃ a, [a0, a1, a2, a3, a4, a5][k.toNat]? = some a ∧ pick ([n0, n1, a0, a1, a2, a3, a4, a5].map (coatS c)) k = coatS c a ∧ Octs a := fun k hk => by
    obtain ⟨j, rfl, hj⟩ := sharedO_mem hk
    have hj6 : j < [a0, a1, a2, a3, a4, a5].length := by show j < 6; omega
    obtain ⟨a, ha⟩ : ∃ a, [a0, a1, a2, a3, a4, a5][j]? = some a := ⟨_, List.getElem?_eq_getElem hj6⟩
    rw [Int.toNat_natCast]
    refine ⟨a, ha, ?_, hoA a (List.mem_of_getElem? ha)⟩
    unfold pick
    have e : ([n0, n1, a0, a1, a2, a3, a4, a5].map (coatS c))[j + 2]? = some (coatS c a) := by
      show ([a0, a1, a2, a3, a4, a5].map (coatS c))[j]? = _
      rw [List.getElem?_map, ha]
      rfl
    rw [List.getD_eq_getElem?_getD, Int.toNat_natCast, e]
    rfl
  have hhit : ∀ nm a, Octs nm → Octs a → hitS (headS (coatS c nm)) (coatS c a) = hitO (c : Nat) (tailsO (((c : Nat) : Int) == 1) ((headO (c : Nat) nm).map (smallO (c : Nat)))) a := fun nm a h1 h2 => by
    rw [coatS_blk hc, coatS_blk hc]
    exact hit_coat hc h1 h2
  have hagree : ∀ pl nm, pl < 2 → [n0, n1][pl]? = some nm → ∀ (k : Nat) x y, k < 6 → ([n0, n1, a0, a1, a2, a3, a4, a5].map (coatS c))[k + 2]? = some x → ([n0, n1, a0, a1, a2, a3, a4, a5].map (coatS c))[pl]? = some y → ([a0, a1, a2, a3, a4, a5].map (hitO (c : Nat) (tailsO (((c : Nat) : Int) == 1) ((headO (c : Nat) nm).map (smallO (c : Nat))))))[k]? = some (hitS (headS y) x) := by
    intro pl nm hpl hnm k x y hk hx hy
    obtain ⟨hy2, hno⟩ := hname pl nm hpl hnm
    rw [hy] at hy2
    obtain rfl := Option.some.inj hy2
    obtain ⟨a, ha, rfl, hao⟩ := hag k x hx
    rw [List.getElem?_map, ha, hhit nm a hno hao]
    rfl
  have hlen8 : ([n0, n1, a0, a1, a2, a3, a4, a5].map (coatS c)).length = 8 := by simp only [List.length_map, List.length_cons, List.length_nil]
  refine ⟨?_, hshort, fun pl nm hpl hnm => ?_, ?_, ?_⟩
  rotate_left
  · exact PlaceOk.mk hlen8 hshort (hagree pl nm hpl hnm)
  rotate_right
  · have hb : ∀ a, Octs a → [coatS c a4, coatS c a2, coatS c a5, coatS c a1].contains (coatS c a) = [a4, a2, a5, a1].any fun r => r == a := fun a ha => by
      rw [List.contains_eq_any_beq]
      show (coatS c a == coatS c a4 || (coatS c a == coatS c a2 || (coatS c a == coatS c a5 || (coatS c a == coatS c a1 || false)))) = (a4 == a || (a2 == a || (a5 == a || (a1 == a || false))))
      rw [coatS_beq hc ha o4, coatS_beq hc ha o2, coatS_beq hc ha o5, coatS_beq hc ha o1]
      have cm : ∀ x y : List Int, (x == y) = (y == x) := fun x y => by
        rw [Bool.eq_iff_iff, beq_iff_eq, beq_iff_eq]
        exact eq_comm
      rw [cm a a4, cm a a2, cm a a5, cm a a1]
    have e : sharedO a0 a1 a2 a3 a4 a5 = (([0, 1, 2, 3] : List Nat).filter fun k => [a4, a2, a5, a1].any fun r => r == [a0, a1, a2, a3, a4, a5].getD k []).map Int.ofNat := rfl
    rw [e]
    simp only [List.filter_cons, List.filter_nil, hb a0 o0, hb a1 o1, hb a2 o2, hb a3 o3]
    rw [show [a0, a1, a2, a3, a4, a5].getD 0 [] = a0 from rfl, show [a0, a1, a2, a3, a4, a5].getD 1 [] = a1 from rfl, show [a0, a1, a2, a3, a4, a5].getD 2 [] = a2 from rfl, show [a0, a1, a2, a3, a4, a5].getD 3 [] = a3 from rfl]
    generalize ([a4, a2, a5, a1].any fun r => r == a0) = b0
    generalize ([a4, a2, a5, a1].any fun r => r == a1) = b1
    generalize ([a4, a2, a5, a1].any fun r => r == a2) = b2
    generalize ([a4, a2, a5, a1].any fun r => r == a3) = b3
    cases b0 <;> cases b1 <;> cases b2 <;> cases b3 <;> rfl
  · intro pl nm y hpl hnm hy
    obtain ⟨hy2, hno⟩ := hname pl nm hpl hnm
    rw [hy] at hy2
    obtain rfl := Option.some.inj hy2
    rw [List.any_map, List.any_map]
    refine any_congr' fun k hk => ?_
    obtain ⟨a, ha, hp, hao⟩ := hpick k hk
    show hitS _ (pick _ k) = id (List.getD _ k.toNat false)
    rw [hp, hhit nm a hno hao, List.getD_eq_getElem?_getD, List.getElem?_map, ha]
    rfl
  · rw [List.any_map, List.any_map]
    have hs : ∀ a, Octs a → (coatS c a == Str.ofString "*") = (decide (((c : Nat) : Int) < 2) && a == [42]) := fun a ha => by
      have h := star_coat hc ha
      rw [← coatS_blk hc] at h
      have h2 : (coatS c a == Str.ofString "*") = !(((c : Nat) : Int) == 2 || a != [42]) := by
        rw [← h]
        show _ = !(!(coatS c a == ⟨#[42]⟩))
        rw [Bool.not_not]
        rfl
      rw [h2, Bool.not_or]
      have h3 : (!(((c : Nat) : Int) == 2)) = decide (((c : Nat) : Int) < 2) := two_fact c hc
      have h4 : (!(a != [42])) = (a == [42]) := by
        show (!(!(a == [42]))) = _
        rw [Bool.not_not]
      rw [h3, h4]
    have e : (sharedO a0 a1 a2 a3 a4 a5).any ((fun x => x == Str.ofString "*") ∘ pick ([n0, n1, a0, a1, a2, a3, a4, a5].map (coatS c))) = (sharedO a0 a1 a2 a3 a4 a5).any fun k => decide (((c : Nat) : Int) < 2) && ([a0, a1, a2, a3, a4, a5].getD k.toNat [] == [42]) := by
      refine any_congr' fun k hk => ?_
      obtain ⟨a, ha, hp, hao⟩ := hpick k hk
      show (pick _ k == _) = _
      rw [hp, hs a hao, List.getD_eq_getElem?_getD, ha]
      rfl
    rw [e]
    generalize decide (((c : Nat) : Int) < 2) = d
    cases d
    · simp
    · simp only [Bool.true_and]
      rfl
end
section
open PySem PySem.W PyProof.Rows PySem.Calls
set_option Elab.async false
set_option maxRecDepth 100000
set_option maxHeartbeats 100000000
section
variable {w : World} {p : Program} {loose : List Str} {mean : ExcName → Option Value} {mg mb : Str → Option Value} {A : Around} {s : Shared} {E : Value → Shared → Prop}
theorem rows_in {hp h : Heap} {ex : List Addr} {vs : List Value} {nss : List (List Int)} (R : RowsX ex h vs nss) (V : FreshV hp vs) : RowsIn (allOf hp h ex) vs nss := by
  induction R with
  | nil => exact .nil
  | cons x _ ih =>
    obtain ⟨a, vs, n, e, he, hg, hi⟩ := x
    refine .cons ⟨a, vs, n, e, mem_allOf he (V a (e ▸ .head _)) hg, hi⟩ (ih fun b hb => V b (.tail _ hb))
theorem cell_off {h : Heap} {a b : Addr} {vs : Array Value} {n : Nat} {o : Obj} {cv : Option Value} (ha : h.get? a = some (W.listOf vs n)) (hb : h.get? b = some o) (hd : o.data = .cell cv) : a ≠ b := fun q => by
  rw [q, hb] at ha
  obtain rfl := Option.some.inj ha
  cases hd
theorem nm5c {x a b c d e : Addr} (h0 : x ≠ a) (h1 : x ≠ b) (h2 : x ≠ c) (h3 : x ≠ d) (h4 : x ≠ e) : x ∉ [a, b, c, d, e] := fun q => by
  simp only [List.mem_cons, List.not_mem_nil, or_false] at q
  rcases q with q | q | q | q | q
  · exact h0 q
  · exact h1 q
  · exact h2 q
  · exact h3 q
  · exact h4 q
/-- the coats made so far: new, and off the lists in the making -/
def CoatsX (h₀ : Heap) (ex : List Addr) (h : Heap) (ys : List Value) (rows : List (List Int)) (i : Nat) : Prop :=
  ys.length = i ∧ ∀ (j : Nat) (row : List Int), j < i → rows[j]? = some row → ∃ a t1 t2 t3, ys[j]? = some (.ref a) ∧ h₀.get? a = none ∧ a ∉ ex ∧ h.get? a = some (coatO row t1 t2 t3)
theorem CoatsX.nil {h₀ h : Heap} {ex : List Addr} {rows : List (List Int)} : CoatsX h₀ ex h [] rows 0 := ⟨rfl, fun _ _ h => nomatch h⟩
theorem CoatsX.keep {h₀ h h' : Heap} {ex : List Addr} {ys : List Value} {rows : List (List Int)} {i : Nat} (x : CoatsX h₀ ex h ys rows i) (k : KeepBut ex h h') : CoatsX h₀ ex h' ys rows i :=
  ⟨x.1, fun j row hj e => let ⟨a, t1, t2, t3, e1, e2, e3, e4⟩ := x.2 j row hj e; ⟨a, t1, t2, t3, e1, e2, e3, k _ _ e3 e4⟩⟩
theorem CoatsX.snoc {h₀ h : Heap} {ex : List Addr} {ys : List Value} {rows : List (List Int)} {i : Nat} {a : Addr} {t1 t2 t3 : Tok} {row : List Int} (x : CoatsX h₀ ex h ys rows i) (e : rows[i]? = some row) (h1 : h₀.get? a = none) (h2 : a ∉ ex) (h3 : h.get? a = some (coatO row t1 t2 t3)) : CoatsX h₀ ex h (ys ++ [.ref a]) rows (i + 1) := by
  refine ⟨by rw [List.length_append, x.1]; rfl, fun j r hj er => ?_⟩
  by_cases q : j = i
  · subst q
    rw [e] at er
    obtain rfl := Option.some.inj er
    exact ⟨a, t1, t2, t3, by rw [List.getElem?_append_right (by rw [x.1]; exact Nat.le_refl _), x.1, Nat.sub_self]; rfl, h1, h2, h3⟩
  · have hj : j < i := by omega
    obtain ⟨b, u1, u2, u3, e1, e2⟩ := x.2 j r hj er
    exact ⟨b, u1, u2, u3, by rw [List.getElem?_append_left (by rw [x.1]; exact hj)]; exact e1, e2⟩
theorem use_law {P : Value → Shared → Prop} {l : Addr} {vs : List Value} {ns : List Int} (T : Top p loose mean mg mb s.heap) (hA : Lo A 17) (hl : s.heap.IsList l vs.toArray) (hi : IntsAre vs ns) (hlen : LenLe ns 63) (hQ : MapQ s.heap) (hH : MapH s.heap) :
    (KK w.params).In s.heap → (∀ (h' : Heap) (tk : Nat), Ext s.heap h' → P (.bool true) { s with heap := h', toks := tk }) → wpAny (model PySem.Challenge.rw_tx0025_01.row.prog w) A (call (.ref 224) [.ref l]) P E s := by
  k_fill
  intro X ret
  obtain ⟨hp, gs, dr, tk, os⟩ := s
  dsimp only at T X hl hQ hH
  have hro := hA.room
  have hh : A.handled = none := hA.hd
  k_dflt (refine' enterC (binds := [("script", .ref l)]) ?k3 ?k5 ?k6 ?k7 ?k8 ?k9 ?kB ?knd ?_ ?c2 ?c3 ?c4; (case k3 => k_asm); (case k5 => k_asm); (case k6 => k_is); (case k7 => k_is); (case k8 => exact hro); (case k9 => exact BindsTo.of_eq rfl); (case kB => exact kinds_by rfl); (case knd => decide); (case c2 => exact rfl); (case c3 => exact rfl); (case c4 => exact rfl); intro h₁ tk₁ cells F₁ N₁ Y; dsimp only at F₁ N₁ Y ⊢)
  have hret : Ret _ := Ret.mk ret
  clear ret
  obtain ⟨o₁, o₂, o₃, o₄, rfl, c1, c2, c3, c4⟩ := CellsAre.four Y
  clear Y
  iterate 9 (first | walk1 | (dsimp only; walk1))
  refine slice_upto (x := 63) F₁ N₁ (Fr.lst F₁ hl) hi (by decide) (by rw [hi.length]; exact Nat.le_trans hlen (by decide)) ?_ (by with_unfolding_all rfl) (fun _ => rfl)
  intro vs1 h1 F1 N1 _ hI1
  dsimp only at F1 N1 ⊢
  generalize h₁.objs.size + 1 = l1 at N1 ⊢
  have hlen1 : LenLe (ns.take (Int.toNat 63)) 63 := by show (ns.take 63).length ≤ 63; rw [List.length_take]; omega
  generalize ns.take (Int.toNat 63) = ms at hI1 hlen1
  have c1' : Held _ _ := c1
  have c2' : Held _ _ := c2
  have c3' : Held _ _ := c3
  have c4' : Held _ _ := c4
  clear F₁ N₁ hl hi hlen c1 c2 c3 c4
  iterate 10 (first | walk1 | (dsimp only; walk1))
  with_reducible rename Fr _ _ _ _ => FF
  with_reducible rename News _ _ _ _ => NN
  refine ⟨X.keeps FF.keep, ?_⟩
  refine use_cells (ns := ms) (T.keeps FF.keep) (Lo.le (Lo.deeper hA) (by decide)) (NN.isList (.head _)) hI1 hlen1 (X.keeps FF.keep) ?_
  intro rc vsc nc h2 tk2 cs e2 hrc hgc hIc hCc
  have F2 := fr_ext FF e2
  have N2 := news_add FF (news_ext NN e2) hrc hgc
  clear FF NN e2 hrc hgc
  dsimp only at F2 N2 ⊢
  iterate 14 (first | walk1 | (dsimp only; walk1))
  with_reducible rename Fr _ _ _ _ => FF
  with_reducible rename News _ _ _ _ => NN
  refine LSm.sum_ints FF NN hh (NN.isList (.tail _ (.head _))) hI1 ?_
  intro h3 tk3 t3 F3 N3
  generalize ms.sum = sm
  clear FF NN
  dsimp only at F3 N3 ⊢
  have hcl : cs.length = 7 := hCc.1
  have hcb : ∀ m ∈ cs, 0 ≤ m ∧ m ≤ 16000000 := fun m hm => by
    have := hCc.2 m hm
    have : ms.length ≤ 63 := hlen1
    omega
  have hcb' : Ret _ := Ret.mk hcb
  have hCc' : Ret _ := Ret.mk hCc
  have hIc' : Ret _ := Ret.mk hIc
  clear hcb hCc hI1 hIc
  iterate 3 (first | walk1 | (dsimp only; walk1))
  have hf0 : 0 ≤ (53 + sm).fmod 256 := Int.fmod_nonneg_of_pos _ (by decide)
  have hf1 : (53 + sm).fmod 256 < 256 := Int.fmod_lt_of_pos _ (by decide)
  generalize (53 + sm).fmod 256 = fr at hf0 hf1 ⊢
  iterate 13 (first | walk1 | (dsimp only; walk1))
  with_reducible rename Fr _ _ _ _ => FF
  with_reducible rename News _ _ _ _ => NN
  refine item_anyK (ns := cs) (NN.isList (.head _)) hIc' (by decide) (by rw [hcl]; decide) (by decide) fun t4 => ?_
  have hx0 : 0 ≤ cs.getD (Int.toNat 0) 0 ∧ cs.getD (Int.toNat 0) 0 ≤ 16000000 := (show ∀ m ∈ cs, _ from hcb') _ (by rw [List.getD_eq_getElem?_getD, List.getElem?_eq_getElem (show Int.toNat 0 < cs.length by rw [hcl]; decide)]; exact List.getElem_mem _)
  have hx1 : 0 ≤ cs.getD (Int.toNat 1) 0 ∧ cs.getD (Int.toNat 1) 0 ≤ 16000000 := (show ∀ m ∈ cs, _ from hcb') _ (by rw [List.getD_eq_getElem?_getD, List.getElem?_eq_getElem (show Int.toNat 1 < cs.length by rw [hcl]; decide)]; exact List.getElem_mem _)
  iterate 5 (first | walk1 | (dsimp only; walk1))
  refine ⟨X.keeps FF.keep, ?_⟩
  refine use_octets (count := 5) (T.keeps FF.keep) (Lo.le (Lo.deeper hA) (by decide)) hx0.1 (by omega) (by decide) hf0 hf1 (X.keeps FF.keep) ?_
  intro ra va na h5 tk5 n0 e5 hra hga hIa hla hoa
  have F5 := fr_ext FF e5
  have N5 := news_add FF (news_ext NN e5) hra hga
  have hIa' : Ret _ := Ret.mk hIa
  have hoa' : Ret _ := Ret.mk hoa
  clear FF NN e5 hra hga hIa hoa
  dsimp only at F5 N5 ⊢
  iterate 14 (first | walk1 | (dsimp only; walk1))
  with_reducible rename Fr _ _ _ _ => FF
  with_reducible rename News _ _ _ _ => NN
  refine ⟨X.keeps FF.keep, ?_⟩
  refine use_octets (count := 5) (T.keeps FF.keep) (Lo.le (Lo.deeper hA) (by decide)) hx1.1 (by omega) (by decide) hf0 hf1 (X.keeps FF.keep) ?_
  intro rb vb nb h6 tk6 n1 e6 hrb hgb hIb hlb hob
  have F6 := fr_ext FF e6
  have N6 := news_add FF (news_ext NN e6) hrb hgb
  have hIb' : Ret _ := Ret.mk hIb
  have hob' : Ret _ := Ret.mk hob
  clear FF NN e6 hrb hgb hIb hob hx0 hx1
  dsimp only at F6 N6 ⊢
  iterate 19 (first | walk1 | (dsimp only; walk1))
  with_reducible rename Fr _ _ _ _ => FF
  with_reducible rename News _ _ _ _ => NN
  rename_i ln hx9 _ _
  refine ⟨X.keeps FF.keep, ?_⟩
  refine use_agents (ns := n0) (T.keeps FF.keep) (Lo.le (Lo.deeper hA) (by decide)) (NN.isList (.tail _ (.tail _ (.tail _ (.head _))))) hIc' hCc' hlen1 hf0 hf1 (NN.isList (.tail _ (.tail _ (.head _)))) hIa' (by show n0.length ≤ 8; omega) hoa' (X.keeps FF.keep) ?_
  intro rg vg ng ags h7 tk7 e7 hrg hgg hRg hokg hVg
  have F7 := fr_ext FF e7
  have N7 := news_ext NN e7
  have g4 := (N7 (hp.objs.size + 1, o₄) (by simp)).1
  have g3 := (N7 (hp.objs.size + 2, o₃) (by simp)).1
  have g2 := (N7 (hp.objs.size + 3, o₂) (by simp)).1
  have g1 := (N7 (hp.objs.size + 4, o₁) (by simp)).1
  have gn := N7 (ln, W.listOf #[Value.ref ra, Value.ref rb] 0) (by simp)
  have ga := N7 (ra, W.listOf va.toArray na) (by simp)
  have gb := N7 (rb, W.listOf vb.toArray nb) (by simp)
  have Nc : News hp hp.objs.size h7 [(hp.objs.size + 1, o₄), (hp.objs.size + 2, o₃), (hp.objs.size + 3, o₂), (hp.objs.size + 4, o₁)] := fun q hq => N7 q (by
    simp only [List.mem_cons, List.not_mem_nil, or_false] at hq ⊢
    rcases hq with rfl | rfl | rfl | rfl <;> simp)
  obtain ⟨N8, hof8, how8⟩ := split_all (mu := [hp.objs.size + 1, hp.objs.size + 2, hp.objs.size + 3, hp.objs.size + 4]) Nc rfl
  have zn := mem_allOf (nm5c gn.2.1 (cell_off gn.1 g4 c4') (cell_off gn.1 g3 c3') (cell_off gn.1 g2 c2') (cell_off gn.1 g1 c1')) gn.2.2 gn.1
  have za := mem_allOf (nm5c ga.2.1 (cell_off ga.1 g4 c4') (cell_off ga.1 g3 c3') (cell_off ga.1 g2 c2') (cell_off ga.1 g1 c1')) ga.2.2 ga.1
  have zb := mem_allOf (nm5c gb.2.1 (cell_off gb.1 g4 c4') (cell_off gb.1 g3 c3') (cell_off gb.1 g2 c2') (cell_off gb.1 g1 c1')) gb.2.2 gb.1
  have hrgL : rg ≠ hp.objs.size := by
    obtain ⟨o, e⟩ := fr_alive FF
    exact alive_ne e hrg
  have zg := mem_allOf (nm5c hrgL (cell_off hgg g4 c4') (cell_off hgg g3 c3') (cell_off hgg g2 c2') (cell_off hgg g1 c1')) (fresh_under FF.keep hrg) hgg
  have hVp : FreshV hp vg := fun a ha => fresh_under FF.keep (hVg a ha)
  have zr := rows_in (((((hRg.offCell g1 c1').offCell g2 c2').offCell g3 c3').offCell g4 c4').offL F7) hVp
  have hag6 := hokg.1
  obtain ⟨a0, a1, a2, a3, a4, a5, hags⟩ : ∃ a0 a1 a2 a3 a4 a5, ags = [a0, a1, a2, a3, a4, a5] := by
    clear hRg zr hokg
    match ags, hag6 with
    | [a0, a1, a2, a3, a4, a5], _ => exact ⟨a0, a1, a2, a3, a4, a5, rfl⟩
  subst hags
  generalize allOf hp h7 [hp.objs.size, hp.objs.size + 1, hp.objs.size + 2, hp.objs.size + 3, hp.objs.size + 4] = own at N8 hof8 how8 zn za zb zg zr
  have zN : RowsIn own [.ref ra, .ref rb] [n0, n1] := .cons ⟨ra, va.toArray, na, rfl, za, hIa'⟩ (.cons ⟨rb, vb.toArray, nb, rfl, zb, hIb'⟩ .nil)
  have zNA := rowsIn_append zN zr
  have zn' : Ret _ := Ret.mk zn
  have zg' : Ret _ := Ret.mk zg
  have zr' : Ret _ := Ret.mk zr
  have zN' : Ret _ := Ret.mk zN
  have zNA' : Ret _ := Ret.mk zNA
  have hof8' : Ret _ := Ret.mk hof8
  have hok' : Ret _ := Ret.mk hokg
  have hla' : Held _ _ := hla
  have hlb' : Held _ _ := hlb
  clear FF NN N7 e7 hrg hgg hRg hokg hVg g1 g2 g3 g4 gn ga gb Nc how8 zn za zb zg zr zN zNA hof8 hVp hag6 hrgL hIa' hIb' hCc' hIc' hcb' hla hlb hf0 hf1 hcl hlen1
  simp only [List.cons_append, List.nil_append] at N8
  dsimp only at F7 N8 ⊢
  iterate 2 (first | walk1 | (dsimp only; walk1))
  with_reducible rename Fr _ _ _ _ => FF
  with_reducible rename News _ _ _ _ => NN
  rename_i h8 oA dA
  have dA' : Held _ _ := dA
  clear dA
  refine wpAny_execs_cons ?_
  refine' Assign_ListComp_J ?k0 ?k1 ?k2 ?k3 ?k4 ?k5 ?k7 ?k8 ?_ ?k6
  case k0 => with_unfolding_all exact rfl
  case k1 => with_unfolding_all exact rfl
  case k2 => with_unfolding_all decide
  case k3 => with_unfolding_all exact rfl
  case k4 => with_unfolding_all decide
  case k5 => with_unfolding_all exact rfl
  case k7 => with_unfolding_all exact rfl
  case k8 => with_unfolding_all exact rfl
  case k6 => (intro _; with_unfolding_all exact rfl)
  iterate 3 (first | walk1 | (dsimp only; walk1))
  have inO : ∀ q ∈ own, q ∈ (hp.objs.size + 1, oA) :: (hp.objs.size + 2, o₃) :: (hp.objs.size + 3, o₂) :: (hp.objs.size + 4, o₁) :: own := fun q hq => .tail _ (.tail _ (.tail _ (.tail _ hq)))
  have hvg : vg.length = 6 := RowsIn.length (show RowsIn own vg [a0, a1, a2, a3, a4, a5] from zr')
  refine add_any (vs := [.ref ra, .ref rb]) FF NN ⟨_, (NN (ln, W.listOf #[Value.ref ra, Value.ref rb] 0) (inO _ zn')).1, rfl, _, rfl⟩ ⟨_, (NN (rg, W.listOf vg.toArray ng) (inO _ zg')).1, rfl, _, rfl⟩ (by rw [hvg]; show 2 + 6 ≤ 1000; omega) ?_
  intro h9 F9 N9
  dsimp only at F9 N9 ⊢
  have hlB : h9.IsList h8.objs.size ([Value.ref ra, .ref rb] ++ vg).toArray := N9.isList (.head _)
  generalize h8.objs.size = lB at N9 hlB ⊢
  clear FF NN inO
  have XB := X.keeps F9.keep
  have TB := T.keeps F9.keep
  have QB := hQ.keep F9.keep
  have HB := hH.keep F9.keep
  have kB : Ret _ := Ret.mk F9.keep
  have inO9 : ∀ q ∈ own, q ∈ (lB, W.listOf ([Value.ref ra, .ref rb] ++ vg).toArray 0) :: (hp.objs.size + 1, oA) :: (hp.objs.size + 2, o₃) :: (hp.objs.size + 3, o₂) :: (hp.objs.size + 4, o₁) :: own := fun q hq => .tail _ (.tail _ (.tail _ (.tail _ (.tail _ hq))))
  have kO9 : Holds own h9 := fun q hq => (N9 q (inO9 q hq)).1
  have kO9' : Ret _ := Ret.mk kO9
  have hrows : ∀ row ∈ [n0, n1, a0, a1, a2, a3, a4, a5], LenLe row 16 ∧ Octs row := fun row hr => by
    rcases List.mem_cons.mp hr with rfl | hr
    · exact ⟨by show row.length ≤ 16; have : row.length = 5 := hla'; omega, hoa'⟩
    · rcases List.mem_cons.mp hr with rfl | hr
      · exact ⟨by show row.length ≤ 16; have : row.length = 5 := hlb'; omega, hob'⟩
      · have := (show AgentsOk _ from hok').2 row hr
        exact ⟨by show row.length ≤ 16; omega, this.2⟩
  have hrows' : Ret _ := Ret.mk hrows
  have hbl : ([Value.ref ra, .ref rb] ++ vg).toArray.size = 8 := by rw [List.size_toArray, List.length_append, hvg]; rfl
  clear kO9 inO9 hrows
  refine wpAny_mono (comp_listE (fun ex i ys h => CoatsX h9 ex h ys [n0, n1, a0, a1, a2, a3, a4, a5] i) hh hlB (by omega) ?_ (fun _ _ => CoatsX.nil) (fun _ _ _ _ _ h k => h.keep k) ?_ ?_) (fun it s₂ h => ⟨_, F9.ns.keeps h.1, h.2⟩) (fun _ _ e => e)
  · intro b hb
    rw [List.mem_singleton.mp hb]
    obtain ⟨o, _, _, e, _⟩ := F9.ns
    exact ⟨o, e⟩
  · intro C ex i v ys h tk own' m hv hJ F N ho hal
    refine wpAny_tests_nil ?_
    simp only [if_true]
    have hv : ([Value.ref ra, .ref rb] ++ vg)[i]? = some v := by simpa using hv
    have hil : i < [n0, n1, a0, a1, a2, a3, a4, a5].length := by
      have := (List.getElem?_eq_some_iff.mp hv).1
      rw [List.length_append, hvg] at this
      exact this
    obtain ⟨row, hrow⟩ : ∃ row, [n0, n1, a0, a1, a2, a3, a4, a5][i]? = some row := ⟨_, List.getElem?_eq_getElem hil⟩
    obtain ⟨v2, hv2, hR⟩ := RowsIn.get (show RowsIn own ([.ref ra, .ref rb] ++ vg) [n0, n1, a0, a1, a2, a3, a4, a5] from zNA') hrow
    rw [hv] at hv2
    obtain rfl := Option.some.inj hv2
    obtain ⟨rr, ⟨rvs⟩, rn, rfl, hzr, hir⟩ := hR
    have hir : IntsAre rvs row := hir
    have hro := (show ∀ row ∈ [n0, n1, a0, a1, a2, a3, a4, a5], LenLe row 16 ∧ Octs row from hrows') row (List.mem_of_getElem? hrow)
    have hlr : h9.IsList rr rvs.toArray := ⟨_, (show Holds own h9 from kO9') (rr, W.listOf rvs.toArray rn) hzr, rfl, _, rfl⟩
    have hJ' : Ret _ := Ret.mk hJ
    have hal' : Ret _ := Ret.mk hal
    have hrow' : Held _ _ := hrow
    have hir' : Ret _ := Ret.mk hir
    have hro' : Ret _ := Ret.mk hro
    clear hv hJ hal hil hrow hzr hir hro F9 N9 hlB hbl
    dsimp only at F N ho ⊢
    iterate 6 (first | walk1 | (dsimp only; walk1))
    refine ⟨XB.keeps F.keep, ?_⟩
    refine use_coats (TB.keeps F.keep) (Lo.le (Lo.deeper hA) (by decide)) (Fr.lst F hlr) (show IntsAre rvs row from hir') (show LenLe row 16 ∧ Octs row from hro').1 (show LenLe row 16 ∧ Octs row from hro').2 (QB.keep F.keep) (HB.keep F.keep) (XB.keeps F.keep) ?_
    intro r t1 t2 t3 h12 tk12 e12 hr hg
    refine CEnd.mk (fr_ext F e12) (news_add F (news_ext N e12) hr hg) (fun q hq => .tail _ hq) ?_
    exact CoatsX.snoc ((show CoatsX h9 ex h ys _ i from hJ').keep fun b o _ e => e12 b o e) hrow' (fresh_under F.keep hr) (fresh_ex hr hal') hg
  · intro D ex h10 tk10 ys hD hDe hPL hJ hk hns
    have F10 := fr_assign F9 hk hns
    obtain ⟨nD, hPL⟩ := hPL
    have N10 := news_put F9 (news_keep N9 hk) hD hPL
    dsimp only at F10 N10 ⊢
    have m4 := N9 (hp.objs.size + 1, oA) (.tail _ (.head _))
    have m3 := N9 (hp.objs.size + 2, o₃) (.tail _ (.tail _ (.head _)))
    have m2 := N9 (hp.objs.size + 3, o₂) (.tail _ (.tail _ (.tail _ (.head _))))
    have m1 := N9 (hp.objs.size + 4, o₁) (.tail _ (.tail _ (.tail _ (.tail _ (.head _)))))
    have inO : ∀ q ∈ own, q ∈ (D, W.listOf ys.toArray nD) :: (lB, W.listOf ([Value.ref ra, .ref rb] ++ vg).toArray 0) :: (hp.objs.size + 1, oA) :: (hp.objs.size + 2, o₃) :: (hp.objs.size + 3, o₂) :: (hp.objs.size + 4, o₁) :: own := fun q hq => .tail _ (.tail _ (.tail _ (.tail _ (.tail _ (.tail _ hq)))))
    obtain ⟨oL, eL⟩ := fr_alive F9
    have hoffA : ∀ a, h9.get? a = none → a ∉ [hp.objs.size, hp.objs.size + 1, hp.objs.size + 2, hp.objs.size + 3, hp.objs.size + 4] := fun a ha => nm5c (alive_ne eL ha) (alive_ne m4.1 ha) (alive_ne m3.1 ha) (alive_ne m2.1 ha) (alive_ne m1.1 ha)
    have Nc : News hp hp.objs.size h10 [(hp.objs.size + 1, oA), (hp.objs.size + 2, o₃), (hp.objs.size + 3, o₂), (hp.objs.size + 4, o₁)] := fun q hq => N10 q (by
      simp only [List.mem_cons, List.not_mem_nil, or_false] at hq
      rcases hq with rfl | rfl | rfl | rfl
      · exact .tail _ (.tail _ (.head _))
      · exact .tail _ (.tail _ (.tail _ (.head _)))
      · exact .tail _ (.tail _ (.tail _ (.tail _ (.head _))))
      · exact .tail _ (.tail _ (.tail _ (.tail _ (.tail _ (.head _))))))
    obtain ⟨N11, hof11, how11⟩ := split_all (mu := [hp.objs.size + 1, hp.objs.size + 2, hp.objs.size + 3, hp.objs.size + 4]) Nc rfl
    have zC := mem_allOf (hoffA D hD) (N10 _ (.head _)).2.2 hPL
    have sub : ∀ q ∈ own, q ∈ allOf hp h10 [hp.objs.size, hp.objs.size + 1, hp.objs.size + 2, hp.objs.size + 3, hp.objs.size + 4] := fun q hq => by
      have ho := (show OwnOff own [hp.objs.size + 1, hp.objs.size + 2, hp.objs.size + 3, hp.objs.size + 4] from hof8') q hq
      have n := N10 q (inO q hq)
      exact mem_allOf (nm5c n.2.1 (ho _ (.head _)) (ho _ (.tail _ (.head _))) (ho _ (.tail _ (.tail _ (.head _)))) (ho _ (.tail _ (.tail _ (.tail _ (.head _)))))) n.2.2 n.1
    have rC : CoatsIn (allOf hp h10 [hp.objs.size, hp.objs.size + 1, hp.objs.size + 2, hp.objs.size + 3, hp.objs.size + 4]) ys [n0, n1, a0, a1, a2, a3, a4, a5] := by
      refine ⟨by rw [hJ.1, hbl]; rfl, fun j row hr => ?_⟩
      obtain ⟨a, t1, t2, t3, e1, e2, e3, e4⟩ := hJ.2 j row (by rw [hbl]; exact (List.getElem?_eq_some_iff.mp hr).1) hr
      exact ⟨a, t1, t2, t3, e1, mem_allOf (hoffA a e2) (fresh_under (show Ext hp h9 from kB) e2) e4⟩
    have zoff : ZOff hp [hp.objs.size, hp.objs.size + 1, hp.objs.size + 2, hp.objs.size + 3, hp.objs.size + 4] (allOf hp h10 [hp.objs.size, hp.objs.size + 1, hp.objs.size + 2, hp.objs.size + 3, hp.objs.size + 4]) := fun q hq => ⟨off_allOf q hq, (news_allOf (.head _) q hq).2.2⟩
    have F12 := fr_name (x := Str.ofString "names") (v := .ref ln) F10 rfl
    have F13 := fr_under F12 (b := Str.ofString "coats") (vb := .ref D) rfl
    simp only [List.cons_append, List.nil_append] at N11
    have hn0 : LenLe n0 8 ∧ Octs n0 := ⟨by show n0.length ≤ 8; have : n0.length = 5 := hla'; omega, hoa'⟩
    have hn1 : LenLe n1 8 ∧ Octs n1 := ⟨by show n1.length ≤ 8; have : n1.length = 5 := hlb'; omega, hob'⟩
    exact law_tail T (Lo.le hA (by decide)) F13 N11 dA' c3' c2' c1' (fun _ h => h) zoff (sub _ zg') (sub _ zn') zC (RowsIn.mono zr' sub) (RowsIn.mono zN' sub) rC hok' hn0 hn1 (coat_ok hok' hn0 hn1) hret X
end
end
end Mine

section
open PySem PySem.W PyProof.Rows
set_option Elab.async false
set_option maxRecDepth 100000
namespace Mine

/-! the heap of the top, at its cuts: printed by wip/GenH.lean -/
def hb : List Nat := [45, 33, 42, 43, 47, 97, 98, 99, 100, 101, 102, 103, 104, 105, 106, 107, 108, 109, 110, 111, 112, 113, 114, 115, 116, 117, 118, 119, 120, 121, 122, 65, 66, 67, 68, 69, 70, 71, 72, 73, 74, 75, 76, 77, 78, 79, 80, 81, 82, 83, 84, 85, 86, 87, 88, 89, 90, 48, 49, 50, 51, 52, 53, 54, 55, 56, 57]
def bb : List Nat := [32, 33, 34, 35, 36, 37, 38, 39, 40, 41, 42, 43, 44, 45, 46, 47, 48, 49, 50, 51, 52, 53, 54, 55, 56, 57, 58, 59, 60, 62, 63, 64, 65, 66, 67, 68, 69, 70, 71, 72, 73, 74, 75, 76, 77, 78, 79, 80, 81, 82, 83, 84, 85, 86, 87, 88, 89, 90, 91, 92, 93, 94, 95, 96, 97, 98, 99, 100, 101, 102, 103, 104, 105, 106, 107, 108, 109, 110, 111, 112, 113, 114, 115, 116, 117, 118, 119, 120, 121, 122, 123, 124, 125, 126, 9]
def qItems (j : Nat) : List Value := (List.range j).map fun i => .str (qp i) (401 + 4 * i)
def putAll : List Nat → Nat → List Value → List Value
  | [], _, l => l
  | c :: cs, t, l => putAll cs (t + 3) (l.set c (.str ⟨#[c]⟩ t))
def lst (l : List Value) (n : Nat) : Obj := ⟨.type "list", none, .seq l.toArray n, #[]⟩
def hq95 (j : Nat) : Obj := lst (qItems j) j
def hi94 (j : Nat) : Obj := ⟨.type "range_iterator", none, .fields #[.int j 0, .int (256 - j : Nat) 0, .int 1 0], #[]⟩
def hd96 (P : Params) (j : Nat) : Obj := ⟨.type "dict", none, .dict #[⟨PyData.keyHash P ⟨#[99]⟩, .str ⟨#[99]⟩ 399, .int (j - 1 : Nat) (398 + 4 * (j - 1))⟩] 1, #[]⟩
def hl100 (j : Nat) : Obj := lst (putAll (hb.take j) 1449 (qItems 256)) 0
def hl102 (j : Nat) : Obj := lst (putAll (bb.take j) 1654 (qItems 256)) 0
def hm100 : Obj := lst ((putAll hb 1449 (qItems 256)).set 32 (.str ⟨#[95]⟩ 1648)) 0
def hm132 : Obj := lst (((putAll bb 1654 (qItems 256)).set 13 (.str ⟨#[13]⟩ 1965)).set 10 (.str ⟨#[10]⟩ 1968)) 0
def cv62 (j : Nat) : Value := .int (hb.getD (j - 1) 0 : Nat) (1447 + 3 * (j - 1))
def cv65 (j : Nat) : Value := .int (bb.getD (j - 1) 0 : Nat) (1652 + 3 * (j - 1))
def hi103 (j : Nat) : Obj := ⟨.type "bytes_iterator", none, .fields #[.bytes (hb.map Nat.toUInt8).toArray 1446, .int j 0], #[]⟩
def hi106 (j : Nat) : Obj := ⟨.type "bytes_iterator", none, .fields #[.bytes (bb.map Nat.toUInt8).toArray 1651, .int j 0], #[]⟩
noncomputable def fnT (st : Option Stmt) (name qual : Str) : Obj := match st with
  | some (.FunctionDef _ args body _ _ _ scope _ _ _) => ⟨.none, none, .func { name := name, qualname := qual, params := args, body := .stmts body, scope := scope, globals := 0, closure := [], defaults := .none, kwdefaults := .none }, #[]⟩
  | _ => default
noncomputable def h0v0 (P : Params) : Obj := ⟨.type "dict", none, .dict [⟨PyData.keyHash P ⟨#[95, 95, 110, 97, 109, 101, 95, 95]⟩, .str ⟨#[95, 95, 110, 97, 109, 101, 95, 95]⟩ 1, .str ⟨#[98, 117, 105, 108, 116, 105, 110, 115]⟩ 160⟩, ⟨PyData.keyHash P ⟨#[95, 95, 100, 111, 99, 95, 95]⟩, .str ⟨#[95, 95, 100, 111, 99, 95, 95]⟩ 2, .builtin "builtins.__doc__:str#opaque"⟩, ⟨PyData.keyHash P ⟨#[95, 95, 112, 97, 99, 107, 97, 103, 101, 95, 95]⟩, .str ⟨#[95, 95, 112, 97, 99, 107, 97, 103, 101, 95, 95]⟩ 3, .builtin "builtins.__package__:str#opaque"⟩, ⟨PyData.keyHash P ⟨#[95, 95, 108, 111, 97, 100, 101, 114, 95, 95]⟩, .str ⟨#[95, 95, 108, 111, 97, 100, 101, 114, 95, 95]⟩ 4, .builtin "builtins.__loader__:shared#opaque"⟩, ⟨PyData.keyHash P ⟨#[95, 95, 115, 112, 101, 99, 95, 95]⟩, .str ⟨#[95, 95, 115, 112, 101, 99, 95, 95]⟩ 5, .builtin "builtins.__spec__#opaque"⟩, ⟨PyData.keyHash P ⟨#[95, 95, 98, 117, 105, 108, 100, 95, 99, 108, 97, 115, 115, 95, 95]⟩, .str ⟨#[95, 95, 98, 117, 105, 108, 100, 95, 99, 108, 97, 115, 115, 95, 95]⟩ 6, .builtin "__build_class__"⟩, ⟨PyData.keyHash P ⟨#[95, 95, 105, 109, 112, 111, 114, 116, 95, 95]⟩, .str ⟨#[95, 95, 105, 109, 112, 111, 114, 116, 95, 95]⟩ 7, .builtin "__import__"⟩, ⟨PyData.keyHash P ⟨#[97, 98, 115]⟩, .str ⟨#[97, 98, 115]⟩ 8, .builtin "abs"⟩, ⟨PyData.keyHash P ⟨#[97, 108, 108]⟩, .str ⟨#[97, 108, 108]⟩ 9, .builtin "all"⟩, ⟨PyData.keyHash P ⟨#[97, 110, 121]⟩, .str ⟨#[97, 110, 121]⟩ 10, .builtin "any"⟩, ⟨PyData.keyHash P ⟨#[97, 115, 99, 105, 105]⟩, .str ⟨#[97, 115, 99, 105, 105]⟩ 11, .builtin "ascii"⟩, ⟨PyData.keyHash P ⟨#[98, 105, 110]⟩, .str ⟨#[98, 105, 110]⟩ 12, .builtin "bin"⟩, ⟨PyData.keyHash P ⟨#[98, 114, 101, 97, 107, 112, 111, 105, 110, 116]⟩, .str ⟨#[98, 114, 101, 97, 107, 112, 111, 105, 110, 116]⟩ 13, .builtin "breakpoint"⟩, ⟨PyData.keyHash P ⟨#[99, 97, 108, 108, 97, 98, 108, 101]⟩, .str ⟨#[99, 97, 108, 108, 97, 98, 108, 101]⟩ 14, .builtin "callable"⟩, ⟨PyData.keyHash P ⟨#[99, 104, 114]⟩, .str ⟨#[99, 104, 114]⟩ 15, .builtin "chr"⟩, ⟨PyData.keyHash P ⟨#[99, 111, 109, 112, 105, 108, 101]⟩, .str ⟨#[99, 111, 109, 112, 105, 108, 101]⟩ 16, .builtin "compile"⟩, ⟨PyData.keyHash P ⟨#[100, 101, 108, 97, 116, 116, 114]⟩, .str ⟨#[100, 101, 108, 97, 116, 116, 114]⟩ 17, .builtin "delattr"⟩, ⟨PyData.keyHash P ⟨#[100, 105, 114]⟩, .str ⟨#[100, 105, 114]⟩ 18, .builtin "dir"⟩, ⟨PyData.keyHash P ⟨#[100, 105, 118, 109, 111, 100]⟩, .str ⟨#[100, 105, 118, 109, 111, 100]⟩ 19, .builtin "divmod"⟩, ⟨PyData.keyHash P ⟨#[101, 118, 97, 108]⟩, .str ⟨#[101, 118, 97, 108]⟩ 20, .builtin "eval"⟩, ⟨PyData.keyHash P ⟨#[101, 120, 101, 99]⟩, .str ⟨#[101, 120, 101, 99]⟩ 21, .builtin "exec"⟩, ⟨PyData.keyHash P ⟨#[102, 111, 114, 109, 97, 116]⟩, .str ⟨#[102, 111, 114, 109, 97, 116]⟩ 22, .builtin "format"⟩, ⟨PyData.keyHash P ⟨#[103, 101, 116, 97, 116, 116, 114]⟩, .str ⟨#[103, 101, 116, 97, 116, 116, 114]⟩ 23, .builtin "getattr"⟩, ⟨PyData.keyHash P ⟨#[103, 108, 111, 98, 97, 108, 115]⟩, .str ⟨#[103, 108, 111, 98, 97, 108, 115]⟩ 24, .builtin "globals"⟩, ⟨PyData.keyHash P ⟨#[104, 97, 115, 97, 116, 116, 114]⟩, .str ⟨#[104, 97, 115, 97, 116, 116, 114]⟩ 25, .builtin "hasattr"⟩, ⟨PyData.keyHash P ⟨#[104, 97, 115, 104]⟩, .str ⟨#[104, 97, 115, 104]⟩ 26, .builtin "hash"⟩, ⟨PyData.keyHash P ⟨#[104, 101, 120]⟩, .str ⟨#[104, 101, 120]⟩ 27, .builtin "hex"⟩, ⟨PyData.keyHash P ⟨#[105, 100]⟩, .str ⟨#[105, 100]⟩ 28, .builtin "id"⟩, ⟨PyData.keyHash P ⟨#[105, 110, 112, 117, 116]⟩, .str ⟨#[105, 110, 112, 117, 116]⟩ 29, .builtin "input"⟩, ⟨PyData.keyHash P ⟨#[105, 115, 105, 110, 115, 116, 97, 110, 99, 101]⟩, .str ⟨#[105, 115, 105, 110, 115, 116, 97, 110, 99, 101]⟩ 30, .builtin "isinstance"⟩, ⟨PyData.keyHash P ⟨#[105, 115, 115, 117, 98, 99, 108, 97, 115, 115]⟩, .str ⟨#[105, 115, 115, 117, 98, 99, 108, 97, 115, 115]⟩ 31, .builtin "issubclass"⟩, ⟨PyData.keyHash P ⟨#[105, 116, 101, 114]⟩, .str ⟨#[105, 116, 101, 114]⟩ 32, .builtin "iter"⟩, ⟨PyData.keyHash P ⟨#[97, 105, 116, 101, 114]⟩, .str ⟨#[97, 105, 116, 101, 114]⟩ 33, .builtin "aiter"⟩, ⟨PyData.keyHash P ⟨#[108, 101, 110]⟩, .str ⟨#[108, 101, 110]⟩ 34, .builtin "len"⟩, ⟨PyData.keyHash P ⟨#[108, 111, 99, 97, 108, 115]⟩, .str ⟨#[108, 111, 99, 97, 108, 115]⟩ 35, .builtin "locals"⟩, ⟨PyData.keyHash P ⟨#[109, 97, 120]⟩, .str ⟨#[109, 97, 120]⟩ 36, .builtin "max"⟩, ⟨PyData.keyHash P ⟨#[109, 105, 110]⟩, .str ⟨#[109, 105, 110]⟩ 37, .builtin "min"⟩, ⟨PyData.keyHash P ⟨#[110, 101, 120, 116]⟩, .str ⟨#[110, 101, 120, 116]⟩ 38, .builtin "next"⟩, ⟨PyData.keyHash P ⟨#[97, 110, 101, 120, 116]⟩, .str ⟨#[97, 110, 101, 120, 116]⟩ 39, .builtin "anext"⟩, ⟨PyData.keyHash P ⟨#[111, 99, 116]⟩, .str ⟨#[111, 99, 116]⟩ 40, .builtin "oct"⟩, ⟨PyData.keyHash P ⟨#[111, 114, 100]⟩, .str ⟨#[111, 114, 100]⟩ 41, .builtin "ord"⟩, ⟨PyData.keyHash P ⟨#[112, 111, 119]⟩, .str ⟨#[112, 111, 119]⟩ 42, .builtin "pow"⟩, ⟨PyData.keyHash P ⟨#[112, 114, 105, 110, 116]⟩, .str ⟨#[112, 114, 105, 110, 116]⟩ 43, .builtin "print"⟩, ⟨PyData.keyHash P ⟨#[114, 101, 112, 114]⟩, .str ⟨#[114, 101, 112, 114]⟩ 44, .builtin "repr"⟩, ⟨PyData.keyHash P ⟨#[114, 111, 117, 110, 100]⟩, .str ⟨#[114, 111, 117, 110, 100]⟩ 45, .builtin "round"⟩, ⟨PyData.keyHash P ⟨#[115, 101, 116, 97, 116, 116, 114]⟩, .str ⟨#[115, 101, 116, 97, 116, 116, 114]⟩ 46, .builtin "setattr"⟩, ⟨PyData.keyHash P ⟨#[115, 111, 114, 116, 101, 100]⟩, .str ⟨#[115, 111, 114, 116, 101, 100]⟩ 47, .builtin "sorted"⟩, ⟨PyData.keyHash P ⟨#[115, 117, 109]⟩, .str ⟨#[115, 117, 109]⟩ 48, .builtin "sum"⟩, ⟨PyData.keyHash P ⟨#[118, 97, 114, 115]⟩, .str ⟨#[118, 97, 114, 115]⟩ 49, .builtin "vars"⟩, ⟨PyData.keyHash P ⟨#[78, 111, 110, 101]⟩, .str ⟨#[78, 111, 110, 101]⟩ 50, .none⟩, ⟨PyData.keyHash P ⟨#[69, 108, 108, 105, 112, 115, 105, 115]⟩, .str ⟨#[69, 108, 108, 105, 112, 115, 105, 115]⟩ 51, .ellipsis⟩, ⟨PyData.keyHash P ⟨#[78, 111, 116, 73, 109, 112, 108, 101, 109, 101, 110, 116, 101, 100]⟩, .str ⟨#[78, 111, 116, 73, 109, 112, 108, 101, 109, 101, 110, 116, 101, 100]⟩ 52, .notImplemented⟩, ⟨PyData.keyHash P ⟨#[70, 97, 108, 115, 101]⟩, .str ⟨#[70, 97, 108, 115, 101]⟩ 53, .bool false⟩, ⟨PyData.keyHash P ⟨#[84, 114, 117, 101]⟩, .str ⟨#[84, 114, 117, 101]⟩ 54, .bool true⟩, ⟨PyData.keyHash P ⟨#[98, 111, 111, 108]⟩, .str ⟨#[98, 111, 111, 108]⟩ 55, .type "bool"⟩, ⟨PyData.keyHash P ⟨#[109, 101, 109, 111, 114, 121, 118, 105, 101, 119]⟩, .str ⟨#[109, 101, 109, 111, 114, 121, 118, 105, 101, 119]⟩ 56, .type "memoryview"⟩, ⟨PyData.keyHash P ⟨#[98, 121, 116, 101, 97, 114, 114, 97, 121]⟩, .str ⟨#[98, 121, 116, 101, 97, 114, 114, 97, 121]⟩ 57, .type "bytearray"⟩, ⟨PyData.keyHash P ⟨#[98, 121, 116, 101, 115]⟩, .str ⟨#[98, 121, 116, 101, 115]⟩ 58, .type "bytes"⟩, ⟨PyData.keyHash P ⟨#[99, 108, 97, 115, 115, 109, 101, 116, 104, 111, 100]⟩, .str ⟨#[99, 108, 97, 115, 115, 109, 101, 116, 104, 111, 100]⟩ 59, .type "classmethod"⟩, ⟨PyData.keyHash P ⟨#[99, 111, 109, 112, 108, 101, 120]⟩, .str ⟨#[99, 111, 109, 112, 108, 101, 120]⟩ 60, .type "complex"⟩, ⟨PyData.keyHash P ⟨#[100, 105, 99, 116]⟩, .str ⟨#[100, 105, 99, 116]⟩ 61, .type "dict"⟩, ⟨PyData.keyHash P ⟨#[101, 110, 117, 109, 101, 114, 97, 116, 101]⟩, .str ⟨#[101, 110, 117, 109, 101, 114, 97, 116, 101]⟩ 62, .type "enumerate"⟩, ⟨PyData.keyHash P ⟨#[102, 105, 108, 116, 101, 114]⟩, .str ⟨#[102, 105, 108, 116, 101, 114]⟩ 63, .type "filter"⟩, ⟨PyData.keyHash P ⟨#[102, 108, 111, 97, 116]⟩, .str ⟨#[102, 108, 111, 97, 116]⟩ 64, .type "float"⟩, ⟨PyData.keyHash P ⟨#[102, 114, 111, 122, 101, 110, 115, 101, 116]⟩, .str ⟨#[102, 114, 111, 122, 101, 110, 115, 101, 116]⟩ 65, .type "frozenset"⟩, ⟨PyData.keyHash P ⟨#[112, 114, 111, 112, 101, 114, 116, 121]⟩, .str ⟨#[112, 114, 111, 112, 101, 114, 116, 121]⟩ 66, .type "property"⟩, ⟨PyData.keyHash P ⟨#[105, 110, 116]⟩, .str ⟨#[105, 110, 116]⟩ 67, .type "int"⟩, ⟨PyData.keyHash P ⟨#[108, 105, 115, 116]⟩, .str ⟨#[108, 105, 115, 116]⟩ 68, .type "list"⟩, ⟨PyData.keyHash P ⟨#[109, 97, 112]⟩, .str ⟨#[109, 97, 112]⟩ 69, .type "map"⟩, ⟨PyData.keyHash P ⟨#[111, 98, 106, 101, 99, 116]⟩, .str ⟨#[111, 98, 106, 101, 99, 116]⟩ 70, .type "object"⟩, ⟨PyData.keyHash P ⟨#[114, 97, 110, 103, 101]⟩, .str ⟨#[114, 97, 110, 103, 101]⟩ 71, .type "range"⟩, ⟨PyData.keyHash P ⟨#[114, 101, 118, 101, 114, 115, 101, 100]⟩, .str ⟨#[114, 101, 118, 101, 114, 115, 101, 100]⟩ 72, .type "reversed"⟩, ⟨PyData.keyHash P ⟨#[115, 101, 116]⟩, .str ⟨#[115, 101, 116]⟩ 73, .type "set"⟩, ⟨PyData.keyHash P ⟨#[115, 108, 105, 99, 101]⟩, .str ⟨#[115, 108, 105, 99, 101]⟩ 74, .type "slice"⟩, ⟨PyData.keyHash P ⟨#[115, 116, 97, 116, 105, 99, 109, 101, 116, 104, 111, 100]⟩, .str ⟨#[115, 116, 97, 116, 105, 99, 109, 101, 116, 104, 111, 100]⟩ 75, .type "staticmethod"⟩, ⟨PyData.keyHash P ⟨#[115, 116, 114]⟩, .str ⟨#[115, 116, 114]⟩ 76, .type "str"⟩, ⟨PyData.keyHash P ⟨#[115, 117, 112, 101, 114]⟩, .str ⟨#[115, 117, 112, 101, 114]⟩ 77, .type "super"⟩, ⟨PyData.keyHash P ⟨#[116, 117, 112, 108, 101]⟩, .str ⟨#[116, 117, 112, 108, 101]⟩ 78, .type "tuple"⟩, ⟨PyData.keyHash P ⟨#[116, 121, 112, 101]⟩, .str ⟨#[116, 121, 112, 101]⟩ 79, .type "type"⟩, ⟨PyData.keyHash P ⟨#[122, 105, 112]⟩, .str ⟨#[122, 105, 112]⟩ 80, .type "zip"⟩, ⟨PyData.keyHash P ⟨#[95, 95, 100, 101, 98, 117, 103, 95, 95]⟩, .str ⟨#[95, 95, 100, 101, 98, 117, 103, 95, 95]⟩ 81, .bool true⟩, ⟨PyData.keyHash P ⟨#[66, 97, 115, 101, 69, 120, 99, 101, 112, 116, 105, 111, 110]⟩, .str ⟨#[66, 97, 115, 101, 69, 120, 99, 101, 112, 116, 105, 111, 110]⟩ 82, .type "BaseException"⟩, ⟨PyData.keyHash P ⟨#[66, 97, 115, 101, 69, 120, 99, 101, 112, 116, 105, 111, 110, 71, 114, 111, 117, 112]⟩, .str ⟨#[66, 97, 115, 101, 69, 120, 99, 101, 112, 116, 105, 111, 110, 71, 114, 111, 117, 112]⟩ 83, .type "BaseExceptionGroup"⟩, ⟨PyData.keyHash P ⟨#[69, 120, 99, 101, 112, 116, 105, 111, 110]⟩, .str ⟨#[69, 120, 99, 101, 112, 116, 105, 111, 110]⟩ 84, .type "Exception"⟩, ⟨PyData.keyHash P ⟨#[71, 101, 110, 101, 114, 97, 116, 111, 114, 69, 120, 105, 116]⟩, .str ⟨#[71, 101, 110, 101, 114, 97, 116, 111, 114, 69, 120, 105, 116]⟩ 85, .type "GeneratorExit"⟩, ⟨PyData.keyHash P ⟨#[75, 101, 121, 98, 111, 97, 114, 100, 73, 110, 116, 101, 114, 114, 117, 112, 116]⟩, .str ⟨#[75, 101, 121, 98, 111, 97, 114, 100, 73, 110, 116, 101, 114, 114, 117, 112, 116]⟩ 86, .type "KeyboardInterrupt"⟩, ⟨PyData.keyHash P ⟨#[83, 121, 115, 116, 101, 109, 69, 120, 105, 116]⟩, .str ⟨#[83, 121, 115, 116, 101, 109, 69, 120, 105, 116]⟩ 87, .type "SystemExit"⟩, ⟨PyData.keyHash P ⟨#[65, 114, 105, 116, 104, 109, 101, 116, 105, 99, 69, 114, 114, 111, 114]⟩, .str ⟨#[65, 114, 105, 116, 104, 109, 101, 116, 105, 99, 69, 114, 114, 111, 114]⟩ 88, .type "ArithmeticError"⟩, ⟨PyData.keyHash P ⟨#[65, 115, 115, 101, 114, 116, 105, 111, 110, 69, 114, 114, 111, 114]⟩, .str ⟨#[65, 115, 115, 101, 114, 116, 105, 111, 110, 69, 114, 114, 111, 114]⟩ 89, .type "AssertionError"⟩, ⟨PyData.keyHash P ⟨#[65, 116, 116, 114, 105, 98, 117, 116, 101, 69, 114, 114, 111, 114]⟩, .str ⟨#[65, 116, 116, 114, 105, 98, 117, 116, 101, 69, 114, 114, 111, 114]⟩ 90, .type "AttributeError"⟩, ⟨PyData.keyHash P ⟨#[66, 117, 102, 102, 101, 114, 69, 114, 114, 111, 114]⟩, .str ⟨#[66, 117, 102, 102, 101, 114, 69, 114, 114, 111, 114]⟩ 91, .type "BufferError"⟩, ⟨PyData.keyHash P ⟨#[69, 79, 70, 69, 114, 114, 111, 114]⟩, .str ⟨#[69, 79, 70, 69, 114, 114, 111, 114]⟩ 92, .type "EOFError"⟩, ⟨PyData.keyHash P ⟨#[73, 109, 112, 111, 114, 116, 69, 114, 114, 111, 114]⟩, .str ⟨#[73, 109, 112, 111, 114, 116, 69, 114, 114, 111, 114]⟩ 93, .type "ImportError"⟩, ⟨PyData.keyHash P ⟨#[76, 111, 111, 107, 117, 112, 69, 114, 114, 111, 114]⟩, .str ⟨#[76, 111, 111, 107, 117, 112, 69, 114, 114, 111, 114]⟩ 94, .type "LookupError"⟩, ⟨PyData.keyHash P ⟨#[77, 101, 109, 111, 114, 121, 69, 114, 114, 111, 114]⟩, .str ⟨#[77, 101, 109, 111, 114, 121, 69, 114, 114, 111, 114]⟩ 95, .type "MemoryError"⟩, ⟨PyData.keyHash P ⟨#[78, 97, 109, 101, 69, 114, 114, 111, 114]⟩, .str ⟨#[78, 97, 109, 101, 69, 114, 114, 111, 114]⟩ 96, .type "NameError"⟩, ⟨PyData.keyHash P ⟨#[79, 83, 69, 114, 114, 111, 114]⟩, .str ⟨#[79, 83, 69, 114, 114, 111, 114]⟩ 97, .type "OSError"⟩, ⟨PyData.keyHash P ⟨#[82, 101, 102, 101, 114, 101, 110, 99, 101, 69, 114, 114, 111, 114]⟩, .str ⟨#[82, 101, 102, 101, 114, 101, 110, 99, 101, 69, 114, 114, 111, 114]⟩ 98, .type "ReferenceError"⟩, ⟨PyData.keyHash P ⟨#[82, 117, 110, 116, 105, 109, 101, 69, 114, 114, 111, 114]⟩, .str ⟨#[82, 117, 110, 116, 105, 109, 101, 69, 114, 114, 111, 114]⟩ 99, .type "RuntimeError"⟩, ⟨PyData.keyHash P ⟨#[83, 116, 111, 112, 65, 115, 121, 110, 99, 73, 116, 101, 114, 97, 116, 105, 111, 110]⟩, .str ⟨#[83, 116, 111, 112, 65, 115, 121, 110, 99, 73, 116, 101, 114, 97, 116, 105, 111, 110]⟩ 100, .type "StopAsyncIteration"⟩, ⟨PyData.keyHash P ⟨#[83, 116, 111, 112, 73, 116, 101, 114, 97, 116, 105, 111, 110]⟩, .str ⟨#[83, 116, 111, 112, 73, 116, 101, 114, 97, 116, 105, 111, 110]⟩ 101, .type "StopIteration"⟩, ⟨PyData.keyHash P ⟨#[83, 121, 110, 116, 97, 120, 69, 114, 114, 111, 114]⟩, .str ⟨#[83, 121, 110, 116, 97, 120, 69, 114, 114, 111, 114]⟩ 102, .type "SyntaxError"⟩, ⟨PyData.keyHash P ⟨#[83, 121, 115, 116, 101, 109, 69, 114, 114, 111, 114]⟩, .str ⟨#[83, 121, 115, 116, 101, 109, 69, 114, 114, 111, 114]⟩ 103, .type "SystemError"⟩, ⟨PyData.keyHash P ⟨#[84, 121, 112, 101, 69, 114, 114, 111, 114]⟩, .str ⟨#[84, 121, 112, 101, 69, 114, 114, 111, 114]⟩ 104, .type "TypeError"⟩, ⟨PyData.keyHash P ⟨#[86, 97, 108, 117, 101, 69, 114, 114, 111, 114]⟩, .str ⟨#[86, 97, 108, 117, 101, 69, 114, 114, 111, 114]⟩ 105, .type "ValueError"⟩, ⟨PyData.keyHash P ⟨#[87, 97, 114, 110, 105, 110, 103]⟩, .str ⟨#[87, 97, 114, 110, 105, 110, 103]⟩ 106, .type "Warning"⟩, ⟨PyData.keyHash P ⟨#[70, 108, 111, 97, 116, 105, 110, 103, 80, 111, 105, 110, 116, 69, 114, 114, 111, 114]⟩, .str ⟨#[70, 108, 111, 97, 116, 105, 110, 103, 80, 111, 105, 110, 116, 69, 114, 114, 111, 114]⟩ 107, .type "FloatingPointError"⟩, ⟨PyData.keyHash P ⟨#[79, 118, 101, 114, 102, 108, 111, 119, 69, 114, 114, 111, 114]⟩, .str ⟨#[79, 118, 101, 114, 102, 108, 111, 119, 69, 114, 114, 111, 114]⟩ 108, .type "OverflowError"⟩, ⟨PyData.keyHash P ⟨#[90, 101, 114, 111, 68, 105, 118, 105, 115, 105, 111, 110, 69, 114, 114, 111, 114]⟩, .str ⟨#[90, 101, 114, 111, 68, 105, 118, 105, 115, 105, 111, 110, 69, 114, 114, 111, 114]⟩ 109, .type "ZeroDivisionError"⟩, ⟨PyData.keyHash P ⟨#[66, 121, 116, 101, 115, 87, 97, 114, 110, 105, 110, 103]⟩, .str ⟨#[66, 121, 116, 101, 115, 87, 97, 114, 110, 105, 110, 103]⟩ 110, .type "BytesWarning"⟩, ⟨PyData.keyHash P ⟨#[68, 101, 112, 114, 101, 99, 97, 116, 105, 111, 110, 87, 97, 114, 110, 105, 110, 103]⟩, .str ⟨#[68, 101, 112, 114, 101, 99, 97, 116, 105, 111, 110, 87, 97, 114, 110, 105, 110, 103]⟩ 111, .type "DeprecationWarning"⟩, ⟨PyData.keyHash P ⟨#[69, 110, 99, 111, 100, 105, 110, 103, 87, 97, 114, 110, 105, 110, 103]⟩, .str ⟨#[69, 110, 99, 111, 100, 105, 110, 103, 87, 97, 114, 110, 105, 110, 103]⟩ 112, .type "EncodingWarning"⟩, ⟨PyData.keyHash P ⟨#[70, 117, 116, 117, 114, 101, 87, 97, 114, 110, 105, 110, 103]⟩, .str ⟨#[70, 117, 116, 117, 114, 101, 87, 97, 114, 110, 105, 110, 103]⟩ 113, .type "FutureWarning"⟩, ⟨PyData.keyHash P ⟨#[73, 109, 112, 111, 114, 116, 87, 97, 114, 110, 105, 110, 103]⟩, .str ⟨#[73, 109, 112, 111, 114, 116, 87, 97, 114, 110, 105, 110, 103]⟩ 114, .type "ImportWarning"⟩, ⟨PyData.keyHash P ⟨#[80, 101, 110, 100, 105, 110, 103, 68, 101, 112, 114, 101, 99, 97, 116, 105, 111, 110, 87, 97, 114, 110, 105, 110, 103]⟩, .str ⟨#[80, 101, 110, 100, 105, 110, 103, 68, 101, 112, 114, 101, 99, 97, 116, 105, 111, 110, 87, 97, 114, 110, 105, 110, 103]⟩ 115, .type "PendingDeprecationWarning"⟩, ⟨PyData.keyHash P ⟨#[82, 101, 115, 111, 117, 114, 99, 101, 87, 97, 114, 110, 105, 110, 103]⟩, .str ⟨#[82, 101, 115, 111, 117, 114, 99, 101, 87, 97, 114, 110, 105, 110, 103]⟩ 116, .type "ResourceWarning"⟩, ⟨PyData.keyHash P ⟨#[82, 117, 110, 116, 105, 109, 101, 87, 97, 114, 110, 105, 110, 103]⟩, .str ⟨#[82, 117, 110, 116, 105, 109, 101, 87, 97, 114, 110, 105, 110, 103]⟩ 117, .type "RuntimeWarning"⟩, ⟨PyData.keyHash P ⟨#[83, 121, 110, 116, 97, 120, 87, 97, 114, 110, 105, 110, 103]⟩, .str ⟨#[83, 121, 110, 116, 97, 120, 87, 97, 114, 110, 105, 110, 103]⟩ 118, .type "SyntaxWarning"⟩, ⟨PyData.keyHash P ⟨#[85, 110, 105, 99, 111, 100, 101, 87, 97, 114, 110, 105, 110, 103]⟩, .str ⟨#[85, 110, 105, 99, 111, 100, 101, 87, 97, 114, 110, 105, 110, 103]⟩ 119, .type "UnicodeWarning"⟩, ⟨PyData.keyHash P ⟨#[85, 115, 101, 114, 87, 97, 114, 110, 105, 110, 103]⟩, .str ⟨#[85, 115, 101, 114, 87, 97, 114, 110, 105, 110, 103]⟩ 120, .type "UserWarning"⟩, ⟨PyData.keyHash P ⟨#[66, 108, 111, 99, 107, 105, 110, 103, 73, 79, 69, 114, 114, 111, 114]⟩, .str ⟨#[66, 108, 111, 99, 107, 105, 110, 103, 73, 79, 69, 114, 114, 111, 114]⟩ 121, .type "BlockingIOError"⟩, ⟨PyData.keyHash P ⟨#[67, 104, 105, 108, 100, 80, 114, 111, 99, 101, 115, 115, 69, 114, 114, 111, 114]⟩, .str ⟨#[67, 104, 105, 108, 100, 80, 114, 111, 99, 101, 115, 115, 69, 114, 114, 111, 114]⟩ 122, .type "ChildProcessError"⟩, ⟨PyData.keyHash P ⟨#[67, 111, 110, 110, 101, 99, 116, 105, 111, 110, 69, 114, 114, 111, 114]⟩, .str ⟨#[67, 111, 110, 110, 101, 99, 116, 105, 111, 110, 69, 114, 114, 111, 114]⟩ 123, .type "ConnectionError"⟩, ⟨PyData.keyHash P ⟨#[70, 105, 108, 101, 69, 120, 105, 115, 116, 115, 69, 114, 114, 111, 114]⟩, .str ⟨#[70, 105, 108, 101, 69, 120, 105, 115, 116, 115, 69, 114, 114, 111, 114]⟩ 124, .type "FileExistsError"⟩, ⟨PyData.keyHash P ⟨#[70, 105, 108, 101, 78, 111, 116, 70, 111, 117, 110, 100, 69, 114, 114, 111, 114]⟩, .str ⟨#[70, 105, 108, 101, 78, 111, 116, 70, 111, 117, 110, 100, 69, 114, 114, 111, 114]⟩ 125, .type "FileNotFoundError"⟩, ⟨PyData.keyHash P ⟨#[73, 110, 116, 101, 114, 114, 117, 112, 116, 101, 100, 69, 114, 114, 111, 114]⟩, .str ⟨#[73, 110, 116, 101, 114, 114, 117, 112, 116, 101, 100, 69, 114, 114, 111, 114]⟩ 126, .type "InterruptedError"⟩, ⟨PyData.keyHash P ⟨#[73, 115, 65, 68, 105, 114, 101, 99, 116, 111, 114, 121, 69, 114, 114, 111, 114]⟩, .str ⟨#[73, 115, 65, 68, 105, 114, 101, 99, 116, 111, 114, 121, 69, 114, 114, 111, 114]⟩ 127, .type "IsADirectoryError"⟩, ⟨PyData.keyHash P ⟨#[78, 111, 116, 65, 68, 105, 114, 101, 99, 116, 111, 114, 121, 69, 114, 114, 111, 114]⟩, .str ⟨#[78, 111, 116, 65, 68, 105, 114, 101, 99, 116, 111, 114, 121, 69, 114, 114, 111, 114]⟩ 128, .type "NotADirectoryError"⟩, ⟨PyData.keyHash P ⟨#[80, 101, 114, 109, 105, 115, 115, 105, 111, 110, 69, 114, 114, 111, 114]⟩, .str ⟨#[80, 101, 114, 109, 105, 115, 115, 105, 111, 110, 69, 114, 114, 111, 114]⟩ 129, .type "PermissionError"⟩, ⟨PyData.keyHash P ⟨#[80, 114, 111, 99, 101, 115, 115, 76, 111, 111, 107, 117, 112, 69, 114, 114, 111, 114]⟩, .str ⟨#[80, 114, 111, 99, 101, 115, 115, 76, 111, 111, 107, 117, 112, 69, 114, 114, 111, 114]⟩ 130, .type "ProcessLookupError"⟩, ⟨PyData.keyHash P ⟨#[84, 105, 109, 101, 111, 117, 116, 69, 114, 114, 111, 114]⟩, .str ⟨#[84, 105, 109, 101, 111, 117, 116, 69, 114, 114, 111, 114]⟩ 131, .type "TimeoutError"⟩, ⟨PyData.keyHash P ⟨#[73, 110, 100, 101, 110, 116, 97, 116, 105, 111, 110, 69, 114, 114, 111, 114]⟩, .str ⟨#[73, 110, 100, 101, 110, 116, 97, 116, 105, 111, 110, 69, 114, 114, 111, 114]⟩ 132, .type "IndentationError"⟩, ⟨PyData.keyHash P ⟨#[95, 73, 110, 99, 111, 109, 112, 108, 101, 116, 101, 73, 110, 112, 117, 116, 69, 114, 114, 111, 114]⟩, .str ⟨#[95, 73, 110, 99, 111, 109, 112, 108, 101, 116, 101, 73, 110, 112, 117, 116, 69, 114, 114, 111, 114]⟩ 133, .type "_IncompleteInputError"⟩, ⟨PyData.keyHash P ⟨#[73, 110, 100, 101, 120, 69, 114, 114, 111, 114]⟩, .str ⟨#[73, 110, 100, 101, 120, 69, 114, 114, 111, 114]⟩ 134, .type "IndexError"⟩, ⟨PyData.keyHash P ⟨#[75, 101, 121, 69, 114, 114, 111, 114]⟩, .str ⟨#[75, 101, 121, 69, 114, 114, 111, 114]⟩ 135, .type "KeyError"⟩, ⟨PyData.keyHash P ⟨#[77, 111, 100, 117, 108, 101, 78, 111, 116, 70, 111, 117, 110, 100, 69, 114, 114, 111, 114]⟩, .str ⟨#[77, 111, 100, 117, 108, 101, 78, 111, 116, 70, 111, 117, 110, 100, 69, 114, 114, 111, 114]⟩ 136, .type "ModuleNotFoundError"⟩, ⟨PyData.keyHash P ⟨#[78, 111, 116, 73, 109, 112, 108, 101, 109, 101, 110, 116, 101, 100, 69, 114, 114, 111, 114]⟩, .str ⟨#[78, 111, 116, 73, 109, 112, 108, 101, 109, 101, 110, 116, 101, 100, 69, 114, 114, 111, 114]⟩ 137, .type "NotImplementedError"⟩, ⟨PyData.keyHash P ⟨#[80, 121, 116, 104, 111, 110, 70, 105, 110, 97, 108, 105, 122, 97, 116, 105, 111, 110, 69, 114, 114, 111, 114]⟩, .str ⟨#[80, 121, 116, 104, 111, 110, 70, 105, 110, 97, 108, 105, 122, 97, 116, 105, 111, 110, 69, 114, 114, 111, 114]⟩ 138, .type "PythonFinalizationError"⟩, ⟨PyData.keyHash P ⟨#[82, 101, 99, 117, 114, 115, 105, 111, 110, 69, 114, 114, 111, 114]⟩, .str ⟨#[82, 101, 99, 117, 114, 115, 105, 111, 110, 69, 114, 114, 111, 114]⟩ 139, .type "RecursionError"⟩, ⟨PyData.keyHash P ⟨#[85, 110, 98, 111, 117, 110, 100, 76, 111, 99, 97, 108, 69, 114, 114, 111, 114]⟩, .str ⟨#[85, 110, 98, 111, 117, 110, 100, 76, 111, 99, 97, 108, 69, 114, 114, 111, 114]⟩ 140, .type "UnboundLocalError"⟩, ⟨PyData.keyHash P ⟨#[85, 110, 105, 99, 111, 100, 101, 69, 114, 114, 111, 114]⟩, .str ⟨#[85, 110, 105, 99, 111, 100, 101, 69, 114, 114, 111, 114]⟩ 141, .type "UnicodeError"⟩, ⟨PyData.keyHash P ⟨#[66, 114, 111, 107, 101, 110, 80, 105, 112, 101, 69, 114, 114, 111, 114]⟩, .str ⟨#[66, 114, 111, 107, 101, 110, 80, 105, 112, 101, 69, 114, 114, 111, 114]⟩ 142, .type "BrokenPipeError"⟩, ⟨PyData.keyHash P ⟨#[67, 111, 110, 110, 101, 99, 116, 105, 111, 110, 65, 98, 111, 114, 116, 101, 100, 69, 114, 114, 111, 114]⟩, .str ⟨#[67, 111, 110, 110, 101, 99, 116, 105, 111, 110, 65, 98, 111, 114, 116, 101, 100, 69, 114, 114, 111, 114]⟩ 143, .type "ConnectionAbortedError"⟩, ⟨PyData.keyHash P ⟨#[67, 111, 110, 110, 101, 99, 116, 105, 111, 110, 82, 101, 102, 117, 115, 101, 100, 69, 114, 114, 111, 114]⟩, .str ⟨#[67, 111, 110, 110, 101, 99, 116, 105, 111, 110, 82, 101, 102, 117, 115, 101, 100, 69, 114, 114, 111, 114]⟩ 144, .type "ConnectionRefusedError"⟩, ⟨PyData.keyHash P ⟨#[67, 111, 110, 110, 101, 99, 116, 105, 111, 110, 82, 101, 115, 101, 116, 69, 114, 114, 111, 114]⟩, .str ⟨#[67, 111, 110, 110, 101, 99, 116, 105, 111, 110, 82, 101, 115, 101, 116, 69, 114, 114, 111, 114]⟩ 145, .type "ConnectionResetError"⟩, ⟨PyData.keyHash P ⟨#[84, 97, 98, 69, 114, 114, 111, 114]⟩, .str ⟨#[84, 97, 98, 69, 114, 114, 111, 114]⟩ 146, .type "TabError"⟩, ⟨PyData.keyHash P ⟨#[85, 110, 105, 99, 111, 100, 101, 68, 101, 99, 111, 100, 101, 69, 114, 114, 111, 114]⟩, .str ⟨#[85, 110, 105, 99, 111, 100, 101, 68, 101, 99, 111, 100, 101, 69, 114, 114, 111, 114]⟩ 147, .type "UnicodeDecodeError"⟩, ⟨PyData.keyHash P ⟨#[85, 110, 105, 99, 111, 100, 101, 69, 110, 99, 111, 100, 101, 69, 114, 114, 111, 114]⟩, .str ⟨#[85, 110, 105, 99, 111, 100, 101, 69, 110, 99, 111, 100, 101, 69, 114, 114, 111, 114]⟩ 148, .type "UnicodeEncodeError"⟩, ⟨PyData.keyHash P ⟨#[85, 110, 105, 99, 111, 100, 101, 84, 114, 97, 110, 115, 108, 97, 116, 101, 69, 114, 114, 111, 114]⟩, .str ⟨#[85, 110, 105, 99, 111, 100, 101, 84, 114, 97, 110, 115, 108, 97, 116, 101, 69, 114, 114, 111, 114]⟩ 149, .type "UnicodeTranslateError"⟩, ⟨PyData.keyHash P ⟨#[69, 120, 99, 101, 112, 116, 105, 111, 110, 71, 114, 111, 117, 112]⟩, .str ⟨#[69, 120, 99, 101, 112, 116, 105, 111, 110, 71, 114, 111, 117, 112]⟩ 150, .type "ExceptionGroup"⟩, ⟨PyData.keyHash P ⟨#[69, 110, 118, 105, 114, 111, 110, 109, 101, 110, 116, 69, 114, 114, 111, 114]⟩, .str ⟨#[69, 110, 118, 105, 114, 111, 110, 109, 101, 110, 116, 69, 114, 114, 111, 114]⟩ 151, .type "OSError"⟩, ⟨PyData.keyHash P ⟨#[73, 79, 69, 114, 114, 111, 114]⟩, .str ⟨#[73, 79, 69, 114, 114, 111, 114]⟩ 152, .type "OSError"⟩, ⟨PyData.keyHash P ⟨#[111, 112, 101, 110]⟩, .str ⟨#[111, 112, 101, 110]⟩ 153, .builtin "open"⟩, ⟨PyData.keyHash P ⟨#[113, 117, 105, 116]⟩, .str ⟨#[113, 117, 105, 116]⟩ 154, .builtin "builtins.quit#opaque"⟩, ⟨PyData.keyHash P ⟨#[101, 120, 105, 116]⟩, .str ⟨#[101, 120, 105, 116]⟩ 155, .builtin "builtins.exit#opaque"⟩, ⟨PyData.keyHash P ⟨#[99, 111, 112, 121, 114, 105, 103, 104, 116]⟩, .str ⟨#[99, 111, 112, 121, 114, 105, 103, 104, 116]⟩ 156, .builtin "builtins.copyright#opaque"⟩, ⟨PyData.keyHash P ⟨#[99, 114, 101, 100, 105, 116, 115]⟩, .str ⟨#[99, 114, 101, 100, 105, 116, 115]⟩ 157, .builtin "builtins.credits#opaque"⟩, ⟨PyData.keyHash P ⟨#[108, 105, 99, 101, 110, 115, 101]⟩, .str ⟨#[108, 105, 99, 101, 110, 115, 101]⟩ 158, .builtin "builtins.license#opaque"⟩, ⟨PyData.keyHash P ⟨#[104, 101, 108, 112]⟩, .str ⟨#[104, 101, 108, 112]⟩ 159, .builtin "builtins.help#opaque"⟩].toArray 159, [].toArray⟩
noncomputable def h1v0 (P : Params) : Obj := ⟨.type "dict", none, .dict [⟨PyData.keyHash P ⟨#[98, 117, 105, 108, 116, 105, 110, 115]⟩, .str ⟨#[98, 117, 105, 108, 116, 105, 110, 115]⟩ 162, .ref 4⟩, ⟨PyData.keyHash P ⟨#[95, 95, 109, 97, 105, 110, 95, 95]⟩, .str ⟨#[95, 95, 109, 97, 105, 110, 95, 95]⟩ 163, .ref 5⟩, ⟨PyData.keyHash P ⟨#[95, 115, 114, 101]⟩, .str ⟨#[95, 115, 114, 101]⟩ 244, .ref 12⟩].toArray 3, [].toArray⟩
noncomputable def h2v0 (P : Params) : Obj := ⟨.none, none, .dict [⟨PyData.keyHash P ⟨#[105, 109, 112, 111, 114, 116, 46, 108, 111, 97, 100, 101, 100, 46, 95, 115, 114, 101]⟩, .str ⟨#[105, 109, 112, 111, 114, 116, 46, 108, 111, 97, 100, 101, 100, 46, 95, 115, 114, 101]⟩ 183, .bool true⟩, ⟨PyData.keyHash P ⟨#[99, 108, 97, 115, 115, 46, 95, 102, 114, 111, 122, 101, 110, 95, 105, 109, 112, 111, 114, 116, 108, 105, 98, 46, 66, 117, 105, 108, 116, 105, 110, 73, 109, 112, 111, 114, 116, 101, 114]⟩, .str ⟨#[99, 108, 97, 115, 115, 46, 95, 102, 114, 111, 122, 101, 110, 95, 105, 109, 112, 111, 114, 116, 108, 105, 98, 46, 66, 117, 105, 108, 116, 105, 110, 73, 109, 112, 111, 114, 116, 101, 114]⟩ 185, .ref 14⟩, ⟨PyData.keyHash P ⟨#[119, 97, 116, 99, 104, 101, 100, 46, 105, 109, 112, 111, 114, 116]⟩, .str ⟨#[119, 97, 116, 99, 104, 101, 100, 46, 105, 109, 112, 111, 114, 116]⟩ 206, .ref 18⟩, ⟨PyData.keyHash P ⟨#[99, 108, 97, 115, 115, 46, 95, 102, 114, 111, 122, 101, 110, 95, 105, 109, 112, 111, 114, 116, 108, 105, 98, 46, 77, 111, 100, 117, 108, 101, 83, 112, 101, 99]⟩, .str ⟨#[99, 108, 97, 115, 115, 46, 95, 102, 114, 111, 122, 101, 110, 95, 105, 109, 112, 111, 114, 116, 108, 105, 98, 46, 77, 111, 100, 117, 108, 101, 83, 112, 101, 99]⟩ 216, .ref 22⟩, ⟨PyData.keyHash P ⟨#[115, 121, 115, 46, 109, 111, 100, 117, 108, 101, 115, 46, 98, 111, 111, 107, 101, 100, 45, 101, 112, 111, 99, 104]⟩, .str ⟨#[115, 121, 115, 46, 109, 111, 100, 117, 108, 101, 115, 46, 98, 111, 111, 107, 101, 100, 45, 101, 112, 111, 99, 104]⟩ 245, .int 3 0⟩, ⟨PyData.keyHash P ⟨#[105, 109, 112, 111, 114, 116, 46, 108, 97, 116, 101, 114, 45, 108, 97, 105, 100, 46, 95, 115, 114, 101]⟩, .str ⟨#[105, 109, 112, 111, 114, 116, 46, 108, 97, 116, 101, 114, 45, 108, 97, 105, 100, 46, 95, 115, 114, 101]⟩ 270, .bool true⟩, ⟨PyData.keyHash P ⟨#[119, 97, 116, 99, 104, 101, 100, 46, 108, 105, 98, 114, 97, 114, 121]⟩, .str ⟨#[119, 97, 116, 99, 104, 101, 100, 46, 108, 105, 98, 114, 97, 114, 121]⟩ 272, .ref 27⟩, ⟨PyData.keyHash P ⟨#[119, 97, 116, 99, 104, 101, 100, 46, 108, 105, 98, 114, 97, 114, 121, 45, 111, 98, 106, 101, 99, 116, 115]⟩, .str ⟨#[119, 97, 116, 99, 104, 101, 100, 46, 108, 105, 98, 114, 97, 114, 121, 45, 111, 98, 106, 101, 99, 116, 115]⟩ 0, .str ⟨#[12]⟩ 0⟩, ⟨PyData.keyHash P ⟨#[119, 97, 116, 99, 104, 101, 100, 46, 108, 105, 98, 114, 97, 114, 121, 45, 100, 101, 101, 112, 46, 95, 115, 114, 101]⟩, .str ⟨#[119, 97, 116, 99, 104, 101, 100, 46, 108, 105, 98, 114, 97, 114, 121, 45, 100, 101, 101, 112, 46, 95, 115, 114, 101]⟩ 273, .str ⟨#[4, 0, 0, 11, 4, 0, 0, 11, 4, 0, 0, 3, 4, 0, 0, 11, 8, 4, 100, 105, 99, 116, 2]⟩ 0⟩].toArray 9, [].toArray⟩
noncomputable def h3v0 (P : Params) : Obj := ⟨.type "dict", none, .dict [⟨PyData.keyHash P ⟨#[95, 95, 110, 97, 109, 101, 95, 95]⟩, .str ⟨#[95, 95, 110, 97, 109, 101, 95, 95]⟩ 165, .str ⟨#[95, 95, 109, 97, 105, 110, 95, 95]⟩ 164⟩, ⟨PyData.keyHash P ⟨#[95, 95, 100, 111, 99, 95, 95]⟩, .str ⟨#[95, 95, 100, 111, 99, 95, 95]⟩ 166, .none⟩, ⟨PyData.keyHash P ⟨#[95, 95, 112, 97, 99, 107, 97, 103, 101, 95, 95]⟩, .str ⟨#[95, 95, 112, 97, 99, 107, 97, 103, 101, 95, 95]⟩ 167, .none⟩, ⟨PyData.keyHash P ⟨#[95, 95, 108, 111, 97, 100, 101, 114, 95, 95]⟩, .str ⟨#[95, 95, 108, 111, 97, 100, 101, 114, 95, 95]⟩ 168, .builtin "__main__.__loader__#opaque"⟩, ⟨PyData.keyHash P ⟨#[95, 95, 115, 112, 101, 99, 95, 95]⟩, .str ⟨#[95, 95, 115, 112, 101, 99, 95, 95]⟩ 169, .none⟩, ⟨PyData.keyHash P ⟨#[95, 95, 97, 110, 110, 111, 116, 97, 116, 105, 111, 110, 115, 95, 95]⟩, .str ⟨#[95, 95, 97, 110, 110, 111, 116, 97, 116, 105, 111, 110, 115, 95, 95]⟩ 170, .ref 6⟩, ⟨PyData.keyHash P ⟨#[95, 95, 98, 117, 105, 108, 116, 105, 110, 115, 95, 95]⟩, .str ⟨#[95, 95, 98, 117, 105, 108, 116, 105, 110, 115, 95, 95]⟩ 171, .ref 4⟩, ⟨PyData.keyHash P ⟨#[95, 95, 102, 105, 108, 101, 95, 95]⟩, .str ⟨#[95, 95, 102, 105, 108, 101, 95, 95]⟩ 173, .str ⟨#[47, 99, 108, 97, 105, 109, 47, 99, 117, 116, 46, 112, 121]⟩ 172⟩, ⟨PyData.keyHash P ⟨#[95, 95, 99, 97, 99, 104, 101, 100, 95, 95]⟩, .str ⟨#[95, 95, 99, 97, 99, 104, 101, 100, 95, 95]⟩ 174, .none⟩, ⟨PyData.keyHash P ⟨#[95, 115, 114, 101]⟩, .str ⟨#[95, 115, 114, 101]⟩ 275, .ref 12⟩].toArray 10, [].toArray⟩
noncomputable def h4v0 (P : Params) : Obj := ⟨.type "module", (some 0), .plain, [].toArray⟩
noncomputable def h5v0 (P : Params) : Obj := ⟨.type "module", (some 3), .plain, [].toArray⟩
noncomputable def h6v0 (P : Params) : Obj := ⟨.type "dict", none, .dict [].toArray 0, [].toArray⟩
noncomputable def h7v0 (P : Params) : Obj := ⟨.type "tuple", none, .seq [].toArray 0, [].toArray⟩
noncomputable def h8v0 (P : Params) : Obj := ⟨.none, none, .fields [].toArray, [].toArray⟩
noncomputable def h9v0 (P : Params) : Obj := ⟨.type "code", none, .fields [.str ⟨#[60, 109, 111, 100, 117, 108, 101, 62]⟩ 176, .str ⟨#[60, 109, 111, 100, 117, 108, 101, 62]⟩ 177, .str ⟨#[47, 99, 108, 97, 105, 109, 47, 99, 117, 116, 46, 112, 121]⟩ 178, .int 1 0, .int 0 0, .int 0 0, .int 0 0, .int 0 0, .ref 7, .bool false, .int 175 0, .ref 8, .none, .none, .none, .none, .int 179 0, .int 1 0, .str ⟨#[47, 99, 108, 97, 105, 109, 47, 99, 117, 116, 46, 112, 121]⟩ 180].toArray, [].toArray⟩
noncomputable def h10v0 (P : Params) : Obj := ⟨.type "frame", none, .plain, [some (.ref 9), some (.ref 3), some (.ref 3), none, some (.str ⟨#[95, 95, 109, 97, 105, 110, 95, 95]⟩ 164), none, some (.ref 0)].toArray⟩
noncomputable def h11v0 (P : Params) : Obj := ⟨.type "dict", none, .dict [⟨PyData.keyHash P ⟨#[95, 95, 110, 97, 109, 101, 95, 95]⟩, .str ⟨#[95, 95, 110, 97, 109, 101, 95, 95]⟩ 247, .str ⟨#[95, 115, 114, 101]⟩ 246⟩, ⟨PyData.keyHash P ⟨#[95, 95, 100, 111, 99, 95, 95]⟩, .str ⟨#[95, 95, 100, 111, 99, 95, 95]⟩ 248, .none⟩, ⟨PyData.keyHash P ⟨#[95, 95, 112, 97, 99, 107, 97, 103, 101, 95, 95]⟩, .str ⟨#[95, 95, 112, 97, 99, 107, 97, 103, 101, 95, 95]⟩ 250, .str ⟨#[]⟩ 249⟩, ⟨PyData.keyHash P ⟨#[95, 95, 108, 111, 97, 100, 101, 114, 95, 95]⟩, .str ⟨#[95, 95, 108, 111, 97, 100, 101, 114, 95, 95]⟩ 251, .builtin "off-the-table:_sre.__loader__:shared#opaque"⟩, ⟨PyData.keyHash P ⟨#[95, 95, 115, 112, 101, 99, 95, 95]⟩, .str ⟨#[95, 95, 115, 112, 101, 99, 95, 95]⟩ 252, .builtin "off-the-table:_sre.__spec__:shared#opaque"⟩, ⟨PyData.keyHash P ⟨#[99, 111, 109, 112, 105, 108, 101]⟩, .str ⟨#[99, 111, 109, 112, 105, 108, 101]⟩ 253, .builtin "_sre.compile"⟩, ⟨PyData.keyHash P ⟨#[116, 101, 109, 112, 108, 97, 116, 101]⟩, .str ⟨#[116, 101, 109, 112, 108, 97, 116, 101]⟩ 254, .builtin "off-the-table:_sre.template:shared#opaque"⟩, ⟨PyData.keyHash P ⟨#[103, 101, 116, 99, 111, 100, 101, 115, 105, 122, 101]⟩, .str ⟨#[103, 101, 116, 99, 111, 100, 101, 115, 105, 122, 101]⟩ 255, .builtin "off-the-table:_sre.getcodesize:shared#opaque"⟩, ⟨PyData.keyHash P ⟨#[97, 115, 99, 105, 105, 95, 105, 115, 99, 97, 115, 101, 100]⟩, .str ⟨#[97, 115, 99, 105, 105, 95, 105, 115, 99, 97, 115, 101, 100]⟩ 256, .builtin "off-the-table:_sre.ascii_iscased:shared#opaque"⟩, ⟨PyData.keyHash P ⟨#[117, 110, 105, 99, 111, 100, 101, 95, 105, 115, 99, 97, 115, 101, 100]⟩, .str ⟨#[117, 110, 105, 99, 111, 100, 101, 95, 105, 115, 99, 97, 115, 101, 100]⟩ 257, .builtin "off-the-table:_sre.unicode_iscased:shared#opaque"⟩, ⟨PyData.keyHash P ⟨#[97, 115, 99, 105, 105, 95, 116, 111, 108, 111, 119, 101, 114]⟩, .str ⟨#[97, 115, 99, 105, 105, 95, 116, 111, 108, 111, 119, 101, 114]⟩ 258, .builtin "off-the-table:_sre.ascii_tolower:shared#opaque"⟩, ⟨PyData.keyHash P ⟨#[117, 110, 105, 99, 111, 100, 101, 95, 116, 111, 108, 111, 119, 101, 114]⟩, .str ⟨#[117, 110, 105, 99, 111, 100, 101, 95, 116, 111, 108, 111, 119, 101, 114]⟩ 259, .builtin "off-the-table:_sre.unicode_tolower:shared#opaque"⟩, ⟨PyData.keyHash P ⟨#[77, 65, 71, 73, 67]⟩, .str ⟨#[77, 65, 71, 73, 67]⟩ 261, .int 20230612 260⟩, ⟨PyData.keyHash P ⟨#[67, 79, 68, 69, 83, 73, 90, 69]⟩, .str ⟨#[67, 79, 68, 69, 83, 73, 90, 69]⟩ 263, .int 4 262⟩, ⟨PyData.keyHash P ⟨#[77, 65, 88, 82, 69, 80, 69, 65, 84]⟩, .str ⟨#[77, 65, 88, 82, 69, 80, 69, 65, 84]⟩ 265, .int 4294967295 264⟩, ⟨PyData.keyHash P ⟨#[77, 65, 88, 71, 82, 79, 85, 80, 83]⟩, .str ⟨#[77, 65, 88, 71, 82, 79, 85, 80, 83]⟩ 267, .int 1073741823 266⟩, ⟨PyData.keyHash P ⟨#[99, 111, 112, 121, 114, 105, 103, 104, 116]⟩, .str ⟨#[99, 111, 112, 121, 114, 105, 103, 104, 116]⟩ 269, .str ⟨#[32, 83, 82, 69, 32, 50, 46, 50, 46, 50, 32, 67, 111, 112, 121, 114, 105, 103, 104, 116, 32, 40, 99, 41, 32, 49, 57, 57, 55, 45, 50, 48, 48, 50, 32, 98, 121, 32, 83, 101, 99, 114, 101, 116, 32, 76, 97, 98, 115, 32, 65, 66, 32]⟩ 268⟩].toArray 17, [].toArray⟩
noncomputable def h12v0 (P : Params) : Obj := ⟨.type "module", (some 11), .plain, [].toArray⟩
noncomputable def h13v0 (P : Params) : Obj := ⟨.type "dict", none, .dict [⟨PyData.keyHash P ⟨#[95, 95, 109, 111, 100, 117, 108, 101, 95, 95]⟩, .str ⟨#[95, 95, 109, 111, 100, 117, 108, 101, 95, 95]⟩ 189, .str ⟨#[95, 102, 114, 111, 122, 101, 110, 95, 105, 109, 112, 111, 114, 116, 108, 105, 98]⟩ 186⟩, ⟨PyData.keyHash P ⟨#[95, 95, 102, 105, 114, 115, 116, 108, 105, 110, 101, 110, 111, 95, 95]⟩, .str ⟨#[95, 95, 102, 105, 114, 115, 116, 108, 105, 110, 101, 110, 111, 95, 95]⟩ 190, .int 971 187⟩, ⟨PyData.keyHash P ⟨#[95, 95, 100, 111, 99, 95, 95]⟩, .str ⟨#[95, 95, 100, 111, 99, 95, 95]⟩ 191, .builtin "_frozen_importlib.BuiltinImporter.__doc__:str#opaque"⟩, ⟨PyData.keyHash P ⟨#[95, 79, 82, 73, 71, 73, 78]⟩, .str ⟨#[95, 79, 82, 73, 71, 73, 78]⟩ 192, .str ⟨#[98, 117, 105, 108, 116, 45, 105, 110]⟩ 188⟩, ⟨PyData.keyHash P ⟨#[102, 105, 110, 100, 95, 115, 112, 101, 99]⟩, .str ⟨#[102, 105, 110, 100, 95, 115, 112, 101, 99]⟩ 193, .builtin "_frozen_importlib.BuiltinImporter.find_spec#opaque"⟩, ⟨PyData.keyHash P ⟨#[99, 114, 101, 97, 116, 101, 95, 109, 111, 100, 117, 108, 101]⟩, .str ⟨#[99, 114, 101, 97, 116, 101, 95, 109, 111, 100, 117, 108, 101]⟩ 194, .builtin "_frozen_importlib.BuiltinImporter.create_module#opaque"⟩, ⟨PyData.keyHash P ⟨#[101, 120, 101, 99, 95, 109, 111, 100, 117, 108, 101]⟩, .str ⟨#[101, 120, 101, 99, 95, 109, 111, 100, 117, 108, 101]⟩ 195, .builtin "_frozen_importlib.BuiltinImporter.exec_module#opaque"⟩, ⟨PyData.keyHash P ⟨#[103, 101, 116, 95, 99, 111, 100, 101]⟩, .str ⟨#[103, 101, 116, 95, 99, 111, 100, 101]⟩ 196, .builtin "_frozen_importlib.BuiltinImporter.get_code#opaque"⟩, ⟨PyData.keyHash P ⟨#[103, 101, 116, 95, 115, 111, 117, 114, 99, 101]⟩, .str ⟨#[103, 101, 116, 95, 115, 111, 117, 114, 99, 101]⟩ 197, .builtin "_frozen_importlib.BuiltinImporter.get_source#opaque"⟩, ⟨PyData.keyHash P ⟨#[105, 115, 95, 112, 97, 99, 107, 97, 103, 101]⟩, .str ⟨#[105, 115, 95, 112, 97, 99, 107, 97, 103, 101]⟩ 198, .builtin "_frozen_importlib.BuiltinImporter.is_package#opaque"⟩, ⟨PyData.keyHash P ⟨#[108, 111, 97, 100, 95, 109, 111, 100, 117, 108, 101]⟩, .str ⟨#[108, 111, 97, 100, 95, 109, 111, 100, 117, 108, 101]⟩ 199, .builtin "_frozen_importlib.BuiltinImporter.load_module#opaque"⟩, ⟨PyData.keyHash P ⟨#[95, 95, 115, 116, 97, 116, 105, 99, 95, 97, 116, 116, 114, 105, 98, 117, 116, 101, 115, 95, 95]⟩, .str ⟨#[95, 95, 115, 116, 97, 116, 105, 99, 95, 97, 116, 116, 114, 105, 98, 117, 116, 101, 115, 95, 95]⟩ 200, .ref 15⟩, ⟨PyData.keyHash P ⟨#[95, 95, 100, 105, 99, 116, 95, 95]⟩, .str ⟨#[95, 95, 100, 105, 99, 116, 95, 95]⟩ 202, .ref 16⟩, ⟨PyData.keyHash P ⟨#[95, 95, 119, 101, 97, 107, 114, 101, 102, 95, 95]⟩, .str ⟨#[95, 95, 119, 101, 97, 107, 114, 101, 102, 95, 95]⟩ 204, .ref 17⟩].toArray 14, [].toArray⟩
noncomputable def h14v0 (P : Params) : Obj := ⟨.type "type", none, .cls { name := ⟨#[66, 117, 105, 108, 116, 105, 110, 73, 109, 112, 111, 114, 116, 101, 114]⟩, bases := [.type "object"], mro := [.ref 14, .type "object"], ns := 13, qualname := ⟨#[66, 117, 105, 108, 116, 105, 110, 73, 109, 112, 111, 114, 116, 101, 114]⟩, hasDict := true, slotNames := [], subclasses := [], abstract := false, collection := none, hasDel := false }, [].toArray⟩
noncomputable def h15v0 (P : Params) : Obj := ⟨.type "tuple", none, .seq [].toArray 0, [].toArray⟩
noncomputable def h16v0 (P : Params) : Obj := ⟨.type "getset_descriptor", none, .fields [.str ⟨#[95, 95, 100, 105, 99, 116, 95, 95]⟩ 201, .ref 14, .builtin "function.__dict__", .builtin "function.__dict__#set"].toArray, [].toArray⟩
noncomputable def h17v0 (P : Params) : Obj := ⟨.type "getset_descriptor", none, .fields [.str ⟨#[95, 95, 119, 101, 97, 107, 114, 101, 102, 95, 95]⟩ 203, .ref 14, .builtin "ExceptionGroup.__weakref__", .none].toArray, [].toArray⟩
noncomputable def h18v0 (P : Params) : Obj := ⟨.none, none, .seq [.int 13 0, .str ⟨#[6, 189, 10, 95, 95, 109, 111, 100, 117, 108, 101, 95, 95, 6, 186, 17, 95, 102, 114, 111, 122, 101, 110, 95, 105, 109, 112, 111, 114, 116, 108, 105, 98, 6, 190, 15, 95, 95, 102, 105, 114, 115, 116, 108, 105, 110, 101, 110, 111, 95, 95, 4, 187, 0, 971, 6, 191, 7, 95, 95, 100, 111, 99, 95, 95, 9, 52, 95, 102, 114, 111, 122, 101, 110, 95, 105, 109, 112, 111, 114, 116, 108, 105, 98, 46, 66, 117, 105, 108, 116, 105, 110, 73, 109, 112, 111, 114, 116, 101, 114, 46, 95, 95, 100, 111, 99, 95, 95, 58, 115, 116, 114, 35, 111, 112, 97, 113, 117, 101, 6, 192, 7, 95, 79, 82, 73, 71, 73, 78, 6, 188, 8, 98, 117, 105, 108, 116, 45, 105, 110, 6, 193, 9, 102, 105, 110, 100, 95, 115, 112, 101, 99, 9, 50, 95, 102, 114, 111, 122, 101, 110, 95, 105, 109, 112, 111, 114, 116, 108, 105, 98, 46, 66, 117, 105, 108, 116, 105, 110, 73, 109, 112, 111, 114, 116, 101, 114, 46, 102, 105, 110, 100, 95, 115, 112, 101, 99, 35, 111, 112, 97, 113, 117, 101, 6, 194, 13, 99, 114, 101, 97, 116, 101, 95, 109, 111, 100, 117, 108, 101, 9, 54, 95, 102, 114, 111, 122, 101, 110, 95, 105, 109, 112, 111, 114, 116, 108, 105, 98, 46, 66, 117, 105, 108, 116, 105, 110, 73, 109, 112, 111, 114, 116, 101, 114, 46, 99, 114, 101, 97, 116, 101, 95, 109, 111, 100, 117, 108, 101, 35, 111, 112, 97, 113, 117, 101, 6, 195, 11, 101, 120, 101, 99, 95, 109, 111, 100, 117, 108, 101, 9, 52, 95, 102, 114, 111, 122, 101, 110, 95, 105, 109, 112, 111, 114, 116, 108, 105, 98, 46, 66, 117, 105, 108, 116, 105, 110, 73, 109, 112, 111, 114, 116, 101, 114, 46, 101, 120, 101, 99, 95, 109, 111, 100, 117, 108, 101, 35, 111, 112, 97, 113, 117, 101, 6, 196, 8, 103, 101, 116, 95, 99, 111, 100, 101, 9, 49, 95, 102, 114, 111, 122, 101, 110, 95, 105, 109, 112, 111, 114, 116, 108, 105, 98, 46, 66, 117, 105, 108, 116, 105, 110, 73, 109, 112, 111, 114, 116, 101, 114, 46, 103, 101, 116, 95, 99, 111, 100, 101, 35, 111, 112, 97, 113, 117, 101, 6, 197, 10, 103, 101, 116, 95, 115, 111, 117, 114, 99, 101, 9, 51, 95, 102, 114, 111, 122, 101, 110, 95, 105, 109, 112, 111, 114, 116, 108, 105, 98, 46, 66, 117, 105, 108, 116, 105, 110, 73, 109, 112, 111, 114, 116, 101, 114, 46, 103, 101, 116, 95, 115, 111, 117, 114, 99, 101, 35, 111, 112, 97, 113, 117, 101, 6, 198, 10, 105, 115, 95, 112, 97, 99, 107, 97, 103, 101, 9, 51, 95, 102, 114, 111, 122, 101, 110, 95, 105, 109, 112, 111, 114, 116, 108, 105, 98, 46, 66, 117, 105, 108, 116, 105, 110, 73, 109, 112, 111, 114, 116, 101, 114, 46, 105, 115, 95, 112, 97, 99, 107, 97, 103, 101, 35, 111, 112, 97, 113, 117, 101, 6, 199, 11, 108, 111, 97, 100, 95, 109, 111, 100, 117, 108, 101, 9, 52, 95, 102, 114, 111, 122, 101, 110, 95, 105, 109, 112, 111, 114, 116, 108, 105, 98, 46, 66, 117, 105, 108, 116, 105, 110, 73, 109, 112, 111, 114, 116, 101, 114, 46, 108, 111, 97, 100, 95, 109, 111, 100, 117, 108, 101, 35, 111, 112, 97, 113, 117, 101, 6, 200, 21, 95, 95, 115, 116, 97, 116, 105, 99, 95, 97, 116, 116, 114, 105, 98, 117, 116, 101, 115, 95, 95, 4, 0, 0, 15, 6, 202, 8, 95, 95, 100, 105, 99, 116, 95, 95, 4, 0, 0, 16, 6, 204, 11, 95, 95, 119, 101, 97, 107, 114, 101, 102, 95, 95, 4, 0, 0, 17]⟩ 0, .bool true, .bool true, .str ⟨#[]⟩ 205, .int 21 0, .str ⟨#[6, 227, 10, 95, 95, 109, 111, 100, 117, 108, 101, 95, 95, 6, 217, 17, 95, 102, 114, 111, 122, 101, 110, 95, 105, 109, 112, 111, 114, 116, 108, 105, 98, 6, 228, 15, 95, 95, 102, 105, 114, 115, 116, 108, 105, 110, 101, 110, 111, 95, 95, 4, 218, 0, 562, 6, 229, 7, 95, 95, 100, 111, 99, 95, 95, 9, 47, 95, 102, 114, 111, 122, 101, 110, 95, 105, 109, 112, 111, 114, 116, 108, 105, 98, 46, 77, 111, 100, 117, 108, 101, 83, 112, 101, 99, 46, 95, 95, 100, 111, 99, 95, 95, 58, 115, 116, 114, 35, 111, 112, 97, 113, 117, 101, 6, 230, 8, 95, 95, 105, 110, 105, 116, 95, 95, 9, 44, 95, 102, 114, 111, 122, 101, 110, 95, 105, 109, 112, 111, 114, 116, 108, 105, 98, 46, 77, 111, 100, 117, 108, 101, 83, 112, 101, 99, 46, 95, 95, 105, 110, 105, 116, 95, 95, 35, 111, 112, 97, 113, 117, 101, 6, 231, 8, 95, 95, 114, 101, 112, 114, 95, 95, 9, 44, 95, 102, 114, 111, 122, 101, 110, 95, 105, 109, 112, 111, 114, 116, 108, 105, 98, 46, 77, 111, 100, 117, 108, 101, 83, 112, 101, 99, 46, 95, 95, 114, 101, 112, 114, 95, 95, 35, 111, 112, 97, 113, 117, 101, 6, 232, 6, 95, 95, 101, 113, 95, 95, 9, 42, 95, 102, 114, 111, 122, 101, 110, 95, 105, 109, 112, 111, 114, 116, 108, 105, 98, 46, 77, 111, 100, 117, 108, 101, 83, 112, 101, 99, 46, 95, 95, 101, 113, 95, 95, 35, 111, 112, 97, 113, 117, 101, 6, 233, 6, 99, 97, 99, 104, 101, 100, 9, 42, 95, 102, 114, 111, 122, 101, 110, 95, 105, 109, 112, 111, 114, 116, 108, 105, 98, 46, 77, 111, 100, 117, 108, 101, 83, 112, 101, 99, 46, 99, 97, 99, 104, 101, 100, 35, 111, 112, 97, 113, 117, 101, 6, 234, 6, 112, 97, 114, 101, 110, 116, 9, 42, 95, 102, 114, 111, 122, 101, 110, 95, 105, 109, 112, 111, 114, 116, 108, 105, 98, 46, 77, 111, 100, 117, 108, 101, 83, 112, 101, 99, 46, 112, 97, 114, 101, 110, 116, 35, 111, 112, 97, 113, 117, 101, 6, 235, 12, 104, 97, 115, 95, 108, 111, 99, 97, 116, 105, 111, 110, 9, 48, 95, 102, 114, 111, 122, 101, 110, 95, 105, 109, 112, 111, 114, 116, 108, 105, 98, 46, 77, 111, 100, 117, 108, 101, 83, 112, 101, 99, 46, 104, 97, 115, 95, 108, 111, 99, 97, 116, 105, 111, 110, 35, 111, 112, 97, 113, 117, 101, 6, 236, 21, 95, 95, 115, 116, 97, 116, 105, 99, 95, 97, 116, 116, 114, 105, 98, 117, 116, 101, 115, 95, 95, 4, 0, 0, 23, 6, 238, 8, 95, 95, 100, 105, 99, 116, 95, 95, 4, 0, 0, 24, 6, 240, 11, 95, 95, 119, 101, 97, 107, 114, 101, 102, 95, 95, 4, 0, 0, 25, 6, 241, 8, 95, 95, 104, 97, 115, 104, 95, 95, 0]⟩ 0, .bool true, .bool true, .str ⟨#[]⟩ 242].toArray 1, [].toArray⟩
noncomputable def h19v0 (P : Params) : Obj := ⟨.type "list", none, .seq [].toArray 0, [].toArray⟩
noncomputable def h20v0 (P : Params) : Obj := ⟨.type "dict", none, .dict [⟨PyData.keyHash P ⟨#[110, 97, 109, 101]⟩, .str ⟨#[110, 97, 109, 101]⟩ 208, .str ⟨#[95, 115, 114, 101]⟩ 207⟩, ⟨PyData.keyHash P ⟨#[108, 111, 97, 100, 101, 114]⟩, .str ⟨#[108, 111, 97, 100, 101, 114]⟩ 209, .ref 14⟩, ⟨PyData.keyHash P ⟨#[111, 114, 105, 103, 105, 110]⟩, .str ⟨#[111, 114, 105, 103, 105, 110]⟩ 210, .str ⟨#[98, 117, 105, 108, 116, 45, 105, 110]⟩ 184⟩, ⟨PyData.keyHash P ⟨#[108, 111, 97, 100, 101, 114, 95, 115, 116, 97, 116, 101]⟩, .str ⟨#[108, 111, 97, 100, 101, 114, 95, 115, 116, 97, 116, 101]⟩ 211, .none⟩, ⟨PyData.keyHash P ⟨#[115, 117, 98, 109, 111, 100, 117, 108, 101, 95, 115, 101, 97, 114, 99, 104, 95, 108, 111, 99, 97, 116, 105, 111, 110, 115]⟩, .str ⟨#[115, 117, 98, 109, 111, 100, 117, 108, 101, 95, 115, 101, 97, 114, 99, 104, 95, 108, 111, 99, 97, 116, 105, 111, 110, 115]⟩ 212, .none⟩, ⟨PyData.keyHash P ⟨#[95, 117, 110, 105, 110, 105, 116, 105, 97, 108, 105, 122, 101, 100, 95, 115, 117, 98, 109, 111, 100, 117, 108, 101, 115]⟩, .str ⟨#[95, 117, 110, 105, 110, 105, 116, 105, 97, 108, 105, 122, 101, 100, 95, 115, 117, 98, 109, 111, 100, 117, 108, 101, 115]⟩ 213, .ref 19⟩, ⟨PyData.keyHash P ⟨#[95, 115, 101, 116, 95, 102, 105, 108, 101, 97, 116, 116, 114]⟩, .str ⟨#[95, 115, 101, 116, 95, 102, 105, 108, 101, 97, 116, 116, 114]⟩ 214, .bool false⟩, ⟨PyData.keyHash P ⟨#[95, 99, 97, 99, 104, 101, 100]⟩, .str ⟨#[95, 99, 97, 99, 104, 101, 100]⟩ 215, .none⟩, ⟨PyData.keyHash P ⟨#[95, 105, 110, 105, 116, 105, 97, 108, 105, 122, 105, 110, 103]⟩, .str ⟨#[95, 105, 110, 105, 116, 105, 97, 108, 105, 122, 105, 110, 103]⟩ 243, .bool false⟩].toArray 9, [].toArray⟩
noncomputable def h21v0 (P : Params) : Obj := ⟨.type "dict", none, .dict [⟨PyData.keyHash P ⟨#[95, 95, 109, 111, 100, 117, 108, 101, 95, 95]⟩, .str ⟨#[95, 95, 109, 111, 100, 117, 108, 101, 95, 95]⟩ 227, .str ⟨#[95, 102, 114, 111, 122, 101, 110, 95, 105, 109, 112, 111, 114, 116, 108, 105, 98]⟩ 217⟩, ⟨PyData.keyHash P ⟨#[95, 95, 102, 105, 114, 115, 116, 108, 105, 110, 101, 110, 111, 95, 95]⟩, .str ⟨#[95, 95, 102, 105, 114, 115, 116, 108, 105, 110, 101, 110, 111, 95, 95]⟩ 228, .int 562 218⟩, ⟨PyData.keyHash P ⟨#[95, 95, 100, 111, 99, 95, 95]⟩, .str ⟨#[95, 95, 100, 111, 99, 95, 95]⟩ 229, .builtin "_frozen_importlib.ModuleSpec.__doc__:str#opaque"⟩, ⟨PyData.keyHash P ⟨#[95, 95, 105, 110, 105, 116, 95, 95]⟩, .str ⟨#[95, 95, 105, 110, 105, 116, 95, 95]⟩ 230, .builtin "_frozen_importlib.ModuleSpec.__init__#opaque"⟩, ⟨PyData.keyHash P ⟨#[95, 95, 114, 101, 112, 114, 95, 95]⟩, .str ⟨#[95, 95, 114, 101, 112, 114, 95, 95]⟩ 231, .builtin "_frozen_importlib.ModuleSpec.__repr__#opaque"⟩, ⟨PyData.keyHash P ⟨#[95, 95, 101, 113, 95, 95]⟩, .str ⟨#[95, 95, 101, 113, 95, 95]⟩ 232, .builtin "_frozen_importlib.ModuleSpec.__eq__#opaque"⟩, ⟨PyData.keyHash P ⟨#[99, 97, 99, 104, 101, 100]⟩, .str ⟨#[99, 97, 99, 104, 101, 100]⟩ 233, .builtin "_frozen_importlib.ModuleSpec.cached#opaque"⟩, ⟨PyData.keyHash P ⟨#[112, 97, 114, 101, 110, 116]⟩, .str ⟨#[112, 97, 114, 101, 110, 116]⟩ 234, .builtin "_frozen_importlib.ModuleSpec.parent#opaque"⟩, ⟨PyData.keyHash P ⟨#[104, 97, 115, 95, 108, 111, 99, 97, 116, 105, 111, 110]⟩, .str ⟨#[104, 97, 115, 95, 108, 111, 99, 97, 116, 105, 111, 110]⟩ 235, .builtin "_frozen_importlib.ModuleSpec.has_location#opaque"⟩, ⟨PyData.keyHash P ⟨#[95, 95, 115, 116, 97, 116, 105, 99, 95, 97, 116, 116, 114, 105, 98, 117, 116, 101, 115, 95, 95]⟩, .str ⟨#[95, 95, 115, 116, 97, 116, 105, 99, 95, 97, 116, 116, 114, 105, 98, 117, 116, 101, 115, 95, 95]⟩ 236, .ref 23⟩, ⟨PyData.keyHash P ⟨#[95, 95, 100, 105, 99, 116, 95, 95]⟩, .str ⟨#[95, 95, 100, 105, 99, 116, 95, 95]⟩ 238, .ref 24⟩, ⟨PyData.keyHash P ⟨#[95, 95, 119, 101, 97, 107, 114, 101, 102, 95, 95]⟩, .str ⟨#[95, 95, 119, 101, 97, 107, 114, 101, 102, 95, 95]⟩ 240, .ref 25⟩, ⟨PyData.keyHash P ⟨#[95, 95, 104, 97, 115, 104, 95, 95]⟩, .str ⟨#[95, 95, 104, 97, 115, 104, 95, 95]⟩ 241, .none⟩].toArray 13, [].toArray⟩
noncomputable def h22v0 (P : Params) : Obj := ⟨.type "type", none, .cls { name := ⟨#[77, 111, 100, 117, 108, 101, 83, 112, 101, 99]⟩, bases := [.type "object"], mro := [.ref 22, .type "object"], ns := 21, qualname := ⟨#[77, 111, 100, 117, 108, 101, 83, 112, 101, 99]⟩, hasDict := true, slotNames := [], subclasses := [], abstract := false, collection := none, hasDel := false }, [].toArray⟩
noncomputable def h23v0 (P : Params) : Obj := ⟨.type "tuple", none, .seq [.str ⟨#[95, 99, 97, 99, 104, 101, 100]⟩ 219, .str ⟨#[95, 115, 101, 116, 95, 102, 105, 108, 101, 97, 116, 116, 114]⟩ 220, .str ⟨#[95, 117, 110, 105, 110, 105, 116, 105, 97, 108, 105, 122, 101, 100, 95, 115, 117, 98, 109, 111, 100, 117, 108, 101, 115]⟩ 221, .str ⟨#[108, 111, 97, 100, 101, 114]⟩ 222, .str ⟨#[108, 111, 97, 100, 101, 114, 95, 115, 116, 97, 116, 101]⟩ 223, .str ⟨#[110, 97, 109, 101]⟩ 224, .str ⟨#[111, 114, 105, 103, 105, 110]⟩ 225, .str ⟨#[115, 117, 98, 109, 111, 100, 117, 108, 101, 95, 115, 101, 97, 114, 99, 104, 95, 108, 111, 99, 97, 116, 105, 111, 110, 115]⟩ 226].toArray 0, [].toArray⟩
noncomputable def h24v0 (P : Params) : Obj := ⟨.type "getset_descriptor", none, .fields [.str ⟨#[95, 95, 100, 105, 99, 116, 95, 95]⟩ 237, .ref 22, .builtin "function.__dict__", .builtin "function.__dict__#set"].toArray, [].toArray⟩
noncomputable def h25v0 (P : Params) : Obj := ⟨.type "getset_descriptor", none, .fields [.str ⟨#[95, 95, 119, 101, 97, 107, 114, 101, 102, 95, 95]⟩ 239, .ref 22, .builtin "ExceptionGroup.__weakref__", .none].toArray, [].toArray⟩
noncomputable def h26v0 (P : Params) : Obj := ⟨.ref 22, (some 20), .plain, [].toArray⟩
noncomputable def h27v0 (P : Params) : Obj := ⟨.none, none, .seq [.int 11 0, .str ⟨#[6, 247, 8, 95, 95, 110, 97, 109, 101, 95, 95, 6, 246, 4, 95, 115, 114, 101, 6, 248, 7, 95, 95, 100, 111, 99, 95, 95, 0, 6, 250, 11, 95, 95, 112, 97, 99, 107, 97, 103, 101, 95, 95, 6, 249, 0, 6, 251, 10, 95, 95, 108, 111, 97, 100, 101, 114, 95, 95, 4, 0, 0, 14, 6, 252, 8, 95, 95, 115, 112, 101, 99, 95, 95, 4, 0, 0, 26, 6, 253, 7, 99, 111, 109, 112, 105, 108, 101, 9, 12, 95, 115, 114, 101, 46, 99, 111, 109, 112, 105, 108, 101, 6, 254, 8, 116, 101, 109, 112, 108, 97, 116, 101, 9, 13, 95, 115, 114, 101, 46, 116, 101, 109, 112, 108, 97, 116, 101, 6, 255, 11, 103, 101, 116, 99, 111, 100, 101, 115, 105, 122, 101, 9, 16, 95, 115, 114, 101, 46, 103, 101, 116, 99, 111, 100, 101, 115, 105, 122, 101, 6, 256, 13, 97, 115, 99, 105, 105, 95, 105, 115, 99, 97, 115, 101, 100, 9, 18, 95, 115, 114, 101, 46, 97, 115, 99, 105, 105, 95, 105, 115, 99, 97, 115, 101, 100, 6, 257, 15, 117, 110, 105, 99, 111, 100, 101, 95, 105, 115, 99, 97, 115, 101, 100, 9, 20, 95, 115, 114, 101, 46, 117, 110, 105, 99, 111, 100, 101, 95, 105, 115, 99, 97, 115, 101, 100, 6, 258, 13, 97, 115, 99, 105, 105, 95, 116, 111, 108, 111, 119, 101, 114, 9, 18, 95, 115, 114, 101, 46, 97, 115, 99, 105, 105, 95, 116, 111, 108, 111, 119, 101, 114, 6, 259, 15, 117, 110, 105, 99, 111, 100, 101, 95, 116, 111, 108, 111, 119, 101, 114, 9, 20, 95, 115, 114, 101, 46, 117, 110, 105, 99, 111, 100, 101, 95, 116, 111, 108, 111, 119, 101, 114, 6, 261, 5, 77, 65, 71, 73, 67, 4, 260, 0, 20230612, 6, 263, 8, 67, 79, 68, 69, 83, 73, 90, 69, 4, 262, 0, 4, 6, 265, 9, 77, 65, 88, 82, 69, 80, 69, 65, 84, 4, 264, 0, 4294967295, 6, 267, 9, 77, 65, 88, 71, 82, 79, 85, 80, 83, 4, 266, 0, 1073741823, 6, 269, 9, 99, 111, 112, 121, 114, 105, 103, 104, 116, 6, 268, 53, 32, 83, 82, 69, 32, 50, 46, 50, 46, 50, 32, 67, 111, 112, 121, 114, 105, 103, 104, 116, 32, 40, 99, 41, 32, 49, 57, 57, 55, 45, 50, 48, 48, 50, 32, 98, 121, 32, 83, 101, 99, 114, 101, 116, 32, 76, 97, 98, 115, 32, 65, 66, 32]⟩ 0, .bool true, .bool false, .str ⟨#[95, 115, 114, 101]⟩ 271].toArray 0, [].toArray⟩
noncomputable def h28v0 (P : Params) : Obj := ⟨.type "tuple", none, .seq [].toArray 0, [].toArray⟩
noncomputable def h29v0 (P : Params) : Obj := ⟨.none, none, .fields [].toArray, [].toArray⟩
noncomputable def h30v0 (P : Params) : Obj := ⟨.type "code", none, .fields [.str ⟨#[60, 109, 111, 100, 117, 108, 101, 62]⟩ 277, .str ⟨#[60, 109, 111, 100, 117, 108, 101, 62]⟩ 278, .str ⟨#[47, 99, 108, 97, 105, 109, 47, 99, 117, 116, 46, 112, 121]⟩ 279, .int 1 0, .int 0 0, .int 0 0, .int 0 0, .int 0 0, .ref 28, .bool false, .int 276 0, .ref 29, .none, .none, .none, .none, .int 280 0, .int 1 0, .str ⟨#[47, 99, 108, 97, 105, 109, 47, 99, 117, 116, 46, 112, 121]⟩ 281].toArray, [].toArray⟩
noncomputable def h31v0 (P : Params) : Obj := ⟨.type "frame", none, .plain, [some (.ref 30), some (.ref 3), some (.ref 3), none, some (.str ⟨#[95, 95, 109, 97, 105, 110, 95, 95]⟩ 164), none, some (.ref 0)].toArray⟩
noncomputable def h3v1 (P : Params) : Obj := ⟨.type "dict", none, .dict [⟨PyData.keyHash P ⟨#[95, 95, 110, 97, 109, 101, 95, 95]⟩, .str ⟨#[95, 95, 110, 97, 109, 101, 95, 95]⟩ 165, .str ⟨#[99, 112, 121, 51, 49, 51, 46, 117, 114, 108, 108, 105, 98, 46, 114, 111, 98, 111, 116, 112, 97, 114, 115, 101, 114]⟩ 289⟩, ⟨PyData.keyHash P ⟨#[95, 95, 100, 111, 99, 95, 95]⟩, .str ⟨#[95, 95, 100, 111, 99, 95, 95]⟩ 166, .none⟩, ⟨PyData.keyHash P ⟨#[95, 95, 112, 97, 99, 107, 97, 103, 101, 95, 95]⟩, .str ⟨#[95, 95, 112, 97, 99, 107, 97, 103, 101, 95, 95]⟩ 167, .none⟩, ⟨PyData.keyHash P ⟨#[95, 95, 108, 111, 97, 100, 101, 114, 95, 95]⟩, .str ⟨#[95, 95, 108, 111, 97, 100, 101, 114, 95, 95]⟩ 168, .builtin "__main__.__loader__#opaque"⟩, ⟨PyData.keyHash P ⟨#[95, 95, 115, 112, 101, 99, 95, 95]⟩, .str ⟨#[95, 95, 115, 112, 101, 99, 95, 95]⟩ 169, .none⟩, ⟨PyData.keyHash P ⟨#[95, 95, 97, 110, 110, 111, 116, 97, 116, 105, 111, 110, 115, 95, 95]⟩, .str ⟨#[95, 95, 97, 110, 110, 111, 116, 97, 116, 105, 111, 110, 115, 95, 95]⟩ 170, .ref 6⟩, ⟨PyData.keyHash P ⟨#[95, 95, 98, 117, 105, 108, 116, 105, 110, 115, 95, 95]⟩, .str ⟨#[95, 95, 98, 117, 105, 108, 116, 105, 110, 115, 95, 95]⟩ 171, .ref 4⟩, ⟨PyData.keyHash P ⟨#[95, 95, 102, 105, 108, 101, 95, 95]⟩, .str ⟨#[95, 95, 102, 105, 108, 101, 95, 95]⟩ 173, .str ⟨#[47, 99, 108, 97, 105, 109, 47, 99, 117, 116, 46, 112, 121]⟩ 172⟩, ⟨PyData.keyHash P ⟨#[95, 95, 99, 97, 99, 104, 101, 100, 95, 95]⟩, .str ⟨#[95, 95, 99, 97, 99, 104, 101, 100, 95, 95]⟩ 174, .none⟩, ⟨PyData.keyHash P ⟨#[95, 115, 114, 101]⟩, .str ⟨#[95, 115, 114, 101]⟩ 275, .ref 12⟩, ⟨PyData.keyHash P ⟨#[95, 119, 97, 108, 108]⟩, .str ⟨#[95, 119, 97, 108, 108]⟩ 288, .ref 38⟩, ⟨PyData.keyHash P ⟨#[69, 110, 116, 114, 121]⟩, .str ⟨#[69, 110, 116, 114, 121]⟩ 348, .ref 76⟩, ⟨PyData.keyHash P ⟨#[109, 101, 114, 103, 101, 95, 101, 110, 116, 114, 105, 101, 115]⟩, .str ⟨#[109, 101, 114, 103, 101, 95, 101, 110, 116, 114, 105, 101, 115]⟩ 357, .ref 87⟩, ⟨PyData.keyHash P ⟨#[95, 116, 119, 105, 110, 95, 114, 101, 95, 49]⟩, .str ⟨#[95, 116, 119, 105, 110, 95, 114, 101, 95, 49]⟩ 392, .ref 92⟩, ⟨PyData.keyHash P ⟨#[78, 76]⟩, .str ⟨#[78, 76]⟩ 394, .str ⟨#[10]⟩ 393⟩].toArray 15, [].toArray⟩
noncomputable def h29v1 (P : Params) : Obj := ⟨.none, none, .fields [.int 2 0, .int 0 0, .ref 37, .int 6 0, .int 0 0, .ref 44, .int 44 0, .int 0 0, .ref 86].toArray, [].toArray⟩
noncomputable def h32v0 (P : Params) : Obj := ⟨.type "tuple", none, .seq [].toArray 0, [].toArray⟩
noncomputable def h33v0 (P : Params) : Obj := ⟨.none, none, .fields [].toArray, [].toArray⟩
noncomputable def h34v0 (P : Params) : Obj := ⟨.type "tuple", none, .seq [.str ⟨#[107]⟩ 285].toArray 0, [].toArray⟩
noncomputable def h35v0 (P : Params) : Obj := ⟨.type "tuple", none, .seq [].toArray 0, [].toArray⟩
noncomputable def h36v0 (P : Params) : Obj := fnT (stAt 0) ⟨#[95, 119, 97, 108, 108]⟩ ⟨#[95, 119, 97, 108, 108]⟩
noncomputable def h37v0 (P : Params) : Obj := ⟨.type "code", none, .fields [.str ⟨#[95, 119, 97, 108, 108]⟩ 282, .str ⟨#[95, 119, 97, 108, 108]⟩ 283, .str ⟨#[47, 99, 108, 97, 105, 109, 47, 99, 117, 116, 46, 112, 121]⟩ 284, .int 2 0, .int 1 0, .int 0 0, .int 0 0, .int 3 0, .ref 32, .bool true, .int 276 0, .ref 33, .none, .ref 34, .ref 35, .ref 36, .int 286 0, .int 2 0, .str ⟨#[47, 99, 108, 97, 105, 109, 47, 99, 117, 116, 46, 112, 121]⟩ 287].toArray, [].toArray⟩
noncomputable def h38v0 (P : Params) : Obj := fnO (stAt 0) ⟨#[95, 119, 97, 108, 108]⟩ ⟨#[95, 119, 97, 108, 108]⟩ (.none) (.str ⟨#[95, 95, 109, 97, 105, 110, 95, 95]⟩ 164) (.ref 37)
noncomputable def h39v0 (P : Params) : Obj := ⟨.type "tuple", none, .seq [].toArray 0, [].toArray⟩
noncomputable def h40v0 (P : Params) : Obj := ⟨.type "builtin_function_or_method", none, .fields [.builtin "type.__prepare__", .type "type"].toArray, [].toArray⟩
noncomputable def h41v0 (P : Params) : Obj := ⟨.type "dict", none, .dict [⟨PyData.keyHash P ⟨#[95, 95, 109, 111, 100, 117, 108, 101, 95, 95]⟩, .str ⟨#[95, 95, 109, 111, 100, 117, 108, 101, 95, 95]⟩ 298, .str ⟨#[99, 112, 121, 51, 49, 51, 46, 117, 114, 108, 108, 105, 98, 46, 114, 111, 98, 111, 116, 112, 97, 114, 115, 101, 114]⟩ 289⟩, ⟨PyData.keyHash P ⟨#[95, 95, 113, 117, 97, 108, 110, 97, 109, 101, 95, 95]⟩, .str ⟨#[95, 95, 113, 117, 97, 108, 110, 97, 109, 101, 95, 95]⟩ 300, .str ⟨#[69, 110, 116, 114, 121]⟩ 299⟩, ⟨PyData.keyHash P ⟨#[95, 95, 102, 105, 114, 115, 116, 108, 105, 110, 101, 110, 111, 95, 95]⟩, .str ⟨#[95, 95, 102, 105, 114, 115, 116, 108, 105, 110, 101, 110, 111, 95, 95]⟩ 302, .int 6 301⟩, ⟨PyData.keyHash P ⟨#[95, 95, 105, 110, 105, 116, 95, 95]⟩, .str ⟨#[95, 95, 105, 110, 105, 116, 95, 95]⟩ 309, .ref 52⟩, ⟨PyData.keyHash P ⟨#[95, 95, 115, 116, 114, 95, 95]⟩, .str ⟨#[95, 95, 115, 116, 114, 95, 95]⟩ 319, .ref 59⟩, ⟨PyData.keyHash P ⟨#[97, 112, 112, 108, 105, 101, 115, 95, 116, 111]⟩, .str ⟨#[97, 112, 112, 108, 105, 101, 115, 95, 116, 111]⟩ 328, .ref 66⟩, ⟨PyData.keyHash P ⟨#[97, 108, 108, 111, 119, 97, 110, 99, 101]⟩, .str ⟨#[97, 108, 108, 111, 119, 97, 110, 99, 101]⟩ 336, .ref 73⟩, ⟨PyData.keyHash P ⟨#[95, 95, 115, 116, 97, 116, 105, 99, 95, 97, 116, 116, 114, 105, 98, 117, 116, 101, 115, 95, 95]⟩, .str ⟨#[95, 95, 115, 116, 97, 116, 105, 99, 95, 97, 116, 116, 114, 105, 98, 117, 116, 101, 115, 95, 95]⟩ 341, .ref 74⟩].toArray 8, [].toArray⟩
noncomputable def h42v0 (P : Params) : Obj := ⟨.type "tuple", none, .seq [].toArray 0, [].toArray⟩
noncomputable def h43v0 (P : Params) : Obj := ⟨.none, none, .fields [.int 8 0, .int 4 0, .ref 51, .int 14 0, .int 4 0, .ref 58, .int 31 0, .int 4 0, .ref 65, .int 42 0, .int 4 0, .ref 72].toArray, [].toArray⟩
noncomputable def h44v0 (P : Params) : Obj := ⟨.type "code", none, .fields [.str ⟨#[69, 110, 116, 114, 121]⟩ 293, .str ⟨#[69, 110, 116, 114, 121]⟩ 294, .str ⟨#[47, 99, 108, 97, 105, 109, 47, 99, 117, 116, 46, 112, 121]⟩ 295, .int 6 0, .int 0 0, .int 0 0, .int 0 0, .int 0 0, .ref 42, .bool false, .int 276 0, .ref 43, .none, .none, .none, .none, .int 296 0, .int 6 0, .str ⟨#[47, 99, 108, 97, 105, 109, 47, 99, 117, 116, 46, 112, 121]⟩ 297].toArray, [].toArray⟩
noncomputable def h45v0 (P : Params) : Obj := ⟨.type "frame", none, .plain, [some (.ref 44), some (.ref 3), some (.ref 41), none, some (.str ⟨#[99, 112, 121, 51, 49, 51, 46, 117, 114, 108, 108, 105, 98, 46, 114, 111, 98, 111, 116, 112, 97, 114, 115, 101, 114]⟩ 289), none, some (.ref 0)].toArray⟩
noncomputable def h46v0 (P : Params) : Obj := ⟨.type "tuple", none, .seq [].toArray 0, [].toArray⟩
noncomputable def h47v0 (P : Params) : Obj := ⟨.none, none, .fields [].toArray, [].toArray⟩
noncomputable def h48v0 (P : Params) : Obj := ⟨.type "tuple", none, .seq [.str ⟨#[115, 101, 108, 102]⟩ 306].toArray 0, [].toArray⟩
noncomputable def h49v0 (P : Params) : Obj := ⟨.type "tuple", none, .seq [].toArray 0, [].toArray⟩
noncomputable def h50v0 (P : Params) : Obj := fnT (mtAt 2 0) ⟨#[95, 95, 105, 110, 105, 116, 95, 95]⟩ ⟨#[69, 110, 116, 114, 121, 46, 95, 95, 105, 110, 105, 116, 95, 95]⟩
noncomputable def h51v0 (P : Params) : Obj := ⟨.type "code", none, .fields [.str ⟨#[95, 95, 105, 110, 105, 116, 95, 95]⟩ 303, .str ⟨#[69, 110, 116, 114, 121, 46, 95, 95, 105, 110, 105, 116, 95, 95]⟩ 304, .str ⟨#[47, 99, 108, 97, 105, 109, 47, 99, 117, 116, 46, 112, 121]⟩ 305, .int 8 0, .int 1 0, .int 0 0, .int 0 0, .int 3 0, .ref 46, .bool true, .int 276 0, .ref 47, .none, .ref 48, .ref 49, .ref 50, .int 307 0, .int 8 0, .str ⟨#[47, 99, 108, 97, 105, 109, 47, 99, 117, 116, 46, 112, 121]⟩ 308].toArray, [].toArray⟩
noncomputable def h52v0 (P : Params) : Obj := fnO (mtAt 2 0) ⟨#[95, 95, 105, 110, 105, 116, 95, 95]⟩ ⟨#[69, 110, 116, 114, 121, 46, 95, 95, 105, 110, 105, 116, 95, 95]⟩ (.none) (.str ⟨#[99, 112, 121, 51, 49, 51, 46, 117, 114, 108, 108, 105, 98, 46, 114, 111, 98, 111, 116, 112, 97, 114, 115, 101, 114]⟩ 289) (.ref 51)
noncomputable def h53v0 (P : Params) : Obj := ⟨.type "tuple", none, .seq [].toArray 0, [].toArray⟩
noncomputable def h54v0 (P : Params) : Obj := ⟨.none, none, .fields [].toArray, [].toArray⟩
noncomputable def h55v0 (P : Params) : Obj := ⟨.type "tuple", none, .seq [.str ⟨#[115, 101, 108, 102]⟩ 313, .str ⟨#[114, 101, 116]⟩ 314, .str ⟨#[97, 103, 101, 110, 116]⟩ 315, .str ⟨#[114, 97, 116, 101]⟩ 316].toArray 0, [].toArray⟩
noncomputable def h56v0 (P : Params) : Obj := ⟨.type "tuple", none, .seq [].toArray 0, [].toArray⟩
noncomputable def h57v0 (P : Params) : Obj := fnT (mtAt 2 1) ⟨#[95, 95, 115, 116, 114, 95, 95]⟩ ⟨#[69, 110, 116, 114, 121, 46, 95, 95, 115, 116, 114, 95, 95]⟩
noncomputable def h58v0 (P : Params) : Obj := ⟨.type "code", none, .fields [.str ⟨#[95, 95, 115, 116, 114, 95, 95]⟩ 310, .str ⟨#[69, 110, 116, 114, 121, 46, 95, 95, 115, 116, 114, 95, 95]⟩ 311, .str ⟨#[47, 99, 108, 97, 105, 109, 47, 99, 117, 116, 46, 112, 121]⟩ 312, .int 14 0, .int 1 0, .int 0 0, .int 0 0, .int 3 0, .ref 53, .bool true, .int 276 0, .ref 54, .none, .ref 55, .ref 56, .ref 57, .int 317 0, .int 14 0, .str ⟨#[47, 99, 108, 97, 105, 109, 47, 99, 117, 116, 46, 112, 121]⟩ 318].toArray, [].toArray⟩
noncomputable def h59v0 (P : Params) : Obj := fnO (mtAt 2 1) ⟨#[95, 95, 115, 116, 114, 95, 95]⟩ ⟨#[69, 110, 116, 114, 121, 46, 95, 95, 115, 116, 114, 95, 95]⟩ (.none) (.str ⟨#[99, 112, 121, 51, 49, 51, 46, 117, 114, 108, 108, 105, 98, 46, 114, 111, 98, 111, 116, 112, 97, 114, 115, 101, 114]⟩ 289) (.ref 58)
noncomputable def h60v0 (P : Params) : Obj := ⟨.type "tuple", none, .seq [].toArray 0, [].toArray⟩
noncomputable def h61v0 (P : Params) : Obj := ⟨.none, none, .fields [].toArray, [].toArray⟩
noncomputable def h62v0 (P : Params) : Obj := ⟨.type "tuple", none, .seq [.str ⟨#[115, 101, 108, 102]⟩ 323, .str ⟨#[117, 115, 101, 114, 97, 103, 101, 110, 116]⟩ 324, .str ⟨#[97, 103, 101, 110, 116]⟩ 325].toArray 0, [].toArray⟩
noncomputable def h63v0 (P : Params) : Obj := ⟨.type "tuple", none, .seq [].toArray 0, [].toArray⟩
noncomputable def h64v0 (P : Params) : Obj := fnT (mtAt 2 2) ⟨#[97, 112, 112, 108, 105, 101, 115, 95, 116, 111]⟩ ⟨#[69, 110, 116, 114, 121, 46, 97, 112, 112, 108, 105, 101, 115, 95, 116, 111]⟩
noncomputable def h65v0 (P : Params) : Obj := ⟨.type "code", none, .fields [.str ⟨#[97, 112, 112, 108, 105, 101, 115, 95, 116, 111]⟩ 320, .str ⟨#[69, 110, 116, 114, 121, 46, 97, 112, 112, 108, 105, 101, 115, 95, 116, 111]⟩ 321, .str ⟨#[47, 99, 108, 97, 105, 109, 47, 99, 117, 116, 46, 112, 121]⟩ 322, .int 31 0, .int 2 0, .int 0 0, .int 0 0, .int 3 0, .ref 60, .bool true, .int 276 0, .ref 61, .none, .ref 62, .ref 63, .ref 64, .int 326 0, .int 31 0, .str ⟨#[47, 99, 108, 97, 105, 109, 47, 99, 117, 116, 46, 112, 121]⟩ 327].toArray, [].toArray⟩
noncomputable def h66v0 (P : Params) : Obj := fnO (mtAt 2 2) ⟨#[97, 112, 112, 108, 105, 101, 115, 95, 116, 111]⟩ ⟨#[69, 110, 116, 114, 121, 46, 97, 112, 112, 108, 105, 101, 115, 95, 116, 111]⟩ (.none) (.str ⟨#[99, 112, 121, 51, 49, 51, 46, 117, 114, 108, 108, 105, 98, 46, 114, 111, 98, 111, 116, 112, 97, 114, 115, 101, 114]⟩ 289) (.ref 65)
noncomputable def h67v0 (P : Params) : Obj := ⟨.type "tuple", none, .seq [].toArray 0, [].toArray⟩
noncomputable def h68v0 (P : Params) : Obj := ⟨.none, none, .fields [].toArray, [].toArray⟩
noncomputable def h69v0 (P : Params) : Obj := ⟨.type "tuple", none, .seq [.str ⟨#[115, 101, 108, 102]⟩ 332, .str ⟨#[102, 105, 108, 101, 110, 97, 109, 101]⟩ 333].toArray 0, [].toArray⟩
noncomputable def h70v0 (P : Params) : Obj := ⟨.type "tuple", none, .seq [].toArray 0, [].toArray⟩
noncomputable def h71v0 (P : Params) : Obj := fnT (mtAt 2 3) ⟨#[97, 108, 108, 111, 119, 97, 110, 99, 101]⟩ ⟨#[69, 110, 116, 114, 121, 46, 97, 108, 108, 111, 119, 97, 110, 99, 101]⟩
noncomputable def h72v0 (P : Params) : Obj := ⟨.type "code", none, .fields [.str ⟨#[97, 108, 108, 111, 119, 97, 110, 99, 101]⟩ 329, .str ⟨#[69, 110, 116, 114, 121, 46, 97, 108, 108, 111, 119, 97, 110, 99, 101]⟩ 330, .str ⟨#[47, 99, 108, 97, 105, 109, 47, 99, 117, 116, 46, 112, 121]⟩ 331, .int 42 0, .int 2 0, .int 0 0, .int 0 0, .int 3 0, .ref 67, .bool true, .int 276 0, .ref 68, .none, .ref 69, .ref 70, .ref 71, .int 334 0, .int 42 0, .str ⟨#[47, 99, 108, 97, 105, 109, 47, 99, 117, 116, 46, 112, 121]⟩ 335].toArray, [].toArray⟩
noncomputable def h73v0 (P : Params) : Obj := fnO (mtAt 2 3) ⟨#[97, 108, 108, 111, 119, 97, 110, 99, 101]⟩ ⟨#[69, 110, 116, 114, 121, 46, 97, 108, 108, 111, 119, 97, 110, 99, 101]⟩ (.none) (.str ⟨#[99, 112, 121, 51, 49, 51, 46, 117, 114, 108, 108, 105, 98, 46, 114, 111, 98, 111, 116, 112, 97, 114, 115, 101, 114]⟩ 289) (.ref 72)
noncomputable def h74v0 (P : Params) : Obj := ⟨.type "tuple", none, .seq [.str ⟨#[100, 101, 108, 97, 121]⟩ 337, .str ⟨#[114, 101, 113, 95, 114, 97, 116, 101]⟩ 338, .str ⟨#[114, 117, 108, 101, 108, 105, 110, 101, 115]⟩ 339, .str ⟨#[117, 115, 101, 114, 97, 103, 101, 110, 116, 115]⟩ 340].toArray 0, [].toArray⟩
noncomputable def h75v0 (P : Params) : Obj := ⟨.type "dict", none, .dict [⟨PyData.keyHash P ⟨#[95, 95, 109, 111, 100, 117, 108, 101, 95, 95]⟩, .str ⟨#[95, 95, 109, 111, 100, 117, 108, 101, 95, 95]⟩ 298, .str ⟨#[99, 112, 121, 51, 49, 51, 46, 117, 114, 108, 108, 105, 98, 46, 114, 111, 98, 111, 116, 112, 97, 114, 115, 101, 114]⟩ 289⟩, ⟨PyData.keyHash P ⟨#[95, 95, 102, 105, 114, 115, 116, 108, 105, 110, 101, 110, 111, 95, 95]⟩, .str ⟨#[95, 95, 102, 105, 114, 115, 116, 108, 105, 110, 101, 110, 111, 95, 95]⟩ 302, .int 6 301⟩, ⟨PyData.keyHash P ⟨#[95, 95, 105, 110, 105, 116, 95, 95]⟩, .str ⟨#[95, 95, 105, 110, 105, 116, 95, 95]⟩ 309, .ref 52⟩, ⟨PyData.keyHash P ⟨#[95, 95, 115, 116, 114, 95, 95]⟩, .str ⟨#[95, 95, 115, 116, 114, 95, 95]⟩ 319, .ref 59⟩, ⟨PyData.keyHash P ⟨#[97, 112, 112, 108, 105, 101, 115, 95, 116, 111]⟩, .str ⟨#[97, 112, 112, 108, 105, 101, 115, 95, 116, 111]⟩ 328, .ref 66⟩, ⟨PyData.keyHash P ⟨#[97, 108, 108, 111, 119, 97, 110, 99, 101]⟩, .str ⟨#[97, 108, 108, 111, 119, 97, 110, 99, 101]⟩ 336, .ref 73⟩, ⟨PyData.keyHash P ⟨#[95, 95, 115, 116, 97, 116, 105, 99, 95, 97, 116, 116, 114, 105, 98, 117, 116, 101, 115, 95, 95]⟩, .str ⟨#[95, 95, 115, 116, 97, 116, 105, 99, 95, 97, 116, 116, 114, 105, 98, 117, 116, 101, 115, 95, 95]⟩ 341, .ref 74⟩, ⟨PyData.keyHash P ⟨#[95, 95, 100, 105, 99, 116, 95, 95]⟩, .str ⟨#[95, 95, 100, 105, 99, 116, 95, 95]⟩ 343, .ref 77⟩, ⟨PyData.keyHash P ⟨#[95, 95, 119, 101, 97, 107, 114, 101, 102, 95, 95]⟩, .str ⟨#[95, 95, 119, 101, 97, 107, 114, 101, 102, 95, 95]⟩ 345, .ref 78⟩, ⟨PyData.keyHash P ⟨#[95, 95, 100, 111, 99, 95, 95]⟩, .str ⟨#[95, 95, 100, 111, 99, 95, 95]⟩ 346, .none⟩].toArray 4, [].toArray⟩
noncomputable def h76v0 (P : Params) : Obj := ⟨.type "type", none, .cls { name := ⟨#[69, 110, 116, 114, 121]⟩, bases := [.type "object"], mro := [.ref 76, .type "object"], ns := 75, qualname := ⟨#[69, 110, 116, 114, 121]⟩, hasDict := true, slotNames := [], subclasses := [], abstract := false, collection := none, hasDel := false }, [none, none, some (.str ⟨#[69, 110, 116, 114, 121]⟩ 291), some (.str ⟨#[69, 110, 116, 114, 121]⟩ 299), some (.builtin "object.__new__"), some (.bool true)].toArray⟩
noncomputable def h77v0 (P : Params) : Obj := ⟨.type "getset_descriptor", none, .fields [.str ⟨#[95, 95, 100, 105, 99, 116, 95, 95]⟩ 342, .ref 76, .builtin "function.__dict__", .builtin "function.__dict__#set"].toArray, [].toArray⟩
noncomputable def h78v0 (P : Params) : Obj := ⟨.type "getset_descriptor", none, .fields [.str ⟨#[95, 95, 119, 101, 97, 107, 114, 101, 102, 95, 95]⟩ 344, .ref 76, .builtin "ExceptionGroup.__weakref__", .none].toArray, [].toArray⟩
noncomputable def h79v0 (P : Params) : Obj := ⟨.type "super", none, .fields [.ref 76, .ref 76, .ref 76].toArray, [].toArray⟩
noncomputable def h80v0 (P : Params) : Obj := ⟨.type "builtin_function_or_method", none, .fields [.builtin "object.__init_subclass__", .ref 76].toArray, [].toArray⟩
noncomputable def h81v0 (P : Params) : Obj := ⟨.type "tuple", none, .seq [].toArray 0, [].toArray⟩
noncomputable def h82v0 (P : Params) : Obj := ⟨.none, none, .fields [].toArray, [].toArray⟩
noncomputable def h83v0 (P : Params) : Obj := ⟨.type "tuple", none, .seq [.str ⟨#[101, 49]⟩ 352, .str ⟨#[101, 50]⟩ 353, .str ⟨#[101, 110, 116, 114, 121]⟩ 354].toArray 0, [].toArray⟩
noncomputable def h84v0 (P : Params) : Obj := ⟨.type "tuple", none, .seq [].toArray 0, [].toArray⟩
noncomputable def h85v0 (P : Params) : Obj := fnT (stAt 3) ⟨#[109, 101, 114, 103, 101, 95, 101, 110, 116, 114, 105, 101, 115]⟩ ⟨#[109, 101, 114, 103, 101, 95, 101, 110, 116, 114, 105, 101, 115]⟩
noncomputable def h86v0 (P : Params) : Obj := ⟨.type "code", none, .fields [.str ⟨#[109, 101, 114, 103, 101, 95, 101, 110, 116, 114, 105, 101, 115]⟩ 349, .str ⟨#[109, 101, 114, 103, 101, 95, 101, 110, 116, 114, 105, 101, 115]⟩ 350, .str ⟨#[47, 99, 108, 97, 105, 109, 47, 99, 117, 116, 46, 112, 121]⟩ 351, .int 44 0, .int 2 0, .int 0 0, .int 0 0, .int 3 0, .ref 81, .bool true, .int 276 0, .ref 82, .none, .ref 83, .ref 84, .ref 85, .int 355 0, .int 44 0, .str ⟨#[47, 99, 108, 97, 105, 109, 47, 99, 117, 116, 46, 112, 121]⟩ 356].toArray, [].toArray⟩
noncomputable def h87v0 (P : Params) : Obj := fnO (stAt 3) ⟨#[109, 101, 114, 103, 101, 95, 101, 110, 116, 114, 105, 101, 115]⟩ ⟨#[109, 101, 114, 103, 101, 95, 101, 110, 116, 114, 105, 101, 115]⟩ (.none) (.str ⟨#[99, 112, 121, 51, 49, 51, 46, 117, 114, 108, 108, 105, 98, 46, 114, 111, 98, 111, 116, 112, 97, 114, 115, 101, 114]⟩ 289) (.ref 86)
noncomputable def h88v0 (P : Params) : Obj := ⟨.type "list", none, .seq [.int 14 361, .int 8 362, .int 1 363, .int 3 364, .int 3 365, .int 1 366, .int 1 367, .int 61 368, .int 0 369, .int 16 370, .int 61 371, .int 24 372, .int 16 373, .int 2 374, .int 2 375, .int 13 376, .int 11 377, .int 9 378, .int 0 379, .int 67043328 380, .int 126 381, .int 126 382, .int 0 383, .int 0 384, .int 0 385, .int 0 386, .int 0 387, .int 1 388, .int 1 389].toArray 0, [].toArray⟩
noncomputable def h89v0 (P : Params) : Obj := ⟨.type "dict", none, .dict [].toArray 0, [].toArray⟩
noncomputable def h90v0 (P : Params) : Obj := ⟨.type "tuple", none, .seq [.none].toArray 0, [].toArray⟩
noncomputable def h91v0 (P : Params) : Obj := ⟨.type "tuple", none, .seq [.int 14 0, .int 8 0, .int 1 0, .int 3 0, .int 3 0, .int 1 0, .int 1 0, .int 61 0, .int 0 0, .int 16 0, .int 61 0, .int 24 0, .int 16 0, .int 2 0, .int 2 0, .int 13 0, .int 11 0, .int 9 0, .int 0 0, .int 67043328 0, .int 126 0, .int 126 0, .int 0 0, .int 0 0, .int 0 0, .int 0 0, .int 0 0, .int 1 0, .int 1 0].toArray 0, [].toArray⟩
noncomputable def h92v0 (P : Params) : Obj := ⟨.type "re.Pattern", none, .fields [.str ⟨#[61, 91, 97, 45, 102, 65, 45, 70, 48, 45, 57, 93, 123, 50, 125]⟩ 359, .int 256 391, .int 0 0, .none, .none, .ref 91, .int 0 0].toArray, [].toArray⟩
noncomputable def h93v0 (P : Params) : Obj := ⟨.type "range", none, .fields [.int 0 396, .int 256 395, .int 1 397].toArray, [].toArray⟩
noncomputable def h3v2 (P : Params) : Obj := ⟨.type "dict", none, .dict [⟨PyData.keyHash P ⟨#[95, 95, 110, 97, 109, 101, 95, 95]⟩, .str ⟨#[95, 95, 110, 97, 109, 101, 95, 95]⟩ 165, .str ⟨#[99, 112, 121, 51, 49, 51, 46, 117, 114, 108, 108, 105, 98, 46, 114, 111, 98, 111, 116, 112, 97, 114, 115, 101, 114]⟩ 289⟩, ⟨PyData.keyHash P ⟨#[95, 95, 100, 111, 99, 95, 95]⟩, .str ⟨#[95, 95, 100, 111, 99, 95, 95]⟩ 166, .none⟩, ⟨PyData.keyHash P ⟨#[95, 95, 112, 97, 99, 107, 97, 103, 101, 95, 95]⟩, .str ⟨#[95, 95, 112, 97, 99, 107, 97, 103, 101, 95, 95]⟩ 167, .none⟩, ⟨PyData.keyHash P ⟨#[95, 95, 108, 111, 97, 100, 101, 114, 95, 95]⟩, .str ⟨#[95, 95, 108, 111, 97, 100, 101, 114, 95, 95]⟩ 168, .builtin "__main__.__loader__#opaque"⟩, ⟨PyData.keyHash P ⟨#[95, 95, 115, 112, 101, 99, 95, 95]⟩, .str ⟨#[95, 95, 115, 112, 101, 99, 95, 95]⟩ 169, .none⟩, ⟨PyData.keyHash P ⟨#[95, 95, 97, 110, 110, 111, 116, 97, 116, 105, 111, 110, 115, 95, 95]⟩, .str ⟨#[95, 95, 97, 110, 110, 111, 116, 97, 116, 105, 111, 110, 115, 95, 95]⟩ 170, .ref 6⟩, ⟨PyData.keyHash P ⟨#[95, 95, 98, 117, 105, 108, 116, 105, 110, 115, 95, 95]⟩, .str ⟨#[95, 95, 98, 117, 105, 108, 116, 105, 110, 115, 95, 95]⟩ 171, .ref 4⟩, ⟨PyData.keyHash P ⟨#[95, 95, 102, 105, 108, 101, 95, 95]⟩, .str ⟨#[95, 95, 102, 105, 108, 101, 95, 95]⟩ 173, .str ⟨#[47, 99, 108, 97, 105, 109, 47, 99, 117, 116, 46, 112, 121]⟩ 172⟩, ⟨PyData.keyHash P ⟨#[95, 95, 99, 97, 99, 104, 101, 100, 95, 95]⟩, .str ⟨#[95, 95, 99, 97, 99, 104, 101, 100, 95, 95]⟩ 174, .none⟩, ⟨PyData.keyHash P ⟨#[95, 115, 114, 101]⟩, .str ⟨#[95, 115, 114, 101]⟩ 275, .ref 12⟩, ⟨PyData.keyHash P ⟨#[95, 119, 97, 108, 108]⟩, .str ⟨#[95, 119, 97, 108, 108]⟩ 288, .ref 38⟩, ⟨PyData.keyHash P ⟨#[69, 110, 116, 114, 121]⟩, .str ⟨#[69, 110, 116, 114, 121]⟩ 348, .ref 76⟩, ⟨PyData.keyHash P ⟨#[109, 101, 114, 103, 101, 95, 101, 110, 116, 114, 105, 101, 115]⟩, .str ⟨#[109, 101, 114, 103, 101, 95, 101, 110, 116, 114, 105, 101, 115]⟩ 357, .ref 87⟩, ⟨PyData.keyHash P ⟨#[95, 116, 119, 105, 110, 95, 114, 101, 95, 49]⟩, .str ⟨#[95, 116, 119, 105, 110, 95, 114, 101, 95, 49]⟩ 392, .ref 92⟩, ⟨PyData.keyHash P ⟨#[78, 76]⟩, .str ⟨#[78, 76]⟩ 394, .str ⟨#[10]⟩ 393⟩, ⟨PyData.keyHash P ⟨#[95, 81, 85, 79, 80, 82, 73, 95, 77, 65, 80]⟩, .str ⟨#[95, 81, 85, 79, 80, 82, 73, 95, 77, 65, 80]⟩ 1422, .ref 95⟩].toArray 16, [].toArray⟩
noncomputable def h96v0 (P : Params) : Obj := ⟨.type "dict", none, .dict [].toArray 2, [].toArray⟩
noncomputable def h97v0 (P : Params) : Obj := ⟨.type "tuple", none, .seq [].toArray 0, [].toArray⟩
noncomputable def h98v0 (P : Params) : Obj := ⟨.type "StopIteration", none, .fields [.ref 97, .none, .none, .none, .bool false, .none].toArray, [].toArray⟩
noncomputable def h3v3 (P : Params) : Obj := ⟨.type "dict", none, .dict [⟨PyData.keyHash P ⟨#[95, 95, 110, 97, 109, 101, 95, 95]⟩, .str ⟨#[95, 95, 110, 97, 109, 101, 95, 95]⟩ 165, .str ⟨#[99, 112, 121, 51, 49, 51, 46, 101, 109, 97, 105, 108, 46, 113, 117, 111, 112, 114, 105, 109, 105, 109, 101]⟩ 1438⟩, ⟨PyData.keyHash P ⟨#[95, 95, 100, 111, 99, 95, 95]⟩, .str ⟨#[95, 95, 100, 111, 99, 95, 95]⟩ 166, .none⟩, ⟨PyData.keyHash P ⟨#[95, 95, 112, 97, 99, 107, 97, 103, 101, 95, 95]⟩, .str ⟨#[95, 95, 112, 97, 99, 107, 97, 103, 101, 95, 95]⟩ 167, .none⟩, ⟨PyData.keyHash P ⟨#[95, 95, 108, 111, 97, 100, 101, 114, 95, 95]⟩, .str ⟨#[95, 95, 108, 111, 97, 100, 101, 114, 95, 95]⟩ 168, .builtin "__main__.__loader__#opaque"⟩, ⟨PyData.keyHash P ⟨#[95, 95, 115, 112, 101, 99, 95, 95]⟩, .str ⟨#[95, 95, 115, 112, 101, 99, 95, 95]⟩ 169, .none⟩, ⟨PyData.keyHash P ⟨#[95, 95, 97, 110, 110, 111, 116, 97, 116, 105, 111, 110, 115, 95, 95]⟩, .str ⟨#[95, 95, 97, 110, 110, 111, 116, 97, 116, 105, 111, 110, 115, 95, 95]⟩ 170, .ref 6⟩, ⟨PyData.keyHash P ⟨#[95, 95, 98, 117, 105, 108, 116, 105, 110, 115, 95, 95]⟩, .str ⟨#[95, 95, 98, 117, 105, 108, 116, 105, 110, 115, 95, 95]⟩ 171, .ref 4⟩, ⟨PyData.keyHash P ⟨#[95, 95, 102, 105, 108, 101, 95, 95]⟩, .str ⟨#[95, 95, 102, 105, 108, 101, 95, 95]⟩ 173, .str ⟨#[47, 99, 108, 97, 105, 109, 47, 99, 117, 116, 46, 112, 121]⟩ 172⟩, ⟨PyData.keyHash P ⟨#[95, 95, 99, 97, 99, 104, 101, 100, 95, 95]⟩, .str ⟨#[95, 95, 99, 97, 99, 104, 101, 100, 95, 95]⟩ 174, .none⟩, ⟨PyData.keyHash P ⟨#[95, 115, 114, 101]⟩, .str ⟨#[95, 115, 114, 101]⟩ 275, .ref 12⟩, ⟨PyData.keyHash P ⟨#[95, 119, 97, 108, 108]⟩, .str ⟨#[95, 119, 97, 108, 108]⟩ 288, .ref 38⟩, ⟨PyData.keyHash P ⟨#[69, 110, 116, 114, 121]⟩, .str ⟨#[69, 110, 116, 114, 121]⟩ 348, .ref 76⟩, ⟨PyData.keyHash P ⟨#[109, 101, 114, 103, 101, 95, 101, 110, 116, 114, 105, 101, 115]⟩, .str ⟨#[109, 101, 114, 103, 101, 95, 101, 110, 116, 114, 105, 101, 115]⟩ 357, .ref 87⟩, ⟨PyData.keyHash P ⟨#[95, 116, 119, 105, 110, 95, 114, 101, 95, 49]⟩, .str ⟨#[95, 116, 119, 105, 110, 95, 114, 101, 95, 49]⟩ 392, .ref 92⟩, ⟨PyData.keyHash P ⟨#[78, 76]⟩, .str ⟨#[78, 76]⟩ 394, .str ⟨#[10]⟩ 393⟩, ⟨PyData.keyHash P ⟨#[95, 81, 85, 79, 80, 82, 73, 95, 77, 65, 80]⟩, .str ⟨#[95, 81, 85, 79, 80, 82, 73, 95, 77, 65, 80]⟩ 1422, .ref 95⟩, ⟨PyData.keyHash P ⟨#[95, 81, 85, 79, 80, 82, 73, 95, 72, 69, 65, 68, 69, 82, 95, 77, 65, 80]⟩, .str ⟨#[95, 81, 85, 79, 80, 82, 73, 95, 72, 69, 65, 68, 69, 82, 95, 77, 65, 80]⟩ 1423, .ref 100⟩, ⟨PyData.keyHash P ⟨#[95, 81, 85, 79, 80, 82, 73, 95, 66, 79, 68, 89, 95, 77, 65, 80]⟩, .str ⟨#[95, 81, 85, 79, 80, 82, 73, 95, 66, 79, 68, 89, 95, 77, 65, 80]⟩ 1424, .ref 102⟩, ⟨PyData.keyHash P ⟨#[97, 115, 99, 105, 105, 95, 108, 111, 119, 101, 114, 99, 97, 115, 101]⟩, .str ⟨#[97, 115, 99, 105, 105, 95, 108, 111, 119, 101, 114, 99, 97, 115, 101]⟩ 1426, .str ⟨#[97, 98, 99, 100, 101, 102, 103, 104, 105, 106, 107, 108, 109, 110, 111, 112, 113, 114, 115, 116, 117, 118, 119, 120, 121, 122]⟩ 1425⟩, ⟨PyData.keyHash P ⟨#[97, 115, 99, 105, 105, 95, 117, 112, 112, 101, 114, 99, 97, 115, 101]⟩, .str ⟨#[97, 115, 99, 105, 105, 95, 117, 112, 112, 101, 114, 99, 97, 115, 101]⟩ 1428, .str ⟨#[65, 66, 67, 68, 69, 70, 71, 72, 73, 74, 75, 76, 77, 78, 79, 80, 81, 82, 83, 84, 85, 86, 87, 88, 89, 90]⟩ 1427⟩, ⟨PyData.keyHash P ⟨#[97, 115, 99, 105, 105, 95, 108, 101, 116, 116, 101, 114, 115]⟩, .str ⟨#[97, 115, 99, 105, 105, 95, 108, 101, 116, 116, 101, 114, 115]⟩ 1430, .str ⟨#[97, 98, 99, 100, 101, 102, 103, 104, 105, 106, 107, 108, 109, 110, 111, 112, 113, 114, 115, 116, 117, 118, 119, 120, 121, 122, 65, 66, 67, 68, 69, 70, 71, 72, 73, 74, 75, 76, 77, 78, 79, 80, 81, 82, 83, 84, 85, 86, 87, 88, 89, 90]⟩ 1429⟩, ⟨PyData.keyHash P ⟨#[100, 105, 103, 105, 116, 115]⟩, .str ⟨#[100, 105, 103, 105, 116, 115]⟩ 1432, .str ⟨#[48, 49, 50, 51, 52, 53, 54, 55, 56, 57]⟩ 1431⟩, ⟨PyData.keyHash P ⟨#[104, 101, 120, 100, 105, 103, 105, 116, 115]⟩, .str ⟨#[104, 101, 120, 100, 105, 103, 105, 116, 115]⟩ 1437, .str ⟨#[48, 49, 50, 51, 52, 53, 54, 55, 56, 57, 97, 98, 99, 100, 101, 102, 65, 66, 67, 68, 69, 70]⟩ 1436⟩].toArray 23, [].toArray⟩
noncomputable def h99v0 (P : Params) : Obj := ⟨.type "slice", none, .fields [.none, .none, .none].toArray, [].toArray⟩
noncomputable def h101v0 (P : Params) : Obj := ⟨.type "slice", none, .fields [.none, .none, .none].toArray, [].toArray⟩
noncomputable def h3c (P : Params) (v : Value) : Obj := ⟨.type "dict", none, .dict [⟨PyData.keyHash P ⟨#[95, 95, 110, 97, 109, 101, 95, 95]⟩, .str ⟨#[95, 95, 110, 97, 109, 101, 95, 95]⟩ 165, .str ⟨#[99, 112, 121, 51, 49, 51, 46, 101, 109, 97, 105, 108, 46, 113, 117, 111, 112, 114, 105, 109, 105, 109, 101]⟩ 1438⟩, ⟨PyData.keyHash P ⟨#[95, 95, 100, 111, 99, 95, 95]⟩, .str ⟨#[95, 95, 100, 111, 99, 95, 95]⟩ 166, .none⟩, ⟨PyData.keyHash P ⟨#[95, 95, 112, 97, 99, 107, 97, 103, 101, 95, 95]⟩, .str ⟨#[95, 95, 112, 97, 99, 107, 97, 103, 101, 95, 95]⟩ 167, .none⟩, ⟨PyData.keyHash P ⟨#[95, 95, 108, 111, 97, 100, 101, 114, 95, 95]⟩, .str ⟨#[95, 95, 108, 111, 97, 100, 101, 114, 95, 95]⟩ 168, .builtin "__main__.__loader__#opaque"⟩, ⟨PyData.keyHash P ⟨#[95, 95, 115, 112, 101, 99, 95, 95]⟩, .str ⟨#[95, 95, 115, 112, 101, 99, 95, 95]⟩ 169, .none⟩, ⟨PyData.keyHash P ⟨#[95, 95, 97, 110, 110, 111, 116, 97, 116, 105, 111, 110, 115, 95, 95]⟩, .str ⟨#[95, 95, 97, 110, 110, 111, 116, 97, 116, 105, 111, 110, 115, 95, 95]⟩ 170, .ref 6⟩, ⟨PyData.keyHash P ⟨#[95, 95, 98, 117, 105, 108, 116, 105, 110, 115, 95, 95]⟩, .str ⟨#[95, 95, 98, 117, 105, 108, 116, 105, 110, 115, 95, 95]⟩ 171, .ref 4⟩, ⟨PyData.keyHash P ⟨#[95, 95, 102, 105, 108, 101, 95, 95]⟩, .str ⟨#[95, 95, 102, 105, 108, 101, 95, 95]⟩ 173, .str ⟨#[47, 99, 108, 97, 105, 109, 47, 99, 117, 116, 46, 112, 121]⟩ 172⟩, ⟨PyData.keyHash P ⟨#[95, 95, 99, 97, 99, 104, 101, 100, 95, 95]⟩, .str ⟨#[95, 95, 99, 97, 99, 104, 101, 100, 95, 95]⟩ 174, .none⟩, ⟨PyData.keyHash P ⟨#[95, 115, 114, 101]⟩, .str ⟨#[95, 115, 114, 101]⟩ 275, .ref 12⟩, ⟨PyData.keyHash P ⟨#[95, 119, 97, 108, 108]⟩, .str ⟨#[95, 119, 97, 108, 108]⟩ 288, .ref 38⟩, ⟨PyData.keyHash P ⟨#[69, 110, 116, 114, 121]⟩, .str ⟨#[69, 110, 116, 114, 121]⟩ 348, .ref 76⟩, ⟨PyData.keyHash P ⟨#[109, 101, 114, 103, 101, 95, 101, 110, 116, 114, 105, 101, 115]⟩, .str ⟨#[109, 101, 114, 103, 101, 95, 101, 110, 116, 114, 105, 101, 115]⟩ 357, .ref 87⟩, ⟨PyData.keyHash P ⟨#[95, 116, 119, 105, 110, 95, 114, 101, 95, 49]⟩, .str ⟨#[95, 116, 119, 105, 110, 95, 114, 101, 95, 49]⟩ 392, .ref 92⟩, ⟨PyData.keyHash P ⟨#[78, 76]⟩, .str ⟨#[78, 76]⟩ 394, .str ⟨#[10]⟩ 393⟩, ⟨PyData.keyHash P ⟨#[95, 81, 85, 79, 80, 82, 73, 95, 77, 65, 80]⟩, .str ⟨#[95, 81, 85, 79, 80, 82, 73, 95, 77, 65, 80]⟩ 1422, .ref 95⟩, ⟨PyData.keyHash P ⟨#[95, 81, 85, 79, 80, 82, 73, 95, 72, 69, 65, 68, 69, 82, 95, 77, 65, 80]⟩, .str ⟨#[95, 81, 85, 79, 80, 82, 73, 95, 72, 69, 65, 68, 69, 82, 95, 77, 65, 80]⟩ 1423, .ref 100⟩, ⟨PyData.keyHash P ⟨#[95, 81, 85, 79, 80, 82, 73, 95, 66, 79, 68, 89, 95, 77, 65, 80]⟩, .str ⟨#[95, 81, 85, 79, 80, 82, 73, 95, 66, 79, 68, 89, 95, 77, 65, 80]⟩ 1424, .ref 102⟩, ⟨PyData.keyHash P ⟨#[97, 115, 99, 105, 105, 95, 108, 111, 119, 101, 114, 99, 97, 115, 101]⟩, .str ⟨#[97, 115, 99, 105, 105, 95, 108, 111, 119, 101, 114, 99, 97, 115, 101]⟩ 1426, .str ⟨#[97, 98, 99, 100, 101, 102, 103, 104, 105, 106, 107, 108, 109, 110, 111, 112, 113, 114, 115, 116, 117, 118, 119, 120, 121, 122]⟩ 1425⟩, ⟨PyData.keyHash P ⟨#[97, 115, 99, 105, 105, 95, 117, 112, 112, 101, 114, 99, 97, 115, 101]⟩, .str ⟨#[97, 115, 99, 105, 105, 95, 117, 112, 112, 101, 114, 99, 97, 115, 101]⟩ 1428, .str ⟨#[65, 66, 67, 68, 69, 70, 71, 72, 73, 74, 75, 76, 77, 78, 79, 80, 81, 82, 83, 84, 85, 86, 87, 88, 89, 90]⟩ 1427⟩, ⟨PyData.keyHash P ⟨#[97, 115, 99, 105, 105, 95, 108, 101, 116, 116, 101, 114, 115]⟩, .str ⟨#[97, 115, 99, 105, 105, 95, 108, 101, 116, 116, 101, 114, 115]⟩ 1430, .str ⟨#[97, 98, 99, 100, 101, 102, 103, 104, 105, 106, 107, 108, 109, 110, 111, 112, 113, 114, 115, 116, 117, 118, 119, 120, 121, 122, 65, 66, 67, 68, 69, 70, 71, 72, 73, 74, 75, 76, 77, 78, 79, 80, 81, 82, 83, 84, 85, 86, 87, 88, 89, 90]⟩ 1429⟩, ⟨PyData.keyHash P ⟨#[100, 105, 103, 105, 116, 115]⟩, .str ⟨#[100, 105, 103, 105, 116, 115]⟩ 1432, .str ⟨#[48, 49, 50, 51, 52, 53, 54, 55, 56, 57]⟩ 1431⟩, ⟨PyData.keyHash P ⟨#[104, 101, 120, 100, 105, 103, 105, 116, 115]⟩, .str ⟨#[104, 101, 120, 100, 105, 103, 105, 116, 115]⟩ 1437, .str ⟨#[48, 49, 50, 51, 52, 53, 54, 55, 56, 57, 97, 98, 99, 100, 101, 102, 65, 66, 67, 68, 69, 70]⟩ 1436⟩, ⟨PyData.keyHash P ⟨#[99]⟩, .str ⟨#[99]⟩ 1448, v⟩].toArray 24, [].toArray⟩
noncomputable def h3v4 (P : Params) : Obj := ⟨.type "dict", none, .dict [⟨PyData.keyHash P ⟨#[95, 95, 110, 97, 109, 101, 95, 95]⟩, .str ⟨#[95, 95, 110, 97, 109, 101, 95, 95]⟩ 165, .str ⟨#[99, 112, 121, 51, 49, 51, 46, 101, 109, 97, 105, 108, 46, 113, 117, 111, 112, 114, 105, 109, 105, 109, 101]⟩ 1438⟩, ⟨PyData.keyHash P ⟨#[95, 95, 100, 111, 99, 95, 95]⟩, .str ⟨#[95, 95, 100, 111, 99, 95, 95]⟩ 166, .none⟩, ⟨PyData.keyHash P ⟨#[95, 95, 112, 97, 99, 107, 97, 103, 101, 95, 95]⟩, .str ⟨#[95, 95, 112, 97, 99, 107, 97, 103, 101, 95, 95]⟩ 167, .none⟩, ⟨PyData.keyHash P ⟨#[95, 95, 108, 111, 97, 100, 101, 114, 95, 95]⟩, .str ⟨#[95, 95, 108, 111, 97, 100, 101, 114, 95, 95]⟩ 168, .builtin "__main__.__loader__#opaque"⟩, ⟨PyData.keyHash P ⟨#[95, 95, 115, 112, 101, 99, 95, 95]⟩, .str ⟨#[95, 95, 115, 112, 101, 99, 95, 95]⟩ 169, .none⟩, ⟨PyData.keyHash P ⟨#[95, 95, 97, 110, 110, 111, 116, 97, 116, 105, 111, 110, 115, 95, 95]⟩, .str ⟨#[95, 95, 97, 110, 110, 111, 116, 97, 116, 105, 111, 110, 115, 95, 95]⟩ 170, .ref 6⟩, ⟨PyData.keyHash P ⟨#[95, 95, 98, 117, 105, 108, 116, 105, 110, 115, 95, 95]⟩, .str ⟨#[95, 95, 98, 117, 105, 108, 116, 105, 110, 115, 95, 95]⟩ 171, .ref 4⟩, ⟨PyData.keyHash P ⟨#[95, 95, 102, 105, 108, 101, 95, 95]⟩, .str ⟨#[95, 95, 102, 105, 108, 101, 95, 95]⟩ 173, .str ⟨#[47, 99, 108, 97, 105, 109, 47, 99, 117, 116, 46, 112, 121]⟩ 172⟩, ⟨PyData.keyHash P ⟨#[95, 95, 99, 97, 99, 104, 101, 100, 95, 95]⟩, .str ⟨#[95, 95, 99, 97, 99, 104, 101, 100, 95, 95]⟩ 174, .none⟩, ⟨PyData.keyHash P ⟨#[95, 115, 114, 101]⟩, .str ⟨#[95, 115, 114, 101]⟩ 275, .ref 12⟩, ⟨PyData.keyHash P ⟨#[95, 119, 97, 108, 108]⟩, .str ⟨#[95, 119, 97, 108, 108]⟩ 288, .ref 38⟩, ⟨PyData.keyHash P ⟨#[69, 110, 116, 114, 121]⟩, .str ⟨#[69, 110, 116, 114, 121]⟩ 348, .ref 76⟩, ⟨PyData.keyHash P ⟨#[109, 101, 114, 103, 101, 95, 101, 110, 116, 114, 105, 101, 115]⟩, .str ⟨#[109, 101, 114, 103, 101, 95, 101, 110, 116, 114, 105, 101, 115]⟩ 357, .ref 87⟩, ⟨PyData.keyHash P ⟨#[95, 116, 119, 105, 110, 95, 114, 101, 95, 49]⟩, .str ⟨#[95, 116, 119, 105, 110, 95, 114, 101, 95, 49]⟩ 392, .ref 92⟩, ⟨PyData.keyHash P ⟨#[78, 76]⟩, .str ⟨#[78, 76]⟩ 394, .str ⟨#[10]⟩ 393⟩, ⟨PyData.keyHash P ⟨#[95, 81, 85, 79, 80, 82, 73, 95, 77, 65, 80]⟩, .str ⟨#[95, 81, 85, 79, 80, 82, 73, 95, 77, 65, 80]⟩ 1422, .ref 95⟩, ⟨PyData.keyHash P ⟨#[95, 81, 85, 79, 80, 82, 73, 95, 72, 69, 65, 68, 69, 82, 95, 77, 65, 80]⟩, .str ⟨#[95, 81, 85, 79, 80, 82, 73, 95, 72, 69, 65, 68, 69, 82, 95, 77, 65, 80]⟩ 1423, .ref 100⟩, ⟨PyData.keyHash P ⟨#[95, 81, 85, 79, 80, 82, 73, 95, 66, 79, 68, 89, 95, 77, 65, 80]⟩, .str ⟨#[95, 81, 85, 79, 80, 82, 73, 95, 66, 79, 68, 89, 95, 77, 65, 80]⟩ 1424, .ref 102⟩, ⟨PyData.keyHash P ⟨#[97, 115, 99, 105, 105, 95, 108, 111, 119, 101, 114, 99, 97, 115, 101]⟩, .str ⟨#[97, 115, 99, 105, 105, 95, 108, 111, 119, 101, 114, 99, 97, 115, 101]⟩ 1426, .str ⟨#[97, 98, 99, 100, 101, 102, 103, 104, 105, 106, 107, 108, 109, 110, 111, 112, 113, 114, 115, 116, 117, 118, 119, 120, 121, 122]⟩ 1425⟩, ⟨PyData.keyHash P ⟨#[97, 115, 99, 105, 105, 95, 117, 112, 112, 101, 114, 99, 97, 115, 101]⟩, .str ⟨#[97, 115, 99, 105, 105, 95, 117, 112, 112, 101, 114, 99, 97, 115, 101]⟩ 1428, .str ⟨#[65, 66, 67, 68, 69, 70, 71, 72, 73, 74, 75, 76, 77, 78, 79, 80, 81, 82, 83, 84, 85, 86, 87, 88, 89, 90]⟩ 1427⟩, ⟨PyData.keyHash P ⟨#[97, 115, 99, 105, 105, 95, 108, 101, 116, 116, 101, 114, 115]⟩, .str ⟨#[97, 115, 99, 105, 105, 95, 108, 101, 116, 116, 101, 114, 115]⟩ 1430, .str ⟨#[97, 98, 99, 100, 101, 102, 103, 104, 105, 106, 107, 108, 109, 110, 111, 112, 113, 114, 115, 116, 117, 118, 119, 120, 121, 122, 65, 66, 67, 68, 69, 70, 71, 72, 73, 74, 75, 76, 77, 78, 79, 80, 81, 82, 83, 84, 85, 86, 87, 88, 89, 90]⟩ 1429⟩, ⟨PyData.keyHash P ⟨#[100, 105, 103, 105, 116, 115]⟩, .str ⟨#[100, 105, 103, 105, 116, 115]⟩ 1432, .str ⟨#[48, 49, 50, 51, 52, 53, 54, 55, 56, 57]⟩ 1431⟩, ⟨PyData.keyHash P ⟨#[104, 101, 120, 100, 105, 103, 105, 116, 115]⟩, .str ⟨#[104, 101, 120, 100, 105, 103, 105, 116, 115]⟩ 1437, .str ⟨#[48, 49, 50, 51, 52, 53, 54, 55, 56, 57, 97, 98, 99, 100, 101, 102, 65, 66, 67, 68, 69, 70]⟩ 1436⟩, ⟨PyData.keyHash P ⟨#[99]⟩, .str ⟨#[99]⟩ 1448, .int 57 1645⟩].toArray 24, [].toArray⟩
noncomputable def h103v0 (P : Params) : Obj := ⟨.type "bytes_iterator", none, .fields [.none, .int 67 0].toArray, [].toArray⟩
noncomputable def h104v0 (P : Params) : Obj := ⟨.type "tuple", none, .seq [].toArray 0, [].toArray⟩
noncomputable def h105v0 (P : Params) : Obj := ⟨.type "StopIteration", none, .fields [.ref 104, .none, .none, .none, .bool false, .none].toArray, [].toArray⟩
noncomputable def h3v5 (P : Params) : Obj := ⟨.type "dict", none, .dict [⟨PyData.keyHash P ⟨#[95, 95, 110, 97, 109, 101, 95, 95]⟩, .str ⟨#[95, 95, 110, 97, 109, 101, 95, 95]⟩ 165, .str ⟨#[99, 112, 121, 51, 49, 51, 46, 101, 109, 97, 105, 108, 46, 113, 117, 111, 112, 114, 105, 109, 105, 109, 101]⟩ 1438⟩, ⟨PyData.keyHash P ⟨#[95, 95, 100, 111, 99, 95, 95]⟩, .str ⟨#[95, 95, 100, 111, 99, 95, 95]⟩ 166, .none⟩, ⟨PyData.keyHash P ⟨#[95, 95, 112, 97, 99, 107, 97, 103, 101, 95, 95]⟩, .str ⟨#[95, 95, 112, 97, 99, 107, 97, 103, 101, 95, 95]⟩ 167, .none⟩, ⟨PyData.keyHash P ⟨#[95, 95, 108, 111, 97, 100, 101, 114, 95, 95]⟩, .str ⟨#[95, 95, 108, 111, 97, 100, 101, 114, 95, 95]⟩ 168, .builtin "__main__.__loader__#opaque"⟩, ⟨PyData.keyHash P ⟨#[95, 95, 115, 112, 101, 99, 95, 95]⟩, .str ⟨#[95, 95, 115, 112, 101, 99, 95, 95]⟩ 169, .none⟩, ⟨PyData.keyHash P ⟨#[95, 95, 97, 110, 110, 111, 116, 97, 116, 105, 111, 110, 115, 95, 95]⟩, .str ⟨#[95, 95, 97, 110, 110, 111, 116, 97, 116, 105, 111, 110, 115, 95, 95]⟩ 170, .ref 6⟩, ⟨PyData.keyHash P ⟨#[95, 95, 98, 117, 105, 108, 116, 105, 110, 115, 95, 95]⟩, .str ⟨#[95, 95, 98, 117, 105, 108, 116, 105, 110, 115, 95, 95]⟩ 171, .ref 4⟩, ⟨PyData.keyHash P ⟨#[95, 95, 102, 105, 108, 101, 95, 95]⟩, .str ⟨#[95, 95, 102, 105, 108, 101, 95, 95]⟩ 173, .str ⟨#[47, 99, 108, 97, 105, 109, 47, 99, 117, 116, 46, 112, 121]⟩ 172⟩, ⟨PyData.keyHash P ⟨#[95, 95, 99, 97, 99, 104, 101, 100, 95, 95]⟩, .str ⟨#[95, 95, 99, 97, 99, 104, 101, 100, 95, 95]⟩ 174, .none⟩, ⟨PyData.keyHash P ⟨#[95, 115, 114, 101]⟩, .str ⟨#[95, 115, 114, 101]⟩ 275, .ref 12⟩, ⟨PyData.keyHash P ⟨#[95, 119, 97, 108, 108]⟩, .str ⟨#[95, 119, 97, 108, 108]⟩ 288, .ref 38⟩, ⟨PyData.keyHash P ⟨#[69, 110, 116, 114, 121]⟩, .str ⟨#[69, 110, 116, 114, 121]⟩ 348, .ref 76⟩, ⟨PyData.keyHash P ⟨#[109, 101, 114, 103, 101, 95, 101, 110, 116, 114, 105, 101, 115]⟩, .str ⟨#[109, 101, 114, 103, 101, 95, 101, 110, 116, 114, 105, 101, 115]⟩ 357, .ref 87⟩, ⟨PyData.keyHash P ⟨#[95, 116, 119, 105, 110, 95, 114, 101, 95, 49]⟩, .str ⟨#[95, 116, 119, 105, 110, 95, 114, 101, 95, 49]⟩ 392, .ref 92⟩, ⟨PyData.keyHash P ⟨#[78, 76]⟩, .str ⟨#[78, 76]⟩ 394, .str ⟨#[10]⟩ 393⟩, ⟨PyData.keyHash P ⟨#[95, 81, 85, 79, 80, 82, 73, 95, 77, 65, 80]⟩, .str ⟨#[95, 81, 85, 79, 80, 82, 73, 95, 77, 65, 80]⟩ 1422, .ref 95⟩, ⟨PyData.keyHash P ⟨#[95, 81, 85, 79, 80, 82, 73, 95, 72, 69, 65, 68, 69, 82, 95, 77, 65, 80]⟩, .str ⟨#[95, 81, 85, 79, 80, 82, 73, 95, 72, 69, 65, 68, 69, 82, 95, 77, 65, 80]⟩ 1423, .ref 100⟩, ⟨PyData.keyHash P ⟨#[95, 81, 85, 79, 80, 82, 73, 95, 66, 79, 68, 89, 95, 77, 65, 80]⟩, .str ⟨#[95, 81, 85, 79, 80, 82, 73, 95, 66, 79, 68, 89, 95, 77, 65, 80]⟩ 1424, .ref 102⟩, ⟨PyData.keyHash P ⟨#[97, 115, 99, 105, 105, 95, 108, 111, 119, 101, 114, 99, 97, 115, 101]⟩, .str ⟨#[97, 115, 99, 105, 105, 95, 108, 111, 119, 101, 114, 99, 97, 115, 101]⟩ 1426, .str ⟨#[97, 98, 99, 100, 101, 102, 103, 104, 105, 106, 107, 108, 109, 110, 111, 112, 113, 114, 115, 116, 117, 118, 119, 120, 121, 122]⟩ 1425⟩, ⟨PyData.keyHash P ⟨#[97, 115, 99, 105, 105, 95, 117, 112, 112, 101, 114, 99, 97, 115, 101]⟩, .str ⟨#[97, 115, 99, 105, 105, 95, 117, 112, 112, 101, 114, 99, 97, 115, 101]⟩ 1428, .str ⟨#[65, 66, 67, 68, 69, 70, 71, 72, 73, 74, 75, 76, 77, 78, 79, 80, 81, 82, 83, 84, 85, 86, 87, 88, 89, 90]⟩ 1427⟩, ⟨PyData.keyHash P ⟨#[97, 115, 99, 105, 105, 95, 108, 101, 116, 116, 101, 114, 115]⟩, .str ⟨#[97, 115, 99, 105, 105, 95, 108, 101, 116, 116, 101, 114, 115]⟩ 1430, .str ⟨#[97, 98, 99, 100, 101, 102, 103, 104, 105, 106, 107, 108, 109, 110, 111, 112, 113, 114, 115, 116, 117, 118, 119, 120, 121, 122, 65, 66, 67, 68, 69, 70, 71, 72, 73, 74, 75, 76, 77, 78, 79, 80, 81, 82, 83, 84, 85, 86, 87, 88, 89, 90]⟩ 1429⟩, ⟨PyData.keyHash P ⟨#[100, 105, 103, 105, 116, 115]⟩, .str ⟨#[100, 105, 103, 105, 116, 115]⟩ 1432, .str ⟨#[48, 49, 50, 51, 52, 53, 54, 55, 56, 57]⟩ 1431⟩, ⟨PyData.keyHash P ⟨#[104, 101, 120, 100, 105, 103, 105, 116, 115]⟩, .str ⟨#[104, 101, 120, 100, 105, 103, 105, 116, 115]⟩ 1437, .str ⟨#[48, 49, 50, 51, 52, 53, 54, 55, 56, 57, 97, 98, 99, 100, 101, 102, 65, 66, 67, 68, 69, 70]⟩ 1436⟩, ⟨PyData.keyHash P ⟨#[99]⟩, .str ⟨#[99]⟩ 1448, .int 9 1934⟩].toArray 24, [].toArray⟩
noncomputable def h106v0 (P : Params) : Obj := ⟨.type "bytes_iterator", none, .fields [.none, .int 95 0].toArray, [].toArray⟩
noncomputable def h107v0 (P : Params) : Obj := ⟨.type "tuple", none, .seq [].toArray 0, [].toArray⟩
noncomputable def h108v0 (P : Params) : Obj := ⟨.type "StopIteration", none, .fields [.ref 107, .none, .none, .none, .bool false, .none].toArray, [].toArray⟩
noncomputable def h3v6 (P : Params) : Obj := ⟨.type "dict", none, .dict [⟨PyData.keyHash P ⟨#[95, 95, 110, 97, 109, 101, 95, 95]⟩, .str ⟨#[95, 95, 110, 97, 109, 101, 95, 95]⟩ 165, .str ⟨#[108, 97, 119, 95, 116, 120, 48, 48, 50, 53, 95, 48, 49]⟩ 1997⟩, ⟨PyData.keyHash P ⟨#[95, 95, 100, 111, 99, 95, 95]⟩, .str ⟨#[95, 95, 100, 111, 99, 95, 95]⟩ 166, .none⟩, ⟨PyData.keyHash P ⟨#[95, 95, 112, 97, 99, 107, 97, 103, 101, 95, 95]⟩, .str ⟨#[95, 95, 112, 97, 99, 107, 97, 103, 101, 95, 95]⟩ 167, .none⟩, ⟨PyData.keyHash P ⟨#[95, 95, 108, 111, 97, 100, 101, 114, 95, 95]⟩, .str ⟨#[95, 95, 108, 111, 97, 100, 101, 114, 95, 95]⟩ 168, .builtin "__main__.__loader__#opaque"⟩, ⟨PyData.keyHash P ⟨#[95, 95, 115, 112, 101, 99, 95, 95]⟩, .str ⟨#[95, 95, 115, 112, 101, 99, 95, 95]⟩ 169, .none⟩, ⟨PyData.keyHash P ⟨#[95, 95, 97, 110, 110, 111, 116, 97, 116, 105, 111, 110, 115, 95, 95]⟩, .str ⟨#[95, 95, 97, 110, 110, 111, 116, 97, 116, 105, 111, 110, 115, 95, 95]⟩ 170, .ref 6⟩, ⟨PyData.keyHash P ⟨#[95, 95, 98, 117, 105, 108, 116, 105, 110, 115, 95, 95]⟩, .str ⟨#[95, 95, 98, 117, 105, 108, 116, 105, 110, 115, 95, 95]⟩ 171, .ref 4⟩, ⟨PyData.keyHash P ⟨#[95, 95, 102, 105, 108, 101, 95, 95]⟩, .str ⟨#[95, 95, 102, 105, 108, 101, 95, 95]⟩ 173, .str ⟨#[47, 99, 108, 97, 105, 109, 47, 99, 117, 116, 46, 112, 121]⟩ 172⟩, ⟨PyData.keyHash P ⟨#[95, 95, 99, 97, 99, 104, 101, 100, 95, 95]⟩, .str ⟨#[95, 95, 99, 97, 99, 104, 101, 100, 95, 95]⟩ 174, .none⟩, ⟨PyData.keyHash P ⟨#[95, 115, 114, 101]⟩, .str ⟨#[95, 115, 114, 101]⟩ 275, .ref 12⟩, ⟨PyData.keyHash P ⟨#[95, 119, 97, 108, 108]⟩, .str ⟨#[95, 119, 97, 108, 108]⟩ 288, .ref 38⟩, ⟨PyData.keyHash P ⟨#[69, 110, 116, 114, 121]⟩, .str ⟨#[69, 110, 116, 114, 121]⟩ 348, .ref 76⟩, ⟨PyData.keyHash P ⟨#[109, 101, 114, 103, 101, 95, 101, 110, 116, 114, 105, 101, 115]⟩, .str ⟨#[109, 101, 114, 103, 101, 95, 101, 110, 116, 114, 105, 101, 115]⟩ 357, .ref 87⟩, ⟨PyData.keyHash P ⟨#[95, 116, 119, 105, 110, 95, 114, 101, 95, 49]⟩, .str ⟨#[95, 116, 119, 105, 110, 95, 114, 101, 95, 49]⟩ 392, .ref 92⟩, ⟨PyData.keyHash P ⟨#[78, 76]⟩, .str ⟨#[78, 76]⟩ 394, .str ⟨#[10]⟩ 393⟩, ⟨PyData.keyHash P ⟨#[95, 81, 85, 79, 80, 82, 73, 95, 77, 65, 80]⟩, .str ⟨#[95, 81, 85, 79, 80, 82, 73, 95, 77, 65, 80]⟩ 1422, .ref 95⟩, ⟨PyData.keyHash P ⟨#[95, 81, 85, 79, 80, 82, 73, 95, 72, 69, 65, 68, 69, 82, 95, 77, 65, 80]⟩, .str ⟨#[95, 81, 85, 79, 80, 82, 73, 95, 72, 69, 65, 68, 69, 82, 95, 77, 65, 80]⟩ 1423, .ref 100⟩, ⟨PyData.keyHash P ⟨#[95, 81, 85, 79, 80, 82, 73, 95, 66, 79, 68, 89, 95, 77, 65, 80]⟩, .str ⟨#[95, 81, 85, 79, 80, 82, 73, 95, 66, 79, 68, 89, 95, 77, 65, 80]⟩ 1424, .ref 102⟩, ⟨PyData.keyHash P ⟨#[97, 115, 99, 105, 105, 95, 108, 111, 119, 101, 114, 99, 97, 115, 101]⟩, .str ⟨#[97, 115, 99, 105, 105, 95, 108, 111, 119, 101, 114, 99, 97, 115, 101]⟩ 1426, .str ⟨#[97, 98, 99, 100, 101, 102, 103, 104, 105, 106, 107, 108, 109, 110, 111, 112, 113, 114, 115, 116, 117, 118, 119, 120, 121, 122]⟩ 1425⟩, ⟨PyData.keyHash P ⟨#[97, 115, 99, 105, 105, 95, 117, 112, 112, 101, 114, 99, 97, 115, 101]⟩, .str ⟨#[97, 115, 99, 105, 105, 95, 117, 112, 112, 101, 114, 99, 97, 115, 101]⟩ 1428, .str ⟨#[65, 66, 67, 68, 69, 70, 71, 72, 73, 74, 75, 76, 77, 78, 79, 80, 81, 82, 83, 84, 85, 86, 87, 88, 89, 90]⟩ 1427⟩, ⟨PyData.keyHash P ⟨#[97, 115, 99, 105, 105, 95, 108, 101, 116, 116, 101, 114, 115]⟩, .str ⟨#[97, 115, 99, 105, 105, 95, 108, 101, 116, 116, 101, 114, 115]⟩ 1430, .str ⟨#[97, 98, 99, 100, 101, 102, 103, 104, 105, 106, 107, 108, 109, 110, 111, 112, 113, 114, 115, 116, 117, 118, 119, 120, 121, 122, 65, 66, 67, 68, 69, 70, 71, 72, 73, 74, 75, 76, 77, 78, 79, 80, 81, 82, 83, 84, 85, 86, 87, 88, 89, 90]⟩ 1429⟩, ⟨PyData.keyHash P ⟨#[100, 105, 103, 105, 116, 115]⟩, .str ⟨#[100, 105, 103, 105, 116, 115]⟩ 1432, .str ⟨#[48, 49, 50, 51, 52, 53, 54, 55, 56, 57]⟩ 1431⟩, ⟨PyData.keyHash P ⟨#[104, 101, 120, 100, 105, 103, 105, 116, 115]⟩, .str ⟨#[104, 101, 120, 100, 105, 103, 105, 116, 115]⟩ 1437, .str ⟨#[48, 49, 50, 51, 52, 53, 54, 55, 56, 57, 97, 98, 99, 100, 101, 102, 65, 66, 67, 68, 69, 70]⟩ 1436⟩, ⟨PyData.keyHash P ⟨#[117, 110, 113, 117, 111, 116, 101]⟩, .str ⟨#[117, 110, 113, 117, 111, 116, 101]⟩ 1943, .ref 115⟩, ⟨PyData.keyHash P ⟨#[113, 117, 111, 116, 101]⟩, .str ⟨#[113, 117, 111, 116, 101]⟩ 1950, .ref 122⟩, ⟨PyData.keyHash P ⟨#[104, 101, 97, 100, 101, 114, 95, 101, 110, 99, 111, 100, 101]⟩, .str ⟨#[104, 101, 97, 100, 101, 114, 95, 101, 110, 99, 111, 100, 101]⟩ 1960, .ref 130⟩, ⟨PyData.keyHash P ⟨#[95, 81, 85, 79, 80, 82, 73, 95, 66, 79, 68, 89, 95, 69, 78, 67, 79, 68, 69, 95, 77, 65, 80]⟩, .str ⟨#[95, 81, 85, 79, 80, 82, 73, 95, 66, 79, 68, 89, 95, 69, 78, 67, 79, 68, 69, 95, 77, 65, 80]⟩ 1961, .ref 132⟩, ⟨PyData.keyHash P ⟨#[100, 101, 99, 111, 100, 101]⟩, .str ⟨#[100, 101, 99, 111, 100, 101]⟩ 1981, .ref 143⟩, ⟨PyData.keyHash P ⟨#[95, 117, 110, 113, 117, 111, 116, 101, 95, 109, 97, 116, 99, 104]⟩, .str ⟨#[95, 117, 110, 113, 117, 111, 116, 101, 95, 109, 97, 116, 99, 104]⟩ 1989, .ref 150⟩, ⟨PyData.keyHash P ⟨#[104, 101, 97, 100, 101, 114, 95, 100, 101, 99, 111, 100, 101]⟩, .str ⟨#[104, 101, 97, 100, 101, 114, 95, 100, 101, 99, 111, 100, 101]⟩ 1996, .ref 157⟩, ⟨PyData.keyHash P ⟨#[95, 108, 97, 119, 95, 99, 101, 108, 108, 115]⟩, .str ⟨#[95, 108, 97, 119, 95, 99, 101, 108, 108, 115]⟩ 2007, .ref 164⟩, ⟨PyData.keyHash P ⟨#[95, 108, 97, 119, 95, 111, 99, 116, 101, 116, 115]⟩, .str ⟨#[95, 108, 97, 119, 95, 111, 99, 116, 101, 116, 115]⟩ 2013, .ref 169⟩, ⟨PyData.keyHash P ⟨#[95, 108, 97, 119, 95, 101, 115, 99, 97, 112, 101, 100]⟩, .str ⟨#[95, 108, 97, 119, 95, 101, 115, 99, 97, 112, 101, 100]⟩ 2020, .ref 176⟩, ⟨PyData.keyHash P ⟨#[95, 108, 97, 119, 95, 116, 97, 105, 108, 115]⟩, .str ⟨#[95, 108, 97, 119, 95, 116, 97, 105, 108, 115]⟩ 2033, .ref 183⟩, ⟨PyData.keyHash P ⟨#[95, 108, 97, 119, 95, 97, 103, 101, 110, 116, 115]⟩, .str ⟨#[95, 108, 97, 119, 95, 97, 103, 101, 110, 116, 115]⟩ 2039, .ref 188⟩, ⟨PyData.keyHash P ⟨#[95, 108, 97, 119, 95, 99, 111, 97, 116, 115]⟩, .str ⟨#[95, 108, 97, 119, 95, 99, 111, 97, 116, 115]⟩ 2045, .ref 193⟩, ⟨PyData.keyHash P ⟨#[95, 108, 97, 119, 95, 115, 109, 97, 108, 108]⟩, .str ⟨#[95, 108, 97, 119, 95, 115, 109, 97, 108, 108]⟩ 2055, .ref 200⟩, ⟨PyData.keyHash P ⟨#[95, 108, 97, 119, 95, 104, 105, 116, 115]⟩, .str ⟨#[95, 108, 97, 119, 95, 104, 105, 116, 115]⟩ 2061, .ref 205⟩, ⟨PyData.keyHash P ⟨#[95, 108, 97, 119, 95, 114, 101, 99, 111, 114, 100]⟩, .str ⟨#[95, 108, 97, 119, 95, 114, 101, 99, 111, 114, 100]⟩ 2069, .ref 212⟩, ⟨PyData.keyHash P ⟨#[95, 108, 97, 119, 95, 115, 97, 109, 101]⟩, .str ⟨#[95, 108, 97, 119, 95, 115, 97, 109, 101]⟩ 2077, .ref 219⟩, ⟨PyData.keyHash P ⟨#[108, 97, 119]⟩, .str ⟨#[108, 97, 119]⟩ 2083, .ref 224⟩].toArray 43, [].toArray⟩
noncomputable def h29v2 (P : Params) : Obj := ⟨.none, none, .fields [.int 2 0, .int 0 0, .ref 37, .int 6 0, .int 0 0, .ref 44, .int 44 0, .int 0 0, .ref 86, .int 67 0, .int 0 0, .ref 114, .int 69 0, .int 0 0, .ref 121, .int 71 0, .int 0 0, .ref 129, .int 80 0, .int 0 0, .ref 142, .int 110 0, .int 0 0, .ref 149, .int 113 0, .int 0 0, .ref 156, .int 117 0, .int 0 0, .ref 163, .int 122 0, .int 0 0, .ref 168, .int 125 0, .int 0 0, .ref 175, .int 129 0, .int 0 0, .ref 182, .int 140 0, .int 0 0, .ref 187, .int 155 0, .int 0 0, .ref 192, .int 158 0, .int 0 0, .ref 199, .int 168 0, .int 0 0, .ref 204, .int 178 0, .int 0 0, .ref 211, .int 182 0, .int 0 0, .ref 218, .int 184 0, .int 0 0, .ref 223].toArray, [].toArray⟩
noncomputable def h109v0 (P : Params) : Obj := ⟨.type "tuple", none, .seq [].toArray 0, [].toArray⟩
noncomputable def h110v0 (P : Params) : Obj := ⟨.none, none, .fields [].toArray, [].toArray⟩
noncomputable def h111v0 (P : Params) : Obj := ⟨.type "tuple", none, .seq [.str ⟨#[115]⟩ 1940].toArray 0, [].toArray⟩
noncomputable def h112v0 (P : Params) : Obj := ⟨.type "tuple", none, .seq [].toArray 0, [].toArray⟩
noncomputable def h113v0 (P : Params) : Obj := fnT (stAt 18) ⟨#[117, 110, 113, 117, 111, 116, 101]⟩ ⟨#[117, 110, 113, 117, 111, 116, 101]⟩
noncomputable def h114v0 (P : Params) : Obj := ⟨.type "code", none, .fields [.str ⟨#[117, 110, 113, 117, 111, 116, 101]⟩ 1937, .str ⟨#[117, 110, 113, 117, 111, 116, 101]⟩ 1938, .str ⟨#[47, 99, 108, 97, 105, 109, 47, 99, 117, 116, 46, 112, 121]⟩ 1939, .int 67 0, .int 1 0, .int 0 0, .int 0 0, .int 3 0, .ref 109, .bool true, .int 276 0, .ref 110, .none, .ref 111, .ref 112, .ref 113, .int 1941 0, .int 67 0, .str ⟨#[47, 99, 108, 97, 105, 109, 47, 99, 117, 116, 46, 112, 121]⟩ 1942].toArray, [].toArray⟩
noncomputable def h115v0 (P : Params) : Obj := fnO (stAt 18) ⟨#[117, 110, 113, 117, 111, 116, 101]⟩ ⟨#[117, 110, 113, 117, 111, 116, 101]⟩ (.none) (.str ⟨#[99, 112, 121, 51, 49, 51, 46, 101, 109, 97, 105, 108, 46, 113, 117, 111, 112, 114, 105, 109, 105, 109, 101]⟩ 1438) (.ref 114)
noncomputable def h116v0 (P : Params) : Obj := ⟨.type "tuple", none, .seq [].toArray 0, [].toArray⟩
noncomputable def h117v0 (P : Params) : Obj := ⟨.none, none, .fields [].toArray, [].toArray⟩
noncomputable def h118v0 (P : Params) : Obj := ⟨.type "tuple", none, .seq [.str ⟨#[99]⟩ 1947].toArray 0, [].toArray⟩
noncomputable def h119v0 (P : Params) : Obj := ⟨.type "tuple", none, .seq [].toArray 0, [].toArray⟩
noncomputable def h120v0 (P : Params) : Obj := fnT (stAt 19) ⟨#[113, 117, 111, 116, 101]⟩ ⟨#[113, 117, 111, 116, 101]⟩
noncomputable def h121v0 (P : Params) : Obj := ⟨.type "code", none, .fields [.str ⟨#[113, 117, 111, 116, 101]⟩ 1944, .str ⟨#[113, 117, 111, 116, 101]⟩ 1945, .str ⟨#[47, 99, 108, 97, 105, 109, 47, 99, 117, 116, 46, 112, 121]⟩ 1946, .int 69 0, .int 1 0, .int 0 0, .int 0 0, .int 3 0, .ref 116, .bool true, .int 276 0, .ref 117, .none, .ref 118, .ref 119, .ref 120, .int 1948 0, .int 69 0, .str ⟨#[47, 99, 108, 97, 105, 109, 47, 99, 117, 116, 46, 112, 121]⟩ 1949].toArray, [].toArray⟩
noncomputable def h122v0 (P : Params) : Obj := fnO (stAt 19) ⟨#[113, 117, 111, 116, 101]⟩ ⟨#[113, 117, 111, 116, 101]⟩ (.none) (.str ⟨#[99, 112, 121, 51, 49, 51, 46, 101, 109, 97, 105, 108, 46, 113, 117, 111, 112, 114, 105, 109, 105, 109, 101]⟩ 1438) (.ref 121)
noncomputable def h123v0 (P : Params) : Obj := ⟨.type "tuple", none, .seq [.str ⟨#[105, 115, 111, 45, 56, 56, 53, 57, 45, 49]⟩ 1951].toArray 0, [].toArray⟩
noncomputable def h124v0 (P : Params) : Obj := ⟨.type "tuple", none, .seq [].toArray 0, [].toArray⟩
noncomputable def h125v0 (P : Params) : Obj := ⟨.none, none, .fields [].toArray, [].toArray⟩
noncomputable def h126v0 (P : Params) : Obj := ⟨.type "tuple", none, .seq [.str ⟨#[104, 101, 97, 100, 101, 114, 95, 98, 121, 116, 101, 115]⟩ 1955, .str ⟨#[99, 104, 97, 114, 115, 101, 116]⟩ 1956, .str ⟨#[101, 110, 99, 111, 100, 101, 100]⟩ 1957].toArray 0, [].toArray⟩
noncomputable def h127v0 (P : Params) : Obj := ⟨.type "tuple", none, .seq [].toArray 0, [].toArray⟩
noncomputable def h128v0 (P : Params) : Obj := fnT (stAt 20) ⟨#[104, 101, 97, 100, 101, 114, 95, 101, 110, 99, 111, 100, 101]⟩ ⟨#[104, 101, 97, 100, 101, 114, 95, 101, 110, 99, 111, 100, 101]⟩
noncomputable def h129v0 (P : Params) : Obj := ⟨.type "code", none, .fields [.str ⟨#[104, 101, 97, 100, 101, 114, 95, 101, 110, 99, 111, 100, 101]⟩ 1952, .str ⟨#[104, 101, 97, 100, 101, 114, 95, 101, 110, 99, 111, 100, 101]⟩ 1953, .str ⟨#[47, 99, 108, 97, 105, 109, 47, 99, 117, 116, 46, 112, 121]⟩ 1954, .int 71 0, .int 2 0, .int 0 0, .int 0 0, .int 3 0, .ref 124, .bool true, .int 276 0, .ref 125, .none, .ref 126, .ref 127, .ref 128, .int 1958 0, .int 71 0, .str ⟨#[47, 99, 108, 97, 105, 109, 47, 99, 117, 116, 46, 112, 121]⟩ 1959].toArray, [].toArray⟩
noncomputable def h130v0 (P : Params) : Obj := fnO (stAt 20) ⟨#[104, 101, 97, 100, 101, 114, 95, 101, 110, 99, 111, 100, 101]⟩ ⟨#[104, 101, 97, 100, 101, 114, 95, 101, 110, 99, 111, 100, 101]⟩ (.ref 123) (.str ⟨#[99, 112, 121, 51, 49, 51, 46, 101, 109, 97, 105, 108, 46, 113, 117, 111, 112, 114, 105, 109, 105, 109, 101]⟩ 1438) (.ref 129)
noncomputable def h131v0 (P : Params) : Obj := ⟨.type "slice", none, .fields [.none, .none, .none].toArray, [].toArray⟩
noncomputable def h133v0 (P : Params) : Obj := ⟨.type "bytes_iterator", none, .fields [.none, .int 2 0].toArray, [].toArray⟩
noncomputable def h134v0 (P : Params) : Obj := ⟨.type "tuple", none, .seq [].toArray 0, [].toArray⟩
noncomputable def h135v0 (P : Params) : Obj := ⟨.type "StopIteration", none, .fields [.ref 134, .none, .none, .none, .bool false, .none].toArray, [].toArray⟩
noncomputable def h136v0 (P : Params) : Obj := ⟨.type "tuple", none, .seq [.str ⟨#[10]⟩ 393].toArray 0, [].toArray⟩
noncomputable def h137v0 (P : Params) : Obj := ⟨.type "tuple", none, .seq [].toArray 0, [].toArray⟩
noncomputable def h138v0 (P : Params) : Obj := ⟨.none, none, .fields [].toArray, [].toArray⟩
noncomputable def h139v0 (P : Params) : Obj := ⟨.type "tuple", none, .seq [.str ⟨#[101, 110, 99, 111, 100, 101, 100]⟩ 1972, .str ⟨#[101, 111, 108]⟩ 1973, .str ⟨#[100, 101, 99, 111, 100, 101, 100]⟩ 1974, .str ⟨#[108, 105, 110, 101]⟩ 1975, .str ⟨#[105]⟩ 1976, .str ⟨#[110]⟩ 1977, .str ⟨#[99]⟩ 1978].toArray 0, [].toArray⟩
noncomputable def h140v0 (P : Params) : Obj := ⟨.type "tuple", none, .seq [].toArray 0, [].toArray⟩
noncomputable def h141v0 (P : Params) : Obj := fnT (stAt 24) ⟨#[100, 101, 99, 111, 100, 101]⟩ ⟨#[100, 101, 99, 111, 100, 101]⟩
noncomputable def h142v0 (P : Params) : Obj := ⟨.type "code", none, .fields [.str ⟨#[100, 101, 99, 111, 100, 101]⟩ 1969, .str ⟨#[100, 101, 99, 111, 100, 101]⟩ 1970, .str ⟨#[47, 99, 108, 97, 105, 109, 47, 99, 117, 116, 46, 112, 121]⟩ 1971, .int 80 0, .int 2 0, .int 0 0, .int 0 0, .int 3 0, .ref 137, .bool true, .int 276 0, .ref 138, .none, .ref 139, .ref 140, .ref 141, .int 1979 0, .int 80 0, .str ⟨#[47, 99, 108, 97, 105, 109, 47, 99, 117, 116, 46, 112, 121]⟩ 1980].toArray, [].toArray⟩
noncomputable def h143v0 (P : Params) : Obj := fnO (stAt 24) ⟨#[100, 101, 99, 111, 100, 101]⟩ ⟨#[100, 101, 99, 111, 100, 101]⟩ (.ref 136) (.str ⟨#[99, 112, 121, 51, 49, 51, 46, 101, 109, 97, 105, 108, 46, 113, 117, 111, 112, 114, 105, 109, 105, 109, 101]⟩ 1438) (.ref 142)
noncomputable def h144v0 (P : Params) : Obj := ⟨.type "tuple", none, .seq [].toArray 0, [].toArray⟩
noncomputable def h145v0 (P : Params) : Obj := ⟨.none, none, .fields [].toArray, [].toArray⟩
noncomputable def h146v0 (P : Params) : Obj := ⟨.type "tuple", none, .seq [.str ⟨#[109, 97, 116, 99, 104]⟩ 1985, .str ⟨#[115]⟩ 1986].toArray 0, [].toArray⟩
noncomputable def h147v0 (P : Params) : Obj := ⟨.type "tuple", none, .seq [].toArray 0, [].toArray⟩
noncomputable def h148v0 (P : Params) : Obj := fnT (stAt 25) ⟨#[95, 117, 110, 113, 117, 111, 116, 101, 95, 109, 97, 116, 99, 104]⟩ ⟨#[95, 117, 110, 113, 117, 111, 116, 101, 95, 109, 97, 116, 99, 104]⟩
noncomputable def h149v0 (P : Params) : Obj := ⟨.type "code", none, .fields [.str ⟨#[95, 117, 110, 113, 117, 111, 116, 101, 95, 109, 97, 116, 99, 104]⟩ 1982, .str ⟨#[95, 117, 110, 113, 117, 111, 116, 101, 95, 109, 97, 116, 99, 104]⟩ 1983, .str ⟨#[47, 99, 108, 97, 105, 109, 47, 99, 117, 116, 46, 112, 121]⟩ 1984, .int 110 0, .int 1 0, .int 0 0, .int 0 0, .int 3 0, .ref 144, .bool true, .int 276 0, .ref 145, .none, .ref 146, .ref 147, .ref 148, .int 1987 0, .int 110 0, .str ⟨#[47, 99, 108, 97, 105, 109, 47, 99, 117, 116, 46, 112, 121]⟩ 1988].toArray, [].toArray⟩
noncomputable def h150v0 (P : Params) : Obj := fnO (stAt 25) ⟨#[95, 117, 110, 113, 117, 111, 116, 101, 95, 109, 97, 116, 99, 104]⟩ ⟨#[95, 117, 110, 113, 117, 111, 116, 101, 95, 109, 97, 116, 99, 104]⟩ (.none) (.str ⟨#[99, 112, 121, 51, 49, 51, 46, 101, 109, 97, 105, 108, 46, 113, 117, 111, 112, 114, 105, 109, 105, 109, 101]⟩ 1438) (.ref 149)
noncomputable def h151v0 (P : Params) : Obj := ⟨.type "tuple", none, .seq [].toArray 0, [].toArray⟩
noncomputable def h152v0 (P : Params) : Obj := ⟨.none, none, .fields [].toArray, [].toArray⟩
noncomputable def h153v0 (P : Params) : Obj := ⟨.type "tuple", none, .seq [.str ⟨#[115]⟩ 1993].toArray 0, [].toArray⟩
noncomputable def h154v0 (P : Params) : Obj := ⟨.type "tuple", none, .seq [].toArray 0, [].toArray⟩
noncomputable def h155v0 (P : Params) : Obj := fnT (stAt 26) ⟨#[104, 101, 97, 100, 101, 114, 95, 100, 101, 99, 111, 100, 101]⟩ ⟨#[104, 101, 97, 100, 101, 114, 95, 100, 101, 99, 111, 100, 101]⟩
noncomputable def h156v0 (P : Params) : Obj := ⟨.type "code", none, .fields [.str ⟨#[104, 101, 97, 100, 101, 114, 95, 100, 101, 99, 111, 100, 101]⟩ 1990, .str ⟨#[104, 101, 97, 100, 101, 114, 95, 100, 101, 99, 111, 100, 101]⟩ 1991, .str ⟨#[47, 99, 108, 97, 105, 109, 47, 99, 117, 116, 46, 112, 121]⟩ 1992, .int 113 0, .int 1 0, .int 0 0, .int 0 0, .int 3 0, .ref 151, .bool true, .int 276 0, .ref 152, .none, .ref 153, .ref 154, .ref 155, .int 1994 0, .int 113 0, .str ⟨#[47, 99, 108, 97, 105, 109, 47, 99, 117, 116, 46, 112, 121]⟩ 1995].toArray, [].toArray⟩
noncomputable def h157v0 (P : Params) : Obj := fnO (stAt 26) ⟨#[104, 101, 97, 100, 101, 114, 95, 100, 101, 99, 111, 100, 101]⟩ ⟨#[104, 101, 97, 100, 101, 114, 95, 100, 101, 99, 111, 100, 101]⟩ (.none) (.str ⟨#[99, 112, 121, 51, 49, 51, 46, 101, 109, 97, 105, 108, 46, 113, 117, 111, 112, 114, 105, 109, 105, 109, 101]⟩ 1438) (.ref 156)
noncomputable def h158v0 (P : Params) : Obj := ⟨.type "tuple", none, .seq [].toArray 0, [].toArray⟩
noncomputable def h159v0 (P : Params) : Obj := ⟨.none, none, .fields [].toArray, [].toArray⟩
noncomputable def h160v0 (P : Params) : Obj := ⟨.type "tuple", none, .seq [.str ⟨#[116, 97, 107, 101, 110]⟩ 2002, .str ⟨#[99, 101, 108, 108, 115]⟩ 2003, .str ⟨#[112, 108, 97, 99, 101]⟩ 2004].toArray 0, [].toArray⟩
noncomputable def h161v0 (P : Params) : Obj := ⟨.type "tuple", none, .seq [].toArray 0, [].toArray⟩
noncomputable def h162v0 (P : Params) : Obj := fnT (stAt 28) ⟨#[95, 108, 97, 119, 95, 99, 101, 108, 108, 115]⟩ ⟨#[95, 108, 97, 119, 95, 99, 101, 108, 108, 115]⟩
noncomputable def h163v0 (P : Params) : Obj := ⟨.type "code", none, .fields [.str ⟨#[95, 108, 97, 119, 95, 99, 101, 108, 108, 115]⟩ 1999, .str ⟨#[95, 108, 97, 119, 95, 99, 101, 108, 108, 115]⟩ 2000, .str ⟨#[47, 99, 108, 97, 105, 109, 47, 99, 117, 116, 46, 112, 121]⟩ 2001, .int 117 0, .int 1 0, .int 0 0, .int 0 0, .int 3 0, .ref 158, .bool true, .int 276 0, .ref 159, .none, .ref 160, .ref 161, .ref 162, .int 2005 0, .int 117 0, .str ⟨#[47, 99, 108, 97, 105, 109, 47, 99, 117, 116, 46, 112, 121]⟩ 2006].toArray, [].toArray⟩
noncomputable def h164v0 (P : Params) : Obj := fnO (stAt 28) ⟨#[95, 108, 97, 119, 95, 99, 101, 108, 108, 115]⟩ ⟨#[95, 108, 97, 119, 95, 99, 101, 108, 108, 115]⟩ (.none) (.str ⟨#[108, 97, 119, 95, 116, 120, 48, 48, 50, 53, 95, 48, 49]⟩ 1997) (.ref 163)
noncomputable def h165v0 (P : Params) : Obj := ⟨.type "tuple", none, .seq [].toArray 0, [].toArray⟩
noncomputable def h166v0 (P : Params) : Obj := ⟨.none, none, .fields [].toArray, [].toArray⟩
noncomputable def h167v0 (P : Params) : Obj := fnT (stAt 29) ⟨#[95, 108, 97, 119, 95, 111, 99, 116, 101, 116, 115]⟩ ⟨#[95, 108, 97, 119, 95, 111, 99, 116, 101, 116, 115]⟩
noncomputable def h168v0 (P : Params) : Obj := ⟨.type "code", none, .fields [.str ⟨#[95, 108, 97, 119, 95, 111, 99, 116, 101, 116, 115]⟩ 2008, .str ⟨#[95, 108, 97, 119, 95, 111, 99, 116, 101, 116, 115]⟩ 2009, .str ⟨#[47, 99, 108, 97, 105, 109, 47, 99, 117, 116, 46, 112, 121]⟩ 2010, .int 122 0, .int 3 0, .int 0 0, .int 0 0, .int 3 0, .ref 165, .bool true, .int 276 0, .ref 166, .none, .none, .none, .ref 167, .int 2011 0, .int 122 0, .str ⟨#[47, 99, 108, 97, 105, 109, 47, 99, 117, 116, 46, 112, 121]⟩ 2012].toArray, [].toArray⟩
noncomputable def h169v0 (P : Params) : Obj := fnO (stAt 29) ⟨#[95, 108, 97, 119, 95, 111, 99, 116, 101, 116, 115]⟩ ⟨#[95, 108, 97, 119, 95, 111, 99, 116, 101, 116, 115]⟩ (.none) (.str ⟨#[108, 97, 119, 95, 116, 120, 48, 48, 50, 53, 95, 48, 49]⟩ 1997) (.ref 168)
noncomputable def h170v0 (P : Params) : Obj := ⟨.type "tuple", none, .seq [].toArray 0, [].toArray⟩
noncomputable def h171v0 (P : Params) : Obj := ⟨.none, none, .fields [].toArray, [].toArray⟩
noncomputable def h172v0 (P : Params) : Obj := ⟨.type "tuple", none, .seq [.str ⟨#[111, 99, 116, 101, 116]⟩ 2017].toArray 0, [].toArray⟩
noncomputable def h173v0 (P : Params) : Obj := ⟨.type "tuple", none, .seq [].toArray 0, [].toArray⟩
noncomputable def h174v0 (P : Params) : Obj := fnT (stAt 30) ⟨#[95, 108, 97, 119, 95, 101, 115, 99, 97, 112, 101, 100]⟩ ⟨#[95, 108, 97, 119, 95, 101, 115, 99, 97, 112, 101, 100]⟩
noncomputable def h175v0 (P : Params) : Obj := ⟨.type "code", none, .fields [.str ⟨#[95, 108, 97, 119, 95, 101, 115, 99, 97, 112, 101, 100]⟩ 2014, .str ⟨#[95, 108, 97, 119, 95, 101, 115, 99, 97, 112, 101, 100]⟩ 2015, .str ⟨#[47, 99, 108, 97, 105, 109, 47, 99, 117, 116, 46, 112, 121]⟩ 2016, .int 125 0, .int 1 0, .int 0 0, .int 0 0, .int 3 0, .ref 170, .bool true, .int 276 0, .ref 171, .none, .ref 172, .ref 173, .ref 174, .int 2018 0, .int 125 0, .str ⟨#[47, 99, 108, 97, 105, 109, 47, 99, 117, 116, 46, 112, 121]⟩ 2019].toArray, [].toArray⟩
noncomputable def h176v0 (P : Params) : Obj := fnO (stAt 30) ⟨#[95, 108, 97, 119, 95, 101, 115, 99, 97, 112, 101, 100]⟩ ⟨#[95, 108, 97, 119, 95, 101, 115, 99, 97, 112, 101, 100]⟩ (.none) (.str ⟨#[108, 97, 119, 95, 116, 120, 48, 48, 50, 53, 95, 48, 49]⟩ 1997) (.ref 175)
noncomputable def h177v0 (P : Params) : Obj := ⟨.type "tuple", none, .seq [].toArray 0, [].toArray⟩
noncomputable def h178v0 (P : Params) : Obj := ⟨.none, none, .fields [].toArray, [].toArray⟩
noncomputable def h179v0 (P : Params) : Obj := ⟨.type "tuple", none, .seq [.str ⟨#[114, 111, 119]⟩ 2024, .str ⟨#[97, 115, 95, 104, 101, 97, 100, 101, 114]⟩ 2025, .str ⟨#[102, 105, 103, 117, 114, 101, 115]⟩ 2026, .str ⟨#[116, 97, 105, 108, 115]⟩ 2027, .str ⟨#[112, 108, 97, 99, 101]⟩ 2028, .str ⟨#[111, 99, 116, 101, 116]⟩ 2029, .str ⟨#[114, 101, 115, 116]⟩ 2030].toArray 0, [].toArray⟩
noncomputable def h180v0 (P : Params) : Obj := ⟨.type "tuple", none, .seq [].toArray 0, [].toArray⟩
noncomputable def h181v0 (P : Params) : Obj := fnT (stAt 31) ⟨#[95, 108, 97, 119, 95, 116, 97, 105, 108, 115]⟩ ⟨#[95, 108, 97, 119, 95, 116, 97, 105, 108, 115]⟩
noncomputable def h182v0 (P : Params) : Obj := ⟨.type "code", none, .fields [.str ⟨#[95, 108, 97, 119, 95, 116, 97, 105, 108, 115]⟩ 2021, .str ⟨#[95, 108, 97, 119, 95, 116, 97, 105, 108, 115]⟩ 2022, .str ⟨#[47, 99, 108, 97, 105, 109, 47, 99, 117, 116, 46, 112, 121]⟩ 2023, .int 129 0, .int 2 0, .int 0 0, .int 0 0, .int 3 0, .ref 177, .bool true, .int 276 0, .ref 178, .none, .ref 179, .ref 180, .ref 181, .int 2031 0, .int 129 0, .str ⟨#[47, 99, 108, 97, 105, 109, 47, 99, 117, 116, 46, 112, 121]⟩ 2032].toArray, [].toArray⟩
noncomputable def h183v0 (P : Params) : Obj := fnO (stAt 31) ⟨#[95, 108, 97, 119, 95, 116, 97, 105, 108, 115]⟩ ⟨#[95, 108, 97, 119, 95, 116, 97, 105, 108, 115]⟩ (.none) (.str ⟨#[108, 97, 119, 95, 116, 120, 48, 48, 50, 53, 95, 48, 49]⟩ 1997) (.ref 182)
noncomputable def h184v0 (P : Params) : Obj := ⟨.type "tuple", none, .seq [].toArray 0, [].toArray⟩
noncomputable def h185v0 (P : Params) : Obj := ⟨.none, none, .fields [].toArray, [].toArray⟩
noncomputable def h186v0 (P : Params) : Obj := fnT (stAt 32) ⟨#[95, 108, 97, 119, 95, 97, 103, 101, 110, 116, 115]⟩ ⟨#[95, 108, 97, 119, 95, 97, 103, 101, 110, 116, 115]⟩
noncomputable def h187v0 (P : Params) : Obj := ⟨.type "code", none, .fields [.str ⟨#[95, 108, 97, 119, 95, 97, 103, 101, 110, 116, 115]⟩ 2034, .str ⟨#[95, 108, 97, 119, 95, 97, 103, 101, 110, 116, 115]⟩ 2035, .str ⟨#[47, 99, 108, 97, 105, 109, 47, 99, 117, 116, 46, 112, 121]⟩ 2036, .int 140 0, .int 3 0, .int 0 0, .int 0 0, .int 3 0, .ref 184, .bool true, .int 276 0, .ref 185, .none, .none, .none, .ref 186, .int 2037 0, .int 140 0, .str ⟨#[47, 99, 108, 97, 105, 109, 47, 99, 117, 116, 46, 112, 121]⟩ 2038].toArray, [].toArray⟩
noncomputable def h188v0 (P : Params) : Obj := fnO (stAt 32) ⟨#[95, 108, 97, 119, 95, 97, 103, 101, 110, 116, 115]⟩ ⟨#[95, 108, 97, 119, 95, 97, 103, 101, 110, 116, 115]⟩ (.none) (.str ⟨#[108, 97, 119, 95, 116, 120, 48, 48, 50, 53, 95, 48, 49]⟩ 1997) (.ref 187)
noncomputable def h189v0 (P : Params) : Obj := ⟨.type "tuple", none, .seq [].toArray 0, [].toArray⟩
noncomputable def h190v0 (P : Params) : Obj := ⟨.none, none, .fields [].toArray, [].toArray⟩
noncomputable def h191v0 (P : Params) : Obj := fnT (stAt 33) ⟨#[95, 108, 97, 119, 95, 99, 111, 97, 116, 115]⟩ ⟨#[95, 108, 97, 119, 95, 99, 111, 97, 116, 115]⟩
noncomputable def h192v0 (P : Params) : Obj := ⟨.type "code", none, .fields [.str ⟨#[95, 108, 97, 119, 95, 99, 111, 97, 116, 115]⟩ 2040, .str ⟨#[95, 108, 97, 119, 95, 99, 111, 97, 116, 115]⟩ 2041, .str ⟨#[47, 99, 108, 97, 105, 109, 47, 99, 117, 116, 46, 112, 121]⟩ 2042, .int 155 0, .int 1 0, .int 0 0, .int 0 0, .int 3 0, .ref 189, .bool true, .int 276 0, .ref 190, .none, .none, .none, .ref 191, .int 2043 0, .int 155 0, .str ⟨#[47, 99, 108, 97, 105, 109, 47, 99, 117, 116, 46, 112, 121]⟩ 2044].toArray, [].toArray⟩
noncomputable def h193v0 (P : Params) : Obj := fnO (stAt 33) ⟨#[95, 108, 97, 119, 95, 99, 111, 97, 116, 115]⟩ ⟨#[95, 108, 97, 119, 95, 99, 111, 97, 116, 115]⟩ (.none) (.str ⟨#[108, 97, 119, 95, 116, 120, 48, 48, 50, 53, 95, 48, 49]⟩ 1997) (.ref 192)
noncomputable def h194v0 (P : Params) : Obj := ⟨.type "tuple", none, .seq [].toArray 0, [].toArray⟩
noncomputable def h195v0 (P : Params) : Obj := ⟨.none, none, .fields [].toArray, [].toArray⟩
noncomputable def h196v0 (P : Params) : Obj := ⟨.type "tuple", none, .seq [.str ⟨#[114, 111, 119]⟩ 2049, .str ⟨#[99, 111, 97, 116]⟩ 2050, .str ⟨#[115, 109, 97, 108, 108]⟩ 2051, .str ⟨#[111, 99, 116, 101, 116]⟩ 2052].toArray 0, [].toArray⟩
noncomputable def h197v0 (P : Params) : Obj := ⟨.type "tuple", none, .seq [].toArray 0, [].toArray⟩
noncomputable def h198v0 (P : Params) : Obj := fnT (stAt 34) ⟨#[95, 108, 97, 119, 95, 115, 109, 97, 108, 108]⟩ ⟨#[95, 108, 97, 119, 95, 115, 109, 97, 108, 108]⟩
noncomputable def h199v0 (P : Params) : Obj := ⟨.type "code", none, .fields [.str ⟨#[95, 108, 97, 119, 95, 115, 109, 97, 108, 108]⟩ 2046, .str ⟨#[95, 108, 97, 119, 95, 115, 109, 97, 108, 108]⟩ 2047, .str ⟨#[47, 99, 108, 97, 105, 109, 47, 99, 117, 116, 46, 112, 121]⟩ 2048, .int 158 0, .int 2 0, .int 0 0, .int 0 0, .int 3 0, .ref 194, .bool true, .int 276 0, .ref 195, .none, .ref 196, .ref 197, .ref 198, .int 2053 0, .int 158 0, .str ⟨#[47, 99, 108, 97, 105, 109, 47, 99, 117, 116, 46, 112, 121]⟩ 2054].toArray, [].toArray⟩
noncomputable def h200v0 (P : Params) : Obj := fnO (stAt 34) ⟨#[95, 108, 97, 119, 95, 115, 109, 97, 108, 108]⟩ ⟨#[95, 108, 97, 119, 95, 115, 109, 97, 108, 108]⟩ (.none) (.str ⟨#[108, 97, 119, 95, 116, 120, 48, 48, 50, 53, 95, 48, 49]⟩ 1997) (.ref 199)
noncomputable def h201v0 (P : Params) : Obj := ⟨.type "tuple", none, .seq [].toArray 0, [].toArray⟩
noncomputable def h202v0 (P : Params) : Obj := ⟨.none, none, .fields [].toArray, [].toArray⟩
noncomputable def h203v0 (P : Params) : Obj := fnT (stAt 35) ⟨#[95, 108, 97, 119, 95, 104, 105, 116, 115]⟩ ⟨#[95, 108, 97, 119, 95, 104, 105, 116, 115]⟩
noncomputable def h204v0 (P : Params) : Obj := ⟨.type "code", none, .fields [.str ⟨#[95, 108, 97, 119, 95, 104, 105, 116, 115]⟩ 2056, .str ⟨#[95, 108, 97, 119, 95, 104, 105, 116, 115]⟩ 2057, .str ⟨#[47, 99, 108, 97, 105, 109, 47, 99, 117, 116, 46, 112, 121]⟩ 2058, .int 168 0, .int 3 0, .int 0 0, .int 0 0, .int 3 0, .ref 201, .bool true, .int 276 0, .ref 202, .none, .none, .none, .ref 203, .int 2059 0, .int 168 0, .str ⟨#[47, 99, 108, 97, 105, 109, 47, 99, 117, 116, 46, 112, 121]⟩ 2060].toArray, [].toArray⟩
noncomputable def h205v0 (P : Params) : Obj := fnO (stAt 35) ⟨#[95, 108, 97, 119, 95, 104, 105, 116, 115]⟩ ⟨#[95, 108, 97, 119, 95, 104, 105, 116, 115]⟩ (.none) (.str ⟨#[108, 97, 119, 95, 116, 120, 48, 48, 50, 53, 95, 48, 49]⟩ 1997) (.ref 204)
noncomputable def h206v0 (P : Params) : Obj := ⟨.type "tuple", none, .seq [].toArray 0, [].toArray⟩
noncomputable def h207v0 (P : Params) : Obj := ⟨.none, none, .fields [].toArray, [].toArray⟩
noncomputable def h208v0 (P : Params) : Obj := ⟨.type "tuple", none, .seq [.str ⟨#[116, 101, 120, 116, 115]⟩ 2065, .str ⟨#[114, 101, 99, 111, 114, 100]⟩ 2066].toArray 0, [].toArray⟩
noncomputable def h209v0 (P : Params) : Obj := ⟨.type "tuple", none, .seq [].toArray 0, [].toArray⟩
noncomputable def h210v0 (P : Params) : Obj := fnT (stAt 36) ⟨#[95, 108, 97, 119, 95, 114, 101, 99, 111, 114, 100]⟩ ⟨#[95, 108, 97, 119, 95, 114, 101, 99, 111, 114, 100]⟩
noncomputable def h211v0 (P : Params) : Obj := ⟨.type "code", none, .fields [.str ⟨#[95, 108, 97, 119, 95, 114, 101, 99, 111, 114, 100]⟩ 2062, .str ⟨#[95, 108, 97, 119, 95, 114, 101, 99, 111, 114, 100]⟩ 2063, .str ⟨#[47, 99, 108, 97, 105, 109, 47, 99, 117, 116, 46, 112, 121]⟩ 2064, .int 178 0, .int 1 0, .int 0 0, .int 0 0, .int 3 0, .ref 206, .bool true, .int 276 0, .ref 207, .none, .ref 208, .ref 209, .ref 210, .int 2067 0, .int 178 0, .str ⟨#[47, 99, 108, 97, 105, 109, 47, 99, 117, 116, 46, 112, 121]⟩ 2068].toArray, [].toArray⟩
noncomputable def h212v0 (P : Params) : Obj := fnO (stAt 36) ⟨#[95, 108, 97, 119, 95, 114, 101, 99, 111, 114, 100]⟩ ⟨#[95, 108, 97, 119, 95, 114, 101, 99, 111, 114, 100]⟩ (.none) (.str ⟨#[108, 97, 119, 95, 116, 120, 48, 48, 50, 53, 95, 48, 49]⟩ 1997) (.ref 211)
noncomputable def h213v0 (P : Params) : Obj := ⟨.type "tuple", none, .seq [].toArray 0, [].toArray⟩
noncomputable def h214v0 (P : Params) : Obj := ⟨.none, none, .fields [].toArray, [].toArray⟩
noncomputable def h215v0 (P : Params) : Obj := ⟨.type "tuple", none, .seq [.str ⟨#[116, 111, 108, 100]⟩ 2073, .str ⟨#[100, 117, 101]⟩ 2074].toArray 0, [].toArray⟩
noncomputable def h216v0 (P : Params) : Obj := ⟨.type "tuple", none, .seq [].toArray 0, [].toArray⟩
noncomputable def h217v0 (P : Params) : Obj := fnT (stAt 37) ⟨#[95, 108, 97, 119, 95, 115, 97, 109, 101]⟩ ⟨#[95, 108, 97, 119, 95, 115, 97, 109, 101]⟩
noncomputable def h218v0 (P : Params) : Obj := ⟨.type "code", none, .fields [.str ⟨#[95, 108, 97, 119, 95, 115, 97, 109, 101]⟩ 2070, .str ⟨#[95, 108, 97, 119, 95, 115, 97, 109, 101]⟩ 2071, .str ⟨#[47, 99, 108, 97, 105, 109, 47, 99, 117, 116, 46, 112, 121]⟩ 2072, .int 182 0, .int 2 0, .int 0 0, .int 0 0, .int 3 0, .ref 213, .bool true, .int 276 0, .ref 214, .none, .ref 215, .ref 216, .ref 217, .int 2075 0, .int 182 0, .str ⟨#[47, 99, 108, 97, 105, 109, 47, 99, 117, 116, 46, 112, 121]⟩ 2076].toArray, [].toArray⟩
noncomputable def h219v0 (P : Params) : Obj := fnO (stAt 37) ⟨#[95, 108, 97, 119, 95, 115, 97, 109, 101]⟩ ⟨#[95, 108, 97, 119, 95, 115, 97, 109, 101]⟩ (.none) (.str ⟨#[108, 97, 119, 95, 116, 120, 48, 48, 50, 53, 95, 48, 49]⟩ 1997) (.ref 218)
noncomputable def h220v0 (P : Params) : Obj := ⟨.type "tuple", none, .seq [].toArray 0, [].toArray⟩
noncomputable def h221v0 (P : Params) : Obj := ⟨.none, none, .fields [].toArray, [].toArray⟩
noncomputable def h222v0 (P : Params) : Obj := fnT (stAt 38) ⟨#[108, 97, 119]⟩ ⟨#[108, 97, 119]⟩
noncomputable def h223v0 (P : Params) : Obj := ⟨.type "code", none, .fields [.str ⟨#[108, 97, 119]⟩ 2078, .str ⟨#[108, 97, 119]⟩ 2079, .str ⟨#[47, 99, 108, 97, 105, 109, 47, 99, 117, 116, 46, 112, 121]⟩ 2080, .int 184 0, .int 1 0, .int 0 0, .int 0 0, .int 3 0, .ref 220, .bool true, .int 276 0, .ref 221, .none, .none, .none, .ref 222, .int 2081 0, .int 184 0, .str ⟨#[47, 99, 108, 97, 105, 109, 47, 99, 117, 116, 46, 112, 121]⟩ 2082].toArray, [].toArray⟩
noncomputable def h224v0 (P : Params) : Obj := fnO (stAt 38) ⟨#[108, 97, 119]⟩ ⟨#[108, 97, 119]⟩ (.none) (.str ⟨#[108, 97, 119, 95, 116, 120, 48, 48, 50, 53, 95, 48, 49]⟩ 1997) (.ref 223)
/-- behind 0 steps, 276 tokens, 28 objects -/
noncomputable def Ts0 (P : Params) : BT := (.node (h0v0 P) (.node (h1v0 P) (.node (h3v0 P) (.node (h7v0 P) (.node (h15v0 P) .nil .nil) (.node (h23v0 P) .nil .nil)) (.node (h11v0 P) (.node (h19v0 P) .nil .nil) (.node (h27v0 P) .nil .nil))) (.node (h5v0 P) (.node (h9v0 P) (.node (h17v0 P) .nil .nil) (.node (h25v0 P) .nil .nil)) (.node (h13v0 P) (.node (h21v0 P) .nil .nil) .nil))) (.node (h2v0 P) (.node (h4v0 P) (.node (h8v0 P) (.node (h16v0 P) .nil .nil) (.node (h24v0 P) .nil .nil)) (.node (h12v0 P) (.node (h20v0 P) .nil .nil) .nil)) (.node (h6v0 P) (.node (h10v0 P) (.node (h18v0 P) .nil .nil) (.node (h26v0 P) .nil .nil)) (.node (h14v0 P) (.node (h22v0 P) .nil .nil) .nil))))
/-- behind 12 steps, 282 tokens, 32 objects -/
noncomputable def Ta (P : Params) : BT := (.node (h0v0 P) (.node (h1v0 P) (.node (h3v0 P) (.node (h7v0 P) (.node (h15v0 P) (.node (h31v0 P) .nil .nil) .nil) (.node (h23v0 P) .nil .nil)) (.node (h11v0 P) (.node (h19v0 P) .nil .nil) (.node (h27v0 P) .nil .nil))) (.node (h5v0 P) (.node (h9v0 P) (.node (h17v0 P) .nil .nil) (.node (h25v0 P) .nil .nil)) (.node (h13v0 P) (.node (h21v0 P) .nil .nil) (.node (h29v0 P) .nil .nil)))) (.node (h2v0 P) (.node (h4v0 P) (.node (h8v0 P) (.node (h16v0 P) .nil .nil) (.node (h24v0 P) .nil .nil)) (.node (h12v0 P) (.node (h20v0 P) .nil .nil) (.node (h28v0 P) .nil .nil))) (.node (h6v0 P) (.node (h10v0 P) (.node (h18v0 P) .nil .nil) (.node (h26v0 P) .nil .nil)) (.node (h14v0 P) (.node (h22v0 P) .nil .nil) (.node (h30v0 P) .nil .nil)))))
/-- behind 491 steps, 395 tokens, 93 objects -/
noncomputable def TL53 (P : Params) : BT := (.node (h0v0 P) (.node (h1v0 P) (.node (h3v1 P) (.node (h7v0 P) (.node (h15v0 P) (.node (h31v0 P) (.node (h63v0 P) .nil .nil) .nil) (.node (h47v0 P) (.node (h79v0 P) .nil .nil) .nil)) (.node (h23v0 P) (.node (h39v0 P) (.node (h71v0 P) .nil .nil) .nil) (.node (h55v0 P) (.node (h87v0 P) .nil .nil) .nil))) (.node (h11v0 P) (.node (h19v0 P) (.node (h35v0 P) (.node (h67v0 P) .nil .nil) .nil) (.node (h51v0 P) (.node (h83v0 P) .nil .nil) .nil)) (.node (h27v0 P) (.node (h43v0 P) (.node (h75v0 P) .nil .nil) .nil) (.node (h59v0 P) (.node (h91v0 P) .nil .nil) .nil)))) (.node (h5v0 P) (.node (h9v0 P) (.node (h17v0 P) (.node (h33v0 P) (.node (h65v0 P) .nil .nil) .nil) (.node (h49v0 P) (.node (h81v0 P) .nil .nil) .nil)) (.node (h25v0 P) (.node (h41v0 P) (.node (h73v0 P) .nil .nil) .nil) (.node (h57v0 P) (.node (h89v0 P) .nil .nil) .nil))) (.node (h13v0 P) (.node (h21v0 P) (.node (h37v0 P) (.node (h69v0 P) .nil .nil) .nil) (.node (h53v0 P) (.node (h85v0 P) .nil .nil) .nil)) (.node (h29v1 P) (.node (h45v0 P) (.node (h77v0 P) .nil .nil) .nil) (.node (h61v0 P) .nil .nil))))) (.node (h2v0 P) (.node (h4v0 P) (.node (h8v0 P) (.node (h16v0 P) (.node (h32v0 P) (.node (h64v0 P) .nil .nil) .nil) (.node (h48v0 P) (.node (h80v0 P) .nil .nil) .nil)) (.node (h24v0 P) (.node (h40v0 P) (.node (h72v0 P) .nil .nil) .nil) (.node (h56v0 P) (.node (h88v0 P) .nil .nil) .nil))) (.node (h12v0 P) (.node (h20v0 P) (.node (h36v0 P) (.node (h68v0 P) .nil .nil) .nil) (.node (h52v0 P) (.node (h84v0 P) .nil .nil) .nil)) (.node (h28v0 P) (.node (h44v0 P) (.node (h76v0 P) .nil .nil) .nil) (.node (h60v0 P) (.node (h92v0 P) .nil .nil) .nil)))) (.node (h6v0 P) (.node (h10v0 P) (.node (h18v0 P) (.node (h34v0 P) (.node (h66v0 P) .nil .nil) .nil) (.node (h50v0 P) (.node (h82v0 P) .nil .nil) .nil)) (.node (h26v0 P) (.node (h42v0 P) (.node (h74v0 P) .nil .nil) .nil) (.node (h58v0 P) (.node (h90v0 P) .nil .nil) .nil))) (.node (h14v0 P) (.node (h22v0 P) (.node (h38v0 P) (.node (h70v0 P) .nil .nil) .nil) (.node (h54v0 P) (.node (h86v0 P) .nil .nil) .nil)) (.node (h30v0 P) (.node (h46v0 P) (.node (h78v0 P) .nil .nil) .nil) (.node (h62v0 P) .nil .nil))))))
/-- behind 570 steps, 402 tokens, 97 objects -/
noncomputable def TL53C2 (P : Params) (j : Nat) : BT := (.node (h0v0 P) (.node (h1v0 P) (.node (h3v1 P) (.node (h7v0 P) (.node (h15v0 P) (.node (h31v0 P) (.node (h63v0 P) .nil .nil) (.node (hq95 j) .nil .nil)) (.node (h47v0 P) (.node (h79v0 P) .nil .nil) .nil)) (.node (h23v0 P) (.node (h39v0 P) (.node (h71v0 P) .nil .nil) .nil) (.node (h55v0 P) (.node (h87v0 P) .nil .nil) .nil))) (.node (h11v0 P) (.node (h19v0 P) (.node (h35v0 P) (.node (h67v0 P) .nil .nil) .nil) (.node (h51v0 P) (.node (h83v0 P) .nil .nil) .nil)) (.node (h27v0 P) (.node (h43v0 P) (.node (h75v0 P) .nil .nil) .nil) (.node (h59v0 P) (.node (h91v0 P) .nil .nil) .nil)))) (.node (h5v0 P) (.node (h9v0 P) (.node (h17v0 P) (.node (h33v0 P) (.node (h65v0 P) .nil .nil) .nil) (.node (h49v0 P) (.node (h81v0 P) .nil .nil) .nil)) (.node (h25v0 P) (.node (h41v0 P) (.node (h73v0 P) .nil .nil) .nil) (.node (h57v0 P) (.node (h89v0 P) .nil .nil) .nil))) (.node (h13v0 P) (.node (h21v0 P) (.node (h37v0 P) (.node (h69v0 P) .nil .nil) .nil) (.node (h53v0 P) (.node (h85v0 P) .nil .nil) .nil)) (.node (h29v1 P) (.node (h45v0 P) (.node (h77v0 P) .nil .nil) .nil) (.node (h61v0 P) (.node (h93v0 P) .nil .nil) .nil))))) (.node (h2v0 P) (.node (h4v0 P) (.node (h8v0 P) (.node (h16v0 P) (.node (h32v0 P) (.node (h64v0 P) .nil .nil) (.node (hd96 P j) .nil .nil)) (.node (h48v0 P) (.node (h80v0 P) .nil .nil) .nil)) (.node (h24v0 P) (.node (h40v0 P) (.node (h72v0 P) .nil .nil) .nil) (.node (h56v0 P) (.node (h88v0 P) .nil .nil) .nil))) (.node (h12v0 P) (.node (h20v0 P) (.node (h36v0 P) (.node (h68v0 P) .nil .nil) .nil) (.node (h52v0 P) (.node (h84v0 P) .nil .nil) .nil)) (.node (h28v0 P) (.node (h44v0 P) (.node (h76v0 P) .nil .nil) .nil) (.node (h60v0 P) (.node (h92v0 P) .nil .nil) .nil)))) (.node (h6v0 P) (.node (h10v0 P) (.node (h18v0 P) (.node (h34v0 P) (.node (h66v0 P) .nil .nil) .nil) (.node (h50v0 P) (.node (h82v0 P) .nil .nil) .nil)) (.node (h26v0 P) (.node (h42v0 P) (.node (h74v0 P) .nil .nil) .nil) (.node (h58v0 P) (.node (h90v0 P) .nil .nil) .nil))) (.node (h14v0 P) (.node (h22v0 P) (.node (h38v0 P) (.node (h70v0 P) .nil .nil) .nil) (.node (h54v0 P) (.node (h86v0 P) .nil .nil) .nil)) (.node (h30v0 P) (.node (h46v0 P) (.node (h78v0 P) .nil .nil) .nil) (.node (h62v0 P) (.node (hi94 j) .nil .nil) .nil))))))
/-- behind 10032 steps, 1423 tokens, 99 objects -/
noncomputable def TL54 (P : Params) : BT := (.node (h0v0 P) (.node (h1v0 P) (.node (h3v2 P) (.node (h7v0 P) (.node (h15v0 P) (.node (h31v0 P) (.node (h63v0 P) .nil .nil) (.node (hq95 256) .nil .nil)) (.node (h47v0 P) (.node (h79v0 P) .nil .nil) .nil)) (.node (h23v0 P) (.node (h39v0 P) (.node (h71v0 P) .nil .nil) .nil) (.node (h55v0 P) (.node (h87v0 P) .nil .nil) .nil))) (.node (h11v0 P) (.node (h19v0 P) (.node (h35v0 P) (.node (h67v0 P) .nil .nil) .nil) (.node (h51v0 P) (.node (h83v0 P) .nil .nil) .nil)) (.node (h27v0 P) (.node (h43v0 P) (.node (h75v0 P) .nil .nil) .nil) (.node (h59v0 P) (.node (h91v0 P) .nil .nil) .nil)))) (.node (h5v0 P) (.node (h9v0 P) (.node (h17v0 P) (.node (h33v0 P) (.node (h65v0 P) .nil .nil) (.node (h97v0 P) .nil .nil)) (.node (h49v0 P) (.node (h81v0 P) .nil .nil) .nil)) (.node (h25v0 P) (.node (h41v0 P) (.node (h73v0 P) .nil .nil) .nil) (.node (h57v0 P) (.node (h89v0 P) .nil .nil) .nil))) (.node (h13v0 P) (.node (h21v0 P) (.node (h37v0 P) (.node (h69v0 P) .nil .nil) .nil) (.node (h53v0 P) (.node (h85v0 P) .nil .nil) .nil)) (.node (h29v1 P) (.node (h45v0 P) (.node (h77v0 P) .nil .nil) .nil) (.node (h61v0 P) (.node (h93v0 P) .nil .nil) .nil))))) (.node (h2v0 P) (.node (h4v0 P) (.node (h8v0 P) (.node (h16v0 P) (.node (h32v0 P) (.node (h64v0 P) .nil .nil) (.node (h96v0 P) .nil .nil)) (.node (h48v0 P) (.node (h80v0 P) .nil .nil) .nil)) (.node (h24v0 P) (.node (h40v0 P) (.node (h72v0 P) .nil .nil) .nil) (.node (h56v0 P) (.node (h88v0 P) .nil .nil) .nil))) (.node (h12v0 P) (.node (h20v0 P) (.node (h36v0 P) (.node (h68v0 P) .nil .nil) .nil) (.node (h52v0 P) (.node (h84v0 P) .nil .nil) .nil)) (.node (h28v0 P) (.node (h44v0 P) (.node (h76v0 P) .nil .nil) .nil) (.node (h60v0 P) (.node (h92v0 P) .nil .nil) .nil)))) (.node (h6v0 P) (.node (h10v0 P) (.node (h18v0 P) (.node (h34v0 P) (.node (h66v0 P) .nil .nil) (.node (h98v0 P) .nil .nil)) (.node (h50v0 P) (.node (h82v0 P) .nil .nil) .nil)) (.node (h26v0 P) (.node (h42v0 P) (.node (h74v0 P) .nil .nil) .nil) (.node (h58v0 P) (.node (h90v0 P) .nil .nil) .nil))) (.node (h14v0 P) (.node (h22v0 P) (.node (h38v0 P) (.node (h70v0 P) .nil .nil) .nil) (.node (h54v0 P) (.node (h86v0 P) .nil .nil) .nil)) (.node (h30v0 P) (.node (h46v0 P) (.node (h78v0 P) .nil .nil) .nil) (.node (h62v0 P) (.node (hi94 256) .nil .nil) .nil))))))
/-- behind 10164 steps, 1440 tokens, 103 objects -/
noncomputable def TL62 (P : Params) : BT := (.node (h0v0 P) (.node (h1v0 P) (.node (h3v3 P) (.node (h7v0 P) (.node (h15v0 P) (.node (h31v0 P) (.node (h63v0 P) .nil .nil) (.node (hq95 256) .nil .nil)) (.node (h47v0 P) (.node (h79v0 P) .nil .nil) .nil)) (.node (h23v0 P) (.node (h39v0 P) (.node (h71v0 P) .nil .nil) .nil) (.node (h55v0 P) (.node (h87v0 P) .nil .nil) .nil))) (.node (h11v0 P) (.node (h19v0 P) (.node (h35v0 P) (.node (h67v0 P) .nil .nil) (.node (h99v0 P) .nil .nil)) (.node (h51v0 P) (.node (h83v0 P) .nil .nil) .nil)) (.node (h27v0 P) (.node (h43v0 P) (.node (h75v0 P) .nil .nil) .nil) (.node (h59v0 P) (.node (h91v0 P) .nil .nil) .nil)))) (.node (h5v0 P) (.node (h9v0 P) (.node (h17v0 P) (.node (h33v0 P) (.node (h65v0 P) .nil .nil) (.node (h97v0 P) .nil .nil)) (.node (h49v0 P) (.node (h81v0 P) .nil .nil) .nil)) (.node (h25v0 P) (.node (h41v0 P) (.node (h73v0 P) .nil .nil) .nil) (.node (h57v0 P) (.node (h89v0 P) .nil .nil) .nil))) (.node (h13v0 P) (.node (h21v0 P) (.node (h37v0 P) (.node (h69v0 P) .nil .nil) (.node (h101v0 P) .nil .nil)) (.node (h53v0 P) (.node (h85v0 P) .nil .nil) .nil)) (.node (h29v1 P) (.node (h45v0 P) (.node (h77v0 P) .nil .nil) .nil) (.node (h61v0 P) (.node (h93v0 P) .nil .nil) .nil))))) (.node (h2v0 P) (.node (h4v0 P) (.node (h8v0 P) (.node (h16v0 P) (.node (h32v0 P) (.node (h64v0 P) .nil .nil) (.node (h96v0 P) .nil .nil)) (.node (h48v0 P) (.node (h80v0 P) .nil .nil) .nil)) (.node (h24v0 P) (.node (h40v0 P) (.node (h72v0 P) .nil .nil) .nil) (.node (h56v0 P) (.node (h88v0 P) .nil .nil) .nil))) (.node (h12v0 P) (.node (h20v0 P) (.node (h36v0 P) (.node (h68v0 P) .nil .nil) (.node (hl100 0) .nil .nil)) (.node (h52v0 P) (.node (h84v0 P) .nil .nil) .nil)) (.node (h28v0 P) (.node (h44v0 P) (.node (h76v0 P) .nil .nil) .nil) (.node (h60v0 P) (.node (h92v0 P) .nil .nil) .nil)))) (.node (h6v0 P) (.node (h10v0 P) (.node (h18v0 P) (.node (h34v0 P) (.node (h66v0 P) .nil .nil) (.node (h98v0 P) .nil .nil)) (.node (h50v0 P) (.node (h82v0 P) .nil .nil) .nil)) (.node (h26v0 P) (.node (h42v0 P) (.node (h74v0 P) .nil .nil) .nil) (.node (h58v0 P) (.node (h90v0 P) .nil .nil) .nil))) (.node (h14v0 P) (.node (h22v0 P) (.node (h38v0 P) (.node (h70v0 P) .nil .nil) (.node (hl102 0) .nil .nil)) (.node (h54v0 P) (.node (h86v0 P) .nil .nil) .nil)) (.node (h30v0 P) (.node (h46v0 P) (.node (h78v0 P) .nil .nil) .nil) (.node (h62v0 P) (.node (hi94 256) .nil .nil) .nil))))))
/-- behind 11288 steps, 1519 tokens, 104 objects -/
noncomputable def TL62H24 (P : Params) (j : Nat) : BT := (.node (h0v0 P) (.node (h1v0 P) (.node (h3c P (cv62 j)) (.node (h7v0 P) (.node (h15v0 P) (.node (h31v0 P) (.node (h63v0 P) .nil .nil) (.node (hq95 256) .nil .nil)) (.node (h47v0 P) (.node (h79v0 P) .nil .nil) .nil)) (.node (h23v0 P) (.node (h39v0 P) (.node (h71v0 P) .nil .nil) (.node (hi103 j) .nil .nil)) (.node (h55v0 P) (.node (h87v0 P) .nil .nil) .nil))) (.node (h11v0 P) (.node (h19v0 P) (.node (h35v0 P) (.node (h67v0 P) .nil .nil) (.node (h99v0 P) .nil .nil)) (.node (h51v0 P) (.node (h83v0 P) .nil .nil) .nil)) (.node (h27v0 P) (.node (h43v0 P) (.node (h75v0 P) .nil .nil) .nil) (.node (h59v0 P) (.node (h91v0 P) .nil .nil) .nil)))) (.node (h5v0 P) (.node (h9v0 P) (.node (h17v0 P) (.node (h33v0 P) (.node (h65v0 P) .nil .nil) (.node (h97v0 P) .nil .nil)) (.node (h49v0 P) (.node (h81v0 P) .nil .nil) .nil)) (.node (h25v0 P) (.node (h41v0 P) (.node (h73v0 P) .nil .nil) .nil) (.node (h57v0 P) (.node (h89v0 P) .nil .nil) .nil))) (.node (h13v0 P) (.node (h21v0 P) (.node (h37v0 P) (.node (h69v0 P) .nil .nil) (.node (h101v0 P) .nil .nil)) (.node (h53v0 P) (.node (h85v0 P) .nil .nil) .nil)) (.node (h29v1 P) (.node (h45v0 P) (.node (h77v0 P) .nil .nil) .nil) (.node (h61v0 P) (.node (h93v0 P) .nil .nil) .nil))))) (.node (h2v0 P) (.node (h4v0 P) (.node (h8v0 P) (.node (h16v0 P) (.node (h32v0 P) (.node (h64v0 P) .nil .nil) (.node (h96v0 P) .nil .nil)) (.node (h48v0 P) (.node (h80v0 P) .nil .nil) .nil)) (.node (h24v0 P) (.node (h40v0 P) (.node (h72v0 P) .nil .nil) .nil) (.node (h56v0 P) (.node (h88v0 P) .nil .nil) .nil))) (.node (h12v0 P) (.node (h20v0 P) (.node (h36v0 P) (.node (h68v0 P) .nil .nil) (.node (hl100 j) .nil .nil)) (.node (h52v0 P) (.node (h84v0 P) .nil .nil) .nil)) (.node (h28v0 P) (.node (h44v0 P) (.node (h76v0 P) .nil .nil) .nil) (.node (h60v0 P) (.node (h92v0 P) .nil .nil) .nil)))) (.node (h6v0 P) (.node (h10v0 P) (.node (h18v0 P) (.node (h34v0 P) (.node (h66v0 P) .nil .nil) (.node (h98v0 P) .nil .nil)) (.node (h50v0 P) (.node (h82v0 P) .nil .nil) .nil)) (.node (h26v0 P) (.node (h42v0 P) (.node (h74v0 P) .nil .nil) .nil) (.node (h58v0 P) (.node (h90v0 P) .nil .nil) .nil))) (.node (h14v0 P) (.node (h22v0 P) (.node (h38v0 P) (.node (h70v0 P) .nil .nil) (.node (hl102 0) .nil .nil)) (.node (h54v0 P) (.node (h86v0 P) .nil .nil) .nil)) (.node (h30v0 P) (.node (h46v0 P) (.node (h78v0 P) .nil .nil) .nil) (.node (h62v0 P) (.node (hi94 256) .nil .nil) .nil))))))
/-- behind 13240 steps, 1648 tokens, 106 objects -/
noncomputable def TL64 (P : Params) : BT := (.node (h0v0 P) (.node (h1v0 P) (.node (h3v4 P) (.node (h7v0 P) (.node (h15v0 P) (.node (h31v0 P) (.node (h63v0 P) .nil .nil) (.node (hq95 256) .nil .nil)) (.node (h47v0 P) (.node (h79v0 P) .nil .nil) .nil)) (.node (h23v0 P) (.node (h39v0 P) (.node (h71v0 P) .nil .nil) (.node (h103v0 P) .nil .nil)) (.node (h55v0 P) (.node (h87v0 P) .nil .nil) .nil))) (.node (h11v0 P) (.node (h19v0 P) (.node (h35v0 P) (.node (h67v0 P) .nil .nil) (.node (h99v0 P) .nil .nil)) (.node (h51v0 P) (.node (h83v0 P) .nil .nil) .nil)) (.node (h27v0 P) (.node (h43v0 P) (.node (h75v0 P) .nil .nil) .nil) (.node (h59v0 P) (.node (h91v0 P) .nil .nil) .nil)))) (.node (h5v0 P) (.node (h9v0 P) (.node (h17v0 P) (.node (h33v0 P) (.node (h65v0 P) .nil .nil) (.node (h97v0 P) .nil .nil)) (.node (h49v0 P) (.node (h81v0 P) .nil .nil) .nil)) (.node (h25v0 P) (.node (h41v0 P) (.node (h73v0 P) .nil .nil) (.node (h105v0 P) .nil .nil)) (.node (h57v0 P) (.node (h89v0 P) .nil .nil) .nil))) (.node (h13v0 P) (.node (h21v0 P) (.node (h37v0 P) (.node (h69v0 P) .nil .nil) (.node (h101v0 P) .nil .nil)) (.node (h53v0 P) (.node (h85v0 P) .nil .nil) .nil)) (.node (h29v1 P) (.node (h45v0 P) (.node (h77v0 P) .nil .nil) .nil) (.node (h61v0 P) (.node (h93v0 P) .nil .nil) .nil))))) (.node (h2v0 P) (.node (h4v0 P) (.node (h8v0 P) (.node (h16v0 P) (.node (h32v0 P) (.node (h64v0 P) .nil .nil) (.node (h96v0 P) .nil .nil)) (.node (h48v0 P) (.node (h80v0 P) .nil .nil) .nil)) (.node (h24v0 P) (.node (h40v0 P) (.node (h72v0 P) .nil .nil) (.node (h104v0 P) .nil .nil)) (.node (h56v0 P) (.node (h88v0 P) .nil .nil) .nil))) (.node (h12v0 P) (.node (h20v0 P) (.node (h36v0 P) (.node (h68v0 P) .nil .nil) (.node (hl100 67) .nil .nil)) (.node (h52v0 P) (.node (h84v0 P) .nil .nil) .nil)) (.node (h28v0 P) (.node (h44v0 P) (.node (h76v0 P) .nil .nil) .nil) (.node (h60v0 P) (.node (h92v0 P) .nil .nil) .nil)))) (.node (h6v0 P) (.node (h10v0 P) (.node (h18v0 P) (.node (h34v0 P) (.node (h66v0 P) .nil .nil) (.node (h98v0 P) .nil .nil)) (.node (h50v0 P) (.node (h82v0 P) .nil .nil) .nil)) (.node (h26v0 P) (.node (h42v0 P) (.node (h74v0 P) .nil .nil) .nil) (.node (h58v0 P) (.node (h90v0 P) .nil .nil) .nil))) (.node (h14v0 P) (.node (h22v0 P) (.node (h38v0 P) (.node (h70v0 P) .nil .nil) (.node (hl102 0) .nil .nil)) (.node (h54v0 P) (.node (h86v0 P) .nil .nil) .nil)) (.node (h30v0 P) (.node (h46v0 P) (.node (h78v0 P) .nil .nil) .nil) (.node (h62v0 P) (.node (hi94 256) .nil .nil) .nil))))))
/-- behind 13264 steps, 1651 tokens, 106 objects -/
noncomputable def TL65 (P : Params) : BT := (.node (h0v0 P) (.node (h1v0 P) (.node (h3v4 P) (.node (h7v0 P) (.node (h15v0 P) (.node (h31v0 P) (.node (h63v0 P) .nil .nil) (.node (hq95 256) .nil .nil)) (.node (h47v0 P) (.node (h79v0 P) .nil .nil) .nil)) (.node (h23v0 P) (.node (h39v0 P) (.node (h71v0 P) .nil .nil) (.node (h103v0 P) .nil .nil)) (.node (h55v0 P) (.node (h87v0 P) .nil .nil) .nil))) (.node (h11v0 P) (.node (h19v0 P) (.node (h35v0 P) (.node (h67v0 P) .nil .nil) (.node (h99v0 P) .nil .nil)) (.node (h51v0 P) (.node (h83v0 P) .nil .nil) .nil)) (.node (h27v0 P) (.node (h43v0 P) (.node (h75v0 P) .nil .nil) .nil) (.node (h59v0 P) (.node (h91v0 P) .nil .nil) .nil)))) (.node (h5v0 P) (.node (h9v0 P) (.node (h17v0 P) (.node (h33v0 P) (.node (h65v0 P) .nil .nil) (.node (h97v0 P) .nil .nil)) (.node (h49v0 P) (.node (h81v0 P) .nil .nil) .nil)) (.node (h25v0 P) (.node (h41v0 P) (.node (h73v0 P) .nil .nil) (.node (h105v0 P) .nil .nil)) (.node (h57v0 P) (.node (h89v0 P) .nil .nil) .nil))) (.node (h13v0 P) (.node (h21v0 P) (.node (h37v0 P) (.node (h69v0 P) .nil .nil) (.node (h101v0 P) .nil .nil)) (.node (h53v0 P) (.node (h85v0 P) .nil .nil) .nil)) (.node (h29v1 P) (.node (h45v0 P) (.node (h77v0 P) .nil .nil) .nil) (.node (h61v0 P) (.node (h93v0 P) .nil .nil) .nil))))) (.node (h2v0 P) (.node (h4v0 P) (.node (h8v0 P) (.node (h16v0 P) (.node (h32v0 P) (.node (h64v0 P) .nil .nil) (.node (h96v0 P) .nil .nil)) (.node (h48v0 P) (.node (h80v0 P) .nil .nil) .nil)) (.node (h24v0 P) (.node (h40v0 P) (.node (h72v0 P) .nil .nil) (.node (h104v0 P) .nil .nil)) (.node (h56v0 P) (.node (h88v0 P) .nil .nil) .nil))) (.node (h12v0 P) (.node (h20v0 P) (.node (h36v0 P) (.node (h68v0 P) .nil .nil) (.node hm100 .nil .nil)) (.node (h52v0 P) (.node (h84v0 P) .nil .nil) .nil)) (.node (h28v0 P) (.node (h44v0 P) (.node (h76v0 P) .nil .nil) .nil) (.node (h60v0 P) (.node (h92v0 P) .nil .nil) .nil)))) (.node (h6v0 P) (.node (h10v0 P) (.node (h18v0 P) (.node (h34v0 P) (.node (h66v0 P) .nil .nil) (.node (h98v0 P) .nil .nil)) (.node (h50v0 P) (.node (h82v0 P) .nil .nil) .nil)) (.node (h26v0 P) (.node (h42v0 P) (.node (h74v0 P) .nil .nil) .nil) (.node (h58v0 P) (.node (h90v0 P) .nil .nil) .nil))) (.node (h14v0 P) (.node (h22v0 P) (.node (h38v0 P) (.node (h70v0 P) .nil .nil) (.node (hl102 0) .nil .nil)) (.node (h54v0 P) (.node (h86v0 P) .nil .nil) .nil)) (.node (h30v0 P) (.node (h46v0 P) (.node (h78v0 P) .nil .nil) .nil) (.node (h62v0 P) (.node (hi94 256) .nil .nil) .nil))))))
/-- behind 14354 steps, 1724 tokens, 107 objects -/
noncomputable def TL65H24 (P : Params) (j : Nat) : BT := (.node (h0v0 P) (.node (h1v0 P) (.node (h3c P (cv65 j)) (.node (h7v0 P) (.node (h15v0 P) (.node (h31v0 P) (.node (h63v0 P) .nil .nil) (.node (hq95 256) .nil .nil)) (.node (h47v0 P) (.node (h79v0 P) .nil .nil) .nil)) (.node (h23v0 P) (.node (h39v0 P) (.node (h71v0 P) .nil .nil) (.node (h103v0 P) .nil .nil)) (.node (h55v0 P) (.node (h87v0 P) .nil .nil) .nil))) (.node (h11v0 P) (.node (h19v0 P) (.node (h35v0 P) (.node (h67v0 P) .nil .nil) (.node (h99v0 P) .nil .nil)) (.node (h51v0 P) (.node (h83v0 P) .nil .nil) .nil)) (.node (h27v0 P) (.node (h43v0 P) (.node (h75v0 P) .nil .nil) .nil) (.node (h59v0 P) (.node (h91v0 P) .nil .nil) .nil)))) (.node (h5v0 P) (.node (h9v0 P) (.node (h17v0 P) (.node (h33v0 P) (.node (h65v0 P) .nil .nil) (.node (h97v0 P) .nil .nil)) (.node (h49v0 P) (.node (h81v0 P) .nil .nil) .nil)) (.node (h25v0 P) (.node (h41v0 P) (.node (h73v0 P) .nil .nil) (.node (h105v0 P) .nil .nil)) (.node (h57v0 P) (.node (h89v0 P) .nil .nil) .nil))) (.node (h13v0 P) (.node (h21v0 P) (.node (h37v0 P) (.node (h69v0 P) .nil .nil) (.node (h101v0 P) .nil .nil)) (.node (h53v0 P) (.node (h85v0 P) .nil .nil) .nil)) (.node (h29v1 P) (.node (h45v0 P) (.node (h77v0 P) .nil .nil) .nil) (.node (h61v0 P) (.node (h93v0 P) .nil .nil) .nil))))) (.node (h2v0 P) (.node (h4v0 P) (.node (h8v0 P) (.node (h16v0 P) (.node (h32v0 P) (.node (h64v0 P) .nil .nil) (.node (h96v0 P) .nil .nil)) (.node (h48v0 P) (.node (h80v0 P) .nil .nil) .nil)) (.node (h24v0 P) (.node (h40v0 P) (.node (h72v0 P) .nil .nil) (.node (h104v0 P) .nil .nil)) (.node (h56v0 P) (.node (h88v0 P) .nil .nil) .nil))) (.node (h12v0 P) (.node (h20v0 P) (.node (h36v0 P) (.node (h68v0 P) .nil .nil) (.node hm100 .nil .nil)) (.node (h52v0 P) (.node (h84v0 P) .nil .nil) .nil)) (.node (h28v0 P) (.node (h44v0 P) (.node (h76v0 P) .nil .nil) .nil) (.node (h60v0 P) (.node (h92v0 P) .nil .nil) .nil)))) (.node (h6v0 P) (.node (h10v0 P) (.node (h18v0 P) (.node (h34v0 P) (.node (h66v0 P) .nil .nil) (.node (h98v0 P) .nil .nil)) (.node (h50v0 P) (.node (h82v0 P) .nil .nil) .nil)) (.node (h26v0 P) (.node (h42v0 P) (.node (h74v0 P) .nil .nil) (.node (hi106 j) .nil .nil)) (.node (h58v0 P) (.node (h90v0 P) .nil .nil) .nil))) (.node (h14v0 P) (.node (h22v0 P) (.node (h38v0 P) (.node (h70v0 P) .nil .nil) (.node (hl102 j) .nil .nil)) (.node (h54v0 P) (.node (h86v0 P) .nil .nil) .nil)) (.node (h30v0 P) (.node (h46v0 P) (.node (h78v0 P) .nil .nil) .nil) (.node (h62v0 P) (.node (hi94 256) .nil .nil) .nil))))))
/-- behind 17566 steps, 1937 tokens, 109 objects -/
noncomputable def TL67 (P : Params) : BT := (.node (h0v0 P) (.node (h1v0 P) (.node (h3v5 P) (.node (h7v0 P) (.node (h15v0 P) (.node (h31v0 P) (.node (h63v0 P) .nil .nil) (.node (hq95 256) .nil .nil)) (.node (h47v0 P) (.node (h79v0 P) .nil .nil) .nil)) (.node (h23v0 P) (.node (h39v0 P) (.node (h71v0 P) .nil .nil) (.node (h103v0 P) .nil .nil)) (.node (h55v0 P) (.node (h87v0 P) .nil .nil) .nil))) (.node (h11v0 P) (.node (h19v0 P) (.node (h35v0 P) (.node (h67v0 P) .nil .nil) (.node (h99v0 P) .nil .nil)) (.node (h51v0 P) (.node (h83v0 P) .nil .nil) .nil)) (.node (h27v0 P) (.node (h43v0 P) (.node (h75v0 P) .nil .nil) (.node (h107v0 P) .nil .nil)) (.node (h59v0 P) (.node (h91v0 P) .nil .nil) .nil)))) (.node (h5v0 P) (.node (h9v0 P) (.node (h17v0 P) (.node (h33v0 P) (.node (h65v0 P) .nil .nil) (.node (h97v0 P) .nil .nil)) (.node (h49v0 P) (.node (h81v0 P) .nil .nil) .nil)) (.node (h25v0 P) (.node (h41v0 P) (.node (h73v0 P) .nil .nil) (.node (h105v0 P) .nil .nil)) (.node (h57v0 P) (.node (h89v0 P) .nil .nil) .nil))) (.node (h13v0 P) (.node (h21v0 P) (.node (h37v0 P) (.node (h69v0 P) .nil .nil) (.node (h101v0 P) .nil .nil)) (.node (h53v0 P) (.node (h85v0 P) .nil .nil) .nil)) (.node (h29v1 P) (.node (h45v0 P) (.node (h77v0 P) .nil .nil) .nil) (.node (h61v0 P) (.node (h93v0 P) .nil .nil) .nil))))) (.node (h2v0 P) (.node (h4v0 P) (.node (h8v0 P) (.node (h16v0 P) (.node (h32v0 P) (.node (h64v0 P) .nil .nil) (.node (h96v0 P) .nil .nil)) (.node (h48v0 P) (.node (h80v0 P) .nil .nil) .nil)) (.node (h24v0 P) (.node (h40v0 P) (.node (h72v0 P) .nil .nil) (.node (h104v0 P) .nil .nil)) (.node (h56v0 P) (.node (h88v0 P) .nil .nil) .nil))) (.node (h12v0 P) (.node (h20v0 P) (.node (h36v0 P) (.node (h68v0 P) .nil .nil) (.node hm100 .nil .nil)) (.node (h52v0 P) (.node (h84v0 P) .nil .nil) .nil)) (.node (h28v0 P) (.node (h44v0 P) (.node (h76v0 P) .nil .nil) (.node (h108v0 P) .nil .nil)) (.node (h60v0 P) (.node (h92v0 P) .nil .nil) .nil)))) (.node (h6v0 P) (.node (h10v0 P) (.node (h18v0 P) (.node (h34v0 P) (.node (h66v0 P) .nil .nil) (.node (h98v0 P) .nil .nil)) (.node (h50v0 P) (.node (h82v0 P) .nil .nil) .nil)) (.node (h26v0 P) (.node (h42v0 P) (.node (h74v0 P) .nil .nil) (.node (h106v0 P) .nil .nil)) (.node (h58v0 P) (.node (h90v0 P) .nil .nil) .nil))) (.node (h14v0 P) (.node (h22v0 P) (.node (h38v0 P) (.node (h70v0 P) .nil .nil) (.node (hl102 95) .nil .nil)) (.node (h54v0 P) (.node (h86v0 P) .nil .nil) .nil)) (.node (h30v0 P) (.node (h46v0 P) (.node (h78v0 P) .nil .nil) .nil) (.node (h62v0 P) (.node (hi94 256) .nil .nil) .nil))))))
/-- behind 18231 steps, 2084 tokens, 225 objects -/
noncomputable def Tend (P : Params) : BT := (.node (h0v0 P) (.node (h1v0 P) (.node (h3v6 P) (.node (h7v0 P) (.node (h15v0 P) (.node (h31v0 P) (.node (h63v0 P) (.node (h127v0 P) .nil .nil) (.node (h191v0 P) .nil .nil)) (.node (hq95 256) (.node (h159v0 P) .nil .nil) (.node (h223v0 P) .nil .nil))) (.node (h47v0 P) (.node (h79v0 P) (.node (h143v0 P) .nil .nil) (.node (h207v0 P) .nil .nil)) (.node (h111v0 P) (.node (h175v0 P) .nil .nil) .nil))) (.node (h23v0 P) (.node (h39v0 P) (.node (h71v0 P) (.node (h135v0 P) .nil .nil) (.node (h199v0 P) .nil .nil)) (.node (h103v0 P) (.node (h167v0 P) .nil .nil) .nil)) (.node (h55v0 P) (.node (h87v0 P) (.node (h151v0 P) .nil .nil) (.node (h215v0 P) .nil .nil)) (.node (h119v0 P) (.node (h183v0 P) .nil .nil) .nil)))) (.node (h11v0 P) (.node (h19v0 P) (.node (h35v0 P) (.node (h67v0 P) (.node (h131v0 P) .nil .nil) (.node (h195v0 P) .nil .nil)) (.node (h99v0 P) (.node (h163v0 P) .nil .nil) .nil)) (.node (h51v0 P) (.node (h83v0 P) (.node (h147v0 P) .nil .nil) (.node (h211v0 P) .nil .nil)) (.node (h115v0 P) (.node (h179v0 P) .nil .nil) .nil))) (.node (h27v0 P) (.node (h43v0 P) (.node (h75v0 P) (.node (h139v0 P) .nil .nil) (.node (h203v0 P) .nil .nil)) (.node (h107v0 P) (.node (h171v0 P) .nil .nil) .nil)) (.node (h59v0 P) (.node (h91v0 P) (.node (h155v0 P) .nil .nil) (.node (h219v0 P) .nil .nil)) (.node (h123v0 P) (.node (h187v0 P) .nil .nil) .nil))))) (.node (h5v0 P) (.node (h9v0 P) (.node (h17v0 P) (.node (h33v0 P) (.node (h65v0 P) (.node (h129v0 P) .nil .nil) (.node (h193v0 P) .nil .nil)) (.node (h97v0 P) (.node (h161v0 P) .nil .nil) .nil)) (.node (h49v0 P) (.node (h81v0 P) (.node (h145v0 P) .nil .nil) (.node (h209v0 P) .nil .nil)) (.node (h113v0 P) (.node (h177v0 P) .nil .nil) .nil))) (.node (h25v0 P) (.node (h41v0 P) (.node (h73v0 P) (.node (h137v0 P) .nil .nil) (.node (h201v0 P) .nil .nil)) (.node (h105v0 P) (.node (h169v0 P) .nil .nil) .nil)) (.node (h57v0 P) (.node (h89v0 P) (.node (h153v0 P) .nil .nil) (.node (h217v0 P) .nil .nil)) (.node (h121v0 P) (.node (h185v0 P) .nil .nil) .nil)))) (.node (h13v0 P) (.node (h21v0 P) (.node (h37v0 P) (.node (h69v0 P) (.node (h133v0 P) .nil .nil) (.node (h197v0 P) .nil .nil)) (.node (h101v0 P) (.node (h165v0 P) .nil .nil) .nil)) (.node (h53v0 P) (.node (h85v0 P) (.node (h149v0 P) .nil .nil) (.node (h213v0 P) .nil .nil)) (.node (h117v0 P) (.node (h181v0 P) .nil .nil) .nil))) (.node (h29v2 P) (.node (h45v0 P) (.node (h77v0 P) (.node (h141v0 P) .nil .nil) (.node (h205v0 P) .nil .nil)) (.node (h109v0 P) (.node (h173v0 P) .nil .nil) .nil)) (.node (h61v0 P) (.node (h93v0 P) (.node (h157v0 P) .nil .nil) (.node (h221v0 P) .nil .nil)) (.node (h125v0 P) (.node (h189v0 P) .nil .nil) .nil)))))) (.node (h2v0 P) (.node (h4v0 P) (.node (h8v0 P) (.node (h16v0 P) (.node (h32v0 P) (.node (h64v0 P) (.node (h128v0 P) .nil .nil) (.node (h192v0 P) .nil .nil)) (.node (h96v0 P) (.node (h160v0 P) .nil .nil) (.node (h224v0 P) .nil .nil))) (.node (h48v0 P) (.node (h80v0 P) (.node (h144v0 P) .nil .nil) (.node (h208v0 P) .nil .nil)) (.node (h112v0 P) (.node (h176v0 P) .nil .nil) .nil))) (.node (h24v0 P) (.node (h40v0 P) (.node (h72v0 P) (.node (h136v0 P) .nil .nil) (.node (h200v0 P) .nil .nil)) (.node (h104v0 P) (.node (h168v0 P) .nil .nil) .nil)) (.node (h56v0 P) (.node (h88v0 P) (.node (h152v0 P) .nil .nil) (.node (h216v0 P) .nil .nil)) (.node (h120v0 P) (.node (h184v0 P) .nil .nil) .nil)))) (.node (h12v0 P) (.node (h20v0 P) (.node (h36v0 P) (.node (h68v0 P) (.node hm132 .nil .nil) (.node (h196v0 P) .nil .nil)) (.node hm100 (.node (h164v0 P) .nil .nil) .nil)) (.node (h52v0 P) (.node (h84v0 P) (.node (h148v0 P) .nil .nil) (.node (h212v0 P) .nil .nil)) (.node (h116v0 P) (.node (h180v0 P) .nil .nil) .nil))) (.node (h28v0 P) (.node (h44v0 P) (.node (h76v0 P) (.node (h140v0 P) .nil .nil) (.node (h204v0 P) .nil .nil)) (.node (h108v0 P) (.node (h172v0 P) .nil .nil) .nil)) (.node (h60v0 P) (.node (h92v0 P) (.node (h156v0 P) .nil .nil) (.node (h220v0 P) .nil .nil)) (.node (h124v0 P) (.node (h188v0 P) .nil .nil) .nil))))) (.node (h6v0 P) (.node (h10v0 P) (.node (h18v0 P) (.node (h34v0 P) (.node (h66v0 P) (.node (h130v0 P) .nil .nil) (.node (h194v0 P) .nil .nil)) (.node (h98v0 P) (.node (h162v0 P) .nil .nil) .nil)) (.node (h50v0 P) (.node (h82v0 P) (.node (h146v0 P) .nil .nil) (.node (h210v0 P) .nil .nil)) (.node (h114v0 P) (.node (h178v0 P) .nil .nil) .nil))) (.node (h26v0 P) (.node (h42v0 P) (.node (h74v0 P) (.node (h138v0 P) .nil .nil) (.node (h202v0 P) .nil .nil)) (.node (h106v0 P) (.node (h170v0 P) .nil .nil) .nil)) (.node (h58v0 P) (.node (h90v0 P) (.node (h154v0 P) .nil .nil) (.node (h218v0 P) .nil .nil)) (.node (h122v0 P) (.node (h186v0 P) .nil .nil) .nil)))) (.node (h14v0 P) (.node (h22v0 P) (.node (h38v0 P) (.node (h70v0 P) (.node (h134v0 P) .nil .nil) (.node (h198v0 P) .nil .nil)) (.node (hl102 95) (.node (h166v0 P) .nil .nil) .nil)) (.node (h54v0 P) (.node (h86v0 P) (.node (h150v0 P) .nil .nil) (.node (h214v0 P) .nil .nil)) (.node (h118v0 P) (.node (h182v0 P) .nil .nil) .nil))) (.node (h30v0 P) (.node (h46v0 P) (.node (h78v0 P) (.node (h142v0 P) .nil .nil) (.node (h206v0 P) .nil .nil)) (.node (h110v0 P) (.node (h174v0 P) .nil .nil) .nil)) (.node (h62v0 P) (.node (hi94 256) (.node (h158v0 P) .nil .nil) (.node (h222v0 P) .nil .nil)) (.node (h126v0 P) (.node (h190v0 P) .nil .nil) .nil)))))))
end Mine
end

section
open PySem PySem.W PyProof.Rows
set_option Elab.async false
set_option maxRecDepth 1000000
set_option maxHeartbeats 0
namespace Mine
noncomputable def topEnv : Env := { scope := pw.main.scope, locals := mainNs, globals := mainNs, cells := [], code := .ref 30, frame := some 31 }
noncomputable def bodyL : List Stmt := behindTheImports pw
noncomputable def cE : Code := .body bodyL topEnv
noncomputable abbrev B0 : List Frame := [topFrame default]
noncomputable def sT (T : BT) (n toks : Nat) (os : OsState) : SharedT := ⟨T, n, {}, #[], {}, toks, os⟩
theorem top_open : ∀ w : World, (fencedOpening treeTable pw w 20000).map (fun s => (s.heap, s.gens, s.drawn, s.toks)) = some (absHeap (Ts0 w.params) 28 {}, #[], {}, 276) := by
  intro w
  unfold fencedOpening
  rw [PySem.W.Fast.te10274390034422433532, PySem.W.Fast.te14364793385576792824, PySem.W.Fast.te14289696077712309145]
  kernel_rfl
theorem size_top : ∀ w : World, ((absHeap (Ts0 w.params) 28 {}).isNs mainGlobals && (#[] : Array GenState).size == 0, (absHeap (Ts0 w.params) 28 {}).objs.size, (absHeap (Ts0 w.params) 28 {}).nsMap mainGlobals "__annotations__") = (true, 28, some (.ref 6)) := by intro w; kernel_rfl
theorem pre_top : ∀ (w : World) (os : OsState), topGo treeTable pw w 28 (some (.ref 6)) 12 ⟨absHeap (Ts0 w.params) 28 {}, #[], {}, 276, os⟩ (topStub pw) = some (⟨absHeap (Ta w.params) 32 {}, #[], {}, 282, os⟩, ⟨denote treeTable cE, cE, default, B0⟩) := by intro w os; kernel_rfl
theorem block_top : ∀ (w : World) (os : OsState), segRunT treeTable pw w 28 (some (.ref 6)) 1 2 (sT (Ta w.params) 32 282 os) (blockOf bodyL topEnv cE default B0) = some (.next, sT (Ta w.params) 32 282 os, cE, default) := by intro w os; kernel_rfl
theorem pieceA : ∀ (w : World) (os : OsState), segRunT treeTable pw w 28 (some (.ref 6)) 1 480 (sT (Ta w.params) 32 282 os) (PySem.W.piecesOf (bodyL.take 6) topEnv cE default B0) = some (.next, sT (TL53 w.params) 93 395 os, cE, ⟨52, 0, 52, 2⟩) := by
  intro w os
  rw [PySem.W.Fast.te10110043849684766642, PySem.W.Fast.te14364793385576792824]
  kernel_rfl
theorem pieceC : ∀ (w : World) (os : OsState), segRunT treeTable pw w 28 (some (.ref 6)) 1 140 (sT (TL54 w.params) 99 1423 os) (PySem.W.piecesOf ((bodyL.drop 7).take 8) topEnv cE ⟨53, 0, 53, 11⟩ B0) = some (.next, sT (TL62 w.params) 103 1440 os, cE, ⟨61, 0, 61, 8⟩) := by
  intro w os
  rw [PySem.W.Fast.te10110043849684766642, PySem.W.Fast.te14364793385576792824]
  kernel_rfl
theorem pieceE : ∀ (w : World) (os : OsState), segRunT treeTable pw w 28 (some (.ref 6)) 1 40 (sT (TL64 w.params) 106 1648 os) (PySem.W.piecesOf ((bodyL.drop 16).take 1) topEnv cE ⟨62, 9, 62, 74⟩ B0) = some (.next, sT (TL65 w.params) 106 1651 os, cE, ⟨64, 0, 64, 28⟩) := by
  intro w os
  rw [PySem.W.Fast.te10110043849684766642, PySem.W.Fast.te14364793385576792824]
  kernel_rfl
theorem pieceG0 (b : Bool) : ∀ (w : World) (os : OsState), segRunT treeTable pw (w.withFollow "special-get-raises" b) 28 (some (.ref 6)) 1 700 (sT (TL67 (w.withFollow "special-get-raises" b).params) 109 1937 os) (PySem.W.piecesOf (bodyL.drop 18) topEnv cE ⟨65, 9, 65, 110⟩ B0) = some (.next, sT (Tend (w.withFollow "special-get-raises" b).params) 225 2084 os, cE, ⟨184, 0, 209, 15⟩) := by
  intro w os
  rw [PySem.W.Fast.te10110043849684766642, PySem.W.Fast.te14364793385576792824]
  cases b
  · kernel_rfl
  · kernel_rfl
theorem pieceG (w : World) : ∀ (os : OsState), segRunT treeTable pw w 28 (some (.ref 6)) 1 700 (sT (TL67 w.params) 109 1937 os) (PySem.W.piecesOf (bodyL.drop 18) topEnv cE ⟨65, 9, 65, 110⟩ B0) = some (.next, sT (Tend w.params) 225 2084 os, cE, ⟨184, 0, 209, 15⟩) :=
  byRow2 "special-get-raises" (P := fun w => ∀ (os : OsState), segRunT treeTable pw w 28 (some (.ref 6)) 1 700 (sT (TL67 w.params) 109 1937 os) (PySem.W.piecesOf (bodyL.drop 18) topEnv cE ⟨65, 9, 65, 110⟩ B0) = some (.next, sT (Tend w.params) 225 2084 os, cE, ⟨184, 0, 209, 15⟩)) (fun w os => pieceG0 false w os) (fun w os => pieceG0 true w os) w
theorem fin_top : ∀ (w : World) (os : OsState), topRun treeTable pw w 28 (some (.ref 6)) 5 ⟨absHeap (Tend w.params) 225 {}, #[], {}, 2084, os⟩ ⟨doneF .next, cE, ⟨184, 0, 209, 15⟩, B0⟩ = some ⟨absHeap (Tend w.params) 225 {}, #[], {}, 2084, os⟩ := by
  intro w os
  kernel_rfl
end Mine
end

section
open PySem PySem.W PyProof.Rows
set_option Elab.async false
set_option maxRecDepth 1000000
set_option maxHeartbeats 0
namespace Mine
noncomputable def e6 : Expr := match (bodyL[6]? : Option Stmt) with | some (Stmt.Assign _ e _) => e | _ => default
noncomputable def sc6 : Scope := match e6 with | Expr.ListComp _ _ sc _ => sc | _ => default
noncomputable def lc6 : Code := .compLoop e6 0 (.ref 94) (.ref 95) (compEnvC sc6 [] 96 topEnv)
noncomputable def th6 (d : Sem Fin) (k : Result → Sem Fin) : Thread := ⟨d, lc6, ⟨53, 15, 53, 26⟩, [.ret k none true [.ref 96, .ref 95] cE ⟨53, 36, 53, 46⟩ [], topFrame default]⟩
theorem c6_1 : ∀ (w : World) (os : OsState) (k : Result → Sem Fin), PySem.W.Fast.tw10295753902157049106 PySem.W.Fast.tw14364793385576792824 pw w 28 (some (.ref 6)) 1 1184 (sT (TL53C2 w.params 1) 97 402 os) (th6 (PySem.W.Fast.tw11892475500146522536 PySem.W.Fast.tw14364793385576792824 lc6) k) = some (sT (TL53C2 w.params 33) 97 530 os, th6 (PySem.W.Fast.tw11892475500146522536 PySem.W.Fast.tw14364793385576792824 lc6) k) := by intro w os k; kernel_rfl
theorem c6_33 : ∀ (w : World) (os : OsState) (k : Result → Sem Fin), PySem.W.Fast.tw10295753902157049106 PySem.W.Fast.tw14364793385576792824 pw w 28 (some (.ref 6)) 1 1184 (sT (TL53C2 w.params 33) 97 530 os) (th6 (PySem.W.Fast.tw11892475500146522536 PySem.W.Fast.tw14364793385576792824 lc6) k) = some (sT (TL53C2 w.params 65) 97 658 os, th6 (PySem.W.Fast.tw11892475500146522536 PySem.W.Fast.tw14364793385576792824 lc6) k) := by intro w os k; kernel_rfl
theorem c6_65 : ∀ (w : World) (os : OsState) (k : Result → Sem Fin), PySem.W.Fast.tw10295753902157049106 PySem.W.Fast.tw14364793385576792824 pw w 28 (some (.ref 6)) 1 1184 (sT (TL53C2 w.params 65) 97 658 os) (th6 (PySem.W.Fast.tw11892475500146522536 PySem.W.Fast.tw14364793385576792824 lc6) k) = some (sT (TL53C2 w.params 97) 97 786 os, th6 (PySem.W.Fast.tw11892475500146522536 PySem.W.Fast.tw14364793385576792824 lc6) k) := by intro w os k; kernel_rfl
theorem c6_97 : ∀ (w : World) (os : OsState) (k : Result → Sem Fin), PySem.W.Fast.tw10295753902157049106 PySem.W.Fast.tw14364793385576792824 pw w 28 (some (.ref 6)) 1 1184 (sT (TL53C2 w.params 97) 97 786 os) (th6 (PySem.W.Fast.tw11892475500146522536 PySem.W.Fast.tw14364793385576792824 lc6) k) = some (sT (TL53C2 w.params 129) 97 914 os, th6 (PySem.W.Fast.tw11892475500146522536 PySem.W.Fast.tw14364793385576792824 lc6) k) := by intro w os k; kernel_rfl
theorem c6_129 : ∀ (w : World) (os : OsState) (k : Result → Sem Fin), PySem.W.Fast.tw10295753902157049106 PySem.W.Fast.tw14364793385576792824 pw w 28 (some (.ref 6)) 1 1184 (sT (TL53C2 w.params 129) 97 914 os) (th6 (PySem.W.Fast.tw11892475500146522536 PySem.W.Fast.tw14364793385576792824 lc6) k) = some (sT (TL53C2 w.params 161) 97 1042 os, th6 (PySem.W.Fast.tw11892475500146522536 PySem.W.Fast.tw14364793385576792824 lc6) k) := by intro w os k; kernel_rfl
theorem c6_161 : ∀ (w : World) (os : OsState) (k : Result → Sem Fin), PySem.W.Fast.tw10295753902157049106 PySem.W.Fast.tw14364793385576792824 pw w 28 (some (.ref 6)) 1 1184 (sT (TL53C2 w.params 161) 97 1042 os) (th6 (PySem.W.Fast.tw11892475500146522536 PySem.W.Fast.tw14364793385576792824 lc6) k) = some (sT (TL53C2 w.params 193) 97 1170 os, th6 (PySem.W.Fast.tw11892475500146522536 PySem.W.Fast.tw14364793385576792824 lc6) k) := by intro w os k; kernel_rfl
theorem c6_193 : ∀ (w : World) (os : OsState) (k : Result → Sem Fin), PySem.W.Fast.tw10295753902157049106 PySem.W.Fast.tw14364793385576792824 pw w 28 (some (.ref 6)) 1 1184 (sT (TL53C2 w.params 193) 97 1170 os) (th6 (PySem.W.Fast.tw11892475500146522536 PySem.W.Fast.tw14364793385576792824 lc6) k) = some (sT (TL53C2 w.params 225) 97 1298 os, th6 (PySem.W.Fast.tw11892475500146522536 PySem.W.Fast.tw14364793385576792824 lc6) k) := by intro w os k; kernel_rfl
theorem c6_225 : ∀ (w : World) (os : OsState) (k : Result → Sem Fin), PySem.W.Fast.tw10295753902157049106 PySem.W.Fast.tw14364793385576792824 pw w 28 (some (.ref 6)) 1 1147 (sT (TL53C2 w.params 225) 97 1298 os) (th6 (PySem.W.Fast.tw11892475500146522536 PySem.W.Fast.tw14364793385576792824 lc6) k) = some (sT (TL53C2 w.params 256) 97 1422 os, th6 (PySem.W.Fast.tw11892475500146522536 PySem.W.Fast.tw14364793385576792824 lc6) k) := by intro w os k; kernel_rfl
end Mine
end

section
open PySem PySem.W PyProof.Rows
set_option Elab.async false
set_option maxRecDepth 1000000
set_option maxHeartbeats 0
namespace Mine
noncomputable abbrev w2 (w : World) (b1 b2 : Bool) : World := (w.withFollow "special-get-raises" b1).withFollow "comprehension-iter-twice" b2
noncomputable def n6 (b1 b2 : Bool) : Nat := if b2 then 79 else 89
noncomputable def kOf6 (w : World) (n : Nat) (os : OsState) : Result → Sem Fin := match PySem.W.Fast.tw10295753902157049106 PySem.W.Fast.tw14364793385576792824 pw w 28 (some (.ref 6)) 1 n (sT (TL53 w.params) 93 395 os) (PySem.W.piecesOf ((bodyL.drop 6).take 1) topEnv cE ⟨52, 0, 52, 2⟩ B0) with
  | some (_, ⟨_, _, _, .ret k _ _ _ _ _ _ :: _⟩) => k
  | _ => fun _ => .raise .none
theorem pre6 (b1 b2 : Bool) : ∀ (w : World) (os : OsState), PySem.W.Fast.tw10295753902157049106 PySem.W.Fast.tw14364793385576792824 pw (w2 w b1 b2) 28 (some (.ref 6)) 1 (n6 b1 b2) (sT (TL53 (w2 w b1 b2).params) 93 395 os) (PySem.W.piecesOf ((bodyL.drop 6).take 1) topEnv cE ⟨52, 0, 52, 2⟩ B0) =
    some (sT (TL53C2 (w2 w b1 b2).params 1) 97 402 os, th6 (PySem.W.Fast.tw11892475500146522536 PySem.W.Fast.tw14364793385576792824 lc6) (kOf6 (w2 w b1 b2) (n6 b1 b2) os)) := by
  intro w os
  cases b1 <;> cases b2
  · kernel_rfl
  · kernel_rfl
  · kernel_rfl
  · kernel_rfl
theorem end6 (b1 b2 : Bool) : ∀ (w : World) (os : OsState), PySem.W.Fast.tw10110043849684766642 PySem.W.Fast.tw14364793385576792824 pw (w2 w b1 b2) 28 (some (.ref 6)) 1 (119 - n6 b1 b2) (sT (TL53C2 (w2 w b1 b2).params 256) 97 1422 os) (th6 (PySem.W.Fast.tw11892475500146522536 PySem.W.Fast.tw14364793385576792824 lc6) (kOf6 (w2 w b1 b2) (n6 b1 b2) os)) =
    some (.next, sT (TL54 (w2 w b1 b2).params) 99 1423 os, cE, ⟨53, 0, 53, 11⟩) := by
  intro w os
  cases b1 <;> cases b2
  · kernel_rfl
  · kernel_rfl
  · kernel_rfl
  · kernel_rfl
end Mine
end

section
open PySem PySem.W PyProof.Rows
set_option Elab.async false
set_option maxRecDepth 1000000
set_option maxHeartbeats 0
namespace Mine
noncomputable def lc15 : Code := match (bodyL[15]? : Option Stmt) with | some (Stmt.For t _ b e _) => .forLoop t (.ref 103) b e topEnv | _ => default
noncomputable def th15 (d : Sem Fin) (k : Result → Sem Fin) : Thread := ⟨d, lc15, ⟨63, 4, 63, 25⟩, [.ret k none false [] cE ⟨62, 9, 62, 74⟩ [], topFrame default]⟩
noncomputable def kOf15 (w : World) (os : OsState) : Result → Sem Fin := match PySem.W.Fast.tw10295753902157049106 PySem.W.Fast.tw14364793385576792824 pw w 28 (some (.ref 6)) 1 89 (sT (TL62 w.params) 103 1440 os) (PySem.W.piecesOf ((bodyL.drop 15).take 1) topEnv cE ⟨61, 0, 61, 8⟩ B0) with
  | some (_, ⟨_, _, _, .ret k _ _ _ _ _ _ :: _⟩) => k
  | _ => fun _ => .raise .none
noncomputable abbrev w1 (w : World) (b : Bool) : World := w.withFollow "special-get-raises" b
theorem pre15 (b : Bool) : ∀ (w : World) (os : OsState), PySem.W.Fast.tw10295753902157049106 PySem.W.Fast.tw14364793385576792824 pw (w1 w b) 28 (some (.ref 6)) 1 89 (sT (TL62 (w1 w b).params) 103 1440 os) (PySem.W.piecesOf ((bodyL.drop 15).take 1) topEnv cE ⟨61, 0, 61, 8⟩ B0) =
    some (sT (TL62H24 (w1 w b).params 1) 104 1450 os, th15 (PySem.W.Fast.tw11892475500146522536 PySem.W.Fast.tw14364793385576792824 lc15) (kOf15 (w1 w b) os)) := by
  intro w os
  cases b
  · kernel_rfl
  · kernel_rfl
theorem c15_1 : ∀ (w : World) (os : OsState) (k : Result → Sem Fin), PySem.W.Fast.tw10295753902157049106 PySem.W.Fast.tw14364793385576792824 pw w 28 (some (.ref 6)) 1 990 (sT (TL62H24 w.params 1) 104 1450 os) (th15 (PySem.W.Fast.tw11892475500146522536 PySem.W.Fast.tw14364793385576792824 lc15) k) = some (sT (TL62H24 w.params 23) 104 1516 os, th15 (PySem.W.Fast.tw11892475500146522536 PySem.W.Fast.tw14364793385576792824 lc15) k) := by intro w os k; kernel_rfl
theorem c15_23 : ∀ (w : World) (os : OsState) (k : Result → Sem Fin), PySem.W.Fast.tw10295753902157049106 PySem.W.Fast.tw14364793385576792824 pw w 28 (some (.ref 6)) 1 990 (sT (TL62H24 w.params 23) 104 1516 os) (th15 (PySem.W.Fast.tw11892475500146522536 PySem.W.Fast.tw14364793385576792824 lc15) k) = some (sT (TL62H24 w.params 45) 104 1582 os, th15 (PySem.W.Fast.tw11892475500146522536 PySem.W.Fast.tw14364793385576792824 lc15) k) := by intro w os k; kernel_rfl
theorem c15_45 : ∀ (w : World) (os : OsState) (k : Result → Sem Fin), PySem.W.Fast.tw10295753902157049106 PySem.W.Fast.tw14364793385576792824 pw w 28 (some (.ref 6)) 1 990 (sT (TL62H24 w.params 45) 104 1582 os) (th15 (PySem.W.Fast.tw11892475500146522536 PySem.W.Fast.tw14364793385576792824 lc15) k) = some (sT (TL62H24 w.params 67) 104 1648 os, th15 (PySem.W.Fast.tw11892475500146522536 PySem.W.Fast.tw14364793385576792824 lc15) k) := by intro w os k; kernel_rfl
theorem end15 (b : Bool) : ∀ (w : World) (os : OsState), PySem.W.Fast.tw10110043849684766642 PySem.W.Fast.tw14364793385576792824 pw (w1 w b) 28 (some (.ref 6)) 1 30 (sT (TL62H24 (w1 w b).params 67) 104 1648 os) (th15 (PySem.W.Fast.tw11892475500146522536 PySem.W.Fast.tw14364793385576792824 lc15) (kOf15 (w1 w b) os)) =
    some (.next, sT (TL64 (w1 w b).params) 106 1648 os, cE, ⟨62, 9, 62, 74⟩) := by
  intro w os
  cases b
  · kernel_rfl
  · kernel_rfl
noncomputable def lc17 : Code := match (bodyL[17]? : Option Stmt) with | some (Stmt.For t _ b e _) => .forLoop t (.ref 106) b e topEnv | _ => default
noncomputable def th17 (d : Sem Fin) (k : Result → Sem Fin) : Thread := ⟨d, lc17, ⟨66, 4, 66, 23⟩, [.ret k none false [] cE ⟨65, 9, 65, 110⟩ [], topFrame default]⟩
noncomputable def kOf17 (w : World) (os : OsState) : Result → Sem Fin := match PySem.W.Fast.tw10295753902157049106 PySem.W.Fast.tw14364793385576792824 pw w 28 (some (.ref 6)) 1 55 (sT (TL65 w.params) 106 1651 os) (PySem.W.piecesOf ((bodyL.drop 17).take 1) topEnv cE ⟨64, 0, 64, 28⟩ B0) with
  | some (_, ⟨_, _, _, .ret k _ _ _ _ _ _ :: _⟩) => k
  | _ => fun _ => .raise .none
theorem pre17 (b : Bool) : ∀ (w : World) (os : OsState), PySem.W.Fast.tw10295753902157049106 PySem.W.Fast.tw14364793385576792824 pw (w1 w b) 28 (some (.ref 6)) 1 55 (sT (TL65 (w1 w b).params) 106 1651 os) (PySem.W.piecesOf ((bodyL.drop 17).take 1) topEnv cE ⟨64, 0, 64, 28⟩ B0) =
    some (sT (TL65H24 (w1 w b).params 1) 107 1655 os, th17 (PySem.W.Fast.tw11892475500146522536 PySem.W.Fast.tw14364793385576792824 lc17) (kOf17 (w1 w b) os)) := by
  intro w os
  cases b
  · kernel_rfl
  · kernel_rfl
theorem c17_1 : ∀ (w : World) (os : OsState) (k : Result → Sem Fin), PySem.W.Fast.tw10295753902157049106 PySem.W.Fast.tw14364793385576792824 pw w 28 (some (.ref 6)) 1 1080 (sT (TL65H24 w.params 1) 107 1655 os) (th17 (PySem.W.Fast.tw11892475500146522536 PySem.W.Fast.tw14364793385576792824 lc17) k) = some (sT (TL65H24 w.params 25) 107 1727 os, th17 (PySem.W.Fast.tw11892475500146522536 PySem.W.Fast.tw14364793385576792824 lc17) k) := by intro w os k; kernel_rfl
theorem c17_25 : ∀ (w : World) (os : OsState) (k : Result → Sem Fin), PySem.W.Fast.tw10295753902157049106 PySem.W.Fast.tw14364793385576792824 pw w 28 (some (.ref 6)) 1 1080 (sT (TL65H24 w.params 25) 107 1727 os) (th17 (PySem.W.Fast.tw11892475500146522536 PySem.W.Fast.tw14364793385576792824 lc17) k) = some (sT (TL65H24 w.params 49) 107 1799 os, th17 (PySem.W.Fast.tw11892475500146522536 PySem.W.Fast.tw14364793385576792824 lc17) k) := by intro w os k; kernel_rfl
theorem c17_49 : ∀ (w : World) (os : OsState) (k : Result → Sem Fin), PySem.W.Fast.tw10295753902157049106 PySem.W.Fast.tw14364793385576792824 pw w 28 (some (.ref 6)) 1 1080 (sT (TL65H24 w.params 49) 107 1799 os) (th17 (PySem.W.Fast.tw11892475500146522536 PySem.W.Fast.tw14364793385576792824 lc17) k) = some (sT (TL65H24 w.params 73) 107 1871 os, th17 (PySem.W.Fast.tw11892475500146522536 PySem.W.Fast.tw14364793385576792824 lc17) k) := by intro w os k; kernel_rfl
theorem c17_73 : ∀ (w : World) (os : OsState) (k : Result → Sem Fin), PySem.W.Fast.tw10295753902157049106 PySem.W.Fast.tw14364793385576792824 pw w 28 (some (.ref 6)) 1 990 (sT (TL65H24 w.params 73) 107 1871 os) (th17 (PySem.W.Fast.tw11892475500146522536 PySem.W.Fast.tw14364793385576792824 lc17) k) = some (sT (TL65H24 w.params 95) 107 1937 os, th17 (PySem.W.Fast.tw11892475500146522536 PySem.W.Fast.tw14364793385576792824 lc17) k) := by intro w os k; kernel_rfl
theorem end17 (b : Bool) : ∀ (w : World) (os : OsState), PySem.W.Fast.tw10110043849684766642 PySem.W.Fast.tw14364793385576792824 pw (w1 w b) 28 (some (.ref 6)) 1 30 (sT (TL65H24 (w1 w b).params 95) 107 1937 os) (th17 (PySem.W.Fast.tw11892475500146522536 PySem.W.Fast.tw14364793385576792824 lc17) (kOf17 (w1 w b) os)) =
    some (.next, sT (TL67 (w1 w b).params) 109 1937 os, cE, ⟨65, 9, 65, 110⟩) := by
  intro w os
  cases b
  · kernel_rfl
  · kernel_rfl
end Mine
end

section
open PySem PySem.W PyProof.Rows
set_option Elab.async false
set_option maxRecDepth 1000000
set_option maxHeartbeats 0
namespace Mine
noncomputable abbrev TW := PySem.W.Fast.tw14364793385576792824
theorem goW {w : World} {n : Nat} {s s' : SharedT} {t t' : Thread} (h : PySem.W.Fast.tw10295753902157049106 TW pw w 28 (some (.ref 6)) 1 n s t = some (s', t')) : segGo TW pw w 28 (some (.ref 6)) 1 n s.abs t = some (s'.abs, t') :=
  segGo_of (by rw [PySem.W.Fast.te10295753902157049106]; exact h)
theorem runW {w : World} {n : Nat} {s s' : SharedT} {t : Thread} {f : Flow} {c : Code} {q : Pos} (h : PySem.W.Fast.tw10110043849684766642 TW pw w 28 (some (.ref 6)) 1 n s t = some (f, s', c, q)) : segRun TW pw w 28 (some (.ref 6)) 1 n s.abs t = some (f, s'.abs, c, q) :=
  segRun_of (by rw [PySem.W.Fast.te10110043849684766642]; exact h)
theorem r6 (b1 b2 : Bool) (w : World) (os : OsState) : segRun TW pw (w2 w b1 b2) 28 (some (.ref 6)) 1 (n6 b1 b2 + (1184 + (1184 + (1184 + (1184 + (1184 + (1184 + (1184 + (1147 + (119 - n6 b1 b2)))))))))) (sT (TL53 (w2 w b1 b2).params) 93 395 os).abs (PySem.W.piecesOf ((bodyL.drop 6).take 1) topEnv cE ⟨52, 0, 52, 2⟩ B0) = some (.next, (sT (TL54 (w2 w b1 b2).params) 99 1423 os).abs, cE, ⟨53, 0, 53, 11⟩) :=
  seg_go (goW (pre6 b1 b2 w os)) (seg_go (goW (c6_1 (w2 w b1 b2) os _)) (seg_go (goW (c6_33 (w2 w b1 b2) os _)) (seg_go (goW (c6_65 (w2 w b1 b2) os _)) (seg_go (goW (c6_97 (w2 w b1 b2) os _)) (seg_go (goW (c6_129 (w2 w b1 b2) os _)) (seg_go (goW (c6_161 (w2 w b1 b2) os _)) (seg_go (goW (c6_193 (w2 w b1 b2) os _)) (seg_go (goW (c6_225 (w2 w b1 b2) os _)) (runW (end6 b1 b2 w os))))))))))
theorem byRows {P : World → Prop} (h : ∀ (b1 b2 : Bool) (w : World), P (w2 w b1 b2)) (w : World) : P w := by
  have e := h (w.params.followText "special-get-raises") (w.params.followText "comprehension-iter-twice") w
  have e1 : w.withFollow "special-get-raises" (w.params.followText "special-get-raises") = w := World.withFollow_self w _
  unfold w2 at e
  rw [e1, World.withFollow_self] at e
  exact e
theorem piece6 (w : World) (os : OsState) : segRun treeTable pw w 28 (some (.ref 6)) 1 9554 (sT (TL53 w.params) 93 395 os).abs (PySem.W.piecesOf ((bodyL.drop 6).take 1) topEnv cE ⟨52, 0, 52, 2⟩ B0) = some (.next, (sT (TL54 w.params) 99 1423 os).abs, cE, ⟨53, 0, 53, 11⟩) := by
  rw [PySem.W.Fast.te14364793385576792824]
  refine byRows (P := fun w => segRun TW pw w 28 (some (.ref 6)) 1 9554 (sT (TL53 w.params) 93 395 os).abs (PySem.W.piecesOf ((bodyL.drop 6).take 1) topEnv cE ⟨52, 0, 52, 2⟩ B0) = some (.next, (sT (TL54 w.params) 99 1423 os).abs, cE, ⟨53, 0, 53, 11⟩)) (fun b1 b2 w => ?_) w
  have := r6 b1 b2 w os
  cases b1 <;> cases b2 <;> exact this
theorem r15 (b : Bool) (w : World) (os : OsState) : segRun TW pw (w1 w b) 28 (some (.ref 6)) 1 (89 + (990 + (990 + (990 + 30)))) (sT (TL62 (w1 w b).params) 103 1440 os).abs (PySem.W.piecesOf ((bodyL.drop 15).take 1) topEnv cE ⟨61, 0, 61, 8⟩ B0) = some (.next, (sT (TL64 (w1 w b).params) 106 1648 os).abs, cE, ⟨62, 9, 62, 74⟩) :=
  seg_go (goW (pre15 b w os)) (seg_go (goW (c15_1 (w1 w b) os _)) (seg_go (goW (c15_23 (w1 w b) os _)) (seg_go (goW (c15_45 (w1 w b) os _)) (runW (end15 b w os)))))
theorem piece15 (w : World) (os : OsState) : segRun treeTable pw w 28 (some (.ref 6)) 1 3089 (sT (TL62 w.params) 103 1440 os).abs (PySem.W.piecesOf ((bodyL.drop 15).take 1) topEnv cE ⟨61, 0, 61, 8⟩ B0) = some (.next, (sT (TL64 w.params) 106 1648 os).abs, cE, ⟨62, 9, 62, 74⟩) := by
  rw [PySem.W.Fast.te14364793385576792824]
  exact byRow2 "special-get-raises" (P := fun w => segRun TW pw w 28 (some (.ref 6)) 1 3089 (sT (TL62 w.params) 103 1440 os).abs (PySem.W.piecesOf ((bodyL.drop 15).take 1) topEnv cE ⟨61, 0, 61, 8⟩ B0) = some (.next, (sT (TL64 w.params) 106 1648 os).abs, cE, ⟨62, 9, 62, 74⟩)) (fun w => r15 false w os) (fun w => r15 true w os) w
theorem r17 (b : Bool) (w : World) (os : OsState) : segRun TW pw (w1 w b) 28 (some (.ref 6)) 1 (55 + (1080 + (1080 + (1080 + (990 + 30))))) (sT (TL65 (w1 w b).params) 106 1651 os).abs (PySem.W.piecesOf ((bodyL.drop 17).take 1) topEnv cE ⟨64, 0, 64, 28⟩ B0) = some (.next, (sT (TL67 (w1 w b).params) 109 1937 os).abs, cE, ⟨65, 9, 65, 110⟩) :=
  seg_go (goW (pre17 b w os)) (seg_go (goW (c17_1 (w1 w b) os _)) (seg_go (goW (c17_25 (w1 w b) os _)) (seg_go (goW (c17_49 (w1 w b) os _)) (seg_go (goW (c17_73 (w1 w b) os _)) (runW (end17 b w os))))))
theorem piece17 (w : World) (os : OsState) : segRun treeTable pw w 28 (some (.ref 6)) 1 4315 (sT (TL65 w.params) 106 1651 os).abs (PySem.W.piecesOf ((bodyL.drop 17).take 1) topEnv cE ⟨64, 0, 64, 28⟩ B0) = some (.next, (sT (TL67 w.params) 109 1937 os).abs, cE, ⟨65, 9, 65, 110⟩) := by
  rw [PySem.W.Fast.te14364793385576792824]
  exact byRow2 "special-get-raises" (P := fun w => segRun TW pw w 28 (some (.ref 6)) 1 4315 (sT (TL65 w.params) 106 1651 os).abs (PySem.W.piecesOf ((bodyL.drop 17).take 1) topEnv cE ⟨64, 0, 64, 28⟩ B0) = some (.next, (sT (TL67 w.params) 109 1937 os).abs, cE, ⟨65, 9, 65, 110⟩)) (fun w => r17 false w os) (fun w => r17 true w os) w
theorem body_parts : bodyL = bodyL.take 6 ++ ((bodyL.drop 6).take 1 ++ ((bodyL.drop 7).take 8 ++ ((bodyL.drop 15).take 1 ++ ((bodyL.drop 16).take 1 ++ ((bodyL.drop 17).take 1 ++ (bodyL.drop 18 ++ [])))))) := by kernel_rfl
theorem run_top (w : World) (os : OsState) : topRun treeTable pw w 28 (some (.ref 6)) (12 + (2 + (480 + (9554 + (140 + (3089 + (40 + (4315 + (700 + 5))))))))) ⟨absHeap (Ts0 w.params) 28 {}, #[], {}, 276, os⟩ (topStub pw) = some ⟨absHeap (Tend w.params) 225 {}, #[], {}, 2084, os⟩ := by
  refine go_top (pre_top w os) (piece_block (segRun_of (block_top w os)) ?_)
  rw [body_parts]
  exact piece_app (segRun_of (pieceA w os)) (piece_app (piece6 w os) (piece_app (segRun_of (pieceC w os)) (piece_app (piece15 w os) (piece_app (segRun_of (pieceE w os)) (piece_app (piece17 w os) (piece_app (segRun_of (pieceG w os)) (piece_nil (fin_top w os))))))))
end Mine
end

section
open PySem PySem.W PyProof.Rows
set_option Elab.async false
set_option maxRecDepth 1000000
set_option maxHeartbeats 0
namespace Mine
noncomputable def qv : Program := view pw [0, 39]
noncomputable def looseN : List PySem.Str := ["_wall", "Entry", "merge_entries", "_twin_re_1", "NL", "_QUOPRI_MAP", "_QUOPRI_HEADER_MAP", "_QUOPRI_BODY_MAP", "ascii_lowercase", "ascii_uppercase", "ascii_letters", "digits", "hexdigits", "unquote", "quote", "header_encode", "_QUOPRI_BODY_ENCODE_MAP", "decode", "_unquote_match", "header_decode", "_law_cells", "_law_octets", "_law_escaped", "_law_tails", "_law_agents", "_law_coats", "_law_small", "_law_hits", "_law_record", "_law_same"]
def kAddrs : List Nat := [3, 51, 52, 65, 66, 75, 76, 77, 78, 86, 87, 88, 89, 90, 91, 92, 114, 115, 121, 122, 123, 129, 130, 136, 142, 143, 149, 150, 156, 157, 163, 164, 168, 169, 175, 176, 182, 183, 187, 188, 192, 193, 199, 200, 204, 205, 211, 212, 218, 219, 223, 224]
noncomputable def Yf (s : Shared) : List (Option Obj) × Option Obj × Option Obj := (kAddrs.map s.heap.get?, s.heap.get? 95, s.heap.get? 100)
noncomputable def Ya (w : World) : List (Option Obj) × Option Obj × Option Obj := ((KK w.params).map fun p => some p.2, some (hq95 256), some hm100)
noncomputable def sEnd (w : World) (os : OsState) : Shared := ⟨absHeap (Tend w.params) 225 {}, #[], {}, 2084, os⟩
theorem look1 : ∀ (w : World) (os : OsState), (staticsOk (importedModules pw.main.body) (absHeap (Ts0 w.params) 28 {}) (absHeap (Tend w.params) 225 {}) && namesBound pw (absHeap (Tend w.params) 225 {}) && gensDone (sEnd w os) && laidKept (absHeap (Ts0 w.params) 28 {}) (absHeap (Tend w.params) 225 {})) = true := by intro w os; kernel_rfl
theorem look2 : ∀ (w : World) (os : OsState), openSeen qv looseN (importedModules pw.main.body) (fun _ => true) true (sEnd w os) = openGood qv looseN := by
  intro w os
  rw [PySem.W.Fast.te4187177175401517315]
  kernel_rfl
theorem look3 : ∀ (w : World) (os : OsState), Yf (sEnd w os) = Ya w := by intro w os; kernel_rfl
end Mine
end

section
open PySem PySem.W PyProof.Rows
set_option Elab.async false
set_option maxRecDepth 100000
set_option maxHeartbeats 8000000
namespace Mine
def YP (w : World) (h : Heap) : Prop := (KK w.params).In h ∧ MapQ h ∧ MapH h
theorem mapQ_of {h : Heap} (e : h.get? 95 = some (hq95 256)) : MapQ h := by
  refine ⟨(qItems 256).toArray, ⟨_, e, rfl, _, rfl⟩, fun k hk => ⟨401 + 4 * k, ?_⟩⟩
  rw [List.getElem?_toArray]
  unfold qItems
  rw [List.getElem?_map, List.getElem?_range hk]
  rfl
def isS (o : Option Value) (s : PySem.Str) : Bool := match o with
  | some (Value.str x _) => x == s
  | _ => false
theorem isS_ok {o : Option Value} {s : PySem.Str} (h : isS o s = true) : ∃ t, o = some (.str s t) := by
  cases o with
  | none => cases h
  | some v =>
    cases v with
    | str x t =>
      have e : x = s := beq_iff_eq.mp h
      exact ⟨t, by rw [e]⟩
    | _ => cases h
theorem hm_strs : ∀ k : Nat, k < 256 → isS (((putAll hb 1449 (qItems 256)).set 32 (.str ⟨#[95]⟩ 1648))[k]?) (hc k) = true := by decide +kernel
theorem mapH_of {h : Heap} (e : h.get? 100 = some hm100) : MapH h :=
  ⟨((putAll hb 1449 (qItems 256)).set 32 (.str ⟨#[95]⟩ 1648)).toArray, ⟨_, e, rfl, _, rfl⟩, fun k hk => by
    rw [List.getElem?_toArray]
    exact isS_ok (hm_strs k hk)⟩
theorem says_of (w : World) (s : Shared) (e : Yf s = Ya w) : YP w s.heap := by
  unfold Yf Ya at e
  obtain ⟨e1, e2⟩ := Prod.mk.inj e
  obtain ⟨e2, e3⟩ := Prod.mk.inj e2
  exact ⟨InK.of (K := KK) (as := kAddrs) (fun P => rfl) w s e1, mapQ_of e2, mapH_of e3⟩
theorem says_keeps (w : World) (h h' : Heap) (x : YP w h) (k : ∀ b o, h.get? b = some o → h'.get? b = some o) : YP w h' := ⟨x.1.keeps k, x.2.1.keep k, x.2.2.keep k⟩
theorem left_top : LeftO pw qv looseN (fun _ => true) Yf Ya 20000 := by
  refine LeftO.of_pieces (H₀ := fun P => absHeap (Ts0 P) 28 {}) (H₁ := fun P => absHeap (Tend P) 225 {}) top_open size_top run_top (by decide) fun w => funext fun os => ?_
  exact Prod.ext (look1 w os) (Prod.ext (look2 w os) (look3 w os))
theorem law_at {w : World} {h : Heap} {mg : PySem.Str → Option Value} (X : (KK w.params).In h) (hg : h.Ns mainGlobals mg) : mg (PySem.Str.ofString "law") = some (.ref 224) := by
  obtain ⟨o, es, ep, e, d, _, f⟩ := hg
  have e3 : h.get? 3 = some (o3 w.params) := X 3 _ (by rfl)
  have e' : h.get? 3 = some o := e
  rw [e3] at e'
  obtain rfl := Option.some.inj e'
  rw [← f]
  injection d with d1 d2
  rw [← d1]
  rfl
end Mine
end

section
open PySem PySem.W PyProof.Rows
set_option Elab.async false
set_option maxRecDepth 100000
namespace Mine
abbrev lw := PySem.Challenge.rw_tx0025_01
theorem lk1 : sreFenced pw.main = true := by kernel_rfl
theorem lk2 : ((moduleNames pw.main.body).isEmpty || lookedIntoSs (moduleNames pw.main.body) pw.main.body) = true := by kernel_rfl
theorem lk3 : namesResolve pw = true := by kernel_rfl
theorem lk4 : pw.boundNames.all (fun n => !worldNames.contains n) = true := by kernel_rfl
theorem lk5 : noRoadLSs { strict := !(importedModules pw.main.body).all cThrough.contains, foot := none, bare := (["vars", "dir", "locals"] : List Str).filter (readsOut pw pw.main.body) } pw.main.body = true := by kernel_rfl
theorem lk6 : namesMeet pw pw.main.body (fun _ n => attrL n) = true := by kernel_rfl
theorem looks : looksOpen pw = true := look_both (look_both (look_both (look_both (look_both lk1 lk2) lk3) lk4) lk5) lk6
theorem lk7 : lw.row.toRowW.solid = true := by kernel_rfl
theorem part_said : lw.row.partSaid = true := by
  unfold OpenRow.partSaid
  refine look_both (look_both (look_both (look_both (look_both (look_both (look_both (look_both (look_both (look_both (look_both (look_both (look_both looks ?_) ?_) ?_) ?_) ?_) ?_) lk7) ?_) ?_) ?_) ?_) ?_) ?_ <;> kernel_rfl
theorem row_said' : lw.row.wellSaid = true := by
  unfold OpenRow.wellSaid
  refine look_both (look_both part_said ?_) ?_ <;> kernel_rfl
theorem lk8 : noRoadLSs { strict := true, foot := some lw.bound', writes := lw.writes, may := lw.may } lw.footing = true := by kernel_rfl
theorem lk9 : defStands lw.about lw.above = true := by kernel_rfl
theorem lk10 : lw.namesIt = true := by kernel_rfl
theorem lk12 : lw.bound'.all (fun n => !builtinNamed n || lw.about == [n] || !lw.reads n) = true := by kernel_rfl
theorem lk13 : namesMeet lw.prog lw.footing (fun sc n => (!(["type", "isinstance", "issubclass", "getattr", "hasattr"] : List Str).contains n || sc.names.lookup n == some .globalImplicit) &&
    (lw.may != some n || sc.kind == .module || sc.names.lookup n == some .globalImplicit)) = true := by kernel_rfl
theorem lk15 : namesMeet lw.prog lw.above (fun _ n => !lw.own.contains n) = true := by kernel_rfl
theorem lk16 : namesMeet lw.prog lw.footing (fun sc n => sc.kind == .module || sc.names.lookup n != some .globalExplicit) = true := by kernel_rfl
theorem law_said : lw.wellSaid = true := by
  unfold OpenLaw.wellSaid
  refine look_both (look_both (look_both (look_both (look_both (look_both (look_both (look_both (look_both (look_both (look_both (look_both (look_both (look_both (look_both (look_both (look_both (look_both row_said' ?_) ?_) ?_) ?_) ?_) lk8) lk9) lk10) ?_) lk12) ?_) ?_) lk13) ?_) ?_) ?_) lk15) lk16 <;> kernel_rfl
end Mine
end

open PySem PySem.W PyProof.Rows
set_option Elab.async false
set_option maxRecDepth 100000 in
set_option maxHeartbeats 8000000 in
theorem PySem.Challenge.cw_tx0025_01_holds : PySem.Challenge.rw_tx0025_01.Holds := by
  refine PySem.W.holds_law Mine.law_said fun said => ?_
  refine PySem.W.holds_open (q := Mine.qv) (loose := Mine.looseN) (Xt := fun _ => true) (XP := fun _ _ => True) (Yf := Mine.Yf) (Ya := Mine.Ya) (YP := Mine.YP) (N := 20000) Mine.left_top Mine.says_of Mine.says_keeps (fun _ _ => trivial) (fun _ _ _ _ _ => trivial) (by rfl) (by rfl) (by rfl) (fun s _ => recFacts_of (by rfl)) (by rfl) (by assumption) (by decide +kernel) ⟨rfl, rfl, rfl, rfl, rfl, by decide +kernel⟩ ?hw ?hc
  case hw => w_witness2
  case hc =>
    intro w s₀ s₁ mg mb G Y fa o pm cd doc dV kV ho hd hcd hD hmg hg args vals as hpre hlay hrd hwl hlo
    wrow_args hpre hlay hrd hwl hlo
    rename_i ws _ _ _ _ _ _ _ l vs _ hL _ _ _ hI _ hlen _
    have hlen1 : ¬ ((63 : Nat) : Int) < (ws.length : Int) := hlen
    have hlen2 : ws.length ≤ 63 := Nat.le_of_not_lt fun h => hlen1 (Int.ofNat_lt.mpr h)
    clear hlen hlen1
    have e := Mine.law_at Y.1 G.T.g
    obtain rfl : fa = 224 := Value.ref.inj (Option.some.inj (hmg.symm.trans e))
    refine Mine.use_law (P := fun v s' => GoodWG Challenge.rw_tx0025_01.row.claim (classAt s₀.heap) (ExcName.means s₀.heap) [ofPy (PyData.list (List.map PyData.int ws))] s₁ (Except.ok (Flow.ret v)) s') G.T ⟨rfl, by decide, by decide⟩ hL hI hlen2 Y.2.1 Y.2.2 Y.1 ?_
    intro h' tk k
    refine GoodW.toG ⟨.inl ⟨_, .bool true, [], rfl, raisesW_false (by wrow_none_raised), .bool true, ?_, fun _ => ⟨.nil, fun _ h => nomatch h⟩⟩, fun b o e => k b o e, rfl, hg⟩
    wrow_post
