import PyProof.Rows.All
import Wide.All
import OpenK.AllK
import Wide.FinOn
import PySem.Challenge.RW_ag0002_03
open PySem PySem.W PySem.Spec PySem.Calls PyProof.Rows
set_option Elab.async false
set_option linter.all false
set_option linter.unusedSectionVars false
set_option linter.unusedSimpArgs false
set_option linter.unusedVariables false
set_option rowWalk.seconds 0
set_option maxRecDepth 100000
set_option maxHeartbeats 4000000
section
set_option maxRecDepth 100000
set_option maxHeartbeats 0
namespace Mine
def runG (thr ok : Thread → Bool) (st : SharedT → Thread → Option (SharedT × Thread)) : Nat → SharedT → Thread → Option SharedT
  | 0, _, _ => none
  | n + 1, s, t => match thr t with
    | true => some s
    | false => match ok t with
      | false => none
      | true => match st s t with
        | some (s', t') => runG thr ok st n s' t'
        | none => none
def goG (thr ok : Thread → Bool) (st : SharedT → Thread → Option (SharedT × Thread)) : Nat → SharedT → Thread → Option (SharedT × Thread)
  | 0, s, t => some (s, t)
  | n + 1, s, t => match thr t with
    | true => none
    | false => match ok t with
      | false => none
      | true => match st s t with
        | some (s', t') => goG thr ok st n s' t'
        | none => none
theorem go_run {thr ok : Thread → Bool} {st : SharedT → Thread → Option (SharedT × Thread)} {m : Nat} {r : SharedT} : ∀ {n : Nat} {s : SharedT} {t : Thread},
    (goG thr ok st n s t).bind (fun x => runG thr ok st m x.1 x.2) = some r → runG thr ok st (n + m) s t = some r
  | 0, s, t, h => by rw [Nat.zero_add]; exact h
  | n + 1, s, t, h => by
    rw [show n + 1 + m = (n + m) + 1 by omega]
    unfold goG at h
    unfold runG
    cases ht : thr t with
    | true => rw [ht] at h; cases h
    | false =>
      rw [ht] at h
      cases hk : ok t with
      | false => rw [hk] at h; cases h
      | true =>
        rw [hk] at h
        cases hs : st s t with
        | none => rw [hs] at h; cases h
        | some x => obtain ⟨s', t'⟩ := x; rw [hs] at h; exact go_run h
theorem runG_spec {tb : String → Option Builtin} {p : Program} {w : World} {n₀ : Nat} {ann : Option Value} : ∀ {n : Nat} {s s' : SharedT} {t : Thread},
    runG through (stepOk n₀ ann) (stepT (denote tb) p w) n s t = some s' → topRun tb p w n₀ ann n s.abs t = some s'.abs
  | 0, _, _, _, h => by cases h
  | n + 1, s, s', t, h => by
    unfold runG at h
    unfold topRun
    cases ht : through t with
    | true => rw [ht] at h; cases h; rfl
    | false =>
      rw [ht] at h
      cases hk : stepOk n₀ ann t with
      | false => rw [hk] at h; cases h
      | true =>
        rw [hk] at h
        cases hs : stepT (denote tb) p w s t with
        | none => rw [hs] at h; cases h
        | some r => obtain ⟨s₂, t₂⟩ := r; rw [hs] at h; rw [stepT_spec hs]; exact runG_spec h
def getT (s : SharedT) (a : Addr) : Option Obj := match Nat.blt a s.n with
  | true => (match s.tree.get a with | some o => alive o | none => none)
  | false => none
theorem getT_spec {s : SharedT} {a : Addr} {o : Obj} (h : getT s a = some o) : s.abs.heap.get? a = some o := by
  unfold getT at h
  cases e : Nat.blt a s.n with
  | false => rw [e] at h; cases h
  | true =>
    rw [e] at h
    cases g : s.tree.get a with
    | none => rw [g] at h; cases h
    | some o' => rw [g] at h; exact (abs_get (Nat.le_of_ble_eq_true e) g).trans h
theorem gets_spec {s : SharedT} : ∀ {as : List Addr} {os : List Obj}, as.map (getT s) = os.map some → as.map s.abs.heap.get? = os.map some
  | [], [], _ => rfl
  | [], _ :: _, h => by cases h
  | _ :: _, [], h => by cases h
  | a :: as, o :: os, h => by
    rw [List.map_cons, List.map_cons, List.cons.injEq] at h
    rw [List.map_cons, List.map_cons, getT_spec h.1, gets_spec h.2]
noncomputable def bootTree (P : Params) : BT :=
  [boot_o_0, boot_o_1, boot_o_2, boot_o_3, boot_o_4, boot_o_5, boot_o_6, boot_o_7, boot_o_8, boot_o_9, boot_o_10].zipIdx.foldl (fun t x => t.ins x.2 (x.1 P)) .nil
noncomputable def S0 (w : World) (os : OsState) : SharedT := ⟨bootTree w.params, 11, (boot_heap w.params).life, Array.mk [], boot_drawn, boot_toks, os⟩
theorem S0_abs (w : World) (os : OsState) : (S0 w os).abs = ⟨boot_heap w.params, Array.mk [], boot_drawn, boot_toks, os⟩ := by
  show Shared.mk (absHeap _ _ _) _ _ _ _ = _
  congr 1
abbrev P1 : Program := PySem.Challenge.pw_ag0002_03
structure FnAst where
  a : Arguments
  b : List Stmt
  s : Scope
def astOf : Stmt → FnAst
  | .FunctionDef _ a b _ _ _ sc _ _ _ => ⟨a, b, sc⟩
  | _ => ⟨{ posonlyargs := [], args := [], vararg := none, kwonlyargs := [], kw_defaults := [], kwarg := none, defaults := [] }, [], { kind := .function, names := [], isGenerator := false, isCoroutine := false, more := [] }⟩
def kindsOf : Stmt → List Stmt
  | .ClassDef _ _ _ b _ _ _ _ _ _ _ => b
  | _ => []
noncomputable def stAt (i : Nat) : Stmt := P1.main.body.getD i (.Pass default)
noncomputable def fn1 (i : Nat) : FnAst := astOf (stAt i)
noncomputable def fn2 (i j : Nat) : FnAst := astOf ((kindsOf (stAt i)).getD j (.Pass default))
def prm (x : FnAst) : Arguments := x.a
def bdy (x : FnAst) : List Stmt := x.b
def scp (x : FnAst) : Scope := x.s
noncomputable def K0 (P : Params) : Frag :=
  (nat_lit 2, ⟨.none, none, (.dict #[⟨PyData.keyHash P "type.__subclasses__.Exception.0", (.str "type.__subclasses__.Exception.0" 1121), (.int 634 0)⟩, ⟨PyData.keyHash P "type.__subclasses__.Exception.n", (.str "type.__subclasses__.Exception.n" 1122), (.int 1 0)⟩] 2), #[]⟩) ::
  (nat_lit 3, ⟨(.type "dict"), none, (.dict #[⟨PyData.keyHash P "__name__", (.str "__name__" 165), (.str "law_ag0002_03" 2411)⟩, ⟨PyData.keyHash P "__doc__", (.str "__doc__" 166), .none⟩, ⟨PyData.keyHash P "__package__", (.str "__package__" 167), .none⟩, ⟨PyData.keyHash P "__loader__", (.str "__loader__" 168), (.builtin "__main__.__loader__#opaque")⟩, ⟨PyData.keyHash P "__spec__", (.str "__spec__" 169), .none⟩, ⟨PyData.keyHash P "__annotations__", (.str "__annotations__" 170), (.ref 6)⟩, ⟨PyData.keyHash P "__builtins__", (.str "__builtins__" 171), (.ref 4)⟩, ⟨PyData.keyHash P "__file__", (.str "__file__" 173), (.str "/claim/cut.py" 172)⟩, ⟨PyData.keyHash P "__cached__", (.str "__cached__" 174), .none⟩, ⟨PyData.keyHash P "_wall", (.str "_wall" 193), (.ref 21)⟩, ⟨PyData.keyHash P "UUID", (.str "UUID" 236), (.ref 46)⟩, ⟨PyData.keyHash P "_turned", (.str "_turned" 243), (.ref 57)⟩, ⟨PyData.keyHash P "OLD_UUID_SUBTYPE", (.str "OLD_UUID_SUBTYPE" 247), (.int 3 246)⟩, ⟨PyData.keyHash P "UUID_SUBTYPE", (.str "UUID_SUBTYPE" 249), (.int 4 248)⟩, ⟨PyData.keyHash P "_pack_numbers", (.str "_pack_numbers" 259), (.ref 64)⟩, ⟨PyData.keyHash P "_unpack_numbers", (.str "_unpack_numbers" 270), (.ref 71)⟩, ⟨PyData.keyHash P "_vector_head", (.str "_vector_head" 277), (.ref 78)⟩, ⟨PyData.keyHash P "UuidRepresentation", (.str "UuidRepresentation" 312), (.ref 88)⟩, ⟨PyData.keyHash P "STANDARD", (.str "STANDARD" 314), (.int 4 313)⟩, ⟨PyData.keyHash P "ALL_UUID_SUBTYPES", (.str "ALL_UUID_SUBTYPES" 317), (.ref 93)⟩, ⟨PyData.keyHash P "ALL_UUID_REPRESENTATIONS", (.str "ALL_UUID_REPRESENTATIONS" 323), (.ref 94)⟩, ⟨PyData.keyHash P "UUID_REPRESENTATION_NAMES", (.str "UUID_REPRESENTATION_NAMES" 339), (.ref 95)⟩, ⟨PyData.keyHash P "VECTOR_SUBTYPE", (.str "VECTOR_SUBTYPE" 341), (.int 9 340)⟩, ⟨PyData.keyHash P "BinaryVectorDtype", (.str "BinaryVectorDtype" 367), (.ref 105)⟩, ⟨PyData.keyHash P "BinaryVector", (.str "BinaryVector" 417), (.ref 141)⟩, ⟨PyData.keyHash P "Binary", (.str "Binary" 550), (.ref 223)⟩, ⟨PyData.keyHash P "Code", (.str "Code" 611), (.ref 267)⟩, ⟨PyData.keyHash P "TypeRegistry", (.str "TypeRegistry" 660), (.ref 305)⟩, ⟨PyData.keyHash P "CodecOptions", (.str "CodecOptions" 695), (.ref 327)⟩, ⟨PyData.keyHash P "DEFAULT_CODEC_OPTIONS", (.str "DEFAULT_CODEC_OPTIONS" 714), (.ref 333)⟩, ⟨PyData.keyHash P "DatetimeMS", (.str "DatetimeMS" 803), (.ref 405)⟩, ⟨PyData.keyHash P "DBRef", (.str "DBRef" 886), (.ref 465)⟩, ⟨PyData.keyHash P "Decimal", (.str "Decimal" 963), (.ref 528)⟩, ⟨PyData.keyHash P "_PACK_64", (.str "_PACK_64" 972), (.ref 539)⟩, ⟨PyData.keyHash P "_UNPACK_64", (.str "_UNPACK_64" 979), (.ref 546)⟩, ⟨PyData.keyHash P "_EXPONENT_MASK", (.str "_EXPONENT_MASK" 981), (.int 6917529027641081856 980)⟩, ⟨PyData.keyHash P "_EXPONENT_BIAS", (.str "_EXPONENT_BIAS" 983), (.int 6176 982)⟩, ⟨PyData.keyHash P "_MAX_DIGITS", (.str "_MAX_DIGITS" 985), (.int 34 984)⟩, ⟨PyData.keyHash P "_SIGN", (.str "_SIGN" 987), (.int 9223372036854775808 986)⟩, ⟨PyData.keyHash P "_NINF", (.str "_NINF" 990), (.ref 547)⟩, ⟨PyData.keyHash P "_PINF", (.str "_PINF" 993), (.ref 548)⟩, ⟨PyData.keyHash P "_NNAN", (.str "_NNAN" 996), (.ref 549)⟩, ⟨PyData.keyHash P "_PNAN", (.str "_PNAN" 999), (.ref 550)⟩, ⟨PyData.keyHash P "_NSNAN", (.str "_NSNAN" 1002), (.ref 551)⟩, ⟨PyData.keyHash P "_PSNAN", (.str "_PSNAN" 1005), (.ref 552)⟩, ⟨PyData.keyHash P "_check_fits", (.str "_check_fits" 1012), (.ref 559)⟩, ⟨PyData.keyHash P "_decimal_to_128", (.str "_decimal_to_128" 1018), (.ref 564)⟩, ⟨PyData.keyHash P "Decimal128", (.str "Decimal128" 1102), (.ref 620)⟩, ⟨PyData.keyHash P "BSONError", (.str "BSONError" 1124), (.ref 634)⟩, ⟨PyData.keyHash P "InvalidBSON", (.str "InvalidBSON" 1140), (.ref 647)⟩, ⟨PyData.keyHash P "InvalidStringData", (.str "InvalidStringData" 1156), (.ref 659)⟩, ⟨PyData.keyHash P "InvalidDocument", (.str "InvalidDocument" 1192), (.ref 689)⟩, ⟨PyData.keyHash P "InvalidId", (.str "InvalidId" 1208), (.ref 701)⟩, ⟨PyData.keyHash P "Int64", (.str "Int64" 1250), (.ref 727)⟩, ⟨PyData.keyHash P "MaxKey", (.str "MaxKey" 1330), (.ref 790)⟩, ⟨PyData.keyHash P "MinKey", (.str "MinKey" 1410), (.ref 853)⟩, ⟨PyData.keyHash P "_HEX_DIGITS", (.str "_HEX_DIGITS" 1414), (.str "0123456789abcdefABCDEF" 1413)⟩, ⟨PyData.keyHash P "_from_hex", (.str "_from_hex" 1420), (.ref 862)⟩, ⟨PyData.keyHash P "_raise_invalid_id", (.str "_raise_invalid_id" 1427), (.ref 869)⟩, ⟨PyData.keyHash P "ObjectId", (.str "ObjectId" 1556), (.ref 966)⟩, ⟨PyData.keyHash P "_IGNORECASE", (.str "_IGNORECASE" 1560), (.int 2 1559)⟩, ⟨PyData.keyHash P "_LOCALE", (.str "_LOCALE" 1562), (.int 4 1561)⟩, ⟨PyData.keyHash P "_MULTILINE", (.str "_MULTILINE" 1564), (.int 8 1563)⟩, ⟨PyData.keyHash P "_DOTALL", (.str "_DOTALL" 1566), (.int 16 1565)⟩, ⟨PyData.keyHash P "_UNICODE", (.str "_UNICODE" 1568), (.int 32 1567)⟩, ⟨PyData.keyHash P "_VERBOSE", (.str "_VERBOSE" 1570), (.int 64 1569)⟩, ⟨PyData.keyHash P "str_flags_to_int", (.str "str_flags_to_int" 1578), (.ref 977)⟩, ⟨PyData.keyHash P "Regex", (.str "Regex" 1629), (.ref 1009)⟩, ⟨PyData.keyHash P "UPPERBOUND", (.str "UPPERBOUND" 1633), (.int 4294967296 1632)⟩, ⟨PyData.keyHash P "Timestamp", (.str "Timestamp" 1731), (.ref 1088)⟩, ⟨PyData.keyHash P "_unpack", (.str "_unpack" 1743), (.ref 1099)⟩, ⟨PyData.keyHash P "_UNPACK_INT_FROM", (.str "_UNPACK_INT_FROM" 1751), (.ref 1106)⟩, ⟨PyData.keyHash P "_UNPACK_LENGTH_SUBTYPE_FROM", (.str "_UNPACK_LENGTH_SUBTYPE_FROM" 1759), (.ref 1113)⟩, ⟨PyData.keyHash P "_UNPACK_LONG_FROM", (.str "_UNPACK_LONG_FROM" 1767), (.ref 1120)⟩, ⟨PyData.keyHash P "_UNPACK_TIMESTAMP_FROM", (.str "_UNPACK_TIMESTAMP_FROM" 1775), (.ref 1127)⟩, ⟨PyData.keyHash P "_utf_8_decode", (.str "_utf_8_decode" 1784), (.ref 1134)⟩, ⟨PyData.keyHash P "_utf_8_encode", (.str "_utf_8_encode" 1791), (.ref 1141)⟩, ⟨PyData.keyHash P "_index_nul", (.str "_index_nul" 1800), (.ref 1148)⟩, ⟨PyData.keyHash P "get_data_and_view", (.str "get_data_and_view" 1807), (.ref 1155)⟩, ⟨PyData.keyHash P "_raise_unknown_type", (.str "_raise_unknown_type" 1815), (.ref 1162)⟩, ⟨PyData.keyHash P "_get_int", (.str "_get_int" 1827), (.ref 1169)⟩, ⟨PyData.keyHash P "_get_c_string", (.str "_get_c_string" 1838), (.ref 1176)⟩, ⟨PyData.keyHash P "_get_string", (.str "_get_string" 1852), (.ref 1183)⟩, ⟨PyData.keyHash P "_get_object_size", (.str "_get_object_size" 1864), (.ref 1190)⟩, ⟨PyData.keyHash P "_get_object", (.str "_get_object" 1879), (.ref 1197)⟩, ⟨PyData.keyHash P "_get_array", (.str "_get_array" 1896), (.ref 1204)⟩, ⟨PyData.keyHash P "_get_binary", (.str "_get_binary" 1915), (.ref 1211)⟩, ⟨PyData.keyHash P "_get_oid", (.str "_get_oid" 1928), (.ref 1218)⟩, ⟨PyData.keyHash P "_get_boolean", (.str "_get_boolean" 1942), (.ref 1225)⟩, ⟨PyData.keyHash P "_get_date", (.str "_get_date" 1954), (.ref 1232)⟩, ⟨PyData.keyHash P "_get_code", (.str "_get_code" 1967), (.ref 1239)⟩, ⟨PyData.keyHash P "_get_code_w_scope", (.str "_get_code_w_scope" 1982), (.ref 1246)⟩, ⟨PyData.keyHash P "_get_regex", (.str "_get_regex" 1997), (.ref 1253)⟩, ⟨PyData.keyHash P "_get_ref", (.str "_get_ref" 2011), (.ref 1260)⟩, ⟨PyData.keyHash P "_get_timestamp", (.str "_get_timestamp" 2025), (.ref 1267)⟩, ⟨PyData.keyHash P "_get_int64", (.str "_get_int64" 2037), (.ref 1274)⟩, ⟨PyData.keyHash P "_get_decimal128", (.str "_get_decimal128" 2050), (.ref 1281)⟩, ⟨PyData.keyHash P "_get_element", (.str "_get_element" 2063), (.ref 1288)⟩, ⟨PyData.keyHash P "_element_to_dict", (.str "_element_to_dict" 2077), (.ref 1295)⟩, ⟨PyData.keyHash P "_elements_to_dict", (.str "_elements_to_dict" 2092), (.ref 1302)⟩, ⟨PyData.keyHash P "_bson_to_dict", (.str "_bson_to_dict" 2104), (.ref 1309)⟩, ⟨PyData.keyHash P "_PACK_INT", (.str "_PACK_INT" 2111), (.ref 1316)⟩, ⟨PyData.keyHash P "_PACK_LENGTH_SUBTYPE", (.str "_PACK_LENGTH_SUBTYPE" 2119), (.ref 1323)⟩, ⟨PyData.keyHash P "_PACK_LONG", (.str "_PACK_LONG" 2126), (.ref 1330)⟩, ⟨PyData.keyHash P "_PACK_TIMESTAMP", (.str "_PACK_TIMESTAMP" 2134), (.ref 1337)⟩, ⟨PyData.keyHash P "_make_c_string_check", (.str "_make_c_string_check" 2141), (.ref 1344)⟩, ⟨PyData.keyHash P "_make_c_string", (.str "_make_c_string" 2148), (.ref 1351)⟩, ⟨PyData.keyHash P "_make_name", (.str "_make_name" 2155), (.ref 1358)⟩, ⟨PyData.keyHash P "_encode_bytes", (.str "_encode_bytes" 2165), (.ref 1365)⟩, ⟨PyData.keyHash P "_encode_mapping", (.str "_encode_mapping" 2171), (.ref 1370)⟩, ⟨PyData.keyHash P "_encode_dbref", (.str "_encode_dbref" 2185), (.ref 1377)⟩, ⟨PyData.keyHash P "_encode_list", (.str "_encode_list" 2191), (.ref 1382)⟩, ⟨PyData.keyHash P "_encode_text", (.str "_encode_text" 2202), (.ref 1389)⟩, ⟨PyData.keyHash P "_encode_binary", (.str "_encode_binary" 2214), (.ref 1396)⟩, ⟨PyData.keyHash P "_encode_uuid", (.str "_encode_uuid" 2226), (.ref 1403)⟩, ⟨PyData.keyHash P "_encode_objectid", (.str "_encode_objectid" 2236), (.ref 1410)⟩, ⟨PyData.keyHash P "_encode_bool", (.str "_encode_bool" 2246), (.ref 1417)⟩, ⟨PyData.keyHash P "_encode_datetime_ms", (.str "_encode_datetime_ms" 2257), (.ref 1424)⟩, ⟨PyData.keyHash P "_encode_none", (.str "_encode_none" 2267), (.ref 1431)⟩, ⟨PyData.keyHash P "_encode_regex", (.str "_encode_regex" 2279), (.ref 1438)⟩, ⟨PyData.keyHash P "_encode_code", (.str "_encode_code" 2293), (.ref 1445)⟩, ⟨PyData.keyHash P "_encode_int", (.str "_encode_int" 2303), (.ref 1452)⟩, ⟨PyData.keyHash P "_encode_timestamp", (.str "_encode_timestamp" 2313), (.ref 1459)⟩, ⟨PyData.keyHash P "_encode_long", (.str "_encode_long" 2323), (.ref 1466)⟩, ⟨PyData.keyHash P "_encode_decimal128", (.str "_encode_decimal128" 2333), (.ref 1473)⟩, ⟨PyData.keyHash P "_encode_minkey", (.str "_encode_minkey" 2343), (.ref 1480)⟩, ⟨PyData.keyHash P "_encode_maxkey", (.str "_encode_maxkey" 2353), (.ref 1487)⟩, ⟨PyData.keyHash P "_name_value_to_bson", (.str "_name_value_to_bson" 2366), (.ref 1495)⟩, ⟨PyData.keyHash P "_element_to_bson", (.str "_element_to_bson" 2377), (.ref 1502)⟩, ⟨PyData.keyHash P "_dict_to_bson", (.str "_dict_to_bson" 2392), (.ref 1510)⟩, ⟨PyData.keyHash P "encode", (.str "encode" 2401), (.ref 1518)⟩, ⟨PyData.keyHash P "decode", (.str "decode" 2410), (.ref 1526)⟩, ⟨PyData.keyHash P "_law_made", (.str "_law_made" 2422), (.ref 1533)⟩, ⟨PyData.keyHash P "_law_packed", (.str "_law_packed" 2430), (.ref 1540)⟩, ⟨PyData.keyHash P "_law_read", (.str "_law_read" 2438), (.ref 1547)⟩, ⟨PyData.keyHash P "_law_due", (.str "_law_due" 2444), (.ref 1552)⟩, ⟨PyData.keyHash P "law", (.str "law" 2450), (.ref 1557)⟩] 137), #[]⟩) ::
  (nat_lit 45, ⟨(.type "dict"), none, (.dict #[⟨PyData.keyHash P "__module__", (.str "__module__" 203), (.str "bson.uuids" 194)⟩, ⟨PyData.keyHash P "__firstlineno__", (.str "__firstlineno__" 207), (.int 5 206)⟩, ⟨PyData.keyHash P "__init__", (.str "__init__" 217), (.ref 36)⟩, ⟨PyData.keyHash P "__eq__", (.str "__eq__" 225), (.ref 43)⟩, ⟨PyData.keyHash P "__static_attributes__", (.str "__static_attributes__" 228), (.ref 44)⟩, ⟨PyData.keyHash P "__dict__", (.str "__dict__" 230), (.ref 47)⟩, ⟨PyData.keyHash P "__weakref__", (.str "__weakref__" 232), (.ref 48)⟩, ⟨PyData.keyHash P "__doc__", (.str "__doc__" 233), .none⟩, ⟨PyData.keyHash P "__hash__", (.str "__hash__" 234), .none⟩] 5), #[]⟩) ::
  (nat_lit 46, ⟨(.type "type"), none, (.cls { name := "UUID", bases := [(.type "object")], mro := [(.ref 46), (.type "object")], ns := 45, qualname := "UUID", hasDict := true, slotNames := [], subclasses := [], abstract := false, collection := none, hasDel := false }), #[none, none, (some (.str "UUID" 196)), (some (.str "UUID" 204)), (some (.builtin "object.__new__")), (some (.bool true))]⟩) ::
  (nat_lit 63, ⟨(.type "code"), none, (.fields #[(.str "_pack_numbers" 250), (.str "_pack_numbers" 251), (.str "/claim/cut.py" 252), (.int 20 0), (.int 2 0), (.int 0 0), (.int 0 0), (.int 3 0), (.ref 58), (.bool true), (.int 181 0), (.ref 59), .none, (.ref 60), (.ref 61), (.ref 62), (.int 257 0), (.int 20 0), (.str "/claim/cut.py" 258)]), #[]⟩) ::
  (nat_lit 64, ⟨(.type "function"), none, (.func (fnOf "_pack_numbers" "_pack_numbers" (prm (fn1 7)) (bdy (fn1 7)) (scp (fn1 7)) .none .none .none (.str "bson.binary" 244) none (.ref 63) .none)), #[]⟩) ::
  (nat_lit 70, ⟨(.type "code"), none, (.fields #[(.str "_unpack_numbers" 260), (.str "_unpack_numbers" 261), (.str "/claim/cut.py" 262), (.int 32 0), (.int 3 0), (.int 0 0), (.int 0 0), (.int 3 0), (.ref 65), (.bool true), (.int 181 0), (.ref 66), .none, (.ref 67), (.ref 68), (.ref 69), (.int 268 0), (.int 32 0), (.str "/claim/cut.py" 269)]), #[]⟩) ::
  (nat_lit 71, ⟨(.type "function"), none, (.func (fnOf "_unpack_numbers" "_unpack_numbers" (prm (fn1 8)) (bdy (fn1 8)) (scp (fn1 8)) .none .none .none (.str "bson.binary" 244) none (.ref 70) .none)), #[]⟩) ::
  (nat_lit 77, ⟨(.type "code"), none, (.fields #[(.str "_vector_head" 271), (.str "_vector_head" 272), (.str "/claim/cut.py" 273), (.int 39 0), (.int 1 0), (.int 0 0), (.int 0 0), (.int 3 0), (.ref 72), (.bool true), (.int 181 0), (.ref 73), .none, (.ref 74), (.ref 75), (.ref 76), (.int 275 0), (.int 39 0), (.str "/claim/cut.py" 276)]), #[]⟩) ::
  (nat_lit 78, ⟨(.type "function"), none, (.func (fnOf "_vector_head" "_vector_head" (prm (fn1 9)) (bdy (fn1 9)) (scp (fn1 9)) .none .none .none (.str "bson.binary" 244) none (.ref 77) .none)), #[]⟩) ::
  (nat_lit 93, ⟨(.type "tuple"), none, (.seq #[(.int 3 315), (.int 4 316)] 0), #[]⟩) ::
  (nat_lit 104, ⟨(.type "dict"), none, (.dict #[⟨PyData.keyHash P "__module__", (.str "__module__" 349), (.str "bson.binary" 244)⟩, ⟨PyData.keyHash P "__firstlineno__", (.str "__firstlineno__" 353), (.int 59 352)⟩, ⟨PyData.keyHash P "INT8", (.str "INT8" 355), (.bytes #[3] 354)⟩, ⟨PyData.keyHash P "FLOAT32", (.str "FLOAT32" 357), (.bytes #[39] 356)⟩, ⟨PyData.keyHash P "PACKED_BIT", (.str "PACKED_BIT" 359), (.bytes #[16] 358)⟩, ⟨PyData.keyHash P "__static_attributes__", (.str "__static_attributes__" 360), (.ref 103)⟩, ⟨PyData.keyHash P "__dict__", (.str "__dict__" 362), (.ref 106)⟩, ⟨PyData.keyHash P "__weakref__", (.str "__weakref__" 364), (.ref 107)⟩, ⟨PyData.keyHash P "__doc__", (.str "__doc__" 365), .none⟩] 4), #[]⟩) ::
  (nat_lit 105, ⟨(.type "type"), none, (.cls { name := "BinaryVectorDtype", bases := [(.type "object")], mro := [(.ref 105), (.type "object")], ns := 104, qualname := "BinaryVectorDtype", hasDict := true, slotNames := [], subclasses := [], abstract := false, collection := none, hasDel := false }), #[none, none, (some (.str "BinaryVectorDtype" 342)), (some (.str "BinaryVectorDtype" 350)), (some (.builtin "object.__new__")), (some (.bool true))]⟩) ::
  (nat_lit 117, ⟨(.type "tuple"), none, (.seq #[(.int 0 380)] 0), #[]⟩) ::
  (nat_lit 123, ⟨(.type "code"), none, (.fields #[(.str "__init__" 381), (.str "BinaryVector.__init__" 382), (.str "/claim/cut.py" 383), (.int 65 0), (.int 4 0), (.int 0 0), (.int 0 0), (.int 3 0), (.ref 118), (.bool true), (.int 181 0), (.ref 119), .none, (.ref 120), (.ref 121), (.ref 122), (.int 388 0), (.int 65 0), (.str "/claim/cut.py" 389)]), #[]⟩) ::
  (nat_lit 124, ⟨(.type "function"), none, (.func (fnOf "__init__" "BinaryVector.__init__" (prm (fn2 17 0)) (bdy (fn2 17 0)) (scp (fn2 17 0)) (.ref 117) .none .none (.str "bson.binary" 244) none (.ref 123) .none)), #[]⟩) ::
  (nat_lit 130, ⟨(.type "code"), none, (.fields #[(.str "__eq__" 391), (.str "BinaryVector.__eq__" 392), (.str "/claim/cut.py" 393), (.int 70 0), (.int 2 0), (.int 0 0), (.int 0 0), (.int 3 0), (.ref 125), (.bool true), (.int 181 0), (.ref 126), .none, (.ref 127), (.ref 128), (.ref 129), (.int 396 0), (.int 70 0), (.str "/claim/cut.py" 397)]), #[]⟩) ::
  (nat_lit 131, ⟨(.type "function"), none, (.func (fnOf "__eq__" "BinaryVector.__eq__" (prm (fn2 17 1)) (bdy (fn2 17 1)) (scp (fn2 17 1)) .none .none .none (.str "bson.binary" 244) none (.ref 130) .none)), #[]⟩) ::
  (nat_lit 137, ⟨(.type "code"), none, (.fields #[(.str "__len__" 399), (.str "BinaryVector.__len__" 400), (.str "/claim/cut.py" 401), (.int 75 0), (.int 1 0), (.int 0 0), (.int 0 0), (.int 3 0), (.ref 132), (.bool true), (.int 181 0), (.ref 133), .none, (.ref 134), (.ref 135), (.ref 136), (.int 403 0), (.int 75 0), (.str "/claim/cut.py" 404)]), #[]⟩) ::
  (nat_lit 138, ⟨(.type "function"), none, (.func (fnOf "__len__" "BinaryVector.__len__" (prm (fn2 17 2)) (bdy (fn2 17 2)) (scp (fn2 17 2)) .none .none .none (.str "bson.binary" 244) none (.ref 137) .none)), #[]⟩) ::
  (nat_lit 140, ⟨(.type "dict"), none, (.dict #[⟨PyData.keyHash P "__module__", (.str "__module__" 375), (.str "bson.binary" 244)⟩, ⟨PyData.keyHash P "__firstlineno__", (.str "__firstlineno__" 379), (.int 63 378)⟩, ⟨PyData.keyHash P "__init__", (.str "__init__" 390), (.ref 124)⟩, ⟨PyData.keyHash P "__eq__", (.str "__eq__" 398), (.ref 131)⟩, ⟨PyData.keyHash P "__len__", (.str "__len__" 405), (.ref 138)⟩, ⟨PyData.keyHash P "__static_attributes__", (.str "__static_attributes__" 409), (.ref 139)⟩, ⟨PyData.keyHash P "__dict__", (.str "__dict__" 411), (.ref 142)⟩, ⟨PyData.keyHash P "__weakref__", (.str "__weakref__" 413), (.ref 143)⟩, ⟨PyData.keyHash P "__doc__", (.str "__doc__" 414), .none⟩, ⟨PyData.keyHash P "__hash__", (.str "__hash__" 415), .none⟩] 5), #[]⟩) ::
  (nat_lit 141, ⟨(.type "type"), none, (.cls { name := "BinaryVector", bases := [(.type "object")], mro := [(.ref 141), (.type "object")], ns := 140, qualname := "BinaryVector", hasDict := true, slotNames := [], subclasses := [], abstract := false, collection := none, hasDel := false }), #[none, none, (some (.str "BinaryVector" 368)), (some (.str "BinaryVector" 376)), (some (.builtin "object.__new__")), (some (.bool true))]⟩) ::
  (nat_lit 153, ⟨(.type "tuple"), none, (.seq #[(.int 0 432)] 0), #[]⟩) ::
  (nat_lit 159, ⟨(.type "code"), none, (.fields #[(.str "__init__" 433), (.str "Binary.__init__" 434), (.str "/claim/cut.py" 435), (.int 80 0), (.int 3 0), (.int 0 0), (.int 0 0), (.int 3 0), (.ref 154), (.bool true), (.int 181 0), (.ref 155), .none, (.ref 156), (.ref 157), (.ref 158), (.int 439 0), (.int 80 0), (.str "/claim/cut.py" 440)]), #[]⟩) ::
  (nat_lit 160, ⟨(.type "function"), none, (.func (fnOf "__init__" "Binary.__init__" (prm (fn2 18 1)) (bdy (fn2 18 1)) (scp (fn2 18 1)) (.ref 153) .none .none (.str "bson.binary" 244) none (.ref 159) .none)), #[]⟩) ::
  (nat_lit 180, ⟨(.type "tuple"), none, (.seq #[.none, .none] 0), #[]⟩) ::
  (nat_lit 186, ⟨(.type "code"), none, (.fields #[(.str "from_vector" 476), (.str "Binary.from_vector" 477), (.str "/claim/cut.py" 478), (.int 131 0), (.int 4 0), (.int 0 0), (.int 0 0), (.int 3 0), (.ref 181), (.bool true), (.int 181 0), (.ref 182), .none, (.ref 183), (.ref 184), (.ref 185), (.int 486 0), (.int 131 0), (.str "/claim/cut.py" 487)]), #[]⟩) ::
  (nat_lit 187, ⟨(.type "function"), none, (.func (fnOf "from_vector" "Binary.from_vector" (prm (fn2 18 4)) (bdy (fn2 18 4)) (scp (fn2 18 4)) (.ref 180) .none .none (.str "bson.binary" 244) (some 190) (.ref 186) .none)), #[]⟩) ::
  (nat_lit 188, ⟨(.type "dict"), none, (.dict #[⟨PyData.keyHash P "__module__", (.str "__module__" 489), (.str "bson.binary" 244)⟩, ⟨PyData.keyHash P "__name__", (.str "__name__" 492), (.str "from_vector" 491)⟩, ⟨PyData.keyHash P "__qualname__", (.str "__qualname__" 495), (.str "Binary.from_vector" 494)⟩, ⟨PyData.keyHash P "__doc__", (.str "__doc__" 497), .none⟩, ⟨PyData.keyHash P "__annotations__", (.str "__annotations__" 499), (.ref 190)⟩] 5), #[]⟩) ::
  (nat_lit 189, ⟨(.type "classmethod"), (some 188), (.fields #[(.ref 187), (.bool false)]), #[]⟩) ::
  (nat_lit 191, ⟨(.type "tuple"), none, (.seq #[(.bool false)] 0), #[]⟩) ::
  (nat_lit 197, ⟨(.type "code"), none, (.fields #[(.str "as_vector" 501), (.str "Binary.as_vector" 502), (.str "/claim/cut.py" 503), (.int 163 0), (.int 2 0), (.int 0 0), (.int 0 0), (.int 3 0), (.ref 192), (.bool true), (.int 181 0), (.ref 193), .none, (.ref 194), (.ref 195), (.ref 196), (.int 513 0), (.int 163 0), (.str "/claim/cut.py" 514)]), #[]⟩) ::
  (nat_lit 198, ⟨(.type "function"), none, (.func (fnOf "as_vector" "Binary.as_vector" (prm (fn2 18 5)) (bdy (fn2 18 5)) (scp (fn2 18 5)) (.ref 191) .none .none (.str "bson.binary" 244) none (.ref 197) .none)), #[]⟩) ::
  (nat_lit 204, ⟨(.type "code"), none, (.fields #[(.str "subtype" 516), (.str "Binary.subtype" 517), (.str "/claim/cut.py" 518), (.int 191 0), (.int 1 0), (.int 0 0), (.int 0 0), (.int 3 0), (.ref 199), (.bool true), (.int 181 0), (.ref 200), .none, (.ref 201), (.ref 202), (.ref 203), (.int 520 0), (.int 191 0), (.str "/claim/cut.py" 521)]), #[]⟩) ::
  (nat_lit 205, ⟨(.type "function"), none, (.func (fnOf "subtype" "Binary.subtype" (prm (fn2 18 6)) (bdy (fn2 18 6)) (scp (fn2 18 6)) .none .none .none (.str "bson.binary" 244) none (.ref 204) .none)), #[]⟩) ::
  (nat_lit 206, ⟨(.type "property"), none, (.fields #[(.ref 205), .none, .none, .none, (.str "subtype" 523), (.bool false)]), #[]⟩) ::
  (nat_lit 212, ⟨(.type "code"), none, (.fields #[(.str "__eq__" 524), (.str "Binary.__eq__" 525), (.str "/claim/cut.py" 526), (.int 195 0), (.int 2 0), (.int 0 0), (.int 0 0), (.int 3 0), (.ref 207), (.bool true), (.int 181 0), (.ref 208), .none, (.ref 209), (.ref 210), (.ref 211), (.int 529 0), (.int 195 0), (.str "/claim/cut.py" 530)]), #[]⟩) ::
  (nat_lit 213, ⟨(.type "function"), none, (.func (fnOf "__eq__" "Binary.__eq__" (prm (fn2 18 7)) (bdy (fn2 18 7)) (scp (fn2 18 7)) .none .none .none (.str "bson.binary" 244) none (.ref 212) .none)), #[]⟩) ::
  (nat_lit 219, ⟨(.type "code"), none, (.fields #[(.str "__ne__" 532), (.str "Binary.__ne__" 533), (.str "/claim/cut.py" 534), (.int 200 0), (.int 2 0), (.int 0 0), (.int 0 0), (.int 3 0), (.ref 214), (.bool true), (.int 181 0), (.ref 215), .none, (.ref 216), (.ref 217), (.ref 218), (.int 537 0), (.int 200 0), (.str "/claim/cut.py" 538)]), #[]⟩) ::
  (nat_lit 220, ⟨(.type "function"), none, (.func (fnOf "__ne__" "Binary.__ne__" (prm (fn2 18 8)) (bdy (fn2 18 8)) (scp (fn2 18 8)) .none .none .none (.str "bson.binary" 244) none (.ref 219) .none)), #[]⟩) ::
  (nat_lit 222, ⟨(.type "dict"), none, (.dict #[⟨PyData.keyHash P "__module__", (.str "__module__" 425), (.str "bson.binary" 244)⟩, ⟨PyData.keyHash P "__firstlineno__", (.str "__firstlineno__" 429), (.int 77 428)⟩, ⟨PyData.keyHash P "_type_marker", (.str "_type_marker" 431), (.int 5 430)⟩, ⟨PyData.keyHash P "__init__", (.str "__init__" 441), (.ref 160)⟩, ⟨PyData.keyHash P "from_uuid", (.str "from_uuid" 466), (.ref 170)⟩, ⟨PyData.keyHash P "as_uuid", (.str "as_uuid" 475), (.ref 179)⟩, ⟨PyData.keyHash P "from_vector", (.str "from_vector" 500), (.ref 189)⟩, ⟨PyData.keyHash P "as_vector", (.str "as_vector" 515), (.ref 198)⟩, ⟨PyData.keyHash P "subtype", (.str "subtype" 523), (.ref 206)⟩, ⟨PyData.keyHash P "__eq__", (.str "__eq__" 531), (.ref 213)⟩, ⟨PyData.keyHash P "__ne__", (.str "__ne__" 539), (.ref 220)⟩, ⟨PyData.keyHash P "__static_attributes__", (.str "__static_attributes__" 542), (.ref 221)⟩, ⟨PyData.keyHash P "__dict__", (.str "__dict__" 544), (.ref 224)⟩, ⟨PyData.keyHash P "__weakref__", (.str "__weakref__" 546), (.ref 225)⟩, ⟨PyData.keyHash P "__doc__", (.str "__doc__" 547), .none⟩, ⟨PyData.keyHash P "__hash__", (.str "__hash__" 548), .none⟩] 5), #[]⟩) ::
  (nat_lit 223, ⟨(.type "type"), none, (.cls { name := "Binary", bases := [(.type "object")], mro := [(.ref 223), (.type "object")], ns := 222, qualname := "Binary", hasDict := true, slotNames := [], subclasses := [], abstract := false, collection := none, hasDel := false }), #[none, none, (some (.str "Binary" 418)), (some (.str "Binary" 426)), (some (.builtin "object.__new__")), (some (.bool true))]⟩) ::
  (nat_lit 326, ⟨(.type "dict"), none, (.dict #[⟨PyData.keyHash P "__module__", (.str "__module__" 668), (.str "bson.codec_options" 612)⟩, ⟨PyData.keyHash P "__firstlineno__", (.str "__firstlineno__" 672), (.int 256 671)⟩, ⟨PyData.keyHash P "__init__", (.str "__init__" 684), (.ref 324)⟩, ⟨PyData.keyHash P "__static_attributes__", (.str "__static_attributes__" 688), (.ref 325)⟩, ⟨PyData.keyHash P "__dict__", (.str "__dict__" 690), (.ref 328)⟩, ⟨PyData.keyHash P "__weakref__", (.str "__weakref__" 692), (.ref 329)⟩, ⟨PyData.keyHash P "__doc__", (.str "__doc__" 693), .none⟩] 4), #[]⟩) ::
  (nat_lit 327, ⟨(.type "type"), none, (.cls { name := "CodecOptions", bases := [(.type "object")], mro := [(.ref 327), (.type "object")], ns := 326, qualname := "CodecOptions", hasDict := true, slotNames := [], subclasses := [], abstract := false, collection := none, hasDel := false }), #[none, none, (some (.str "CodecOptions" 661)), (some (.str "CodecOptions" 669)), (some (.builtin "object.__new__")), (some (.bool true))]⟩) ::
  (nat_lit 332, ⟨(.type "dict"), none, (.dict #[⟨PyData.keyHash P "uuid_representation", (.str "uuid_representation" 709), (.int 0 673)⟩, ⟨PyData.keyHash P "unicode_decode_error_handler", (.str "unicode_decode_error_handler" 711), (.str "strict" 674)⟩, ⟨PyData.keyHash P "type_registry", (.str "type_registry" 713), (.ref 336)⟩] 3), #[]⟩) ::
  (nat_lit 333, ⟨(.ref 327), (some 332), .plain, #[]⟩) ::
  (nat_lit 404, ⟨(.type "dict"), none, (.dict #[⟨PyData.keyHash P "__module__", (.str "__module__" 724), (.str "bson.datetime_ms" 715)⟩, ⟨PyData.keyHash P "__firstlineno__", (.str "__firstlineno__" 728), (.int 271 727)⟩, ⟨PyData.keyHash P "__init__", (.str "__init__" 736), (.ref 353)⟩, ⟨PyData.keyHash P "__lt__", (.str "__lt__" 744), (.ref 360)⟩, ⟨PyData.keyHash P "__le__", (.str "__le__" 752), (.ref 367)⟩, ⟨PyData.keyHash P "__eq__", (.str "__eq__" 760), (.ref 374)⟩, ⟨PyData.keyHash P "__ne__", (.str "__ne__" 768), (.ref 381)⟩, ⟨PyData.keyHash P "__gt__", (.str "__gt__" 776), (.ref 388)⟩, ⟨PyData.keyHash P "__ge__", (.str "__ge__" 784), (.ref 395)⟩, ⟨PyData.keyHash P "_type_marker", (.str "_type_marker" 786), (.int 9 785)⟩, ⟨PyData.keyHash P "__int__", (.str "__int__" 793), (.ref 402)⟩, ⟨PyData.keyHash P "__static_attributes__", (.str "__static_attributes__" 795), (.ref 403)⟩, ⟨PyData.keyHash P "__dict__", (.str "__dict__" 797), (.ref 406)⟩, ⟨PyData.keyHash P "__weakref__", (.str "__weakref__" 799), (.ref 407)⟩, ⟨PyData.keyHash P "__doc__", (.str "__doc__" 800), .none⟩, ⟨PyData.keyHash P "__hash__", (.str "__hash__" 801), .none⟩] 5), #[]⟩) ::
  (nat_lit 405, ⟨(.type "type"), none, (.cls { name := "DatetimeMS", bases := [(.type "object")], mro := [(.ref 405), (.type "object")], ns := 404, qualname := "DatetimeMS", hasDict := true, slotNames := [], subclasses := [], abstract := false, collection := none, hasDel := false }), #[none, none, (some (.str "DatetimeMS" 717)), (some (.str "DatetimeMS" 725)), (some (.builtin "object.__new__")), (some (.bool true))]⟩) ::
  (nat_lit 1098, ⟨(.type "code"), none, (.fields #[(.str "_unpack" 1734), (.str "_unpack" 1735), (.str "/claim/cut.py" 1736), (.int 704 0), (.int 4 0), (.int 0 0), (.int 0 0), (.int 3 0), (.ref 1093), (.bool true), (.int 181 0), (.ref 1094), .none, (.ref 1095), (.ref 1096), (.ref 1097), (.int 1741 0), (.int 704 0), (.str "/claim/cut.py" 1742)]), #[]⟩) ::
  (nat_lit 1099, ⟨(.type "function"), none, (.func (fnOf "_unpack" "_unpack" (prm (fn1 77)) (bdy (fn1 77)) (scp (fn1 77)) .none .none .none (.str "bson" 1732) none (.ref 1098) .none)), #[]⟩) ::
  (nat_lit 1105, ⟨(.type "code"), none, (.fields #[(.str "_UNPACK_INT_FROM" 1744), (.str "_UNPACK_INT_FROM" 1745), (.str "/claim/cut.py" 1746), (.int 708 0), (.int 2 0), (.int 0 0), (.int 0 0), (.int 3 0), (.ref 1100), (.bool true), (.int 181 0), (.ref 1101), .none, (.ref 1102), (.ref 1103), (.ref 1104), (.int 1749 0), (.int 708 0), (.str "/claim/cut.py" 1750)]), #[]⟩) ::
  (nat_lit 1106, ⟨(.type "function"), none, (.func (fnOf "_UNPACK_INT_FROM" "_UNPACK_INT_FROM" (prm (fn1 78)) (bdy (fn1 78)) (scp (fn1 78)) .none .none .none (.str "bson" 1732) none (.ref 1105) .none)), #[]⟩) ::
  (nat_lit 1112, ⟨(.type "code"), none, (.fields #[(.str "_UNPACK_LENGTH_SUBTYPE_FROM" 1752), (.str "_UNPACK_LENGTH_SUBTYPE_FROM" 1753), (.str "/claim/cut.py" 1754), (.int 710 0), (.int 2 0), (.int 0 0), (.int 0 0), (.int 3 0), (.ref 1107), (.bool true), (.int 181 0), (.ref 1108), .none, (.ref 1109), (.ref 1110), (.ref 1111), (.int 1757 0), (.int 710 0), (.str "/claim/cut.py" 1758)]), #[]⟩) ::
  (nat_lit 1113, ⟨(.type "function"), none, (.func (fnOf "_UNPACK_LENGTH_SUBTYPE_FROM" "_UNPACK_LENGTH_SUBTYPE_FROM" (prm (fn1 79)) (bdy (fn1 79)) (scp (fn1 79)) .none .none .none (.str "bson" 1732) none (.ref 1112) .none)), #[]⟩) ::
  (nat_lit 1133, ⟨(.type "code"), none, (.fields #[(.str "_utf_8_decode" 1776), (.str "_utf_8_decode" 1777), (.str "/claim/cut.py" 1778), (.int 720 0), (.int 3 0), (.int 0 0), (.int 0 0), (.int 3 0), (.ref 1128), (.bool true), (.int 181 0), (.ref 1129), .none, (.ref 1130), (.ref 1131), (.ref 1132), (.int 1782 0), (.int 720 0), (.str "/claim/cut.py" 1783)]), #[]⟩) ::
  (nat_lit 1134, ⟨(.type "function"), none, (.func (fnOf "_utf_8_decode" "_utf_8_decode" (prm (fn1 82)) (bdy (fn1 82)) (scp (fn1 82)) .none .none .none (.str "bson" 1732) none (.ref 1133) .none)), #[]⟩) ::
  (nat_lit 1140, ⟨(.type "code"), none, (.fields #[(.str "_utf_8_encode" 1785), (.str "_utf_8_encode" 1786), (.str "/claim/cut.py" 1787), (.int 722 0), (.int 1 0), (.int 0 0), (.int 0 0), (.int 3 0), (.ref 1135), (.bool true), (.int 181 0), (.ref 1136), .none, (.ref 1137), (.ref 1138), (.ref 1139), (.int 1789 0), (.int 722 0), (.str "/claim/cut.py" 1790)]), #[]⟩) ::
  (nat_lit 1141, ⟨(.type "function"), none, (.func (fnOf "_utf_8_encode" "_utf_8_encode" (prm (fn1 83)) (bdy (fn1 83)) (scp (fn1 83)) .none .none .none (.str "bson" 1732) none (.ref 1140) .none)), #[]⟩) ::
  (nat_lit 1147, ⟨(.type "code"), none, (.fields #[(.str "_index_nul" 1792), (.str "_index_nul" 1793), (.str "/claim/cut.py" 1794), (.int 724 0), (.int 2 0), (.int 0 0), (.int 0 0), (.int 3 0), (.ref 1142), (.bool true), (.int 181 0), (.ref 1143), .none, (.ref 1144), (.ref 1145), (.ref 1146), (.int 1798 0), (.int 724 0), (.str "/claim/cut.py" 1799)]), #[]⟩) ::
  (nat_lit 1148, ⟨(.type "function"), none, (.func (fnOf "_index_nul" "_index_nul" (prm (fn1 84)) (bdy (fn1 84)) (scp (fn1 84)) .none .none .none (.str "bson" 1732) none (.ref 1147) .none)), #[]⟩) ::
  (nat_lit 1154, ⟨(.type "code"), none, (.fields #[(.str "get_data_and_view" 1801), (.str "get_data_and_view" 1802), (.str "/claim/cut.py" 1803), (.int 729 0), (.int 1 0), (.int 0 0), (.int 0 0), (.int 3 0), (.ref 1149), (.bool true), (.int 181 0), (.ref 1150), .none, (.ref 1151), (.ref 1152), (.ref 1153), (.int 1805 0), (.int 729 0), (.str "/claim/cut.py" 1806)]), #[]⟩) ::
  (nat_lit 1155, ⟨(.type "function"), none, (.func (fnOf "get_data_and_view" "get_data_and_view" (prm (fn1 85)) (bdy (fn1 85)) (scp (fn1 85)) .none .none .none (.str "bson" 1732) none (.ref 1154) .none)), #[]⟩) ::
  (nat_lit 1175, ⟨(.type "code"), none, (.fields #[(.str "_get_c_string" 1828), (.str "_get_c_string" 1829), (.str "/claim/cut.py" 1830), (.int 735 0), (.int 4 0), (.int 0 0), (.int 0 0), (.int 3 0), (.ref 1170), (.bool true), (.int 181 0), (.ref 1171), .none, (.ref 1172), (.ref 1173), (.ref 1174), (.int 1836 0), (.int 735 0), (.str "/claim/cut.py" 1837)]), #[]⟩) ::
  (nat_lit 1176, ⟨(.type "function"), none, (.func (fnOf "_get_c_string" "_get_c_string" (prm (fn1 88)) (bdy (fn1 88)) (scp (fn1 88)) .none .none .none (.str "bson" 1732) none (.ref 1175) .none)), #[]⟩) ::
  (nat_lit 1189, ⟨(.type "code"), none, (.fields #[(.str "_get_object_size" 1853), (.str "_get_object_size" 1854), (.str "/claim/cut.py" 1855), (.int 747 0), (.int 3 0), (.int 0 0), (.int 0 0), (.int 3 0), (.ref 1184), (.bool true), (.int 181 0), (.ref 1185), .none, (.ref 1186), (.ref 1187), (.ref 1188), (.int 1862 0), (.int 747 0), (.str "/claim/cut.py" 1863)]), #[]⟩) ::
  (nat_lit 1190, ⟨(.type "function"), none, (.func (fnOf "_get_object_size" "_get_object_size" (prm (fn1 90)) (bdy (fn1 90)) (scp (fn1 90)) .none .none .none (.str "bson" 1732) none (.ref 1189) .none)), #[]⟩) ::
  (nat_lit 1210, ⟨(.type "code"), none, (.fields #[(.str "_get_binary" 1897), (.str "_get_binary" 1898), (.str "/claim/cut.py" 1899), (.int 786 0), (.int 6 0), (.int 0 0), (.int 0 0), (.int 3 0), (.ref 1205), (.bool true), (.int 181 0), (.ref 1206), .none, (.ref 1207), (.ref 1208), (.ref 1209), (.int 1913 0), (.int 786 0), (.str "/claim/cut.py" 1914)]), #[]⟩) ::
  (nat_lit 1211, ⟨(.type "function"), none, (.func (fnOf "_get_binary" "_get_binary" (prm (fn1 93)) (bdy (fn1 93)) (scp (fn1 93)) .none .none .none (.str "bson" 1732) none (.ref 1210) .none)), #[]⟩) ::
  (nat_lit 1287, ⟨(.type "code"), none, (.fields #[(.str "_get_element" 2051), (.str "_get_element" 2052), (.str "/claim/cut.py" 2053), (.int 849 0), (.int 7 0), (.int 0 0), (.int 0 0), (.int 3 0), (.ref 1282), (.bool true), (.int 181 0), (.ref 1283), .none, (.ref 1284), (.ref 1285), (.ref 1286), (.int 2061 0), (.int 849 0), (.str "/claim/cut.py" 2062)]), #[]⟩) ::
  (nat_lit 1288, ⟨(.type "function"), none, (.func (fnOf "_get_element" "_get_element" (prm (fn1 104)) (bdy (fn1 104)) (scp (fn1 104)) .none .none .none (.str "bson" 1732) none (.ref 1287) .none)), #[]⟩) ::
  (nat_lit 1294, ⟨(.type "code"), none, (.fields #[(.str "_element_to_dict" 2064), (.str "_element_to_dict" 2065), (.str "/claim/cut.py" 2066), (.int 891 0), (.int 5 0), (.int 0 0), (.int 0 0), (.int 3 0), (.ref 1289), (.bool true), (.int 181 0), (.ref 1290), .none, (.ref 1291), (.ref 1292), (.ref 1293), (.int 2075 0), (.int 891 0), (.str "/claim/cut.py" 2076)]), #[]⟩) ::
  (nat_lit 1295, ⟨(.type "function"), none, (.func (fnOf "_element_to_dict" "_element_to_dict" (prm (fn1 105)) (bdy (fn1 105)) (scp (fn1 105)) .none .none .none (.str "bson" 1732) none (.ref 1294) .none)), #[]⟩) ::
  (nat_lit 1301, ⟨(.type "code"), none, (.fields #[(.str "_elements_to_dict" 2078), (.str "_elements_to_dict" 2079), (.str "/claim/cut.py" 2080), (.int 900 0), (.int 5 0), (.int 0 0), (.int 0 0), (.int 3 0), (.ref 1296), (.bool true), (.int 181 0), (.ref 1297), .none, (.ref 1298), (.ref 1299), (.ref 1300), (.int 2090 0), (.int 900 0), (.str "/claim/cut.py" 2091)]), #[]⟩) ::
  (nat_lit 1302, ⟨(.type "function"), none, (.func (fnOf "_elements_to_dict" "_elements_to_dict" (prm (fn1 106)) (bdy (fn1 106)) (scp (fn1 106)) .none .none .none (.str "bson" 1732) none (.ref 1301) .none)), #[]⟩) ::
  (nat_lit 1308, ⟨(.type "code"), none, (.fields #[(.str "_bson_to_dict" 2093), (.str "_bson_to_dict" 2094), (.str "/claim/cut.py" 2095), (.int 909 0), (.int 2 0), (.int 0 0), (.int 0 0), (.int 3 0), (.ref 1303), (.bool true), (.int 181 0), (.ref 1304), .none, (.ref 1305), (.ref 1306), (.ref 1307), (.int 2102 0), (.int 909 0), (.str "/claim/cut.py" 2103)]), #[]⟩) ::
  (nat_lit 1309, ⟨(.type "function"), none, (.func (fnOf "_bson_to_dict" "_bson_to_dict" (prm (fn1 107)) (bdy (fn1 107)) (scp (fn1 107)) .none .none .none (.str "bson" 1732) none (.ref 1308) .none)), #[]⟩) ::
  (nat_lit 1315, ⟨(.type "code"), none, (.fields #[(.str "_PACK_INT" 2105), (.str "_PACK_INT" 2106), (.str "/claim/cut.py" 2107), (.int 918 0), (.int 1 0), (.int 0 0), (.int 0 0), (.int 3 0), (.ref 1310), (.bool true), (.int 181 0), (.ref 1311), .none, (.ref 1312), (.ref 1313), (.ref 1314), (.int 2109 0), (.int 918 0), (.str "/claim/cut.py" 2110)]), #[]⟩) ::
  (nat_lit 1316, ⟨(.type "function"), none, (.func (fnOf "_PACK_INT" "_PACK_INT" (prm (fn1 108)) (bdy (fn1 108)) (scp (fn1 108)) .none .none .none (.str "bson" 1732) none (.ref 1315) .none)), #[]⟩) ::
  (nat_lit 1322, ⟨(.type "code"), none, (.fields #[(.str "_PACK_LENGTH_SUBTYPE" 2112), (.str "_PACK_LENGTH_SUBTYPE" 2113), (.str "/claim/cut.py" 2114), (.int 920 0), (.int 2 0), (.int 0 0), (.int 0 0), (.int 3 0), (.ref 1317), (.bool true), (.int 181 0), (.ref 1318), .none, (.ref 1319), (.ref 1320), (.ref 1321), (.int 2117 0), (.int 920 0), (.str "/claim/cut.py" 2118)]), #[]⟩) ::
  (nat_lit 1323, ⟨(.type "function"), none, (.func (fnOf "_PACK_LENGTH_SUBTYPE" "_PACK_LENGTH_SUBTYPE" (prm (fn1 109)) (bdy (fn1 109)) (scp (fn1 109)) .none .none .none (.str "bson" 1732) none (.ref 1322) .none)), #[]⟩) ::
  (nat_lit 1357, ⟨(.type "code"), none, (.fields #[(.str "_make_name" 2149), (.str "_make_name" 2150), (.str "/claim/cut.py" 2151), (.int 950 0), (.int 1 0), (.int 0 0), (.int 0 0), (.int 3 0), (.ref 1352), (.bool true), (.int 181 0), (.ref 1353), .none, (.ref 1354), (.ref 1355), (.ref 1356), (.int 2153 0), (.int 950 0), (.str "/claim/cut.py" 2154)]), #[]⟩) ::
  (nat_lit 1358, ⟨(.type "function"), none, (.func (fnOf "_make_name" "_make_name" (prm (fn1 114)) (bdy (fn1 114)) (scp (fn1 114)) .none .none .none (.str "bson" 1732) none (.ref 1357) .none)), #[]⟩) ::
  (nat_lit 1395, ⟨(.type "code"), none, (.fields #[(.str "_encode_binary" 2203), (.str "_encode_binary" 2204), (.str "/claim/cut.py" 2205), (.int 977 0), (.int 4 0), (.int 0 0), (.int 0 0), (.int 3 0), (.ref 1390), (.bool true), (.int 181 0), (.ref 1391), .none, (.ref 1392), (.ref 1393), (.ref 1394), (.int 2212 0), (.int 977 0), (.str "/claim/cut.py" 2213)]), #[]⟩) ::
  (nat_lit 1396, ⟨(.type "function"), none, (.func (fnOf "_encode_binary" "_encode_binary" (prm (fn1 120)) (bdy (fn1 120)) (scp (fn1 120)) .none .none .none (.str "bson" 1732) none (.ref 1395) .none)), #[]⟩) ::
  (nat_lit 1488, ⟨(.type "tuple"), none, (.seq #[(.bool false)] 0), #[]⟩) ::
  (nat_lit 1494, ⟨(.type "code"), none, (.fields #[(.str "_name_value_to_bson" 2354), (.str "_name_value_to_bson" 2355), (.str "/claim/cut.py" 2356), (.int 1047 0), (.int 5 0), (.int 0 0), (.int 0 0), (.int 3 0), (.ref 1489), (.bool true), (.int 181 0), (.ref 1490), .none, (.ref 1491), (.ref 1492), (.ref 1493), (.int 2364 0), (.int 1047 0), (.str "/claim/cut.py" 2365)]), #[]⟩) ::
  (nat_lit 1495, ⟨(.type "function"), none, (.func (fnOf "_name_value_to_bson" "_name_value_to_bson" (prm (fn1 134)) (bdy (fn1 134)) (scp (fn1 134)) (.ref 1488) .none .none (.str "bson" 1732) none (.ref 1494) .none)), #[]⟩) ::
  (nat_lit 1501, ⟨(.type "code"), none, (.fields #[(.str "_element_to_bson" 2367), (.str "_element_to_bson" 2368), (.str "/claim/cut.py" 2369), (.int 1096 0), (.int 4 0), (.int 0 0), (.int 0 0), (.int 3 0), (.ref 1496), (.bool true), (.int 181 0), (.ref 1497), .none, (.ref 1498), (.ref 1499), (.ref 1500), (.int 2375 0), (.int 1096 0), (.str "/claim/cut.py" 2376)]), #[]⟩) ::
  (nat_lit 1502, ⟨(.type "function"), none, (.func (fnOf "_element_to_bson" "_element_to_bson" (prm (fn1 135)) (bdy (fn1 135)) (scp (fn1 135)) .none .none .none (.str "bson" 1732) none (.ref 1501) .none)), #[]⟩) ::
  (nat_lit 1503, ⟨(.type "tuple"), none, (.seq #[(.bool true)] 0), #[]⟩) ::
  (nat_lit 1509, ⟨(.type "code"), none, (.fields #[(.str "_dict_to_bson" 2378), (.str "_dict_to_bson" 2379), (.str "/claim/cut.py" 2380), (.int 1106 0), (.int 4 0), (.int 0 0), (.int 0 0), (.int 3 0), (.ref 1504), (.bool true), (.int 181 0), (.ref 1505), .none, (.ref 1506), (.ref 1507), (.ref 1508), (.int 2390 0), (.int 1106 0), (.str "/claim/cut.py" 2391)]), #[]⟩) ::
  (nat_lit 1510, ⟨(.type "function"), none, (.func (fnOf "_dict_to_bson" "_dict_to_bson" (prm (fn1 136)) (bdy (fn1 136)) (scp (fn1 136)) (.ref 1503) .none .none (.str "bson" 1732) none (.ref 1509) .none)), #[]⟩) ::
  (nat_lit 1511, ⟨(.type "tuple"), none, (.seq #[(.bool false), (.ref 333)] 0), #[]⟩) ::
  (nat_lit 1517, ⟨(.type "code"), none, (.fields #[(.str "encode" 2393), (.str "encode" 2394), (.str "/claim/cut.py" 2395), (.int 1120 0), (.int 3 0), (.int 0 0), (.int 0 0), (.int 3 0), (.ref 1512), (.bool true), (.int 181 0), (.ref 1513), .none, (.ref 1514), (.ref 1515), (.ref 1516), (.int 2399 0), (.int 1120 0), (.str "/claim/cut.py" 2400)]), #[]⟩) ::
  (nat_lit 1518, ⟨(.type "function"), none, (.func (fnOf "encode" "encode" (prm (fn1 137)) (bdy (fn1 137)) (scp (fn1 137)) (.ref 1511) .none .none (.str "bson" 1732) none (.ref 1517) .none)), #[]⟩) ::
  (nat_lit 1519, ⟨(.type "tuple"), none, (.seq #[.none] 0), #[]⟩) ::
  (nat_lit 1525, ⟨(.type "code"), none, (.fields #[(.str "decode" 2402), (.str "decode" 2403), (.str "/claim/cut.py" 2404), (.int 1124 0), (.int 2 0), (.int 0 0), (.int 0 0), (.int 3 0), (.ref 1520), (.bool true), (.int 181 0), (.ref 1521), .none, (.ref 1522), (.ref 1523), (.ref 1524), (.int 2408 0), (.int 1124 0), (.str "/claim/cut.py" 2409)]), #[]⟩) ::
  (nat_lit 1526, ⟨(.type "function"), none, (.func (fnOf "decode" "decode" (prm (fn1 138)) (bdy (fn1 138)) (scp (fn1 138)) (.ref 1519) .none .none (.str "bson" 1732) none (.ref 1525) .none)), #[]⟩) ::
  (nat_lit 1532, ⟨(.type "code"), none, (.fields #[(.str "_law_made" 2413), (.str "_law_made" 2414), (.str "/claim/cut.py" 2415), (.int 1130 0), (.int 3 0), (.int 0 0), (.int 0 0), (.int 3 0), (.ref 1527), (.bool true), (.int 181 0), (.ref 1528), .none, (.ref 1529), (.ref 1530), (.ref 1531), (.int 2420 0), (.int 1130 0), (.str "/claim/cut.py" 2421)]), #[]⟩) ::
  (nat_lit 1533, ⟨(.type "function"), none, (.func (fnOf "_law_made" "_law_made" (prm (fn1 140)) (bdy (fn1 140)) (scp (fn1 140)) .none .none .none (.str "law_ag0002_03" 2411) none (.ref 1532) .none)), #[]⟩) ::
  (nat_lit 1539, ⟨(.type "code"), none, (.fields #[(.str "_law_packed" 2423), (.str "_law_packed" 2424), (.str "/claim/cut.py" 2425), (.int 1138 0), (.int 1 0), (.int 0 0), (.int 0 0), (.int 3 0), (.ref 1534), (.bool true), (.int 181 0), (.ref 1535), .none, (.ref 1536), (.ref 1537), (.ref 1538), (.int 2428 0), (.int 1138 0), (.str "/claim/cut.py" 2429)]), #[]⟩) ::
  (nat_lit 1540, ⟨(.type "function"), none, (.func (fnOf "_law_packed" "_law_packed" (prm (fn1 141)) (bdy (fn1 141)) (scp (fn1 141)) .none .none .none (.str "law_ag0002_03" 2411) none (.ref 1539) .none)), #[]⟩) ::
  (nat_lit 1546, ⟨(.type "code"), none, (.fields #[(.str "_law_read" 2431), (.str "_law_read" 2432), (.str "/claim/cut.py" 2433), (.int 1144 0), (.int 1 0), (.int 0 0), (.int 0 0), (.int 3 0), (.ref 1541), (.bool true), (.int 181 0), (.ref 1542), .none, (.ref 1543), (.ref 1544), (.ref 1545), (.int 2436 0), (.int 1144 0), (.str "/claim/cut.py" 2437)]), #[]⟩) ::
  (nat_lit 1547, ⟨(.type "function"), none, (.func (fnOf "_law_read" "_law_read" (prm (fn1 142)) (bdy (fn1 142)) (scp (fn1 142)) .none .none .none (.str "law_ag0002_03" 2411) none (.ref 1546) .none)), #[]⟩) ::
  (nat_lit 1551, ⟨(.type "code"), none, (.fields #[(.str "_law_due" 2439), (.str "_law_due" 2440), (.str "/claim/cut.py" 2441), (.int 1150 0), (.int 1 0), (.int 0 0), (.int 0 0), (.int 3 0), (.ref 1548), (.bool true), (.int 181 0), (.ref 1549), .none, .none, .none, (.ref 1550), (.int 2442 0), (.int 1150 0), (.str "/claim/cut.py" 2443)]), #[]⟩) ::
  (nat_lit 1552, ⟨(.type "function"), none, (.func (fnOf "_law_due" "_law_due" (prm (fn1 143)) (bdy (fn1 143)) (scp (fn1 143)) .none .none .none (.str "law_ag0002_03" 2411) none (.ref 1551) .none)), #[]⟩) ::
  (nat_lit 1556, ⟨(.type "code"), none, (.fields #[(.str "law" 2445), (.str "law" 2446), (.str "/claim/cut.py" 2447), (.int 1154 0), (.int 1 0), (.int 0 0), (.int 0 0), (.int 3 0), (.ref 1553), (.bool true), (.int 181 0), (.ref 1554), .none, .none, .none, (.ref 1555), (.int 2448 0), (.int 1154 0), (.str "/claim/cut.py" 2449)]), #[]⟩) ::
  (nat_lit 1557, ⟨(.type "function"), none, (.func (fnOf "law" "law" (prm (fn1 144)) (bdy (fn1 144)) (scp (fn1 144)) .none .none .none (.str "law_ag0002_03" 2411) none (.ref 1556) .none)), #[]⟩) :: []
def adr : List Addr := [nat_lit 2, nat_lit 3, nat_lit 45, nat_lit 46, nat_lit 63, nat_lit 64, nat_lit 70, nat_lit 71, nat_lit 77, nat_lit 78, nat_lit 93, nat_lit 104, nat_lit 105, nat_lit 117, nat_lit 123, nat_lit 124, nat_lit 130, nat_lit 131, nat_lit 137, nat_lit 138, nat_lit 140, nat_lit 141, nat_lit 153, nat_lit 159, nat_lit 160, nat_lit 180, nat_lit 186, nat_lit 187, nat_lit 188, nat_lit 189, nat_lit 191, nat_lit 197, nat_lit 198, nat_lit 204, nat_lit 205, nat_lit 206, nat_lit 212, nat_lit 213, nat_lit 219, nat_lit 220, nat_lit 222, nat_lit 223, nat_lit 326, nat_lit 327, nat_lit 332, nat_lit 333, nat_lit 404, nat_lit 405, nat_lit 1098, nat_lit 1099, nat_lit 1105, nat_lit 1106, nat_lit 1112, nat_lit 1113, nat_lit 1133, nat_lit 1134, nat_lit 1140, nat_lit 1141, nat_lit 1147, nat_lit 1148, nat_lit 1154, nat_lit 1155, nat_lit 1175, nat_lit 1176, nat_lit 1189, nat_lit 1190, nat_lit 1210, nat_lit 1211, nat_lit 1287, nat_lit 1288, nat_lit 1294, nat_lit 1295, nat_lit 1301, nat_lit 1302, nat_lit 1308, nat_lit 1309, nat_lit 1315, nat_lit 1316, nat_lit 1322, nat_lit 1323, nat_lit 1357, nat_lit 1358, nat_lit 1395, nat_lit 1396, nat_lit 1488, nat_lit 1494, nat_lit 1495, nat_lit 1501, nat_lit 1502, nat_lit 1503, nat_lit 1509, nat_lit 1510, nat_lit 1511, nat_lit 1517, nat_lit 1518, nat_lit 1519, nat_lit 1525, nat_lit 1526, nat_lit 1532, nat_lit 1533, nat_lit 1539, nat_lit 1540, nat_lit 1546, nat_lit 1547, nat_lit 1551, nat_lit 1552, nat_lit 1556, nat_lit 1557]
theorem adr_eq (P : Params) : adr = (K0 P).map (·.1) := by kernel_rfl
noncomputable abbrev H1 : Hook := kHook K0 adr adr_eq
noncomputable def q1 : Program := { P1 with main := { P1.main with body := P1.main.body.drop 144 } }
def loose1 : List Str := P1.boundNames.filter fun n => n != ("law" : Str)
def mods1 : List Str := importedModules P1.main.body
noncomputable def Xt1 : Shared → Bool := fun s => xlAt q1 [] s && recOk [] s
noncomputable def look1 (s₀ : Heap) (s : Shared) := (staticsOk mods1 s₀ s.heap && namesBound P1 s.heap && gensDone s && laidKept s₀ s.heap, PySem.W.Fast.tw4187177175401517315 q1 loose1 mods1 Xt1 true s)
noncomputable abbrev okT : Thread → Bool := PySem.W.Fast.tw6613529449190102663 11 (some (.ref 6))
noncomputable abbrev stT (w : World) : SharedT → Thread → Option (SharedT × Thread) := PySem.W.Fast.tw10156331382660048174 (PySem.W.Fast.tw11892475500146522536 PySem.W.Fast.tw14364793385576792824) P1 w
namespace Hp
def segG (ok : Thread → Bool) (st : SharedT → Thread → Option (SharedT × Thread)) : Nat → SharedT → Thread → Option (Flow × SharedT × Code × Pos)
  | 0, _, _ => none
  | n + 1, s, t => match endAt 1 t with
    | some f => some (f, s, t.code, t.pos)
    | none => match ok t with
      | false => none
      | true => match st s t with
        | some (s', t') => segG ok st n s' t'
        | none => none
theorem segG_spec {tb : String → Option Builtin} {p : Program} {w : World} {n₀ : Nat} {ann : Option Value} : ∀ {n : Nat} {s s' : SharedT} {t : Thread} {f : Flow} {c : Code} {q : Pos},
    segG (stepOk n₀ ann) (stepT (denote tb) p w) n s t = some (f, s', c, q) → segRun tb p w n₀ ann 1 n s.abs t = some (f, s'.abs, c, q)
  | 0, _, _, _, _, _, _, h => by cases h
  | n + 1, s, s', t, f, c, q, h => by
    unfold segG at h
    unfold segRun
    cases he : endAt 1 t with
    | some x => rw [he] at h; cases h; rfl
    | none =>
      rw [he] at h
      cases hk : stepOk n₀ ann t with
      | false => rw [hk] at h; cases h
      | true =>
        rw [hk] at h
        cases hs : stepT (denote tb) p w s t with
        | none => rw [hs] at h; cases h
        | some r => obtain ⟨s₂, t₂⟩ := r; rw [hs] at h; rw [stepT_spec hs]; exact segG_spec h
theorem goG_spec {tb : String → Option Builtin} {p : Program} {w : World} {n₀ : Nat} {ann : Option Value} : ∀ {n : Nat} {s s' : SharedT} {t t' : Thread},
    goG through (stepOk n₀ ann) (stepT (denote tb) p w) n s t = some (s', t') → topGo tb p w n₀ ann n s.abs t = some (s'.abs, t')
  | 0, _, _, _, _, h => by cases h; rfl
  | n + 1, s, s', t, t', h => by
    unfold goG at h
    unfold topGo
    cases ht : through t with
    | true => rw [ht] at h; cases h
    | false =>
      rw [ht] at h
      cases hk : stepOk n₀ ann t with
      | false => rw [hk] at h; cases h
      | true =>
        rw [hk] at h
        cases hs : stepT (denote tb) p w s t with
        | none => rw [hs] at h; cases h
        | some r => obtain ⟨s₂, t₂⟩ := r; rw [hs] at h; rw [stepT_spec hs]; exact goG_spec h
def grow (t : BT) (l : List (Nat × Obj)) : BT := l.foldl (fun t x => t.ins x.1 x.2) t
def vs (s : String) (t : Nat) : Value := .str (Str.ofString s) t
def vr (a : Nat) : Value := .ref a
def vi (k t : Nat) : Value := .int (Int.ofNat k) t
def vb (s : String) : Value := .builtin s
def vt (s : String) : Value := .type s
def en (P : Params) (s : String) (t : Nat) (v : Value) : DictEntry := ⟨PyData.keyHash P (Str.ofString s), .str (Str.ofString s) t, v⟩
def ob (c : String) (d : Data) : Obj := ⟨.type c, none, d, #[]⟩
def oT (l : List Value) : Obj := ob "tuple" (.seq l.toArray 0)
def oF (c : String) (l : List Value) : Obj := ob c (.fields l.toArray)
def oN (l : List Value) : Obj := ⟨.none, none, .fields l.toArray, #[]⟩
def oD (l : List DictEntry) (n : Nat) : Obj := ob "dict" (.dict l.toArray n)
def oC (n q : String) (t l k x : Nat) (fl : Nat) (a f : Value) (b : Bool) (v c u : Value) (g : Nat) : Obj :=
  oF "code" [vs n t, vs q (t + 1), vs "/claim/cut.py" (t + 2), vi l 0, vi k 0, vi x 0, vi 0 0, vi fl 0, a, .bool b, vi 181 0, f, .none, v, c, u, vi g 0, vi l 0, vs "/claim/cut.py" (g + 1)]
def oU (n q : String) (x : FnAst) : Obj := ⟨.none, none, .func ⟨Str.ofString n, Str.ofString q, prm x, .stmts (bdy x), scp x, 0, [], .none, .none, .none, .none, none, .none, .none, 0⟩, #[]⟩
def oM (n q : String) (x : FnAst) (d e m : Value) (a : Nat) : Obj := ob "function" (.func ⟨Str.ofString n, Str.ofString q, prm x, .stmts (bdy x), scp x, 3, [], d, e, .none, m, none, .ref a, .none, 0⟩)
def nm : Nat → List String → List Value
  | _, [] => []
  | t, s :: r => vs s t :: nm (t + 1) r
def df (a : Nat) (n q : String) (x : FnAst) (t l k : Nat) (c f : List String) (d m : Value) : List (Nat × Obj) :=
  [(a, oT []), (a + 1, oN []), (a + 2, oT (nm (t + 3) c)), (a + 3, oT []), (a + 4, oU n q x),
   (a + 5, oC n q t l k 0 3 (vr a) (vr (a + 1)) true (vr (a + 2)) (vr (a + 3)) (vr (a + 4)) (t + 3 + c.length)), (a + 6, oM n q x d .none m (a + 5))]
def pL : List (Nat × Nat) → List Value
  | [] => []
  | (l, a) :: r => vi l 0 :: vi 0 0 :: vr a :: pL r
def Ld0 : List (Nat × Nat) := []
noncomputable def ch0 (P : Params) : List (Nat × Obj) :=
  [(11, oT [])] ++
  [(12, oN (pL Ld0))] ++
  [(13, oC "<module>" "<module>" 182 1 0 0 0 (vr 11) (vr 12) false .none .none .none 185),
   (14, ⟨(.type "frame"), none, .plain, #[(some (.ref 13)), (some (.ref 3)), (some (.ref 3)), none, (some (.str "__main__" 164)), none, (some (.ref 0))]⟩)]
noncomputable def T0 (P : Params) : BT := grow (bootTree P) (ch0 P)
noncomputable def St0 (w : World) (os : OsState) : SharedT := ⟨T0 w.params, 15, (boot_heap w.params).life, Array.mk [], boot_drawn, 187, os⟩
noncomputable def Rd1 (P : Params) : List DictEntry := [en P "__doc__" 166 .none, en P "__package__" 167 .none, en P "__loader__" 168 (vb "__main__.__loader__#opaque"), en P "__spec__" 169 .none, en P "__annotations__" 170 (vr 6), en P "__builtins__" 171 (vr 4), en P "__file__" 173 (vs "/claim/cut.py" 172), en P "__cached__" 174 .none, en P "_wall" 193 (vr 21), en P "UUID" 236 (vr 46), en P "_turned" 243 (vr 57), en P "OLD_UUID_SUBTYPE" 247 (vi 3 246), en P "UUID_SUBTYPE" 249 (vi 4 248), en P "_pack_numbers" 259 (vr 64), en P "_unpack_numbers" 270 (vr 71), en P "_vector_head" 277 (vr 78), en P "UuidRepresentation" 312 (vr 88), en P "STANDARD" 314 (vi 4 313), en P "ALL_UUID_SUBTYPES" 317 (vr 93), en P "ALL_UUID_REPRESENTATIONS" 323 (vr 94)]
def Ld1 : List (Nat × Nat) := Ld0 ++ [(1, 20), (5, 27), (15, 56), (20, 63), (32, 70), (39, 77), (43, 84)]
noncomputable def ch1 (P : Params) : List (Nat × Obj) :=
  df 15 "_wall" "_wall" (fn1 0) 187 1 1 ["k"] [] .none (vs "__main__" 164) ++
  [(22, oT []),
   (23, oF "builtin_function_or_method" [vb "type.__prepare__", vt "type"]),
   (24, oD [en P "__module__" 203 (vs "bson.uuids" 194), en P "__qualname__" 205 (vs "UUID" 204), en P "__firstlineno__" 207 (vi 5 206), en P "__init__" 217 (vr 36), en P "__eq__" 225 (vr 43), en P "__static_attributes__" 228 (vr 44)] 6),
   (25, oT []),
   (26, oN [vi 7 0, vi 4 0, vr 35, vi 13 0, vi 4 0, vr 42]),
   (27, oC "UUID" "UUID" 198 5 0 0 0 (vr 25) (vr 26) false .none .none .none 201),
   (28, ⟨(.type "frame"), none, .plain, #[(some (.ref 27)), (some (.ref 3)), (some (.ref 24)), none, (some (.str "bson.uuids" 194)), none, (some (.ref 0))]⟩),
   (29, oT [.none, .none])] ++
  df 30 "__init__" "UUID.__init__" (fn2 2 0) 208 7 3 ["self", "raw", "bytes_le", "octets"] [] (vr 29) (vs "bson.uuids" 194) ++
  df 37 "__eq__" "UUID.__eq__" (fn2 2 1) 218 13 2 ["self", "other"] [] .none (vs "bson.uuids" 194) ++
  [(44, oT [vs "bytes" 226, vs "bytes_le" 227]),
   (45, oD [en P "__module__" 203 (vs "bson.uuids" 194), en P "__firstlineno__" 207 (vi 5 206), en P "__init__" 217 (vr 36), en P "__eq__" 225 (vr 43), en P "__static_attributes__" 228 (vr 44), en P "__dict__" 230 (vr 47), en P "__weakref__" 232 (vr 48), en P "__doc__" 233 .none, en P "__hash__" 234 .none] 5),
   (46, ⟨(.type "type"), none, (.cls { name := "UUID", bases := [(.type "object")], mro := [(.ref 46), (.type "object")], ns := 45, qualname := "UUID", hasDict := true, slotNames := [], subclasses := [], abstract := false, collection := none, hasDel := false }), #[none, none, (some (.str "UUID" 196)), (some (.str "UUID" 204)), (some (.builtin "object.__new__")), (some (.bool true))]⟩),
   (47, oF "getset_descriptor" [vs "__dict__" 229, vr 46, vb "function.__dict__", vb "function.__dict__#set"]),
   (48, oF "getset_descriptor" [vs "__weakref__" 231, vr 46, vb "ExceptionGroup.__weakref__", .none]),
   (49, oF "super" [vr 46, vr 46, vr 46]),
   (50, oF "builtin_function_or_method" [vb "object.__init_subclass__", vr 46])] ++
  df 51 "_turned" "_turned" (fn1 3) 237 15 1 ["octets"] [] .none (vs "bson.uuids" 194) ++
  df 58 "_pack_numbers" "_pack_numbers" (fn1 7) 250 20 2 ["format_str", "numbers", "octets", "number"] [] .none (vs "bson.binary" 244) ++
  df 65 "_unpack_numbers" "_unpack_numbers" (fn1 8) 260 32 3 ["dtype_format", "data", "offset", "numbers", "octet"] [] .none (vs "bson.binary" 244) ++
  df 72 "_vector_head" "_vector_head" (fn1 9) 271 39 1 ["data"] [] .none (vs "bson.binary" 244) ++
  [(79, oT []),
   (80, oF "builtin_function_or_method" [vb "type.__prepare__", vt "type"]),
   (81, oD [en P "__module__" 285 (vs "bson.binary" 244), en P "__qualname__" 287 (vs "UuidRepresentation" 286), en P "__firstlineno__" 289 (vi 43 288), en P "UNSPECIFIED" 291 (vi 0 290), en P "STANDARD" 294 (vi 4 293), en P "PYTHON_LEGACY" 297 (vi 3 296), en P "JAVA_LEGACY" 300 (vi 5 299), en P "CSHARP_LEGACY" 303 (vi 6 302), en P "__static_attributes__" 305 (vr 86)] 9),
   (82, oT []),
   (83, oN []),
   (84, oC "UuidRepresentation" "UuidRepresentation" 280 43 0 0 0 (vr 82) (vr 83) false .none .none .none 283),
   (85, ⟨(.type "frame"), none, .plain, #[(some (.ref 84)), (some (.ref 3)), (some (.ref 81)), none, (some (.str "bson.binary" 244)), none, (some (.ref 0))]⟩),
   (86, oT []),
   (87, oD [en P "__module__" 285 (vs "bson.binary" 244), en P "__firstlineno__" 289 (vi 43 288), en P "UNSPECIFIED" 291 (vi 0 290), en P "STANDARD" 294 (vi 4 293), en P "PYTHON_LEGACY" 297 (vi 3 296), en P "JAVA_LEGACY" 300 (vi 5 299), en P "CSHARP_LEGACY" 303 (vi 6 302), en P "__static_attributes__" 305 (vr 86), en P "__dict__" 307 (vr 89), en P "__weakref__" 309 (vr 90), en P "__doc__" 310 .none] 4),
   (88, ⟨(.type "type"), none, (.cls { name := "UuidRepresentation", bases := [(.type "object")], mro := [(.ref 88), (.type "object")], ns := 87, qualname := "UuidRepresentation", hasDict := true, slotNames := [], subclasses := [], abstract := false, collection := none, hasDel := false }), #[none, none, (some (.str "UuidRepresentation" 278)), (some (.str "UuidRepresentation" 286)), (some (.builtin "object.__new__")), (some (.bool true))]⟩),
   (89, oF "getset_descriptor" [vs "__dict__" 306, vr 88, vb "function.__dict__", vb "function.__dict__#set"]),
   (90, oF "getset_descriptor" [vs "__weakref__" 308, vr 88, vb "ExceptionGroup.__weakref__", .none]),
   (91, oF "super" [vr 88, vr 88, vr 88]),
   (92, oF "builtin_function_or_method" [vb "object.__init_subclass__", vr 88]),
   (93, oT [vi 3 315, vi 4 316]),
   (94, oT [vi 0 318, vi 4 319, vi 3 320, vi 5 321, vi 6 322])] ++
  [(3, oD ((en P "__name__" 165 (vs "bson.binary" 244)) :: Rd1 P) 21)] ++
  [(12, oN (pL Ld1))]
noncomputable def T1 (P : Params) : BT := grow (T0 P) (ch1 P)
noncomputable def St1 (w : World) (os : OsState) : SharedT := ⟨T1 w.params, 95, (boot_heap w.params).life, Array.mk [], boot_drawn, 324, os⟩
noncomputable def Rd2 (P : Params) : List DictEntry := Rd1 P ++ [en P "UUID_REPRESENTATION_NAMES" 339 (vr 95)]
noncomputable def ch2 (P : Params) : List (Nat × Obj) :=
  [(95, oD [⟨0, (.int 0 324), (.str "UuidRepresentation.UNSPECIFIED" 325)⟩, ⟨4, (.int 4 326), (.str "UuidRepresentation.STANDARD" 327)⟩, ⟨3, (.int 3 328), (.str "UuidRepresentation.PYTHON_LEGACY" 329)⟩, ⟨5, (.int 5 330), (.str "UuidRepresentation.JAVA_LEGACY" 331)⟩, ⟨6, (.int 6 332), (.str "UuidRepresentation.CSHARP_LEGACY" 333)⟩] 5)] ++
  [(3, oD ((en P "__name__" 165 (vs "bson.binary" 244)) :: Rd2 P) 22)]
noncomputable def T2 (P : Params) : BT := grow (T1 P) (ch2 P)
noncomputable def St2 (w : World) (os : OsState) : SharedT := ⟨T2 w.params, 96, (boot_heap w.params).life, Array.mk [], boot_drawn, 340, os⟩
noncomputable def Rd3 (P : Params) : List DictEntry := Rd2 P ++ [en P "VECTOR_SUBTYPE" 341 (vi 9 340), en P "BinaryVectorDtype" 367 (vr 105), en P "BinaryVector" 417 (vr 141)]
def Ld3 : List (Nat × Nat) := Ld1 ++ [(59, 101), (63, 115)]
noncomputable def ch3 (P : Params) : List (Nat × Obj) :=
  [(96, oT []),
   (97, oF "builtin_function_or_method" [vb "type.__prepare__", vt "type"]),
   (98, oD [en P "__module__" 349 (vs "bson.binary" 244), en P "__qualname__" 351 (vs "BinaryVectorDtype" 350), en P "__firstlineno__" 353 (vi 59 352), en P "INT8" 355 (.bytes #[3] 354), en P "FLOAT32" 357 (.bytes #[39] 356), en P "PACKED_BIT" 359 (.bytes #[16] 358), en P "__static_attributes__" 360 (vr 103)] 7),
   (99, oT []),
   (100, oN []),
   (101, oC "BinaryVectorDtype" "BinaryVectorDtype" 344 59 0 0 0 (vr 99) (vr 100) false .none .none .none 347),
   (102, ⟨(.type "frame"), none, .plain, #[(some (.ref 101)), (some (.ref 3)), (some (.ref 98)), none, (some (.str "bson.binary" 244)), none, (some (.ref 0))]⟩),
   (103, oT []),
   (104, oD [en P "__module__" 349 (vs "bson.binary" 244), en P "__firstlineno__" 353 (vi 59 352), en P "INT8" 355 (.bytes #[3] 354), en P "FLOAT32" 357 (.bytes #[39] 356), en P "PACKED_BIT" 359 (.bytes #[16] 358), en P "__static_attributes__" 360 (vr 103), en P "__dict__" 362 (vr 106), en P "__weakref__" 364 (vr 107), en P "__doc__" 365 .none] 4),
   (105, ⟨(.type "type"), none, (.cls { name := "BinaryVectorDtype", bases := [(.type "object")], mro := [(.ref 105), (.type "object")], ns := 104, qualname := "BinaryVectorDtype", hasDict := true, slotNames := [], subclasses := [], abstract := false, collection := none, hasDel := false }), #[none, none, (some (.str "BinaryVectorDtype" 342)), (some (.str "BinaryVectorDtype" 350)), (some (.builtin "object.__new__")), (some (.bool true))]⟩),
   (106, oF "getset_descriptor" [vs "__dict__" 361, vr 105, vb "function.__dict__", vb "function.__dict__#set"]),
   (107, oF "getset_descriptor" [vs "__weakref__" 363, vr 105, vb "ExceptionGroup.__weakref__", .none]),
   (108, oF "super" [vr 105, vr 105, vr 105]),
   (109, oF "builtin_function_or_method" [vb "object.__init_subclass__", vr 105]),
   (110, oT []),
   (111, oF "builtin_function_or_method" [vb "type.__prepare__", vt "type"]),
   (112, oD [en P "__module__" 375 (vs "bson.binary" 244), en P "__qualname__" 377 (vs "BinaryVector" 376), en P "__firstlineno__" 379 (vi 63 378), en P "__init__" 390 (vr 124), en P "__eq__" 398 (vr 131), en P "__len__" 405 (vr 138), en P "__static_attributes__" 409 (vr 139)] 7),
   (113, oT []),
   (114, oN [vi 65 0, vi 4 0, vr 123, vi 70 0, vi 4 0, vr 130, vi 75 0, vi 4 0, vr 137]),
   (115, oC "BinaryVector" "BinaryVector" 370 63 0 0 0 (vr 113) (vr 114) false .none .none .none 373),
   (116, ⟨(.type "frame"), none, .plain, #[(some (.ref 115)), (some (.ref 3)), (some (.ref 112)), none, (some (.str "bson.binary" 244)), none, (some (.ref 0))]⟩),
   (117, oT [vi 0 380])] ++
  df 118 "__init__" "BinaryVector.__init__" (fn2 17 0) 381 65 4 ["self", "data", "dtype", "padding"] [] (vr 117) (vs "bson.binary" 244) ++
  df 125 "__eq__" "BinaryVector.__eq__" (fn2 17 1) 391 70 2 ["self", "other"] [] .none (vs "bson.binary" 244) ++
  df 132 "__len__" "BinaryVector.__len__" (fn2 17 2) 399 75 1 ["self"] [] .none (vs "bson.binary" 244) ++
  [(139, oT [vs "data" 406, vs "dtype" 407, vs "padding" 408]),
   (140, oD [en P "__module__" 375 (vs "bson.binary" 244), en P "__firstlineno__" 379 (vi 63 378), en P "__init__" 390 (vr 124), en P "__eq__" 398 (vr 131), en P "__len__" 405 (vr 138), en P "__static_attributes__" 409 (vr 139), en P "__dict__" 411 (vr 142), en P "__weakref__" 413 (vr 143), en P "__doc__" 414 .none, en P "__hash__" 415 .none] 5),
   (141, ⟨(.type "type"), none, (.cls { name := "BinaryVector", bases := [(.type "object")], mro := [(.ref 141), (.type "object")], ns := 140, qualname := "BinaryVector", hasDict := true, slotNames := [], subclasses := [], abstract := false, collection := none, hasDel := false }), #[none, none, (some (.str "BinaryVector" 368)), (some (.str "BinaryVector" 376)), (some (.builtin "object.__new__")), (some (.bool true))]⟩),
   (142, oF "getset_descriptor" [vs "__dict__" 410, vr 141, vb "function.__dict__", vb "function.__dict__#set"]),
   (143, oF "getset_descriptor" [vs "__weakref__" 412, vr 141, vb "ExceptionGroup.__weakref__", .none]),
   (144, oF "super" [vr 141, vr 141, vr 141]),
   (145, oF "builtin_function_or_method" [vb "object.__init_subclass__", vr 141])] ++
  [(3, oD ((en P "__name__" 165 (vs "bson.binary" 244)) :: Rd3 P) 25)] ++
  [(12, oN (pL Ld3))]
noncomputable def T3 (P : Params) : BT := grow (T2 P) (ch3 P)
noncomputable def St3 (w : World) (os : OsState) : SharedT := ⟨T3 w.params, 146, (boot_heap w.params).life, Array.mk [], boot_drawn, 418, os⟩
noncomputable def Rd4 (P : Params) : List DictEntry := Rd3 P ++ [en P "Binary" 550 (vr 223), en P "Code" 611 (vr 267)]
def Ld4 : List (Nat × Nat) := Ld3 ++ [(77, 151), (203, 233)]
noncomputable def ch4 (P : Params) : List (Nat × Obj) :=
  [(146, oT []),
   (147, oF "builtin_function_or_method" [vb "type.__prepare__", vt "type"]),
   (148, oD [en P "__module__" 425 (vs "bson.binary" 244), en P "__qualname__" 427 (vs "Binary" 426), en P "__firstlineno__" 429 (vi 77 428), en P "_type_marker" 431 (vi 5 430), en P "__init__" 441 (vr 160), en P "from_uuid" 466 (vr 170), en P "as_uuid" 475 (vr 179), en P "from_vector" 500 (vr 189), en P "as_vector" 515 (vr 198), en P "subtype" 523 (vr 206), en P "__eq__" 531 (vr 213), en P "__ne__" 539 (vr 220), en P "__static_attributes__" 542 (vr 221)] 13),
   (149, oT []),
   (150, oN [vi 80 0, vi 4 0, vr 159, vi 89 0, vi 4 0, vr 167, vi 109 0, vi 4 0, vr 178, vi 132 0, vi 4 0, vr 186, vi 163 0, vi 4 0, vr 197, vi 192 0, vi 4 0, vr 204, vi 195 0, vi 4 0, vr 212, vi 200 0, vi 4 0, vr 219]),
   (151, oC "Binary" "Binary" 420 77 0 0 0 (vr 149) (vr 150) false .none .none .none 423),
   (152, ⟨(.type "frame"), none, .plain, #[(some (.ref 151)), (some (.ref 3)), (some (.ref 148)), none, (some (.str "bson.binary" 244)), none, (some (.ref 0))]⟩),
   (153, oT [vi 0 432])] ++
  df 154 "__init__" "Binary.__init__" (fn2 18 1) 433 80 3 ["self", "data", "subtype"] [] (vr 153) (vs "bson.binary" 244) ++
  [(161, oT [vi 4 442]),
   (162, oT []),
   (163, oN []),
   (164, oT [vs "cls" 446, vs "uuid" 447, vs "uuid_representation" 448, vs "subtype" 449, vs "payload" 450, vs "from_uuid" 451]),
   (165, oT []),
   (166, oU "from_uuid" "Binary.from_uuid" (fn2 18 2)),
   (167, oC "from_uuid" "Binary.from_uuid" 443 88 3 0 3 (vr 162) (vr 163) true (vr 164) (vr 165) (vr 166) 452),
   (168, ⟨(.type "function"), none, (.func ⟨"from_uuid", "Binary.from_uuid", prm (fn2 18 2), .stmts (bdy (fn2 18 2)), scp (fn2 18 2), 3, [], (.ref 161), .none, .none, (.str "bson.binary" 244), (some 171), (.ref 167), .none, 0⟩), #[]⟩),
   (169, oD [en P "__module__" 455 (vs "bson.binary" 244), en P "__name__" 458 (vs "from_uuid" 457), en P "__qualname__" 461 (vs "Binary.from_uuid" 460), en P "__doc__" 463 .none, en P "__annotations__" 465 (vr 171)] 5),
   (170, ⟨(.type "classmethod"), (some 169), (.fields #[(.ref 168), (.bool false)]), #[]⟩),
   (171, oD [] 0),
   (172, oT [vi 4 467])] ++
  df 173 "as_uuid" "Binary.as_uuid" (fn2 18 3) 468 109 2 ["self", "uuid_representation"] [] (vr 172) (vs "bson.binary" 244) ++
  [(180, oT [.none, .none]),
   (181, oT []),
   (182, oN []),
   (183, oT [vs "cls" 479, vs "vector" 480, vs "dtype" 481, vs "padding" 482, vs "metadata" 483, vs "format_str" 484, vs "data" 485]),
   (184, oT []),
   (185, oU "from_vector" "Binary.from_vector" (fn2 18 4)),
   (186, oC "from_vector" "Binary.from_vector" 476 131 4 0 3 (vr 181) (vr 182) true (vr 183) (vr 184) (vr 185) 486),
   (187, ⟨(.type "function"), none, (.func ⟨"from_vector", "Binary.from_vector", prm (fn2 18 4), .stmts (bdy (fn2 18 4)), scp (fn2 18 4), 3, [], (.ref 180), .none, .none, (.str "bson.binary" 244), (some 190), (.ref 186), .none, 0⟩), #[]⟩),
   (188, oD [en P "__module__" 489 (vs "bson.binary" 244), en P "__name__" 492 (vs "from_vector" 491), en P "__qualname__" 495 (vs "Binary.from_vector" 494), en P "__doc__" 497 .none, en P "__annotations__" 499 (vr 190)] 5),
   (189, ⟨(.type "classmethod"), (some 188), (.fields #[(.ref 187), (.bool false)]), #[]⟩),
   (190, oD [] 0),
   (191, oT [(.bool false)])] ++
  df 192 "as_vector" "Binary.as_vector" (fn2 18 5) 501 163 2 ["self", "return_numpy", "dtype", "padding", "offset", "n_bytes", "dtype_format", "vector", "unpacked_uint8s"] [] (vr 191) (vs "bson.binary" 244) ++
  df 199 "subtype" "Binary.subtype" (fn2 18 6) 516 191 1 ["self"] [] .none (vs "bson.binary" 244) ++
  [(206, oF "property" [vr 205, .none, .none, .none, vs "subtype" 523, (.bool false)])] ++
  df 207 "__eq__" "Binary.__eq__" (fn2 18 7) 524 195 2 ["self", "other"] [] .none (vs "bson.binary" 244) ++
  df 214 "__ne__" "Binary.__ne__" (fn2 18 8) 532 200 2 ["self", "other"] [] .none (vs "bson.binary" 244) ++
  [(221, oT [vs "_subtype" 540, vs "data" 541]),
   (222, oD [en P "__module__" 425 (vs "bson.binary" 244), en P "__firstlineno__" 429 (vi 77 428), en P "_type_marker" 431 (vi 5 430), en P "__init__" 441 (vr 160), en P "from_uuid" 466 (vr 170), en P "as_uuid" 475 (vr 179), en P "from_vector" 500 (vr 189), en P "as_vector" 515 (vr 198), en P "subtype" 523 (vr 206), en P "__eq__" 531 (vr 213), en P "__ne__" 539 (vr 220), en P "__static_attributes__" 542 (vr 221), en P "__dict__" 544 (vr 224), en P "__weakref__" 546 (vr 225), en P "__doc__" 547 .none, en P "__hash__" 548 .none] 5),
   (223, ⟨(.type "type"), none, (.cls { name := "Binary", bases := [(.type "object")], mro := [(.ref 223), (.type "object")], ns := 222, qualname := "Binary", hasDict := true, slotNames := [], subclasses := [], abstract := false, collection := none, hasDel := false }), #[none, none, (some (.str "Binary" 418)), (some (.str "Binary" 426)), (some (.builtin "object.__new__")), (some (.bool true))]⟩),
   (224, oF "getset_descriptor" [vs "__dict__" 543, vr 223, vb "function.__dict__", vb "function.__dict__#set"]),
   (225, oF "getset_descriptor" [vs "__weakref__" 545, vr 223, vb "ExceptionGroup.__weakref__", .none]),
   (226, oF "super" [vr 223, vr 223, vr 223]),
   (227, oF "builtin_function_or_method" [vb "object.__init_subclass__", vr 223]),
   (228, oT []),
   (229, oF "builtin_function_or_method" [vb "type.__prepare__", vt "type"]),
   (230, oD [en P "__module__" 560 (vs "bson.code" 551), en P "__qualname__" 562 (vs "Code" 561), en P "__firstlineno__" 564 (vi 203 563), en P "_type_marker" 566 (vi 13 565), en P "__init__" 576 (vr 242), en P "scope" 584 (vr 250), en P "__eq__" 592 (vr 257), en P "__ne__" 600 (vr 264), en P "__static_attributes__" 603 (vr 265)] 9),
   (231, oT []),
   (232, oN [vi 206 0, vi 4 0, vr 241, vi 229 0, vi 4 0, vr 248, vi 232 0, vi 4 0, vr 256, vi 237 0, vi 4 0, vr 263]),
   (233, oC "Code" "Code" 555 203 0 0 0 (vr 231) (vr 232) false .none .none .none 558),
   (234, ⟨(.type "frame"), none, .plain, #[(some (.ref 233)), (some (.ref 3)), (some (.ref 230)), none, (some (.str "bson.code" 551)), none, (some (.ref 0))]⟩),
   (235, oT [.none]),
   (236, oT []),
   (237, oN []),
   (238, oT [vs "self" 570, vs "code" 571, vs "scope" 572, vs "kwargs" 573]),
   (239, oT []),
   (240, oU "__init__" "Code.__init__" (fn2 20 1)),
   (241, oC "__init__" "Code.__init__" 567 206 3 0 11 (vr 236) (vr 237) true (vr 238) (vr 239) (vr 240) 574),
   (242, oM "__init__" "Code.__init__" (fn2 20 1) (vr 235) .none (vs "bson.code" 551) 241)] ++
  df 243 "scope" "Code.scope" (fn2 20 2) 577 228 1 ["self"] [] .none (vs "bson.code" 551) ++
  [(250, oF "property" [vr 249, .none, .none, .none, vs "scope" 584, (.bool false)])] ++
  df 251 "__eq__" "Code.__eq__" (fn2 20 3) 585 232 2 ["self", "other"] [] .none (vs "bson.code" 551) ++
  df 258 "__ne__" "Code.__ne__" (fn2 20 4) 593 237 2 ["self", "other"] [] .none (vs "bson.code" 551) ++
  [(265, oT [vs "_scope" 601, vs "text" 602]),
   (266, oD [en P "__module__" 560 (vs "bson.code" 551), en P "__firstlineno__" 564 (vi 203 563), en P "_type_marker" 566 (vi 13 565), en P "__init__" 576 (vr 242), en P "scope" 584 (vr 250), en P "__eq__" 592 (vr 257), en P "__ne__" 600 (vr 264), en P "__static_attributes__" 603 (vr 265), en P "__dict__" 605 (vr 268), en P "__weakref__" 607 (vr 269), en P "__doc__" 608 .none, en P "__hash__" 609 .none] 5),
   (267, ⟨(.type "type"), none, (.cls { name := "Code", bases := [(.type "object")], mro := [(.ref 267), (.type "object")], ns := 266, qualname := "Code", hasDict := true, slotNames := [], subclasses := [], abstract := false, collection := none, hasDel := false }), #[none, none, (some (.str "Code" 553)), (some (.str "Code" 561)), (some (.builtin "object.__new__")), (some (.bool true))]⟩),
   (268, oF "getset_descriptor" [vs "__dict__" 604, vr 267, vb "function.__dict__", vb "function.__dict__#set"]),
   (269, oF "getset_descriptor" [vs "__weakref__" 606, vr 267, vb "ExceptionGroup.__weakref__", .none]),
   (270, oF "super" [vr 267, vr 267, vr 267]),
   (271, oF "builtin_function_or_method" [vb "object.__init_subclass__", vr 267])] ++
  [(3, oD ((en P "__name__" 165 (vs "bson.codec_options" 612)) :: Rd4 P) 27)] ++
  [(12, oN (pL Ld4))]
noncomputable def T4 (P : Params) : BT := grow (T3 P) (ch4 P)
noncomputable def St4 (w : World) (os : OsState) : SharedT := ⟨T4 w.params, 272, (boot_heap w.params).life, Array.mk [], boot_drawn, 614, os⟩
noncomputable def Rd5 (P : Params) : List DictEntry := Rd4 P ++ [en P "TypeRegistry" 660 (vr 305), en P "CodecOptions" 695 (vr 327)]
def Ld5 : List (Nat × Nat) := Ld4 ++ [(240, 277), (256, 315)]
noncomputable def ch5 (P : Params) : List (Nat × Obj) :=
  [(272, oT []),
   (273, oF "builtin_function_or_method" [vb "type.__prepare__", vt "type"]),
   (274, oD [en P "__module__" 621 (vs "bson.codec_options" 612), en P "__qualname__" 623 (vs "TypeRegistry" 622), en P "__firstlineno__" 625 (vi 240 624), en P "__init__" 634 (vr 286), en P "codecs" 642 (vr 294), en P "fallback_encoder" 650 (vr 302), en P "__static_attributes__" 653 (vr 303)] 7),
   (275, oT []),
   (276, oN [vi 242 0, vi 4 0, vr 285, vi 250 0, vi 4 0, vr 292, vi 254 0, vi 4 0, vr 300]),
   (277, oC "TypeRegistry" "TypeRegistry" 616 240 0 0 0 (vr 275) (vr 276) false .none .none .none 619),
   (278, ⟨(.type "frame"), none, .plain, #[(some (.ref 277)), (some (.ref 3)), (some (.ref 274)), none, (some (.str "bson.codec_options" 612)), none, (some (.ref 0))]⟩),
   (279, oT [.none, .none])] ++
  df 280 "__init__" "TypeRegistry.__init__" (fn2 22 0) 626 242 3 ["self", "type_codecs", "fallback_encoder"] [] (vr 279) (vs "bson.codec_options" 612) ++
  df 287 "codecs" "TypeRegistry.codecs" (fn2 22 1) 635 249 1 ["self"] [] .none (vs "bson.codec_options" 612) ++
  [(294, oF "property" [vr 293, .none, .none, .none, vs "codecs" 642, (.bool false)])] ++
  df 295 "fallback_encoder" "TypeRegistry.fallback_encoder" (fn2 22 2) 643 253 1 ["self"] [] .none (vs "bson.codec_options" 612) ++
  [(302, oF "property" [vr 301, .none, .none, .none, vs "fallback_encoder" 650, (.bool false)]),
   (303, oT [vs "_fallback_encoder" 651, vs "_type_codecs" 652]),
   (304, oD [en P "__module__" 621 (vs "bson.codec_options" 612), en P "__firstlineno__" 625 (vi 240 624), en P "__init__" 634 (vr 286), en P "codecs" 642 (vr 294), en P "fallback_encoder" 650 (vr 302), en P "__static_attributes__" 653 (vr 303), en P "__dict__" 655 (vr 306), en P "__weakref__" 657 (vr 307), en P "__doc__" 658 .none] 4),
   (305, ⟨(.type "type"), none, (.cls { name := "TypeRegistry", bases := [(.type "object")], mro := [(.ref 305), (.type "object")], ns := 304, qualname := "TypeRegistry", hasDict := true, slotNames := [], subclasses := [], abstract := false, collection := none, hasDel := false }), #[none, none, (some (.str "TypeRegistry" 614)), (some (.str "TypeRegistry" 622)), (some (.builtin "object.__new__")), (some (.bool true))]⟩),
   (306, oF "getset_descriptor" [vs "__dict__" 654, vr 305, vb "function.__dict__", vb "function.__dict__#set"]),
   (307, oF "getset_descriptor" [vs "__weakref__" 656, vr 305, vb "ExceptionGroup.__weakref__", .none]),
   (308, oF "super" [vr 305, vr 305, vr 305]),
   (309, oF "builtin_function_or_method" [vb "object.__init_subclass__", vr 305]),
   (310, oT []),
   (311, oF "builtin_function_or_method" [vb "type.__prepare__", vt "type"]),
   (312, oD [en P "__module__" 668 (vs "bson.codec_options" 612), en P "__qualname__" 670 (vs "CodecOptions" 669), en P "__firstlineno__" 672 (vi 256 671), en P "__init__" 684 (vr 324), en P "__static_attributes__" 688 (vr 325)] 5),
   (313, oT []),
   (314, oN [vi 258 0, vi 4 0, vr 323]),
   (315, oC "CodecOptions" "CodecOptions" 663 256 0 0 0 (vr 313) (vr 314) false .none .none .none 666),
   (316, ⟨(.type "frame"), none, .plain, #[(some (.ref 315)), (some (.ref 3)), (some (.ref 312)), none, (some (.str "bson.codec_options" 612)), none, (some (.ref 0))]⟩),
   (317, oT [vi 0 673, vs "strict" 674, .none])] ++
  df 318 "__init__" "CodecOptions.__init__" (fn2 23 0) 675 258 4 ["self", "uuid_representation", "unicode_decode_error_handler", "type_registry"] [] (vr 317) (vs "bson.codec_options" 612) ++
  [(325, oT [vs "type_registry" 685, vs "unicode_decode_error_handler" 686, vs "uuid_representation" 687]),
   (326, oD [en P "__module__" 668 (vs "bson.codec_options" 612), en P "__firstlineno__" 672 (vi 256 671), en P "__init__" 684 (vr 324), en P "__static_attributes__" 688 (vr 325), en P "__dict__" 690 (vr 328), en P "__weakref__" 692 (vr 329), en P "__doc__" 693 .none] 4),
   (327, ⟨(.type "type"), none, (.cls { name := "CodecOptions", bases := [(.type "object")], mro := [(.ref 327), (.type "object")], ns := 326, qualname := "CodecOptions", hasDict := true, slotNames := [], subclasses := [], abstract := false, collection := none, hasDel := false }), #[none, none, (some (.str "CodecOptions" 661)), (some (.str "CodecOptions" 669)), (some (.builtin "object.__new__")), (some (.bool true))]⟩),
   (328, oF "getset_descriptor" [vs "__dict__" 689, vr 327, vb "function.__dict__", vb "function.__dict__#set"]),
   (329, oF "getset_descriptor" [vs "__weakref__" 691, vr 327, vb "ExceptionGroup.__weakref__", .none]),
   (330, oF "super" [vr 327, vr 327, vr 327]),
   (331, oF "builtin_function_or_method" [vb "object.__init_subclass__", vr 327])] ++
  [(3, oD ((en P "__name__" 165 (vs "bson.codec_options" 612)) :: Rd5 P) 29)] ++
  [(12, oN (pL Ld5))]
noncomputable def T5 (P : Params) : BT := grow (T4 P) (ch5 P)
noncomputable def St5 (w : World) (os : OsState) : SharedT := ⟨T5 w.params, 332, (boot_heap w.params).life, Array.mk [], boot_drawn, 696, os⟩
noncomputable def Rd6 (P : Params) : List DictEntry := Rd5 P ++ [en P "DEFAULT_CODEC_OPTIONS" 714 (vr 333)]
noncomputable def ch6 (P : Params) : List (Nat × Obj) :=
  [(332, oD [en P "uuid_representation" 709 (vi 0 673), en P "unicode_decode_error_handler" 711 (vs "strict" 674), en P "type_registry" 713 (vr 336)] 3),
   (333, ⟨(.ref 327), (some 332), .plain, #[]⟩),
   (334, ⟨(.type "frame"), none, (.dict #[⟨PyData.keyHash P "self", (.str "self" 696), (.ref 333)⟩, ⟨PyData.keyHash P "uuid_representation", (.str "uuid_representation" 697), (.int 0 673)⟩, ⟨PyData.keyHash P "unicode_decode_error_handler", (.str "unicode_decode_error_handler" 698), (.str "strict" 674)⟩, ⟨PyData.keyHash P "type_registry", (.str "type_registry" 699), (.ref 336)⟩] 4), #[]⟩),
   (335, oD [en P "_type_codecs" 704 (vr 339), en P "_fallback_encoder" 706 .none] 2),
   (336, ⟨(.ref 305), (some 335), .plain, #[]⟩),
   (337, ⟨(.type "frame"), none, (.dict #[⟨PyData.keyHash P "self", (.str "self" 700), (.ref 336)⟩, ⟨PyData.keyHash P "type_codecs", (.str "type_codecs" 701), .none⟩, ⟨PyData.keyHash P "fallback_encoder", (.str "fallback_encoder" 702), .none⟩] 3), #[]⟩),
   (338, ob "list" (.seq ([] : List Value).toArray 0)),
   (339, ob "list" (.seq ([] : List Value).toArray 0))] ++
  [(3, oD ((en P "__name__" 165 (vs "bson.codec_options" 612)) :: Rd6 P) 30)]
noncomputable def T6 (P : Params) : BT := grow (T5 P) (ch6 P)
noncomputable def St6 (w : World) (os : OsState) : SharedT := ⟨T6 w.params, 340, (boot_heap w.params).life, Array.mk [], boot_drawn, 715, os⟩
noncomputable def Rd7 (P : Params) : List DictEntry := Rd6 P ++ [en P "DatetimeMS" 803 (vr 405), en P "DBRef" 886 (vr 465)]
def Ld7 : List (Nat × Nat) := Ld5 ++ [(271, 345), (307, 415)]
noncomputable def ch7 (P : Params) : List (Nat × Obj) :=
  [(340, oT []),
   (341, oF "builtin_function_or_method" [vb "type.__prepare__", vt "type"]),
   (342, oD [en P "__module__" 724 (vs "bson.datetime_ms" 715), en P "__qualname__" 726 (vs "DatetimeMS" 725), en P "__firstlineno__" 728 (vi 271 727), en P "__init__" 736 (vr 353), en P "__lt__" 744 (vr 360), en P "__le__" 752 (vr 367), en P "__eq__" 760 (vr 374), en P "__ne__" 768 (vr 381), en P "__gt__" 776 (vr 388), en P "__ge__" 784 (vr 395), en P "_type_marker" 786 (vi 9 785), en P "__int__" 793 (vr 402), en P "__static_attributes__" 795 (vr 403)] 13),
   (343, oT []),
   (344, oN [vi 273 0, vi 4 0, vr 352, vi 281 0, vi 4 0, vr 359, vi 284 0, vi 4 0, vr 366, vi 287 0, vi 4 0, vr 373, vi 292 0, vi 4 0, vr 380, vi 297 0, vi 4 0, vr 387, vi 300 0, vi 4 0, vr 394, vi 304 0, vi 4 0, vr 401]),
   (345, oC "DatetimeMS" "DatetimeMS" 719 271 0 0 0 (vr 343) (vr 344) false .none .none .none 722),
   (346, ⟨(.type "frame"), none, .plain, #[(some (.ref 345)), (some (.ref 3)), (some (.ref 342)), none, (some (.str "bson.datetime_ms" 715)), none, (some (.ref 0))]⟩)] ++
  df 347 "__init__" "DatetimeMS.__init__" (fn2 26 0) 729 273 2 ["self", "value"] [] .none (vs "bson.datetime_ms" 715) ++
  df 354 "__lt__" "DatetimeMS.__lt__" (fn2 26 1) 737 281 2 ["self", "other"] [] .none (vs "bson.datetime_ms" 715) ++
  df 361 "__le__" "DatetimeMS.__le__" (fn2 26 2) 745 284 2 ["self", "other"] [] .none (vs "bson.datetime_ms" 715) ++
  df 368 "__eq__" "DatetimeMS.__eq__" (fn2 26 3) 753 287 2 ["self", "other"] [] .none (vs "bson.datetime_ms" 715) ++
  df 375 "__ne__" "DatetimeMS.__ne__" (fn2 26 4) 761 292 2 ["self", "other"] [] .none (vs "bson.datetime_ms" 715) ++
  df 382 "__gt__" "DatetimeMS.__gt__" (fn2 26 5) 769 297 2 ["self", "other"] [] .none (vs "bson.datetime_ms" 715) ++
  df 389 "__ge__" "DatetimeMS.__ge__" (fn2 26 6) 777 300 2 ["self", "other"] [] .none (vs "bson.datetime_ms" 715) ++
  df 396 "__int__" "DatetimeMS.__int__" (fn2 26 8) 787 304 1 ["self"] [] .none (vs "bson.datetime_ms" 715) ++
  [(403, oT [vs "_value" 794]),
   (404, oD [en P "__module__" 724 (vs "bson.datetime_ms" 715), en P "__firstlineno__" 728 (vi 271 727), en P "__init__" 736 (vr 353), en P "__lt__" 744 (vr 360), en P "__le__" 752 (vr 367), en P "__eq__" 760 (vr 374), en P "__ne__" 768 (vr 381), en P "__gt__" 776 (vr 388), en P "__ge__" 784 (vr 395), en P "_type_marker" 786 (vi 9 785), en P "__int__" 793 (vr 402), en P "__static_attributes__" 795 (vr 403), en P "__dict__" 797 (vr 406), en P "__weakref__" 799 (vr 407), en P "__doc__" 800 .none, en P "__hash__" 801 .none] 5),
   (405, ⟨(.type "type"), none, (.cls { name := "DatetimeMS", bases := [(.type "object")], mro := [(.ref 405), (.type "object")], ns := 404, qualname := "DatetimeMS", hasDict := true, slotNames := [], subclasses := [], abstract := false, collection := none, hasDel := false }), #[none, none, (some (.str "DatetimeMS" 717)), (some (.str "DatetimeMS" 725)), (some (.builtin "object.__new__")), (some (.bool true))]⟩),
   (406, oF "getset_descriptor" [vs "__dict__" 796, vr 405, vb "function.__dict__", vb "function.__dict__#set"]),
   (407, oF "getset_descriptor" [vs "__weakref__" 798, vr 405, vb "ExceptionGroup.__weakref__", .none]),
   (408, oF "super" [vr 405, vr 405, vr 405]),
   (409, oF "builtin_function_or_method" [vb "object.__init_subclass__", vr 405]),
   (410, oT []),
   (411, oF "builtin_function_or_method" [vb "type.__prepare__", vt "type"]),
   (412, oD [en P "__module__" 813 (vs "bson.dbref" 804), en P "__qualname__" 815 (vs "DBRef" 814), en P "__firstlineno__" 817 (vi 307 816), en P "_type_marker" 819 (vi 100 818), en P "__init__" 831 (vr 424), en P "collection" 839 (vr 432), en P "id" 847 (vr 440), en P "database" 855 (vr 448), en P "__eq__" 865 (vr 455), en P "__ne__" 873 (vr 462), en P "__static_attributes__" 878 (vr 463)] 11),
   (413, oT []),
   (414, oN [vi 310 0, vi 4 0, vr 423, vi 322 0, vi 4 0, vr 430, vi 326 0, vi 4 0, vr 438, vi 330 0, vi 4 0, vr 446, vi 333 0, vi 4 0, vr 454, vi 340 0, vi 4 0, vr 461]),
   (415, oC "DBRef" "DBRef" 808 307 0 0 0 (vr 413) (vr 414) false .none .none .none 811),
   (416, ⟨(.type "frame"), none, .plain, #[(some (.ref 415)), (some (.ref 3)), (some (.ref 412)), none, (some (.str "bson.dbref" 804)), none, (some (.ref 0))]⟩),
   (417, oT [.none, .none]),
   (418, oT []),
   (419, oN []),
   (420, oT [vs "self" 823, vs "collection" 824, vs "id" 825, vs "database" 826, vs "_extra" 827, vs "kwargs" 828]),
   (421, oT []),
   (422, oU "__init__" "DBRef.__init__" (fn2 28 1)),
   (423, oC "__init__" "DBRef.__init__" 820 310 5 0 11 (vr 418) (vr 419) true (vr 420) (vr 421) (vr 422) 829),
   (424, oM "__init__" "DBRef.__init__" (fn2 28 1) (vr 417) .none (vs "bson.dbref" 804) 423)] ++
  df 425 "collection" "DBRef.collection" (fn2 28 2) 832 321 1 ["self"] [] .none (vs "bson.dbref" 804) ++
  [(432, oF "property" [vr 431, .none, .none, .none, vs "collection" 839, (.bool false)])] ++
  df 433 "id" "DBRef.id" (fn2 28 3) 840 325 1 ["self"] [] .none (vs "bson.dbref" 804) ++
  [(440, oF "property" [vr 439, .none, .none, .none, vs "id" 847, (.bool false)])] ++
  df 441 "database" "DBRef.database" (fn2 28 4) 848 329 1 ["self"] [] .none (vs "bson.dbref" 804) ++
  [(448, oF "property" [vr 447, .none, .none, .none, vs "database" 855, (.bool false)])] ++
  df 449 "__eq__" "DBRef.__eq__" (fn2 28 5) 856 333 2 ["self", "other", "us", "them"] [] .none (vs "bson.dbref" 804) ++
  df 456 "__ne__" "DBRef.__ne__" (fn2 28 6) 866 340 2 ["self", "other"] [] .none (vs "bson.dbref" 804) ++
  [(463, oT [vs "_collection" 874, vs "_database" 875, vs "_id" 876, vs "_kwargs" 877]),
   (464, oD [en P "__module__" 813 (vs "bson.dbref" 804), en P "__firstlineno__" 817 (vi 307 816), en P "_type_marker" 819 (vi 100 818), en P "__init__" 831 (vr 424), en P "collection" 839 (vr 432), en P "id" 847 (vr 440), en P "database" 855 (vr 448), en P "__eq__" 865 (vr 455), en P "__ne__" 873 (vr 462), en P "__static_attributes__" 878 (vr 463), en P "__dict__" 880 (vr 466), en P "__weakref__" 882 (vr 467), en P "__doc__" 883 .none, en P "__hash__" 884 .none] 5),
   (465, ⟨(.type "type"), none, (.cls { name := "DBRef", bases := [(.type "object")], mro := [(.ref 465), (.type "object")], ns := 464, qualname := "DBRef", hasDict := true, slotNames := [], subclasses := [], abstract := false, collection := none, hasDel := false }), #[none, none, (some (.str "DBRef" 806)), (some (.str "DBRef" 814)), (some (.builtin "object.__new__")), (some (.bool true))]⟩),
   (466, oF "getset_descriptor" [vs "__dict__" 879, vr 465, vb "function.__dict__", vb "function.__dict__#set"]),
   (467, oF "getset_descriptor" [vs "__weakref__" 881, vr 465, vb "ExceptionGroup.__weakref__", .none]),
   (468, oF "super" [vr 465, vr 465, vr 465]),
   (469, oF "builtin_function_or_method" [vb "object.__init_subclass__", vr 465])] ++
  [(3, oD ((en P "__name__" 165 (vs "bson.decimals" 887)) :: Rd7 P) 32)] ++
  [(12, oN (pL Ld7))]
noncomputable def T7 (P : Params) : BT := grow (T6 P) (ch7 P)
noncomputable def St7 (w : World) (os : OsState) : SharedT := ⟨T7 w.params, 470, (boot_heap w.params).life, Array.mk [], boot_drawn, 889, os⟩
noncomputable def Rd8 (P : Params) : List DictEntry := Rd7 P ++ [en P "Decimal" 963 (vr 528), en P "_PACK_64" 972 (vr 539), en P "_UNPACK_64" 979 (vr 546), en P "_EXPONENT_MASK" 981 (vi 6917529027641081856 980), en P "_EXPONENT_BIAS" 983 (vi 6176 982), en P "_MAX_DIGITS" 985 (vi 34 984), en P "_SIGN" 987 (vi 9223372036854775808 986), en P "_NINF" 990 (vr 547), en P "_PINF" 993 (vr 548), en P "_NNAN" 996 (vr 549), en P "_PNAN" 999 (vr 550), en P "_NSNAN" 1002 (vr 551), en P "_PSNAN" 1005 (vr 552), en P "_check_fits" 1012 (vr 559), en P "_decimal_to_128" 1018 (vr 564), en P "Decimal128" 1102 (vr 620)]
def Ld8 : List (Nat × Nat) := Ld7 ++ [(343, 475), (368, 538), (370, 545), (382, 558), (386, 563), (417, 570)]
noncomputable def ch8 (P : Params) : List (Nat × Obj) :=
  [(470, oT []),
   (471, oF "builtin_function_or_method" [vb "type.__prepare__", vt "type"]),
   (472, oD [en P "__module__" 896 (vs "bson.decimals" 887), en P "__qualname__" 898 (vs "Decimal" 897), en P "__firstlineno__" 900 (vi 343 899), en P "__init__" 908 (vr 483), en P "as_tuple" 915 (vr 490), en P "is_infinite" 922 (vr 497), en P "is_nan" 929 (vr 504), en P "is_snan" 936 (vr 511), en P "is_signed" 943 (vr 518), en P "__eq__" 951 (vr 525), en P "__static_attributes__" 955 (vr 526)] 11),
   (473, oT []),
   (474, oN [vi 345 0, vi 4 0, vr 482, vi 350 0, vi 4 0, vr 489, vi 353 0, vi 4 0, vr 496, vi 356 0, vi 4 0, vr 503, vi 359 0, vi 4 0, vr 510, vi 362 0, vi 4 0, vr 517, vi 365 0, vi 4 0, vr 524]),
   (475, oC "Decimal" "Decimal" 891 343 0 0 0 (vr 473) (vr 474) false .none .none .none 894),
   (476, ⟨(.type "frame"), none, .plain, #[(some (.ref 475)), (some (.ref 3)), (some (.ref 472)), none, (some (.str "bson.decimals" 887)), none, (some (.ref 0))]⟩)] ++
  df 477 "__init__" "Decimal.__init__" (fn2 30 0) 901 345 2 ["self", "value"] [] .none (vs "bson.decimals" 887) ++
  df 484 "as_tuple" "Decimal.as_tuple" (fn2 30 1) 909 350 1 ["self"] [] .none (vs "bson.decimals" 887) ++
  df 491 "is_infinite" "Decimal.is_infinite" (fn2 30 2) 916 353 1 ["self"] [] .none (vs "bson.decimals" 887) ++
  df 498 "is_nan" "Decimal.is_nan" (fn2 30 3) 923 356 1 ["self"] [] .none (vs "bson.decimals" 887) ++
  df 505 "is_snan" "Decimal.is_snan" (fn2 30 4) 930 359 1 ["self"] [] .none (vs "bson.decimals" 887) ++
  df 512 "is_signed" "Decimal.is_signed" (fn2 30 5) 937 362 1 ["self"] [] .none (vs "bson.decimals" 887) ++
  df 519 "__eq__" "Decimal.__eq__" (fn2 30 6) 944 365 2 ["self", "other"] [] .none (vs "bson.decimals" 887) ++
  [(526, oT [vs "digits" 952, vs "exponent" 953, vs "sign" 954]),
   (527, oD [en P "__module__" 896 (vs "bson.decimals" 887), en P "__firstlineno__" 900 (vi 343 899), en P "__init__" 908 (vr 483), en P "as_tuple" 915 (vr 490), en P "is_infinite" 922 (vr 497), en P "is_nan" 929 (vr 504), en P "is_snan" 936 (vr 511), en P "is_signed" 943 (vr 518), en P "__eq__" 951 (vr 525), en P "__static_attributes__" 955 (vr 526), en P "__dict__" 957 (vr 529), en P "__weakref__" 959 (vr 530), en P "__doc__" 960 .none, en P "__hash__" 961 .none] 5),
   (528, ⟨(.type "type"), none, (.cls { name := "Decimal", bases := [(.type "object")], mro := [(.ref 528), (.type "object")], ns := 527, qualname := "Decimal", hasDict := true, slotNames := [], subclasses := [], abstract := false, collection := none, hasDel := false }), #[none, none, (some (.str "Decimal" 889)), (some (.str "Decimal" 897)), (some (.builtin "object.__new__")), (some (.bool true))]⟩),
   (529, oF "getset_descriptor" [vs "__dict__" 956, vr 528, vb "function.__dict__", vb "function.__dict__#set"]),
   (530, oF "getset_descriptor" [vs "__weakref__" 958, vr 528, vb "ExceptionGroup.__weakref__", .none]),
   (531, oF "super" [vr 528, vr 528, vr 528]),
   (532, oF "builtin_function_or_method" [vb "object.__init_subclass__", vr 528])] ++
  df 533 "_PACK_64" "_PACK_64" (fn1 32) 966 368 1 ["number"] [] .none (vs "bson.decimal128" 964) ++
  df 540 "_UNPACK_64" "_UNPACK_64" (fn1 33) 973 370 1 ["octets"] [] .none (vs "bson.decimal128" 964) ++
  [(547, oT [vi 17870283321406128128 988, vi 0 989]),
   (548, oT [vi 8646911284551352320 991, vi 0 992]),
   (549, oT [vi 18158513697557839872 994, vi 0 995]),
   (550, oT [vi 8935141660703064064 997, vi 0 998]),
   (551, oT [vi 18302628885633695744 1000, vi 0 1001]),
   (552, oT [vi 9079256848778919936 1003, vi 0 1004])] ++
  df 553 "_check_fits" "_check_fits" (fn1 44) 1006 382 1 ["value"] [] .none (vs "bson.decimal128" 964) ++
  [(560, oT []),
   (561, oN []),
   (562, oU "_decimal_to_128" "_decimal_to_128" (fn1 45)),
   (563, oC "_decimal_to_128" "_decimal_to_128" 1013 386 1 0 3 (vr 560) (vr 561) true .none .none (vr 562) 1016),
   (564, oM "_decimal_to_128" "_decimal_to_128" (fn1 45) .none .none (vs "bson.decimal128" 964) 563),
   (565, oT []),
   (566, oF "builtin_function_or_method" [vb "type.__prepare__", vt "type"]),
   (567, oD [en P "__module__" 1026 (vs "bson.decimal128" 964), en P "__qualname__" 1028 (vs "Decimal128" 1027), en P "__firstlineno__" 1030 (vi 417 1029), en P "_type_marker" 1032 (vi 19 1031), en P "__init__" 1040 (vr 578), en P "to_decimal" 1047 (vr 585), en P "from_bid" 1067 (vr 594), en P "bid" 1075 (vr 603), en P "__eq__" 1083 (vr 610), en P "__ne__" 1091 (vr 617), en P "__static_attributes__" 1094 (vr 618)] 11),
   (568, oT []),
   (569, oN [vi 420 0, vi 4 0, vr 577, vi 430 0, vi 4 0, vr 584, vi 434 0, vi 4 0, vr 591, vi 442 0, vi 4 0, vr 601, vi 445 0, vi 4 0, vr 609, vi 450 0, vi 4 0, vr 616]),
   (570, oC "Decimal128" "Decimal128" 1021 417 0 0 0 (vr 568) (vr 569) false .none .none .none 1024),
   (571, ⟨(.type "frame"), none, .plain, #[(some (.ref 570)), (some (.ref 3)), (some (.ref 567)), none, (some (.str "bson.decimal128" 964)), none, (some (.ref 0))]⟩)] ++
  df 572 "__init__" "Decimal128.__init__" (fn2 46 1) 1033 420 2 ["self", "value"] [] .none (vs "bson.decimal128" 964) ++
  df 579 "to_decimal" "Decimal128.to_decimal" (fn2 46 2) 1041 430 1 ["self"] [] .none (vs "bson.decimal128" 964) ++
  [(586, oT []),
   (587, oN []),
   (588, oT [vs "cls" 1051, vs "value" 1052]),
   (589, oT []),
   (590, oU "from_bid" "Decimal128.from_bid" (fn2 46 3)),
   (591, oC "from_bid" "Decimal128.from_bid" 1048 433 2 0 3 (vr 586) (vr 587) true (vr 588) (vr 589) (vr 590) 1053),
   (592, ⟨(.type "function"), none, (.func ⟨"from_bid", "Decimal128.from_bid", prm (fn2 46 3), .stmts (bdy (fn2 46 3)), scp (fn2 46 3), 3, [], .none, .none, .none, (.str "bson.decimal128" 964), (some 595), (.ref 591), .none, 0⟩), #[]⟩),
   (593, oD [en P "__module__" 1056 (vs "bson.decimal128" 964), en P "__name__" 1059 (vs "from_bid" 1058), en P "__qualname__" 1062 (vs "Decimal128.from_bid" 1061), en P "__doc__" 1064 .none, en P "__annotations__" 1066 (vr 595)] 5),
   (594, ⟨(.type "classmethod"), (some 593), (.fields #[(.ref 592), (.bool false)]), #[]⟩),
   (595, oD [] 0)] ++
  df 596 "bid" "Decimal128.bid" (fn2 46 4) 1068 441 1 ["self"] [] .none (vs "bson.decimal128" 964) ++
  [(603, oF "property" [vr 602, .none, .none, .none, vs "bid" 1075, (.bool false)])] ++
  df 604 "__eq__" "Decimal128.__eq__" (fn2 46 5) 1076 445 2 ["self", "other"] [] .none (vs "bson.decimal128" 964) ++
  df 611 "__ne__" "Decimal128.__ne__" (fn2 46 6) 1084 450 2 ["self", "other"] [] .none (vs "bson.decimal128" 964) ++
  [(618, oT [vs "_high" 1092, vs "_low" 1093]),
   (619, oD [en P "__module__" 1026 (vs "bson.decimal128" 964), en P "__firstlineno__" 1030 (vi 417 1029), en P "_type_marker" 1032 (vi 19 1031), en P "__init__" 1040 (vr 578), en P "to_decimal" 1047 (vr 585), en P "from_bid" 1067 (vr 594), en P "bid" 1075 (vr 603), en P "__eq__" 1083 (vr 610), en P "__ne__" 1091 (vr 617), en P "__static_attributes__" 1094 (vr 618), en P "__dict__" 1096 (vr 621), en P "__weakref__" 1098 (vr 622), en P "__doc__" 1099 .none, en P "__hash__" 1100 .none] 5),
   (620, ⟨(.type "type"), none, (.cls { name := "Decimal128", bases := [(.type "object")], mro := [(.ref 620), (.type "object")], ns := 619, qualname := "Decimal128", hasDict := true, slotNames := [], subclasses := [], abstract := false, collection := none, hasDel := false }), #[none, none, (some (.str "Decimal128" 1019)), (some (.str "Decimal128" 1027)), (some (.builtin "object.__new__")), (some (.bool true))]⟩),
   (621, oF "getset_descriptor" [vs "__dict__" 1095, vr 620, vb "function.__dict__", vb "function.__dict__#set"]),
   (622, oF "getset_descriptor" [vs "__weakref__" 1097, vr 620, vb "ExceptionGroup.__weakref__", .none]),
   (623, oF "super" [vr 620, vr 620, vr 620]),
   (624, oF "builtin_function_or_method" [vb "object.__init_subclass__", vr 620])] ++
  [(3, oD ((en P "__name__" 165 (vs "bson.errors" 1103)) :: Rd8 P) 48)] ++
  [(12, oN (pL Ld8))]
noncomputable def T8 (P : Params) : BT := grow (T7 P) (ch8 P)
noncomputable def St8 (w : World) (os : OsState) : SharedT := ⟨T8 w.params, 625, (boot_heap w.params).life, Array.mk [], boot_drawn, 1105, os⟩
noncomputable def Rd9 (P : Params) : List DictEntry := Rd8 P ++ [en P "BSONError" 1124 (vr 634), en P "InvalidBSON" 1140 (vr 647), en P "InvalidStringData" 1156 (vr 659), en P "InvalidDocument" 1192 (vr 689), en P "InvalidId" 1208 (vr 701)]
def Ld9 : List (Nat × Nat) := Ld8 ++ [(453, 630), (455, 643), (457, 655), (459, 668), (468, 697)]
noncomputable def ch9 (P : Params) : List (Nat × Obj) :=
  [(2, ⟨.none, none, (.dict #[⟨PyData.keyHash P "type.__subclasses__.Exception.0", (.str "type.__subclasses__.Exception.0" 1121), (.int 634 0)⟩, ⟨PyData.keyHash P "type.__subclasses__.Exception.n", (.str "type.__subclasses__.Exception.n" 1122), (.int 1 0)⟩] 2), #[]⟩),
   (625, oT [vt "Exception"]),
   (626, oF "builtin_function_or_method" [vb "type.__prepare__", vt "type"]),
   (627, oD [en P "__module__" 1112 (vs "bson.errors" 1103), en P "__qualname__" 1114 (vs "BSONError" 1113), en P "__firstlineno__" 1116 (vi 453 1115), en P "__static_attributes__" 1117 (vr 632)] 4),
   (628, oT []),
   (629, oN []),
   (630, oC "BSONError" "BSONError" 1107 453 0 0 0 (vr 628) (vr 629) false .none .none .none 1110),
   (631, ⟨(.type "frame"), none, .plain, #[(some (.ref 630)), (some (.ref 3)), (some (.ref 627)), none, (some (.str "bson.errors" 1103)), none, (some (.ref 0))]⟩),
   (632, oT []),
   (633, oD [en P "__module__" 1112 (vs "bson.errors" 1103), en P "__firstlineno__" 1116 (vi 453 1115), en P "__static_attributes__" 1117 (vr 632), en P "__weakref__" 1119 (vr 635), en P "__doc__" 1120 .none] 3),
   (634, ⟨(.type "type"), none, (.cls { name := "BSONError", bases := [(.type "Exception")], mro := [(.ref 634), (.type "Exception"), (.type "BaseException"), (.type "object")], ns := 633, qualname := "BSONError", hasDict := true, slotNames := [], subclasses := [(.ref 647), (.ref 659), (.ref 689), (.ref 701)], abstract := false, collection := none, hasDel := false }), #[(some (.ref 625)), none, (some (.str "BSONError" 1105)), (some (.str "BSONError" 1113)), (some (.builtin "Exception.__new__")), (some (.bool true))]⟩),
   (635, oF "getset_descriptor" [vs "__weakref__" 1118, vr 634, vb "ExceptionGroup.__weakref__", .none]),
   (636, oF "super" [vr 634, vr 634, vr 634]),
   (637, oF "builtin_function_or_method" [vb "object.__init_subclass__", vr 634]),
   (638, oT [vr 634]),
   (639, oF "builtin_function_or_method" [vb "type.__prepare__", vt "type"]),
   (640, oD [en P "__module__" 1132 (vs "bson.errors" 1103), en P "__qualname__" 1134 (vs "InvalidBSON" 1133), en P "__firstlineno__" 1136 (vi 455 1135), en P "__static_attributes__" 1137 (vr 645)] 4),
   (641, oT []),
   (642, oN []),
   (643, oC "InvalidBSON" "InvalidBSON" 1127 455 0 0 0 (vr 641) (vr 642) false .none .none .none 1130),
   (644, ⟨(.type "frame"), none, .plain, #[(some (.ref 643)), (some (.ref 3)), (some (.ref 640)), none, (some (.str "bson.errors" 1103)), none, (some (.ref 0))]⟩),
   (645, oT []),
   (646, oD [en P "__module__" 1132 (vs "bson.errors" 1103), en P "__firstlineno__" 1136 (vi 455 1135), en P "__static_attributes__" 1137 (vr 645), en P "__doc__" 1138 .none] 2),
   (647, ⟨(.type "type"), none, (.cls { name := "InvalidBSON", bases := [(.ref 634)], mro := [(.ref 647), (.ref 634), (.type "Exception"), (.type "BaseException"), (.type "object")], ns := 646, qualname := "InvalidBSON", hasDict := true, slotNames := [], subclasses := [], abstract := false, collection := none, hasDel := false }), #[(some (.ref 638)), none, (some (.str "InvalidBSON" 1125)), (some (.str "InvalidBSON" 1133)), (some (.builtin "Exception.__new__")), (some (.bool true))]⟩),
   (648, oF "super" [vr 647, vr 647, vr 647]),
   (649, oF "builtin_function_or_method" [vb "object.__init_subclass__", vr 647]),
   (650, oT [vr 634]),
   (651, oF "builtin_function_or_method" [vb "type.__prepare__", vt "type"]),
   (652, oD [en P "__module__" 1148 (vs "bson.errors" 1103), en P "__qualname__" 1150 (vs "InvalidStringData" 1149), en P "__firstlineno__" 1152 (vi 457 1151), en P "__static_attributes__" 1153 (vr 657)] 4),
   (653, oT []),
   (654, oN []),
   (655, oC "InvalidStringData" "InvalidStringData" 1143 457 0 0 0 (vr 653) (vr 654) false .none .none .none 1146),
   (656, ⟨(.type "frame"), none, .plain, #[(some (.ref 655)), (some (.ref 3)), (some (.ref 652)), none, (some (.str "bson.errors" 1103)), none, (some (.ref 0))]⟩),
   (657, oT []),
   (658, oD [en P "__module__" 1148 (vs "bson.errors" 1103), en P "__firstlineno__" 1152 (vi 457 1151), en P "__static_attributes__" 1153 (vr 657), en P "__doc__" 1154 .none] 2),
   (659, ⟨(.type "type"), none, (.cls { name := "InvalidStringData", bases := [(.ref 634)], mro := [(.ref 659), (.ref 634), (.type "Exception"), (.type "BaseException"), (.type "object")], ns := 658, qualname := "InvalidStringData", hasDict := true, slotNames := [], subclasses := [], abstract := false, collection := none, hasDel := false }), #[(some (.ref 650)), none, (some (.str "InvalidStringData" 1141)), (some (.str "InvalidStringData" 1149)), (some (.builtin "Exception.__new__")), (some (.bool true))]⟩),
   (660, oF "super" [vr 659, vr 659, vr 659]),
   (661, oF "builtin_function_or_method" [vb "object.__init_subclass__", vr 659]),
   (662, oT [vr 634]),
   (663, oF "builtin_function_or_method" [vb "type.__prepare__", vt "type"]),
   (664, oD [en P "__module__" 1164 (vs "bson.errors" 1103), en P "__qualname__" 1166 (vs "InvalidDocument" 1165), en P "__firstlineno__" 1168 (vi 459 1167), en P "__init__" 1178 (vr 678), en P "document" 1186 (vr 686), en P "__static_attributes__" 1188 (vr 687), en P "__classcell__" 1189 (vr 665)] 7),
   (665, ⟨(.type "cell"), none, .cell (some (.ref 689)), #[]⟩),
   (666, oT []),
   (667, oN [vi 461 0, vi 4 0, vr 677, vi 466 0, vi 4 0, vr 684]),
   (668, oC "InvalidDocument" "InvalidDocument" 1159 459 0 0 0 (vr 666) (vr 667) false .none .none .none 1162),
   (669, ⟨(.type "frame"), none, .plain, #[(some (.ref 668)), (some (.ref 3)), (some (.ref 664)), none, (some (.str "bson.errors" 1103)), none, (some (.ref 0))]⟩),
   (670, oT [.none]),
   (671, oT [vr 665]),
   (672, oT [vs "__class__" 1172]),
   (673, oN []),
   (674, oT [vs "self" 1173, vs "message" 1174, vs "document" 1175]),
   (675, oT []),
   (676, oU "__init__" "InvalidDocument.__init__" (fn2 51 0)),
   (677, oC "__init__" "InvalidDocument.__init__" 1169 461 3 0 3 (vr 672) (vr 673) true (vr 674) (vr 675) (vr 676) 1176),
   (678, ⟨(.type "function"), none, (.func ⟨"__init__", "InvalidDocument.__init__", prm (fn2 51 0), .stmts (bdy (fn2 51 0)), scp (fn2 51 0), 3, [("__class__", 665)], (.ref 670), .none, .none, (.str "bson.errors" 1103), none, (.ref 677), (.ref 671), 0⟩), #[]⟩)] ++
  df 679 "document" "InvalidDocument.document" (fn2 51 1) 1179 465 1 ["self"] [] .none (vs "bson.errors" 1103) ++
  [(686, oF "property" [vr 685, .none, .none, .none, vs "document" 1186, (.bool false)]),
   (687, oT [vs "_document" 1187]),
   (688, oD [en P "__module__" 1164 (vs "bson.errors" 1103), en P "__firstlineno__" 1168 (vi 459 1167), en P "__init__" 1178 (vr 678), en P "document" 1186 (vr 686), en P "__static_attributes__" 1188 (vr 687), en P "__doc__" 1190 .none] 3),
   (689, ⟨(.type "type"), none, (.cls { name := "InvalidDocument", bases := [(.ref 634)], mro := [(.ref 689), (.ref 634), (.type "Exception"), (.type "BaseException"), (.type "object")], ns := 688, qualname := "InvalidDocument", hasDict := true, slotNames := [], subclasses := [], abstract := false, collection := none, hasDel := false }), #[(some (.ref 662)), none, (some (.str "InvalidDocument" 1157)), (some (.str "InvalidDocument" 1165)), (some (.builtin "Exception.__new__")), (some (.bool true))]⟩),
   (690, oF "super" [vr 689, vr 689, vr 689]),
   (691, oF "builtin_function_or_method" [vb "object.__init_subclass__", vr 689]),
   (692, oT [vr 634]),
   (693, oF "builtin_function_or_method" [vb "type.__prepare__", vt "type"]),
   (694, oD [en P "__module__" 1200 (vs "bson.errors" 1103), en P "__qualname__" 1202 (vs "InvalidId" 1201), en P "__firstlineno__" 1204 (vi 468 1203), en P "__static_attributes__" 1205 (vr 699)] 4),
   (695, oT []),
   (696, oN []),
   (697, oC "InvalidId" "InvalidId" 1195 468 0 0 0 (vr 695) (vr 696) false .none .none .none 1198),
   (698, ⟨(.type "frame"), none, .plain, #[(some (.ref 697)), (some (.ref 3)), (some (.ref 694)), none, (some (.str "bson.errors" 1103)), none, (some (.ref 0))]⟩),
   (699, oT []),
   (700, oD [en P "__module__" 1200 (vs "bson.errors" 1103), en P "__firstlineno__" 1204 (vi 468 1203), en P "__static_attributes__" 1205 (vr 699), en P "__doc__" 1206 .none] 2),
   (701, ⟨(.type "type"), none, (.cls { name := "InvalidId", bases := [(.ref 634)], mro := [(.ref 701), (.ref 634), (.type "Exception"), (.type "BaseException"), (.type "object")], ns := 700, qualname := "InvalidId", hasDict := true, slotNames := [], subclasses := [], abstract := false, collection := none, hasDel := false }), #[(some (.ref 692)), none, (some (.str "InvalidId" 1193)), (some (.str "InvalidId" 1201)), (some (.builtin "Exception.__new__")), (some (.bool true))]⟩),
   (702, oF "super" [vr 701, vr 701, vr 701]),
   (703, oF "builtin_function_or_method" [vb "object.__init_subclass__", vr 701])] ++
  [(3, oD ((en P "__name__" 165 (vs "bson.int64" 1209)) :: Rd9 P) 53)] ++
  [(12, oN (pL Ld9))]
noncomputable def T9 (P : Params) : BT := grow (T8 P) (ch9 P)
noncomputable def St9 (w : World) (os : OsState) : SharedT := ⟨T9 w.params, 704, (boot_heap w.params).life, Array.mk [], boot_drawn, 1211, os⟩
noncomputable def Rd10 (P : Params) : List DictEntry := Rd9 P ++ [en P "Int64" 1250 (vr 727), en P "MaxKey" 1330 (vr 790), en P "MinKey" 1410 (vr 853), en P "_HEX_DIGITS" 1414 (vs "0123456789abcdefABCDEF" 1413), en P "_from_hex" 1420 (vr 862), en P "_raise_invalid_id" 1427 (vr 869)]
def Ld10 : List (Nat × Nat) := Ld9 ++ [(471, 709), (480, 737), (504, 800), (529, 861), (536, 868)]
noncomputable def ch10 (P : Params) : List (Nat × Obj) :=
  [(704, oT []),
   (705, oF "builtin_function_or_method" [vb "type.__prepare__", vt "type"]),
   (706, oD [en P "__module__" 1218 (vs "bson.int64" 1209), en P "__qualname__" 1220 (vs "Int64" 1219), en P "__firstlineno__" 1222 (vi 471 1221), en P "_type_marker" 1224 (vi 18 1223), en P "__init__" 1232 (vr 717), en P "__eq__" 1240 (vr 724), en P "__static_attributes__" 1242 (vr 725)] 7),
   (707, oT []),
   (708, oN [vi 474 0, vi 4 0, vr 716, vi 477 0, vi 4 0, vr 723]),
   (709, oC "Int64" "Int64" 1213 471 0 0 0 (vr 707) (vr 708) false .none .none .none 1216),
   (710, ⟨(.type "frame"), none, .plain, #[(some (.ref 709)), (some (.ref 3)), (some (.ref 706)), none, (some (.str "bson.int64" 1209)), none, (some (.ref 0))]⟩)] ++
  df 711 "__init__" "Int64.__init__" (fn2 54 1) 1225 474 2 ["self", "value"] [] .none (vs "bson.int64" 1209) ++
  df 718 "__eq__" "Int64.__eq__" (fn2 54 2) 1233 477 2 ["self", "other"] [] .none (vs "bson.int64" 1209) ++
  [(725, oT [vs "value" 1241]),
   (726, oD [en P "__module__" 1218 (vs "bson.int64" 1209), en P "__firstlineno__" 1222 (vi 471 1221), en P "_type_marker" 1224 (vi 18 1223), en P "__init__" 1232 (vr 717), en P "__eq__" 1240 (vr 724), en P "__static_attributes__" 1242 (vr 725), en P "__dict__" 1244 (vr 728), en P "__weakref__" 1246 (vr 729), en P "__doc__" 1247 .none, en P "__hash__" 1248 .none] 5),
   (727, ⟨(.type "type"), none, (.cls { name := "Int64", bases := [(.type "object")], mro := [(.ref 727), (.type "object")], ns := 726, qualname := "Int64", hasDict := true, slotNames := [], subclasses := [], abstract := false, collection := none, hasDel := false }), #[none, none, (some (.str "Int64" 1211)), (some (.str "Int64" 1219)), (some (.builtin "object.__new__")), (some (.bool true))]⟩),
   (728, oF "getset_descriptor" [vs "__dict__" 1243, vr 727, vb "function.__dict__", vb "function.__dict__#set"]),
   (729, oF "getset_descriptor" [vs "__weakref__" 1245, vr 727, vb "ExceptionGroup.__weakref__", .none]),
   (730, oF "super" [vr 727, vr 727, vr 727]),
   (731, oF "builtin_function_or_method" [vb "object.__init_subclass__", vr 727]),
   (732, oT []),
   (733, oF "builtin_function_or_method" [vb "type.__prepare__", vt "type"]),
   (734, oD [en P "__module__" 1260 (vs "bson.max_key" 1251), en P "__qualname__" 1262 (vs "MaxKey" 1261), en P "__firstlineno__" 1264 (vi 480 1263), en P "_type_marker" 1266 (vi 127 1265), en P "__eq__" 1274 (vr 745), en P "__ne__" 1282 (vr 752), en P "__le__" 1290 (vr 759), en P "__lt__" 1298 (vr 766), en P "__ge__" 1306 (vr 773), en P "__gt__" 1314 (vr 780), en P "__repr__" 1321 (vr 787), en P "__static_attributes__" 1322 (vr 788)] 12),
   (735, oT []),
   (736, oN [vi 483 0, vi 4 0, vr 744, vi 486 0, vi 4 0, vr 751, vi 489 0, vi 4 0, vr 758, vi 492 0, vi 4 0, vr 765, vi 495 0, vi 4 0, vr 772, vi 498 0, vi 4 0, vr 779, vi 501 0, vi 4 0, vr 786]),
   (737, oC "MaxKey" "MaxKey" 1255 480 0 0 0 (vr 735) (vr 736) false .none .none .none 1258),
   (738, ⟨(.type "frame"), none, .plain, #[(some (.ref 737)), (some (.ref 3)), (some (.ref 734)), none, (some (.str "bson.max_key" 1251)), none, (some (.ref 0))]⟩)] ++
  df 739 "__eq__" "MaxKey.__eq__" (fn2 56 1) 1267 483 2 ["self", "other"] [] .none (vs "bson.max_key" 1251) ++
  df 746 "__ne__" "MaxKey.__ne__" (fn2 56 2) 1275 486 2 ["self", "other"] [] .none (vs "bson.max_key" 1251) ++
  df 753 "__le__" "MaxKey.__le__" (fn2 56 3) 1283 489 2 ["self", "other"] [] .none (vs "bson.max_key" 1251) ++
  df 760 "__lt__" "MaxKey.__lt__" (fn2 56 4) 1291 492 2 ["self", "dummy"] [] .none (vs "bson.max_key" 1251) ++
  df 767 "__ge__" "MaxKey.__ge__" (fn2 56 5) 1299 495 2 ["self", "dummy"] [] .none (vs "bson.max_key" 1251) ++
  df 774 "__gt__" "MaxKey.__gt__" (fn2 56 6) 1307 498 2 ["self", "other"] [] .none (vs "bson.max_key" 1251) ++
  df 781 "__repr__" "MaxKey.__repr__" (fn2 56 7) 1315 501 1 ["self"] [] .none (vs "bson.max_key" 1251) ++
  [(788, oT []),
   (789, oD [en P "__module__" 1260 (vs "bson.max_key" 1251), en P "__firstlineno__" 1264 (vi 480 1263), en P "_type_marker" 1266 (vi 127 1265), en P "__eq__" 1274 (vr 745), en P "__ne__" 1282 (vr 752), en P "__le__" 1290 (vr 759), en P "__lt__" 1298 (vr 766), en P "__ge__" 1306 (vr 773), en P "__gt__" 1314 (vr 780), en P "__repr__" 1321 (vr 787), en P "__static_attributes__" 1322 (vr 788), en P "__dict__" 1324 (vr 791), en P "__weakref__" 1326 (vr 792), en P "__doc__" 1327 .none, en P "__hash__" 1328 .none] 5),
   (790, ⟨(.type "type"), none, (.cls { name := "MaxKey", bases := [(.type "object")], mro := [(.ref 790), (.type "object")], ns := 789, qualname := "MaxKey", hasDict := true, slotNames := [], subclasses := [], abstract := false, collection := none, hasDel := false }), #[none, none, (some (.str "MaxKey" 1253)), (some (.str "MaxKey" 1261)), (some (.builtin "object.__new__")), (some (.bool true))]⟩),
   (791, oF "getset_descriptor" [vs "__dict__" 1323, vr 790, vb "function.__dict__", vb "function.__dict__#set"]),
   (792, oF "getset_descriptor" [vs "__weakref__" 1325, vr 790, vb "ExceptionGroup.__weakref__", .none]),
   (793, oF "super" [vr 790, vr 790, vr 790]),
   (794, oF "builtin_function_or_method" [vb "object.__init_subclass__", vr 790]),
   (795, oT []),
   (796, oF "builtin_function_or_method" [vb "type.__prepare__", vt "type"]),
   (797, oD [en P "__module__" 1340 (vs "bson.min_key" 1331), en P "__qualname__" 1342 (vs "MinKey" 1341), en P "__firstlineno__" 1344 (vi 504 1343), en P "_type_marker" 1346 (vi 255 1345), en P "__eq__" 1354 (vr 808), en P "__ne__" 1362 (vr 815), en P "__le__" 1370 (vr 822), en P "__lt__" 1378 (vr 829), en P "__ge__" 1386 (vr 836), en P "__gt__" 1394 (vr 843), en P "__repr__" 1401 (vr 850), en P "__static_attributes__" 1402 (vr 851)] 12),
   (798, oT []),
   (799, oN [vi 507 0, vi 4 0, vr 807, vi 510 0, vi 4 0, vr 814, vi 513 0, vi 4 0, vr 821, vi 516 0, vi 4 0, vr 828, vi 519 0, vi 4 0, vr 835, vi 522 0, vi 4 0, vr 842, vi 525 0, vi 4 0, vr 849]),
   (800, oC "MinKey" "MinKey" 1335 504 0 0 0 (vr 798) (vr 799) false .none .none .none 1338),
   (801, ⟨(.type "frame"), none, .plain, #[(some (.ref 800)), (some (.ref 3)), (some (.ref 797)), none, (some (.str "bson.min_key" 1331)), none, (some (.ref 0))]⟩)] ++
  df 802 "__eq__" "MinKey.__eq__" (fn2 58 1) 1347 507 2 ["self", "other"] [] .none (vs "bson.min_key" 1331) ++
  df 809 "__ne__" "MinKey.__ne__" (fn2 58 2) 1355 510 2 ["self", "other"] [] .none (vs "bson.min_key" 1331) ++
  df 816 "__le__" "MinKey.__le__" (fn2 58 3) 1363 513 2 ["self", "dummy"] [] .none (vs "bson.min_key" 1331) ++
  df 823 "__lt__" "MinKey.__lt__" (fn2 58 4) 1371 516 2 ["self", "other"] [] .none (vs "bson.min_key" 1331) ++
  df 830 "__ge__" "MinKey.__ge__" (fn2 58 5) 1379 519 2 ["self", "other"] [] .none (vs "bson.min_key" 1331) ++
  df 837 "__gt__" "MinKey.__gt__" (fn2 58 6) 1387 522 2 ["self", "dummy"] [] .none (vs "bson.min_key" 1331) ++
  df 844 "__repr__" "MinKey.__repr__" (fn2 58 7) 1395 525 1 ["self"] [] .none (vs "bson.min_key" 1331) ++
  [(851, oT []),
   (852, oD [en P "__module__" 1340 (vs "bson.min_key" 1331), en P "__firstlineno__" 1344 (vi 504 1343), en P "_type_marker" 1346 (vi 255 1345), en P "__eq__" 1354 (vr 808), en P "__ne__" 1362 (vr 815), en P "__le__" 1370 (vr 822), en P "__lt__" 1378 (vr 829), en P "__ge__" 1386 (vr 836), en P "__gt__" 1394 (vr 843), en P "__repr__" 1401 (vr 850), en P "__static_attributes__" 1402 (vr 851), en P "__dict__" 1404 (vr 854), en P "__weakref__" 1406 (vr 855), en P "__doc__" 1407 .none, en P "__hash__" 1408 .none] 5),
   (853, ⟨(.type "type"), none, (.cls { name := "MinKey", bases := [(.type "object")], mro := [(.ref 853), (.type "object")], ns := 852, qualname := "MinKey", hasDict := true, slotNames := [], subclasses := [], abstract := false, collection := none, hasDel := false }), #[none, none, (some (.str "MinKey" 1333)), (some (.str "MinKey" 1341)), (some (.builtin "object.__new__")), (some (.bool true))]⟩),
   (854, oF "getset_descriptor" [vs "__dict__" 1403, vr 853, vb "function.__dict__", vb "function.__dict__#set"]),
   (855, oF "getset_descriptor" [vs "__weakref__" 1405, vr 853, vb "ExceptionGroup.__weakref__", .none]),
   (856, oF "super" [vr 853, vr 853, vr 853]),
   (857, oF "builtin_function_or_method" [vb "object.__init_subclass__", vr 853]),
   (858, oT []),
   (859, oN []),
   (860, oU "_from_hex" "_from_hex" (fn1 61)),
   (861, oC "_from_hex" "_from_hex" 1415 529 1 0 3 (vr 858) (vr 859) true .none .none (vr 860) 1418),
   (862, oM "_from_hex" "_from_hex" (fn1 61) .none .none (vs "bson.objectid" 1411) 861)] ++
  df 863 "_raise_invalid_id" "_raise_invalid_id" (fn1 62) 1421 536 1 ["oid"] [] .none (vs "bson.objectid" 1411) ++
  [(3, oD ((en P "__name__" 165 (vs "bson.objectid" 1411)) :: Rd10 P) 59)] ++
  [(12, oN (pL Ld10))]
noncomputable def T10 (P : Params) : BT := grow (T9 P) (ch10 P)
noncomputable def St10 (w : World) (os : OsState) : SharedT := ⟨T10 w.params, 870, (boot_heap w.params).life, Array.mk [], boot_drawn, 1428, os⟩
noncomputable def Rd11 (P : Params) : List DictEntry := Rd10 P ++ [en P "ObjectId" 1556 (vr 966), en P "_IGNORECASE" 1560 (vi 2 1559), en P "_LOCALE" 1562 (vi 4 1561), en P "_MULTILINE" 1564 (vi 8 1563), en P "_DOTALL" 1566 (vi 16 1565), en P "_UNICODE" 1568 (vi 32 1567), en P "_VERBOSE" 1570 (vi 64 1569), en P "str_flags_to_int" 1578 (vr 977), en P "Regex" 1629 (vr 1009), en P "UPPERBOUND" 1633 (vi 4294967296 1632)]
def Ld11 : List (Nat × Nat) := Ld10 ++ [(538, 875), (613, 976), (628, 983)]
noncomputable def ch11 (P : Params) : List (Nat × Obj) :=
  [(870, oT []),
   (871, oF "builtin_function_or_method" [vb "type.__prepare__", vt "type"]),
   (872, oD [en P "__module__" 1435 (vs "bson.objectid" 1411), en P "__qualname__" 1437 (vs "ObjectId" 1436), en P "__firstlineno__" 1439 (vi 538 1438), en P "_type_marker" 1441 (vi 7 1440), en P "__init__" 1449 (vr 883), en P "is_valid" 1469 (vr 892), en P "binary" 1477 (vr 901), en P "generation_time" 1485 (vr 909), en P "__str__" 1491 (vr 914), en P "__repr__" 1498 (vr 921), en P "__eq__" 1506 (vr 928), en P "__ne__" 1514 (vr 935), en P "__lt__" 1522 (vr 942), en P "__le__" 1530 (vr 949), en P "__gt__" 1538 (vr 956), en P "__ge__" 1546 (vr 963), en P "__static_attributes__" 1548 (vr 964)] 17),
   (873, oT []),
   (874, oN [vi 541 0, vi 4 0, vr 882, vi 560 0, vi 4 0, vr 889, vi 564 0, vi 4 0, vr 899, vi 568 0, vi 4 0, vr 907, vi 571 0, vi 4 0, vr 913, vi 574 0, vi 4 0, vr 920, vi 577 0, vi 4 0, vr 927, vi 582 0, vi 4 0, vr 934, vi 587 0, vi 4 0, vr 941, vi 592 0, vi 4 0, vr 948, vi 597 0, vi 4 0, vr 955, vi 602 0, vi 4 0, vr 962]),
   (875, oC "ObjectId" "ObjectId" 1430 538 0 0 0 (vr 873) (vr 874) false .none .none .none 1433),
   (876, ⟨(.type "frame"), none, .plain, #[(some (.ref 875)), (some (.ref 3)), (some (.ref 872)), none, (some (.str "bson.objectid" 1411)), none, (some (.ref 0))]⟩)] ++
  df 877 "__init__" "ObjectId.__init__" (fn2 63 1) 1442 541 2 ["self", "oid"] [] .none (vs "bson.objectid" 1411) ++
  [(884, oT []),
   (885, oN []),
   (886, oT [vs "cls" 1453, vs "oid" 1454]),
   (887, oT []),
   (888, oU "is_valid" "ObjectId.is_valid" (fn2 63 2)),
   (889, oC "is_valid" "ObjectId.is_valid" 1450 559 2 0 3 (vr 884) (vr 885) true (vr 886) (vr 887) (vr 888) 1455),
   (890, ⟨(.type "function"), none, (.func ⟨"is_valid", "ObjectId.is_valid", prm (fn2 63 2), .stmts (bdy (fn2 63 2)), scp (fn2 63 2), 3, [], .none, .none, .none, (.str "bson.objectid" 1411), (some 893), (.ref 889), .none, 0⟩), #[]⟩),
   (891, oD [en P "__module__" 1458 (vs "bson.objectid" 1411), en P "__name__" 1461 (vs "is_valid" 1460), en P "__qualname__" 1464 (vs "ObjectId.is_valid" 1463), en P "__doc__" 1466 .none, en P "__annotations__" 1468 (vr 893)] 5),
   (892, ⟨(.type "classmethod"), (some 891), (.fields #[(.ref 890), (.bool false)]), #[]⟩),
   (893, oD [] 0)] ++
  df 894 "binary" "ObjectId.binary" (fn2 63 3) 1470 563 1 ["self"] [] .none (vs "bson.objectid" 1411) ++
  [(901, oF "property" [vr 900, .none, .none, .none, vs "binary" 1477, (.bool false)])] ++
  df 902 "generation_time" "ObjectId.generation_time" (fn2 63 4) 1478 567 1 ["self"] [] .none (vs "bson.objectid" 1411) ++
  [(909, oF "property" [vr 908, .none, .none, .none, vs "generation_time" 1485, (.bool false)]),
   (910, oT []),
   (911, oN []),
   (912, oU "__str__" "ObjectId.__str__" (fn2 63 5)),
   (913, oC "__str__" "ObjectId.__str__" 1486 571 1 0 3 (vr 910) (vr 911) true .none .none (vr 912) 1489),
   (914, oM "__str__" "ObjectId.__str__" (fn2 63 5) .none .none (vs "bson.objectid" 1411) 913)] ++
  df 915 "__repr__" "ObjectId.__repr__" (fn2 63 6) 1492 574 1 ["self"] [] .none (vs "bson.objectid" 1411) ++
  df 922 "__eq__" "ObjectId.__eq__" (fn2 63 7) 1499 577 2 ["self", "other"] [] .none (vs "bson.objectid" 1411) ++
  df 929 "__ne__" "ObjectId.__ne__" (fn2 63 8) 1507 582 2 ["self", "other"] [] .none (vs "bson.objectid" 1411) ++
  df 936 "__lt__" "ObjectId.__lt__" (fn2 63 9) 1515 587 2 ["self", "other"] [] .none (vs "bson.objectid" 1411) ++
  df 943 "__le__" "ObjectId.__le__" (fn2 63 10) 1523 592 2 ["self", "other"] [] .none (vs "bson.objectid" 1411) ++
  df 950 "__gt__" "ObjectId.__gt__" (fn2 63 11) 1531 597 2 ["self", "other"] [] .none (vs "bson.objectid" 1411) ++
  df 957 "__ge__" "ObjectId.__ge__" (fn2 63 12) 1539 602 2 ["self", "other"] [] .none (vs "bson.objectid" 1411) ++
  [(964, oT [vs "_id" 1547]),
   (965, oD [en P "__module__" 1435 (vs "bson.objectid" 1411), en P "__firstlineno__" 1439 (vi 538 1438), en P "_type_marker" 1441 (vi 7 1440), en P "__init__" 1449 (vr 883), en P "is_valid" 1469 (vr 892), en P "binary" 1477 (vr 901), en P "generation_time" 1485 (vr 909), en P "__str__" 1491 (vr 914), en P "__repr__" 1498 (vr 921), en P "__eq__" 1506 (vr 928), en P "__ne__" 1514 (vr 935), en P "__lt__" 1522 (vr 942), en P "__le__" 1530 (vr 949), en P "__gt__" 1538 (vr 956), en P "__ge__" 1546 (vr 963), en P "__static_attributes__" 1548 (vr 964), en P "__dict__" 1550 (vr 967), en P "__weakref__" 1552 (vr 968), en P "__doc__" 1553 .none, en P "__hash__" 1554 .none] 5),
   (966, ⟨(.type "type"), none, (.cls { name := "ObjectId", bases := [(.type "object")], mro := [(.ref 966), (.type "object")], ns := 965, qualname := "ObjectId", hasDict := true, slotNames := [], subclasses := [], abstract := false, collection := none, hasDel := false }), #[none, none, (some (.str "ObjectId" 1428)), (some (.str "ObjectId" 1436)), (some (.builtin "object.__new__")), (some (.bool true))]⟩),
   (967, oF "getset_descriptor" [vs "__dict__" 1549, vr 966, vb "function.__dict__", vb "function.__dict__#set"]),
   (968, oF "getset_descriptor" [vs "__weakref__" 1551, vr 966, vb "ExceptionGroup.__weakref__", .none]),
   (969, oF "super" [vr 966, vr 966, vr 966]),
   (970, oF "builtin_function_or_method" [vb "object.__init_subclass__", vr 966])] ++
  df 971 "str_flags_to_int" "str_flags_to_int" (fn1 71) 1571 613 1 ["str_flags", "flags"] [] .none (vs "bson.regex" 1557) ++
  [(978, oT []),
   (979, oF "builtin_function_or_method" [vb "type.__prepare__", vt "type"]),
   (980, oD [en P "__module__" 1586 (vs "bson.regex" 1557), en P "__qualname__" 1588 (vs "Regex" 1587), en P "__firstlineno__" 1590 (vi 628 1589), en P "_type_marker" 1592 (vi 11 1591), en P "__init__" 1602 (vr 992), en P "__eq__" 1610 (vr 999), en P "__ne__" 1618 (vr 1006), en P "__static_attributes__" 1621 (vr 1007)] 8),
   (981, oT []),
   (982, oN [vi 631 0, vi 4 0, vr 991, vi 642 0, vi 4 0, vr 998, vi 648 0, vi 4 0, vr 1005]),
   (983, oC "Regex" "Regex" 1581 628 0 0 0 (vr 981) (vr 982) false .none .none .none 1584),
   (984, ⟨(.type "frame"), none, .plain, #[(some (.ref 983)), (some (.ref 3)), (some (.ref 980)), none, (some (.str "bson.regex" 1557)), none, (some (.ref 0))]⟩),
   (985, oT [vi 0 1593])] ++
  df 986 "__init__" "Regex.__init__" (fn2 72 1) 1594 631 3 ["self", "pattern", "flags"] [] (vr 985) (vs "bson.regex" 1557) ++
  df 993 "__eq__" "Regex.__eq__" (fn2 72 2) 1603 642 2 ["self", "other"] [] .none (vs "bson.regex" 1557) ++
  df 1000 "__ne__" "Regex.__ne__" (fn2 72 3) 1611 648 2 ["self", "other"] [] .none (vs "bson.regex" 1557) ++
  [(1007, oT [vs "flags" 1619, vs "pattern" 1620]),
   (1008, oD [en P "__module__" 1586 (vs "bson.regex" 1557), en P "__firstlineno__" 1590 (vi 628 1589), en P "_type_marker" 1592 (vi 11 1591), en P "__init__" 1602 (vr 992), en P "__eq__" 1610 (vr 999), en P "__ne__" 1618 (vr 1006), en P "__static_attributes__" 1621 (vr 1007), en P "__dict__" 1623 (vr 1010), en P "__weakref__" 1625 (vr 1011), en P "__doc__" 1626 .none, en P "__hash__" 1627 .none] 5),
   (1009, ⟨(.type "type"), none, (.cls { name := "Regex", bases := [(.type "object")], mro := [(.ref 1009), (.type "object")], ns := 1008, qualname := "Regex", hasDict := true, slotNames := [], subclasses := [], abstract := false, collection := none, hasDel := false }), #[none, none, (some (.str "Regex" 1579)), (some (.str "Regex" 1587)), (some (.builtin "object.__new__")), (some (.bool true))]⟩),
   (1010, oF "getset_descriptor" [vs "__dict__" 1622, vr 1009, vb "function.__dict__", vb "function.__dict__#set"]),
   (1011, oF "getset_descriptor" [vs "__weakref__" 1624, vr 1009, vb "ExceptionGroup.__weakref__", .none]),
   (1012, oF "super" [vr 1009, vr 1009, vr 1009]),
   (1013, oF "builtin_function_or_method" [vb "object.__init_subclass__", vr 1009])] ++
  [(3, oD ((en P "__name__" 165 (vs "bson.timestamp" 1630)) :: Rd11 P) 69)] ++
  [(12, oN (pL Ld11))]
noncomputable def T11 (P : Params) : BT := grow (T10 P) (ch11 P)
noncomputable def St11 (w : World) (os : OsState) : SharedT := ⟨T11 w.params, 1014, (boot_heap w.params).life, Array.mk [], boot_drawn, 1634, os⟩
noncomputable def Rd12 (P : Params) : List DictEntry := Rd11 P ++ [en P "Timestamp" 1731 (vr 1088), en P "_unpack" 1743 (vr 1099), en P "_UNPACK_INT_FROM" 1751 (vr 1106), en P "_UNPACK_LENGTH_SUBTYPE_FROM" 1759 (vr 1113), en P "_UNPACK_LONG_FROM" 1767 (vr 1120), en P "_UNPACK_TIMESTAMP_FROM" 1775 (vr 1127), en P "_utf_8_decode" 1784 (vr 1134), en P "_utf_8_encode" 1791 (vr 1141), en P "_index_nul" 1800 (vr 1148), en P "get_data_and_view" 1807 (vr 1155), en P "_raise_unknown_type" 1815 (vr 1162), en P "_get_int" 1827 (vr 1169), en P "_get_c_string" 1838 (vr 1176), en P "_get_string" 1852 (vr 1183), en P "_get_object_size" 1864 (vr 1190), en P "_get_object" 1879 (vr 1197), en P "_get_array" 1896 (vr 1204), en P "_get_binary" 1915 (vr 1211), en P "_get_oid" 1928 (vr 1218), en P "_get_boolean" 1942 (vr 1225), en P "_get_date" 1954 (vr 1232)]
def Ld12 : List (Nat × Nat) := Ld11 ++ [(652, 1019), (704, 1098), (708, 1105), (710, 1112), (714, 1119), (716, 1126), (720, 1133), (722, 1140), (724, 1147), (729, 1154), (731, 1161), (733, 1168), (735, 1175), (738, 1182), (747, 1189), (760, 1196), (767, 1203), (786, 1210), (809, 1217), (812, 1224), (820, 1231)]
noncomputable def ch12 (P : Params) : List (Nat × Obj) :=
  [(1014, oT []),
   (1015, oF "builtin_function_or_method" [vb "type.__prepare__", vt "type"]),
   (1016, oD [en P "__module__" 1641 (vs "bson.timestamp" 1630), en P "__qualname__" 1643 (vs "Timestamp" 1642), en P "__firstlineno__" 1645 (vi 652 1644), en P "_type_marker" 1647 (vi 17 1646), en P "__init__" 1656 (vr 1027), en P "time" 1664 (vr 1035), en P "inc" 1672 (vr 1043), en P "__eq__" 1680 (vr 1050), en P "__ne__" 1688 (vr 1057), en P "__lt__" 1696 (vr 1064), en P "__le__" 1704 (vr 1071), en P "__gt__" 1712 (vr 1078), en P "__ge__" 1720 (vr 1085), en P "__static_attributes__" 1723 (vr 1086)] 14),
   (1017, oT []),
   (1018, oN [vi 655 0, vi 4 0, vr 1026, vi 668 0, vi 4 0, vr 1033, vi 672 0, vi 4 0, vr 1041, vi 675 0, vi 4 0, vr 1049, vi 681 0, vi 4 0, vr 1056, vi 684 0, vi 4 0, vr 1063, vi 689 0, vi 4 0, vr 1070, vi 694 0, vi 4 0, vr 1077, vi 699 0, vi 4 0, vr 1084]),
   (1019, oC "Timestamp" "Timestamp" 1636 652 0 0 0 (vr 1017) (vr 1018) false .none .none .none 1639),
   (1020, ⟨(.type "frame"), none, .plain, #[(some (.ref 1019)), (some (.ref 3)), (some (.ref 1016)), none, (some (.str "bson.timestamp" 1630)), none, (some (.ref 0))]⟩)] ++
  df 1021 "__init__" "Timestamp.__init__" (fn2 75 1) 1648 655 3 ["self", "time", "inc"] [] .none (vs "bson.timestamp" 1630) ++
  df 1028 "time" "Timestamp.time" (fn2 75 2) 1657 667 1 ["self"] [] .none (vs "bson.timestamp" 1630) ++
  [(1035, oF "property" [vr 1034, .none, .none, .none, vs "time" 1664, (.bool false)])] ++
  df 1036 "inc" "Timestamp.inc" (fn2 75 3) 1665 671 1 ["self"] [] .none (vs "bson.timestamp" 1630) ++
  [(1043, oF "property" [vr 1042, .none, .none, .none, vs "inc" 1672, (.bool false)])] ++
  df 1044 "__eq__" "Timestamp.__eq__" (fn2 75 4) 1673 675 2 ["self", "other"] [] .none (vs "bson.timestamp" 1630) ++
  df 1051 "__ne__" "Timestamp.__ne__" (fn2 75 5) 1681 681 2 ["self", "other"] [] .none (vs "bson.timestamp" 1630) ++
  df 1058 "__lt__" "Timestamp.__lt__" (fn2 75 6) 1689 684 2 ["self", "other"] [] .none (vs "bson.timestamp" 1630) ++
  df 1065 "__le__" "Timestamp.__le__" (fn2 75 7) 1697 689 2 ["self", "other"] [] .none (vs "bson.timestamp" 1630) ++
  df 1072 "__gt__" "Timestamp.__gt__" (fn2 75 8) 1705 694 2 ["self", "other"] [] .none (vs "bson.timestamp" 1630) ++
  df 1079 "__ge__" "Timestamp.__ge__" (fn2 75 9) 1713 699 2 ["self", "other"] [] .none (vs "bson.timestamp" 1630) ++
  [(1086, oT [vs "_inc" 1721, vs "_time" 1722]),
   (1087, oD [en P "__module__" 1641 (vs "bson.timestamp" 1630), en P "__firstlineno__" 1645 (vi 652 1644), en P "_type_marker" 1647 (vi 17 1646), en P "__init__" 1656 (vr 1027), en P "time" 1664 (vr 1035), en P "inc" 1672 (vr 1043), en P "__eq__" 1680 (vr 1050), en P "__ne__" 1688 (vr 1057), en P "__lt__" 1696 (vr 1064), en P "__le__" 1704 (vr 1071), en P "__gt__" 1712 (vr 1078), en P "__ge__" 1720 (vr 1085), en P "__static_attributes__" 1723 (vr 1086), en P "__dict__" 1725 (vr 1089), en P "__weakref__" 1727 (vr 1090), en P "__doc__" 1728 .none, en P "__hash__" 1729 .none] 5),
   (1088, ⟨(.type "type"), none, (.cls { name := "Timestamp", bases := [(.type "object")], mro := [(.ref 1088), (.type "object")], ns := 1087, qualname := "Timestamp", hasDict := true, slotNames := [], subclasses := [], abstract := false, collection := none, hasDel := false }), #[none, none, (some (.str "Timestamp" 1634)), (some (.str "Timestamp" 1642)), (some (.builtin "object.__new__")), (some (.bool true))]⟩),
   (1089, oF "getset_descriptor" [vs "__dict__" 1724, vr 1088, vb "function.__dict__", vb "function.__dict__#set"]),
   (1090, oF "getset_descriptor" [vs "__weakref__" 1726, vr 1088, vb "ExceptionGroup.__weakref__", .none]),
   (1091, oF "super" [vr 1088, vr 1088, vr 1088]),
   (1092, oF "builtin_function_or_method" [vb "object.__init_subclass__", vr 1088])] ++
  df 1093 "_unpack" "_unpack" (fn1 77) 1734 704 4 ["data", "position", "size", "signed"] [] .none (vs "bson" 1732) ++
  df 1100 "_UNPACK_INT_FROM" "_UNPACK_INT_FROM" (fn1 78) 1744 708 2 ["data", "position"] [] .none (vs "bson" 1732) ++
  df 1107 "_UNPACK_LENGTH_SUBTYPE_FROM" "_UNPACK_LENGTH_SUBTYPE_FROM" (fn1 79) 1752 710 2 ["data", "position"] [] .none (vs "bson" 1732) ++
  df 1114 "_UNPACK_LONG_FROM" "_UNPACK_LONG_FROM" (fn1 80) 1760 714 2 ["data", "position"] [] .none (vs "bson" 1732) ++
  df 1121 "_UNPACK_TIMESTAMP_FROM" "_UNPACK_TIMESTAMP_FROM" (fn1 81) 1768 716 2 ["data", "position"] [] .none (vs "bson" 1732) ++
  df 1128 "_utf_8_decode" "_utf_8_decode" (fn1 82) 1776 720 3 ["octets", "errors", "final"] [] .none (vs "bson" 1732) ++
  df 1135 "_utf_8_encode" "_utf_8_encode" (fn1 83) 1785 722 1 ["string"] [] .none (vs "bson" 1732) ++
  df 1142 "_index_nul" "_index_nul" (fn1 84) 1792 724 2 ["data", "position", "k"] [] .none (vs "bson" 1732) ++
  df 1149 "get_data_and_view" "get_data_and_view" (fn1 85) 1801 729 1 ["data"] [] .none (vs "bson" 1732) ++
  df 1156 "_raise_unknown_type" "_raise_unknown_type" (fn1 86) 1808 731 2 ["element_type", "element_name"] [] .none (vs "bson" 1732) ++
  df 1163 "_get_int" "_get_int" (fn1 87) 1816 733 6 ["data", "_view", "position", "dummy0", "dummy1", "dummy2"] [] .none (vs "bson" 1732) ++
  df 1170 "_get_c_string" "_get_c_string" (fn1 88) 1828 735 4 ["data", "view", "position", "opts", "end"] [] .none (vs "bson" 1732) ++
  df 1177 "_get_string" "_get_string" (fn1 89) 1839 738 6 ["data", "view", "position", "obj_end", "opts", "dummy", "length", "end"] [] .none (vs "bson" 1732) ++
  df 1184 "_get_object_size" "_get_object_size" (fn1 90) 1853 747 3 ["data", "position", "obj_end", "obj_size", "exc", "end"] [] .none (vs "bson" 1732) ++
  df 1191 "_get_object" "_get_object" (fn1 91) 1865 760 6 ["data", "view", "position", "obj_end", "opts", "dummy", "obj_size", "end", "obj"] [] .none (vs "bson" 1732) ++
  df 1198 "_get_array" "_get_array" (fn1 92) 1880 767 6 ["data", "view", "position", "obj_end", "opts", "element_name", "size", "end", "result", "element_type", "value"] [] .none (vs "bson" 1732) ++
  df 1205 "_get_binary" "_get_binary" (fn1 93) 1897 786 6 ["data", "_view", "position", "obj_end", "opts", "dummy1", "length", "subtype", "length2", "end", "uuid_rep", "binary_value", "value"] [] .none (vs "bson" 1732) ++
  df 1212 "_get_oid" "_get_oid" (fn1 94) 1916 809 6 ["data", "_view", "position", "dummy0", "dummy1", "dummy2", "end"] [] .none (vs "bson" 1732) ++
  df 1219 "_get_boolean" "_get_boolean" (fn1 95) 1929 812 6 ["data", "_view", "position", "dummy0", "dummy1", "dummy2", "end", "boolean_byte"] [] .none (vs "bson" 1732) ++
  df 1226 "_get_date" "_get_date" (fn1 96) 1943 820 6 ["data", "_view", "position", "dummy0", "opts", "dummy1"] [] .none (vs "bson" 1732) ++
  [(3, oD ((en P "__name__" 165 (vs "bson" 1732)) :: Rd12 P) 90)] ++
  [(12, oN (pL Ld12))]
noncomputable def T12 (P : Params) : BT := grow (T11 P) (ch12 P)
noncomputable def St12 (w : World) (os : OsState) : SharedT := ⟨T12 w.params, 1233, (boot_heap w.params).life, Array.mk [], boot_drawn, 1955, os⟩
noncomputable def Rd13 (P : Params) : List DictEntry := Rd12 P ++ [en P "_get_code" 1967 (vr 1239), en P "_get_code_w_scope" 1982 (vr 1246), en P "_get_regex" 1997 (vr 1253), en P "_get_ref" 2011 (vr 1260), en P "_get_timestamp" 2025 (vr 1267), en P "_get_int64" 2037 (vr 1274), en P "_get_decimal128" 2050 (vr 1281), en P "_get_element" 2063 (vr 1288), en P "_element_to_dict" 2077 (vr 1295), en P "_elements_to_dict" 2092 (vr 1302), en P "_bson_to_dict" 2104 (vr 1309), en P "_PACK_INT" 2111 (vr 1316), en P "_PACK_LENGTH_SUBTYPE" 2119 (vr 1323), en P "_PACK_LONG" 2126 (vr 1330), en P "_PACK_TIMESTAMP" 2134 (vr 1337), en P "_make_c_string_check" 2141 (vr 1344), en P "_make_c_string" 2148 (vr 1351), en P "_make_name" 2155 (vr 1358), en P "_encode_bytes" 2165 (vr 1365), en P "_encode_mapping" 2171 (vr 1370), en P "_encode_dbref" 2185 (vr 1377), en P "_encode_list" 2191 (vr 1382), en P "_encode_text" 2202 (vr 1389), en P "_encode_binary" 2214 (vr 1396), en P "_encode_uuid" 2226 (vr 1403), en P "_encode_objectid" 2236 (vr 1410), en P "_encode_bool" 2246 (vr 1417), en P "_encode_datetime_ms" 2257 (vr 1424), en P "_encode_none" 2267 (vr 1431), en P "_encode_regex" 2279 (vr 1438), en P "_encode_code" 2293 (vr 1445), en P "_encode_int" 2303 (vr 1452), en P "_encode_timestamp" 2313 (vr 1459), en P "_encode_long" 2323 (vr 1466), en P "_encode_decimal128" 2333 (vr 1473), en P "_encode_minkey" 2343 (vr 1480), en P "_encode_maxkey" 2353 (vr 1487), en P "_name_value_to_bson" 2366 (vr 1495), en P "_element_to_bson" 2377 (vr 1502)]
def Ld13 : List (Nat × Nat) := Ld12 ++ [(822, 1238), (825, 1245), (832, 1252), (837, 1259), (841, 1266), (844, 1273), (846, 1280), (849, 1287), (891, 1294), (900, 1301), (909, 1308), (918, 1315), (920, 1322), (922, 1329), (926, 1336), (928, 1343), (941, 1350), (950, 1357), (954, 1364), (956, 1369), (959, 1376), (971, 1381), (974, 1388), (977, 1395), (983, 1402), (987, 1409), (989, 1416), (991, 1423), (994, 1430), (996, 1437), (1018, 1444), (1026, 1451), (1034, 1458), (1036, 1465), (1041, 1472), (1043, 1479), (1045, 1486), (1047, 1494), (1096, 1501)]
noncomputable def ch13 (P : Params) : List (Nat × Obj) :=
  df 1233 "_get_code" "_get_code" (fn1 97) 1955 822 6 ["data", "view", "position", "obj_end", "opts", "element_name", "code"] [] .none (vs "bson" 1732) ++
  df 1240 "_get_code_w_scope" "_get_code_w_scope" (fn1 98) 1968 825 6 ["data", "view", "position", "_obj_end", "opts", "element_name", "code_end", "code", "scope"] [] .none (vs "bson" 1732) ++
  df 1247 "_get_regex" "_get_regex" (fn1 99) 1983 832 6 ["data", "view", "position", "dummy0", "opts", "dummy1", "pattern", "bson_flags", "bson_re"] [] .none (vs "bson" 1732) ++
  df 1254 "_get_ref" "_get_ref" (fn1 100) 1998 837 6 ["data", "view", "position", "obj_end", "opts", "element_name", "collection", "oid"] [] .none (vs "bson" 1732) ++
  df 1261 "_get_timestamp" "_get_timestamp" (fn1 101) 2012 841 6 ["data", "_view", "position", "dummy0", "dummy1", "dummy2", "inc", "timestamp"] [] .none (vs "bson" 1732) ++
  df 1268 "_get_int64" "_get_int64" (fn1 102) 2026 844 6 ["data", "_view", "position", "dummy0", "dummy1", "dummy2"] [] .none (vs "bson" 1732) ++
  df 1275 "_get_decimal128" "_get_decimal128" (fn1 103) 2038 846 6 ["data", "_view", "position", "dummy0", "dummy1", "dummy2", "end"] [] .none (vs "bson" 1732) ++
  df 1282 "_get_element" "_get_element" (fn1 104) 2051 849 7 ["element_type", "data", "view", "position", "obj_end", "opts", "element_name"] [] .none (vs "bson" 1732) ++
  df 1289 "_element_to_dict" "_element_to_dict" (fn1 105) 2064 891 5 ["data", "view", "position", "obj_end", "opts", "element_type", "element_name", "value"] [] .none (vs "bson" 1732) ++
  df 1296 "_elements_to_dict" "_elements_to_dict" (fn1 106) 2078 900 5 ["data", "view", "position", "obj_end", "opts", "result", "end", "key", "value"] [] .none (vs "bson" 1732) ++
  df 1303 "_bson_to_dict" "_bson_to_dict" (fn1 107) 2093 909 2 ["data", "opts", "view", "_", "end", "exc"] [] .none (vs "bson" 1732) ++
  df 1310 "_PACK_INT" "_PACK_INT" (fn1 108) 2105 918 1 ["value"] [] .none (vs "bson" 1732) ++
  df 1317 "_PACK_LENGTH_SUBTYPE" "_PACK_LENGTH_SUBTYPE" (fn1 109) 2112 920 2 ["length", "subtype"] [] .none (vs "bson" 1732) ++
  df 1324 "_PACK_LONG" "_PACK_LONG" (fn1 110) 2120 922 1 ["value"] [] .none (vs "bson" 1732) ++
  df 1331 "_PACK_TIMESTAMP" "_PACK_TIMESTAMP" (fn1 111) 2127 926 2 ["inc", "time"] [] .none (vs "bson" 1732) ++
  df 1338 "_make_c_string_check" "_make_c_string_check" (fn1 112) 2135 928 1 ["string"] [] .none (vs "bson" 1732) ++
  df 1345 "_make_c_string" "_make_c_string" (fn1 113) 2142 941 1 ["string"] [] .none (vs "bson" 1732) ++
  df 1352 "_make_name" "_make_name" (fn1 114) 2149 950 1 ["string"] [] .none (vs "bson" 1732) ++
  df 1359 "_encode_bytes" "_encode_bytes" (fn1 115) 2156 954 4 ["name", "value", "dummy0", "dummy1"] [] .none (vs "bson" 1732) ++
  [(1366, oT []),
   (1367, oN []),
   (1368, oU "_encode_mapping" "_encode_mapping" (fn1 116)),
   (1369, oC "_encode_mapping" "_encode_mapping" 2166 956 4 0 3 (vr 1366) (vr 1367) true .none .none (vr 1368) 2169),
   (1370, oM "_encode_mapping" "_encode_mapping" (fn1 116) .none .none (vs "bson" 1732) 1369)] ++
  df 1371 "_encode_dbref" "_encode_dbref" (fn1 117) 2172 959 4 ["name", "value", "check_keys", "opts", "buf", "begin", "key", "val"] [] .none (vs "bson" 1732) ++
  [(1378, oT []),
   (1379, oN []),
   (1380, oU "_encode_list" "_encode_list" (fn1 118)),
   (1381, oC "_encode_list" "_encode_list" 2186 971 4 0 3 (vr 1378) (vr 1379) true .none .none (vr 1380) 2189),
   (1382, oM "_encode_list" "_encode_list" (fn1 118) .none .none (vs "bson" 1732) 1381)] ++
  df 1383 "_encode_text" "_encode_text" (fn1 119) 2192 974 4 ["name", "value", "dummy0", "dummy1", "bvalue"] [] .none (vs "bson" 1732) ++
  df 1390 "_encode_binary" "_encode_binary" (fn1 120) 2203 977 4 ["name", "value", "dummy0", "dummy1", "subtype", "data"] [] .none (vs "bson" 1732) ++
  df 1397 "_encode_uuid" "_encode_uuid" (fn1 121) 2215 983 4 ["name", "value", "dummy", "opts", "uuid_representation", "binval"] [] .none (vs "bson" 1732) ++
  df 1404 "_encode_objectid" "_encode_objectid" (fn1 122) 2227 987 4 ["name", "value", "dummy", "dummy1"] [] .none (vs "bson" 1732) ++
  df 1411 "_encode_bool" "_encode_bool" (fn1 123) 2237 989 4 ["name", "value", "dummy0", "dummy1"] [] .none (vs "bson" 1732) ++
  df 1418 "_encode_datetime_ms" "_encode_datetime_ms" (fn1 124) 2247 991 4 ["name", "value", "dummy0", "dummy1", "millis"] [] .none (vs "bson" 1732) ++
  df 1425 "_encode_none" "_encode_none" (fn1 125) 2258 994 4 ["name", "dummy0", "dummy1", "dummy2"] [] .none (vs "bson" 1732) ++
  df 1432 "_encode_regex" "_encode_regex" (fn1 126) 2268 996 4 ["name", "value", "dummy0", "dummy1", "flags", "sflags"] [] .none (vs "bson" 1732) ++
  df 1439 "_encode_code" "_encode_code" (fn1 127) 2280 1018 4 ["name", "value", "dummy", "opts", "cstring", "cstrlen", "scope", "full_length"] [] .none (vs "bson" 1732) ++
  df 1446 "_encode_int" "_encode_int" (fn1 128) 2294 1026 4 ["name", "value", "dummy0", "dummy1"] [] .none (vs "bson" 1732) ++
  df 1453 "_encode_timestamp" "_encode_timestamp" (fn1 129) 2304 1034 4 ["name", "value", "dummy0", "dummy1"] [] .none (vs "bson" 1732) ++
  df 1460 "_encode_long" "_encode_long" (fn1 130) 2314 1036 4 ["name", "value", "dummy0", "dummy1"] [] .none (vs "bson" 1732) ++
  df 1467 "_encode_decimal128" "_encode_decimal128" (fn1 131) 2324 1041 4 ["name", "value", "dummy0", "dummy1"] [] .none (vs "bson" 1732) ++
  df 1474 "_encode_minkey" "_encode_minkey" (fn1 132) 2334 1043 4 ["name", "dummy0", "dummy1", "dummy2"] [] .none (vs "bson" 1732) ++
  df 1481 "_encode_maxkey" "_encode_maxkey" (fn1 133) 2344 1045 4 ["name", "dummy0", "dummy1", "dummy2"] [] .none (vs "bson" 1732) ++
  [(1488, oT [(.bool false)])] ++
  df 1489 "_name_value_to_bson" "_name_value_to_bson" (fn1 134) 2354 1047 5 ["name", "value", "check_keys", "opts", "in_fallback_call", "was_integer_overflow", "fallback_encoder"] [] (vr 1488) (vs "bson" 1732) ++
  df 1496 "_element_to_bson" "_element_to_bson" (fn1 135) 2367 1096 4 ["key", "value", "check_keys", "opts", "name"] [] .none (vs "bson" 1732) ++
  [(3, oD ((en P "__name__" 165 (vs "bson" 1732)) :: Rd13 P) 129)] ++
  [(12, oN (pL Ld13))]
noncomputable def T13 (P : Params) : BT := grow (T12 P) (ch13 P)
noncomputable def St13 (w : World) (os : OsState) : SharedT := ⟨T13 w.params, 1503, (boot_heap w.params).life, Array.mk [], boot_drawn, 2378, os⟩
noncomputable def Rd14 (P : Params) : List DictEntry := Rd13 P ++ [en P "_dict_to_bson" 2392 (vr 1510), en P "encode" 2401 (vr 1518), en P "decode" 2410 (vr 1526), en P "_law_made" 2422 (vr 1533), en P "_law_packed" 2430 (vr 1540), en P "_law_read" 2438 (vr 1547), en P "_law_due" 2444 (vr 1552), en P "law" 2450 (vr 1557)]
def Ld14 : List (Nat × Nat) := Ld13 ++ [(1106, 1509), (1120, 1517), (1124, 1525), (1130, 1532), (1138, 1539), (1144, 1546), (1150, 1551), (1154, 1556)]
noncomputable def ch14 (P : Params) : List (Nat × Obj) :=
  [(1503, oT [(.bool true)])] ++
  df 1504 "_dict_to_bson" "_dict_to_bson" (fn1 136) 2378 1106 4 ["doc", "check_keys", "opts", "top_level", "elements", "key", "value", "err", "encoded"] [] (vr 1503) (vs "bson" 1732) ++
  [(1511, oT [(.bool false), vr 333])] ++
  df 1512 "encode" "encode" (fn1 137) 2393 1120 3 ["document", "check_keys", "codec_options"] [] (vr 1511) (vs "bson" 1732) ++
  [(1519, oT [.none])] ++
  df 1520 "decode" "decode" (fn1 138) 2402 1124 2 ["data", "codec_options", "opts"] [] (vr 1519) (vs "bson" 1732) ++
  df 1527 "_law_made" "_law_made" (fn1 140) 2413 1130 3 ["vector", "kind", "padding", "made"] [] .none (vs "law_ag0002_03" 2411) ++
  df 1534 "_law_packed" "_law_packed" (fn1 141) 2423 1138 1 ["vector", "made"] [] .none (vs "law_ag0002_03" 2411) ++
  df 1541 "_law_read" "_law_read" (fn1 142) 2431 1144 1 ["binary", "vector"] [] .none (vs "law_ag0002_03" 2411) ++
  [(1548, oT []),
   (1549, oN []),
   (1550, oU "_law_due" "_law_due" (fn1 143)),
   (1551, oC "_law_due" "_law_due" 2439 1150 1 0 3 (vr 1548) (vr 1549) true .none .none (vr 1550) 2442),
   (1552, oM "_law_due" "_law_due" (fn1 143) .none .none (vs "law_ag0002_03" 2411) 1551),
   (1553, oT []),
   (1554, oN []),
   (1555, oU "law" "law" (fn1 144)),
   (1556, oC "law" "law" 2445 1154 1 0 3 (vr 1553) (vr 1554) true .none .none (vr 1555) 2448),
   (1557, oM "law" "law" (fn1 144) .none .none (vs "law_ag0002_03" 2411) 1556)] ++
  [(3, oD ((en P "__name__" 165 (vs "law_ag0002_03" 2411)) :: Rd14 P) 137)] ++
  [(12, oN (pL Ld14))]
noncomputable def T14 (P : Params) : BT := grow (T13 P) (ch14 P)
noncomputable def St14 (w : World) (os : OsState) : SharedT := ⟨T14 w.params, 1558, (boot_heap w.params).life, Array.mk [], boot_drawn, 2451, os⟩
noncomputable def env1 : Env := { scope := P1.main.scope, locals := mainNs, globals := mainNs, cells := [], code := (.ref 13), frame := some 14 }
noncomputable def body1 : List Stmt := behindTheImports P1
noncomputable def c1 : Code := .body body1 env1
abbrev B1 : List Frame := [topFrame ⟨0, 0, 0, 0⟩]
noncomputable abbrev denT : Code → Sem Fin := PySem.W.Fast.tw11892475500146522536 PySem.W.Fast.tw14364793385576792824
theorem pre1 : ∀ (w : World) (os : OsState), goG through okT (stT w) 12 (S0 w os) (topStub P1) = some (St0 w os, ⟨denT c1, c1, ⟨0, 0, 0, 0⟩, B1⟩) := by
  intro w os
  kernel_rfl
theorem block1 : ∀ (w : World) (os : OsState), segG okT (stT w) 1 (St0 w os) (blockOf body1 env1 c1 ⟨0, 0, 0, 0⟩ B1) = some (.next, St0 w os, c1, ⟨0, 0, 0, 0⟩) := by
  intro w os
  kernel_rfl
noncomputable def g1 : List Stmt := (body1.drop 0).take 14
theorem seg1 : ∀ (w : World) (os : OsState), segG okT (stT w) 738 (St0 w os) (piecesOf g1 env1 c1 ⟨0, 0, 0, 0⟩ B1) = some (.next, St1 w os, c1, ⟨56, 0, 56, 24⟩) := by
  intro w os
  kernel_rfl
noncomputable def g2 : List Stmt := (body1.drop 14).take 1
theorem seg2false : ∀ (w : World) (os : OsState), segG okT (stT (w.withFollow "special-get-raises" false)) 76 (St1 w os) (piecesOf g2 env1 c1 ⟨56, 0, 56, 24⟩ B1) = some (.next, St2 w os, c1, ⟨57, 0, 57, 25⟩) := by
  intro w os
  kernel_rfl
theorem seg2true : ∀ (w : World) (os : OsState), segG okT (stT (w.withFollow "special-get-raises" true)) 76 (St1 w os) (piecesOf g2 env1 c1 ⟨56, 0, 56, 24⟩ B1) = some (.next, St2 w os, c1, ⟨57, 0, 57, 25⟩) := by
  intro w os
  kernel_rfl
theorem seg2 : ∀ (w : World) (os : OsState), segG okT (stT w) 76 (St1 w os) (piecesOf g2 env1 c1 ⟨56, 0, 56, 24⟩ B1) = some (.next, St2 w os, c1, ⟨57, 0, 57, 25⟩) := by
  intro w os
  have e := World.withFollow_self w "special-get-raises"
  cases hb : w.params.followText "special-get-raises" <;> rw [hb] at e
  · have h := seg2false w os
    rw [e] at h
    exact h
  · have h := seg2true w os
    rw [e] at h
    exact h
noncomputable def g3 : List Stmt := (body1.drop 15).take 3
theorem seg3 : ∀ (w : World) (os : OsState), segG okT (stT w) 526 (St2 w os) (piecesOf g3 env1 c1 ⟨57, 0, 57, 25⟩ B1) = some (.next, St3 w os, c1, ⟨63, 0, 76, 29⟩) := by
  intro w os
  kernel_rfl
noncomputable def g4 : List Stmt := (body1.drop 18).take 4
theorem seg4 : ∀ (w : World) (os : OsState), segG okT (stT w) 1223 (St3 w os) (piecesOf g4 env1 c1 ⟨63, 0, 76, 29⟩ B1) = some (.next, St4 w os, c1, ⟨239, 0, 239, 8⟩) := by
  intro w os
  kernel_rfl
noncomputable def g5 : List Stmt := (body1.drop 22).take 2
theorem seg5 : ∀ (w : World) (os : OsState), segG okT (stT w) 633 (St4 w os) (piecesOf g5 env1 c1 ⟨239, 0, 239, 8⟩ B1) = some (.next, St5 w os, c1, ⟨256, 0, 268, 42⟩) := by
  intro w os
  kernel_rfl
noncomputable def g6 : List Stmt := (body1.drop 24).take 1
theorem seg6false : ∀ (w : World) (os : OsState), segG okT (stT (w.withFollow "special-get-raises" false)) 388 (St5 w os) (piecesOf g6 env1 c1 ⟨256, 0, 268, 42⟩ B1) = some (.next, St6 w os, c1, ⟨269, 0, 269, 21⟩) := by
  intro w os
  kernel_rfl
theorem seg6true : ∀ (w : World) (os : OsState), segG okT (stT (w.withFollow "special-get-raises" true)) 388 (St5 w os) (piecesOf g6 env1 c1 ⟨256, 0, 268, 42⟩ B1) = some (.next, St6 w os, c1, ⟨269, 0, 269, 21⟩) := by
  intro w os
  kernel_rfl
theorem seg6 : ∀ (w : World) (os : OsState), segG okT (stT w) 388 (St5 w os) (piecesOf g6 env1 c1 ⟨256, 0, 268, 42⟩ B1) = some (.next, St6 w os, c1, ⟨269, 0, 269, 21⟩) := by
  intro w os
  have e := World.withFollow_self w "special-get-raises"
  cases hb : w.params.followText "special-get-raises" <;> rw [hb] at e
  · have h := seg6false w os
    rw [e] at h
    exact h
  · have h := seg6true w os
    rw [e] at h
    exact h
noncomputable def g7 : List Stmt := (body1.drop 25).take 5
theorem seg7 : ∀ (w : World) (os : OsState), segG okT (stT w) 1068 (St6 w os) (piecesOf g7 env1 c1 ⟨269, 0, 269, 21⟩ B1) = some (.next, St7 w os, c1, ⟨342, 0, 342, 8⟩) := by
  intro w os
  kernel_rfl
noncomputable def g8 : List Stmt := (body1.drop 30).take 18
theorem seg8 : ∀ (w : World) (os : OsState), segG okT (stT w) 1244 (St7 w os) (piecesOf g8 env1 c1 ⟨342, 0, 342, 8⟩ B1) = some (.next, St8 w os, c1, ⟨452, 0, 452, 8⟩) := by
  intro w os
  kernel_rfl
noncomputable def g9 : List Stmt := (body1.drop 48).take 6
theorem seg9 : ∀ (w : World) (os : OsState), segG okT (stT w) 1197 (St8 w os) (piecesOf g9 env1 c1 ⟨452, 0, 452, 8⟩ B1) = some (.next, St9 w os, c1, ⟨470, 0, 470, 8⟩) := by
  intro w os
  kernel_rfl
noncomputable def g10 : List Stmt := (body1.drop 54).take 9
theorem seg10 : ∀ (w : World) (os : OsState), segG okT (stT w) 1218 (St9 w os) (piecesOf g10 env1 c1 ⟨470, 0, 470, 8⟩ B1) = some (.next, St10 w os, c1, ⟨536, 0, 537, 112⟩) := by
  intro w os
  kernel_rfl
noncomputable def g11 : List Stmt := (body1.drop 63).take 12
theorem seg11 : ∀ (w : World) (os : OsState), segG okT (stT w) 1249 (St10 w os) (piecesOf g11 env1 c1 ⟨536, 0, 537, 112⟩ B1) = some (.next, St11 w os, c1, ⟨651, 0, 651, 10⟩) := by
  intro w os
  kernel_rfl
noncomputable def g12 : List Stmt := (body1.drop 75).take 22
theorem seg12 : ∀ (w : World) (os : OsState), segG okT (stT w) 1281 (St11 w os) (piecesOf g12 env1 c1 ⟨651, 0, 651, 10⟩ B1) = some (.next, St12 w os, c1, ⟨820, 0, 821, 75⟩) := by
  intro w os
  kernel_rfl
noncomputable def g13 : List Stmt := (body1.drop 97).take 39
theorem seg13 : ∀ (w : World) (os : OsState), segG okT (stT w) 1279 (St12 w os) (piecesOf g13 env1 c1 ⟨820, 0, 821, 75⟩ B1) = some (.next, St13 w os, c1, ⟨1096, 0, 1105, 61⟩) := by
  intro w os
  kernel_rfl
noncomputable def g14 : List Stmt := (body1.drop 136).take 9
theorem seg14 : ∀ (w : World) (os : OsState), segG okT (stT w) 258 (St13 w os) (piecesOf g14 env1 c1 ⟨1096, 0, 1105, 61⟩ B1) = some (.next, St14 w os, c1, ⟨1154, 0, 1190, 75⟩) := by
  intro w os
  kernel_rfl
theorem fin1 : ∀ (w : World) (os : OsState), runG through okT (stT w) 2 (St14 w os) ⟨doneF .next, c1, ⟨1154, 0, 1190, 75⟩, B1⟩ = some (St14 w os) := by
  intro w os
  kernel_rfl
theorem rest_app (k n : Nat) (j : Nat) (h : k + n = j) : body1.drop k = (body1.drop k).take n ++ body1.drop j := by
  subst h
  rw [← List.drop_drop, List.take_append_drop]
theorem body_end : body1.drop 145 = [] := by kernel_rfl
theorem seg_of {w : World} {n : Nat} {s s' : SharedT} {t : Thread} {f : Flow} {c : Code} {q : Pos} (h : segG okT (stT w) n s t = some (f, s', c, q)) : segRun treeTable P1 w 11 (some (.ref 6)) 1 n s.abs t = some (f, s'.abs, c, q) := by
  refine segG_spec ?_
  rw [PySem.W.Fast.te6613529449190102663, PySem.W.Fast.te10156331382660048174, PySem.W.Fast.te11892475500146522536, PySem.W.Fast.te14364793385576792824]
  exact h
theorem run_all (w : World) (os : OsState) : topRun treeTable P1 w 11 (some (.ref 6)) 12393 (S0 w os).abs (topStub P1) = some (St14 w os).abs := by
  have hf : topRun treeTable P1 w 11 (some (.ref 6)) 2 (St14 w os).abs ⟨doneF .next, c1, ⟨1154, 0, 1190, 75⟩, B1⟩ = some (St14 w os).abs := by
    refine runG_spec ?_
    rw [PySem.W.Fast.te6613529449190102663, PySem.W.Fast.te10156331382660048174, PySem.W.Fast.te11892475500146522536, PySem.W.Fast.te14364793385576792824]
    exact fin1 w os
  have h14 : topRun treeTable P1 w 11 (some (.ref 6)) 2 (St14 w os).abs (restOf (body1.drop 145) env1 c1 ⟨1154, 0, 1190, 75⟩ B1) = some (St14 w os).abs := by
    rw [body_end]
    exact piece_nil hf
  have h13 : topRun treeTable P1 w 11 (some (.ref 6)) (258 + 2) (St13 w os).abs (restOf (body1.drop 136) env1 c1 ⟨1096, 0, 1105, 61⟩ B1) = some (St14 w os).abs := by
    rw [rest_app 136 9 145 rfl]
    exact piece_app (seg_of (seg14 w os)) h14
  have h12 : topRun treeTable P1 w 11 (some (.ref 6)) (1279 + 260) (St12 w os).abs (restOf (body1.drop 97) env1 c1 ⟨820, 0, 821, 75⟩ B1) = some (St14 w os).abs := by
    rw [rest_app 97 39 136 rfl]
    exact piece_app (seg_of (seg13 w os)) h13
  have h11 : topRun treeTable P1 w 11 (some (.ref 6)) (1281 + 1539) (St11 w os).abs (restOf (body1.drop 75) env1 c1 ⟨651, 0, 651, 10⟩ B1) = some (St14 w os).abs := by
    rw [rest_app 75 22 97 rfl]
    exact piece_app (seg_of (seg12 w os)) h12
  have h10 : topRun treeTable P1 w 11 (some (.ref 6)) (1249 + 2820) (St10 w os).abs (restOf (body1.drop 63) env1 c1 ⟨536, 0, 537, 112⟩ B1) = some (St14 w os).abs := by
    rw [rest_app 63 12 75 rfl]
    exact piece_app (seg_of (seg11 w os)) h11
  have h9 : topRun treeTable P1 w 11 (some (.ref 6)) (1218 + 4069) (St9 w os).abs (restOf (body1.drop 54) env1 c1 ⟨470, 0, 470, 8⟩ B1) = some (St14 w os).abs := by
    rw [rest_app 54 9 63 rfl]
    exact piece_app (seg_of (seg10 w os)) h10
  have h8 : topRun treeTable P1 w 11 (some (.ref 6)) (1197 + 5287) (St8 w os).abs (restOf (body1.drop 48) env1 c1 ⟨452, 0, 452, 8⟩ B1) = some (St14 w os).abs := by
    rw [rest_app 48 6 54 rfl]
    exact piece_app (seg_of (seg9 w os)) h9
  have h7 : topRun treeTable P1 w 11 (some (.ref 6)) (1244 + 6484) (St7 w os).abs (restOf (body1.drop 30) env1 c1 ⟨342, 0, 342, 8⟩ B1) = some (St14 w os).abs := by
    rw [rest_app 30 18 48 rfl]
    exact piece_app (seg_of (seg8 w os)) h8
  have h6 : topRun treeTable P1 w 11 (some (.ref 6)) (1068 + 7728) (St6 w os).abs (restOf (body1.drop 25) env1 c1 ⟨269, 0, 269, 21⟩ B1) = some (St14 w os).abs := by
    rw [rest_app 25 5 30 rfl]
    exact piece_app (seg_of (seg7 w os)) h7
  have h5 : topRun treeTable P1 w 11 (some (.ref 6)) (388 + 8796) (St5 w os).abs (restOf (body1.drop 24) env1 c1 ⟨256, 0, 268, 42⟩ B1) = some (St14 w os).abs := by
    rw [rest_app 24 1 25 rfl]
    exact piece_app (seg_of (seg6 w os)) h6
  have h4 : topRun treeTable P1 w 11 (some (.ref 6)) (633 + 9184) (St4 w os).abs (restOf (body1.drop 22) env1 c1 ⟨239, 0, 239, 8⟩ B1) = some (St14 w os).abs := by
    rw [rest_app 22 2 24 rfl]
    exact piece_app (seg_of (seg5 w os)) h5
  have h3 : topRun treeTable P1 w 11 (some (.ref 6)) (1223 + 9817) (St3 w os).abs (restOf (body1.drop 18) env1 c1 ⟨63, 0, 76, 29⟩ B1) = some (St14 w os).abs := by
    rw [rest_app 18 4 22 rfl]
    exact piece_app (seg_of (seg4 w os)) h4
  have h2 : topRun treeTable P1 w 11 (some (.ref 6)) (526 + 11040) (St2 w os).abs (restOf (body1.drop 15) env1 c1 ⟨57, 0, 57, 25⟩ B1) = some (St14 w os).abs := by
    rw [rest_app 15 3 18 rfl]
    exact piece_app (seg_of (seg3 w os)) h3
  have h1 : topRun treeTable P1 w 11 (some (.ref 6)) (76 + 11566) (St1 w os).abs (restOf (body1.drop 14) env1 c1 ⟨56, 0, 56, 24⟩ B1) = some (St14 w os).abs := by
    rw [rest_app 14 1 15 rfl]
    exact piece_app (seg_of (seg2 w os)) h2
  have h0 : topRun treeTable P1 w 11 (some (.ref 6)) (738 + 11642) (St0 w os).abs (restOf (body1.drop 0) env1 c1 ⟨0, 0, 0, 0⟩ B1) = some (St14 w os).abs := by
    rw [rest_app 0 14 14 rfl]
    exact piece_app (seg_of (seg1 w os)) h1
  have hb : topRun treeTable P1 w 11 (some (.ref 6)) (1 + 12380) (St0 w os).abs ⟨denote treeTable c1, c1, ⟨0, 0, 0, 0⟩, B1⟩ = some (St14 w os).abs :=
    piece_block (seg_of (block1 w os)) h0
  have hp : topGo treeTable P1 w 11 (some (.ref 6)) 12 (S0 w os).abs (topStub P1) = some ((St0 w os).abs, ⟨denote treeTable c1, c1, ⟨0, 0, 0, 0⟩, B1⟩) := by
    refine goG_spec ?_
    rw [PySem.W.Fast.te6613529449190102663, PySem.W.Fast.te10156331382660048174, PySem.W.Fast.te11892475500146522536, PySem.W.Fast.te14364793385576792824]
    exact pre1 w os
  exact go_top hp hb
theorem look_all : ∀ (w : World) (os : OsState), look1 (boot_heap w.params) (St14 w os).abs = (true, openGood q1 loose1) := by
  intro w os
  kernel_rfl
theorem rows_all : ∀ (w : World) (os : OsState), adr.map (getT (St14 w os)) = ((K0 w.params).map (·.2)).map some := by
  intro w os
  kernel_rfl
end Hp
theorem boot1 : ∀ w : World, (((boot_heap w.params).isNs mainGlobals && (Array.mk ([] : List GenState)).size == 0), (boot_heap w.params).objs.size, (boot_heap w.params).nsMap mainGlobals "__annotations__") = (true, 11, some (.ref 6)) := by
  intro w
  kernel_rfl
theorem ran (w : World) (os : OsState) : ∃ s : SharedT, topRun treeTable P1 w 11 (some (.ref 6)) 24900 ⟨boot_heap w.params, Array.mk [], boot_drawn, boot_toks, os⟩ (topStub P1) = some s.abs ∧
    look1 (boot_heap w.params) s.abs = (true, openGood q1 loose1) ∧ adr.map s.abs.heap.get? = (K0 w.params).map fun p => some p.2 := by
  refine ⟨Hp.St14 w os, ?_, Hp.look_all w os, ?_⟩
  · rw [← S0_abs]
    exact topRun_mono 12507 _ _ _ _ (Hp.run_all w os)
  · rw [gets_spec (Hp.rows_all w os), List.map_map]
    rfl
theorem left1 : LeftO P1 q1 loose1 Xt1 (Hook.obs H1) (Hook.val H1) 24900 := fun w => by
  obtain ⟨s0, hs0, e0⟩ := Option.map_eq_some_iff.mp (boot_open (p := P1) (N := 24900) (by rfl) (by decide) (fun s => by rfl) w)
  obtain ⟨heap, gens, drawn, toks, os⟩ := s0
  simp only [Prod.mk.injEq] at e0
  obtain ⟨rfl, rfl, rfl, rfl⟩ := e0
  obtain ⟨s, r, l, k⟩ := ran w os
  have b := boot1 w
  simp only [Prod.mk.injEq] at b
  obtain ⟨b1, b2, b3⟩ := b
  have l1 := congrArg Prod.fst l
  have l2 : PySem.W.Fast.tw4187177175401517315 q1 loose1 mods1 Xt1 true s.abs = openGood q1 loose1 := congrArg Prod.snd l
  unfold openEnds
  rw [hs0]
  show (topFrom treeTable P1 w 24900 _).map _ = _
  have t : topFrom treeTable P1 w 24900 ⟨boot_heap w.params, Array.mk [], boot_drawn, boot_toks, os⟩ = some s.abs := by
    unfold topFrom
    dsimp only
    rw [b1, b2, b3]
    show (topRun treeTable P1 w 11 (some (.ref 6)) 24900 _ _).bind _ = _
    rw [r]
    show (match staticsOk mods1 (boot_heap w.params) s.abs.heap && namesBound P1 s.abs.heap && gensDone s.abs && laidKept (boot_heap w.params) s.abs.heap with | true => some s.abs | false => none) = _
    rw [show (staticsOk mods1 (boot_heap w.params) s.abs.heap && namesBound P1 s.abs.heap && gensDone s.abs && laidKept (boot_heap w.params) s.abs.heap) = true from l1]
  rw [t]
  show some (openSeen q1 loose1 mods1 Xt1 true s.abs, adr.map s.abs.heap.get?) = some (openGood q1 loose1, (K0 w.params).map fun p => some p.2)
  rw [k, PySem.W.Fast.te4187177175401517315, l2]
abbrev R1 : OpenLaw := PySem.Challenge.rw_ag0002_03
theorem leaf3 : PySem.W.Fast.tw8377067652309620493 (PySem.W.Fast.tw2368527892694137696 R1).prog = true := by kernel_rfl
theorem leaf5a : (PySem.W.R.filterR (PySem.W.Fast.tw13343964577679436407 (PySem.W.Fast.tw2368527892694137696 R1).prog (PySem.W.Fast.tw2368527892694137696 R1).prog.main.body)
            [{ cps := { toList := [nat_lit 118, nat_lit 97, nat_lit 114, nat_lit 115] } }, { cps := { toList := [nat_lit 100, nat_lit 105, nat_lit 114] } }, { cps := { toList := [nat_lit 108, nat_lit 111, nat_lit 99, nat_lit 97, nat_lit 108, nat_lit 115] } }]) = [] := by kernel_rfl
theorem leaf5b : PySem.W.Fast.tw8326940854005059898
      { strict := !PySem.W.R.allR (PySem.W.Fast.tw5923862056798008813 (PySem.W.Fast.tw2368527892694137696 R1).prog.main.body) (PySem.W.Fast.tw3471404346716756564 PySem.W.Fast.tw17691160309236699985),
        foot := none,
        bare := [] }
      (PySem.W.Fast.tw2368527892694137696 R1).prog.main.body = true := by kernel_rfl
theorem leaf5 : PySem.W.Fast.tw8326940854005059898
      { strict := !PySem.W.R.allR (PySem.W.Fast.tw5923862056798008813 (PySem.W.Fast.tw2368527892694137696 R1).prog.main.body) (PySem.W.Fast.tw3471404346716756564 PySem.W.Fast.tw17691160309236699985),
        foot := none,
        bare := PySem.W.R.filterR (PySem.W.Fast.tw13343964577679436407 (PySem.W.Fast.tw2368527892694137696 R1).prog (PySem.W.Fast.tw2368527892694137696 R1).prog.main.body)
            [{ cps := { toList := [nat_lit 118, nat_lit 97, nat_lit 114, nat_lit 115] } }, { cps := { toList := [nat_lit 100, nat_lit 105, nat_lit 114] } }, { cps := { toList := [nat_lit 108, nat_lit 111, nat_lit 99, nat_lit 97, nat_lit 108, nat_lit 115] } }] }
      (PySem.W.Fast.tw2368527892694137696 R1).prog.main.body = true := by
  rw [leaf5a]
  exact leaf5b
theorem leaf6 : (PySem.W.Fast.tw17119622794617984870 (PySem.W.Fast.tw2368527892694137696 R1).prog (PySem.W.Fast.tw2368527892694137696 R1).prog.main.body fun x n => PySem.W.Fast.tw17868728402115742887 n) = true := by kernel_rfl
theorem said1 : R1.wellSaid = true := by
  rw [PySem.W.Fast.te9446332074065402090]
  delta PySem.W.Fast.tw9446332074065402090
  delta PySem.W.Fast.tw17960256430627541270
  delta PySem.W.Fast.tw2436336058641802641
  delta PySem.W.Fast.tw12908688711261696721
  (repeat' (with_reducible refine look_both ?_ ?_))
  rotate_left 4
  exact leaf5
  all_goals (first
    | with_reducible exact leaf3
    | with_reducible exact leaf6
    | kernel_rfl)
noncomputable def dLaw : DefRec := ⟨"law", prm (fn1 144), bdy (fn1 144), scp (fn1 144), (match stAt 144 with | .FunctionDef _ _ _ _ _ _ _ _ _ p => p | _ => default)⟩
theorem d_ok : defOf q1 ("law" : Str) = some (dLaw, []) := by kernel_rfl
theorem d_p : R1.prog.theDef R1.name = some (dLaw.params, dLaw.body, dLaw.scope) := by kernel_rfl
theorem d_k : kwWritten? dLaw.params.kwonlyargs dLaw.params.kw_defaults = some [] := by kernel_rfl
theorem ch1 : chainsOk q1 = true := by rw [chainsOk]; kernel_rfl
theorem ch2 : opensWell R1.row.prog = true := by kernel_rfl
theorem ch3 : frees R1.row.toRowW = true := by kernel_rfl
theorem ch4 : R1.row.within.isEmpty = true := by kernel_rfl
theorem chains : (chainsOk q1 && opensWell R1.row.prog && (frees R1.row.toRowW && R1.row.within.isEmpty)) = true := by
  rw [ch1, ch2, ch3, ch4]
  rfl
theorem wit : R1.row.toRowW.promised := by w_witness2
theorem wSs_app (A : TablesWhole.Alg Bool) (hA : A.both = fun a b => a && b) (hU : A.unit = true) (top : Scope) (cx : TablesWhole.Ctx) (sc : Scope) : ∀ (a b : List Stmt), TablesWhole.wSs A top cx sc (a ++ b) = (TablesWhole.wSs A top cx sc a && TablesWhole.wSs A top cx sc b)
  | [], b => by rw [List.nil_append, TablesWhole.wSs, hU, Bool.true_and]
  | s :: a, b => by rw [List.cons_append, TablesWhole.wSs, TablesWhole.wSs, wSs_app A hA hU top cx sc a b, hA, Bool.and_assoc]
theorem told1 : TablesWhole.wSs TablesWhole.gather P1.main.scope ⟨P1.main.scope, [], [], [], none⟩ P1.main.scope P1.main.body = [] := by kernel_rfl
abbrev tblAt (l : List Stmt) : Bool := TablesWhole.wSs TablesWhole.holds P1.main.scope ⟨P1.main.scope, [], [], [], none⟩ P1.main.scope l
theorem tbl1 : tblAt (P1.main.body.take 40) = true := by kernel_rfl
theorem tbl2 : tblAt ((P1.main.body.drop 40).take 30) = true := by kernel_rfl
theorem tbl3 : tblAt (((P1.main.body.drop 40).drop 30).take 45) = true := by kernel_rfl
theorem tbl4 : tblAt (((P1.main.body.drop 40).drop 30).drop 45) = true := by kernel_rfl
theorem twice1 : (TablesWhole.holds.check "no name twice in a table, but a class's lawful pair" P1.main.scope ("(the table)" : Str) (TablesWhole.noTwice P1.main.scope)) = true := by kernel_rfl
theorem tbl : tblAt P1.main.body = true := by
  rw [← List.take_append_drop 40 P1.main.body, tblAt, wSs_app _ rfl rfl, ← List.take_append_drop 30 (P1.main.body.drop 40), wSs_app _ rfl rfl, ← List.take_append_drop 45 ((P1.main.body.drop 40).drop 30), wSs_app _ rfl rfl]
  rw [show TablesWhole.wSs TablesWhole.holds P1.main.scope ⟨P1.main.scope, [], [], [], none⟩ P1.main.scope (P1.main.body.take 40) = true from tbl1]
  rw [show TablesWhole.wSs TablesWhole.holds P1.main.scope ⟨P1.main.scope, [], [], [], none⟩ P1.main.scope ((P1.main.body.drop 40).take 30) = true from tbl2]
  rw [show TablesWhole.wSs TablesWhole.holds P1.main.scope ⟨P1.main.scope, [], [], [], none⟩ P1.main.scope (((P1.main.body.drop 40).drop 30).take 45) = true from tbl3]
  rw [show TablesWhole.wSs TablesWhole.holds P1.main.scope ⟨P1.main.scope, [], [], [], none⟩ P1.main.scope (((P1.main.body.drop 40).drop 30).drop 45) = true from tbl4]
  rfl
theorem mod1 : TablesWhole.wModule TablesWhole.holds P1.main = true := by
  unfold TablesWhole.wModule
  dsimp only
  rw [told1, twice1]
  rw [show TablesWhole.wSs TablesWhole.holds P1.main.scope ⟨P1.main.scope, [], [], [], none⟩ P1.main.scope P1.main.body = true from tbl]
  rfl
theorem tables : P1.tablesWhole = true := by
  unfold Program.tablesWhole TablesWhole.wProgram
  rw [mod1]
  rfl
theorem bare1 : R1.row.prog.bare := ⟨rfl, rfl, rfl, rfl, rfl, tables⟩
theorem hd (walk : WalkO q1 loose1 (XL q1 []) H1.says R1.row.toRowW dLaw [] (fun f vs => PySem.call f vs)) : R1.Holds :=
  holds_law said1 fun said => holds_open (r := R1.row) (q := q1) (loose := loose1) (Xt := Xt1) (XP := XL q1 []) (Yf := Hook.obs H1) (Ya := Hook.val H1) (YP := Hook.says H1) (N := 24900) left1 (Hook.of H1) (Hook.keeps H1)
    (fun s e => xl_of s (Bool.and_eq_true_iff.mp e).1) (fun _ _ _ x k => XL.keeps _ _ _ x k) d_ok d_p d_k (fun s e => recFacts_of (Bool.and_eq_true_iff.mp e).2) (by decide +kernel) said chains bare1 wit walk
set_option maxHeartbeats 4000000
def LawGoal (w : World) : Prop :=
  ∀ (s₁ : Shared) (loose : List Str) (mean : ExcName → Option Value) (mg mb : Str → Option Value) (l : Addr) (vs : List Value) (ns : List Int) (h₁ : Heap) (tk : Nat) (cells : List (Addr × Obj)),
    (K0 w.params).In s₁.heap → Top q1 loose mean mg mb s₁.heap → s₁.heap.IsList l vs.toArray → IntsAre vs ns → ns.length ≤ 63 → s₁.gens = #[] → Below callerA s₁.heap [] s₁.heap →
    Fr s₁.heap s₁.heap.objs.size h₁ (bindL (envOfC ("law" : Str) (scp (fn1 144)) s₁.heap.objs.size 1557 (.ref 1556)).kindOf [(("script" : Str), Value.ref l)] fun _ => none) → News s₁.heap s₁.heap.objs.size h₁ cells →
    CellsAre (bindC (envOfC ("law" : Str) (scp (fn1 144)) s₁.heap.objs.size 1557 (.ref 1556)).kindOf [(("script" : Str), Value.ref l)] fun _ => none) (cellsFrom (s₁.heap.objs.size + 1) (scp (fn1 144)).names []) cells →
    wpAny (model P1 w) (callerA.deeper (envOfC ("law" : Str) (scp (fn1 144)) s₁.heap.objs.size 1557 (.ref 1556))) (execs (bdy (fn1 144)) (envOfC ("law" : Str) (scp (fn1 144)) s₁.heap.objs.size 1557 (.ref 1556)))
      (fun fl s' => fl = .ret (.bool true) ∧ ∃ h' tk' m', Fr s₁.heap s₁.heap.objs.size h' m' ∧ s' = { s₁ with heap := h', toks := tk' }) (fun _ _ => False) { s₁ with heap := h₁, toks := tk }
theorem walk_of (law : ∀ w, LawGoal w) : WalkO q1 loose1 (XL q1 []) H1.says R1.row.toRowW dLaw [] (fun f vs => PySem.call f vs) := by
  intro w s₀ s₁ mg mb G Y fa o pm cd doc dV kV ho hd hcd hD hmg hg args vals as hpre hlay hrd hwl hlo
  have KX := kIn_of Y
  have T := G.T
  have hfa : mg ("law" : Str) = some (.ref 1557) := mg_of KX T.g (by kernel_rfl)
  have hfa' : fa = 1557 := by
    have : some (Value.ref fa) = some (.ref 1557) := hmg.symm.trans hfa
    simpa using this
  subst hfa'
  have hk : (K0 w.params).lookup 1557 = some ⟨.type "function", none, .func (fnOf "law" "law" (prm (fn1 144)) (bdy (fn1 144)) (scp (fn1 144)) .none .none .none (.str "law_ag0002_03" 2411) none (.ref 1556) .none), #[]⟩ := by kernel_rfl
  have hcdv : cd = .ref 1556 := by
    have := (ho.symm.trans (KX _ _ hk))
    obtain rfl := Option.some.inj this
    have h2 := (Data.func.inj hd)
    exact ((congrArg FuncData.code h2).symm)
  subst hcdv
  wrow_args hpre hlay hrd hwl hlo
  rename_i ns _ _ _ _ _ _ _ l vs _ hL _ _ _ hI _ hle _
  refine enter_call ?_
  refine codeAny_mono ?_ (fun _ _ g => GoodW.toG g)
  have K0 := below_caller (Top.heap T)
  have he := Dflts.none hD rfl; subst he
  have he2 := Dflts.noKw hD; subst he2
  refine call_cellsN (by decide) ho (fd_plain hd) (Top.nolimit T) hcd rfl (kinds_of (by kinds_ok)) (by decide) fun h₁ tk₁ cells F N0 X0 => ?_
  have hlen : ns.length ≤ 63 := by omega
  refine wpAny_mono (law w s₁ _ _ mg mb l vs ns h₁ _ cells KX T hL hI hlen hg K0 F N0 X0) ?_ ?_
  · rintro fl s' ⟨rfl, h', tk', m', F', rfl⟩
    exact goodW_bool F' hg (raisesW_false (by wrow_none_raised)) (postW_of (by wrow_shape) (by wtm_val) (by w_fin))
  · intro e s' h
    exact h.elim
end Mine
end
section
namespace Mine
def leb (k : Nat) (x : Int) : List UInt8 := (List.range k).map fun i => (x / 256 ^ i % 256).toNat.toUInt8
def unle : List UInt8 → Nat
  | [] => 0
  | b :: r => b.toNat + 256 * unle r
theorem leb_length (k : Nat) (x : Int) : (leb k x).length = k := by simp [leb]
theorem toU8 (v : Int) (h0 : 0 ≤ v) (h1 : v < 256) : ((v.toNat.toUInt8).toNat : Int) = v := by
  have : v.toNat < 256 := by omega
  show (((UInt8.ofNat v.toNat).toNat : Nat) : Int) = v
  rw [UInt8.toNat_ofNat', Nat.mod_eq_of_lt (by simpa using this)]
  omega
theorem emod_pow_div {x : Int} {i m : Nat} (h : i < m) : x % 256 ^ m / 256 ^ i % 256 = x / 256 ^ i % 256 := by
  have e : (256 : Int) ^ m = 256 ^ i * (256 * 256 ^ (m - i - 1)) := by
    rw [← Int.pow_succ', ← Int.pow_add]
    congr 1
    omega
  have hp : (0 : Int) < 256 ^ i := Int.pow_pos (by decide)
  generalize hA : (256 : Int) ^ i = A at *
  generalize hB : (256 : Int) ^ (m - i - 1) = B at *
  rw [e]
  have hdm := Int.emod_add_mul_ediv x (A * (256 * B))
  generalize x % (A * (256 * B)) = r at *
  generalize x / (A * (256 * B)) = q at *
  subst hdm
  rw [show r + A * (256 * B) * q = r + A * (256 * (B * q)) by rw [Int.mul_assoc, Int.mul_assoc], Int.add_mul_ediv_left _ _ (by omega)]
  omega
theorem low_eq (x : Int) (n : Nat) : KTBy.low x n = leb n x := by
  have hb : x.natAbs < 256 ^ (Builtin.Int.intBits x / 8 + 1) := by
    have h := intBits_le_iff (x := x) (m := 8 * (Builtin.Int.intBits x / 8 + 1))
    have h2 := h.mp (by omega)
    rwa [Nat.pow_mul, show (2 : Nat) ^ 8 = 256 by decide] at h2
  unfold KTBy.low leb
  generalize hm : Builtin.Int.intBits x / 8 + 1 = M at *
  apply List.ext_getElem
  · simp; omega
  · intro i h1 h2
    simp only [List.length_map, List.length_range] at h2
    rw [List.getElem_append]
    by_cases hi : i < min n M
    · rw [dif_pos (by simpa using hi)]
      simp only [List.getElem_map, List.getElem_range]
      have hpos : (0 : Int) ≤ x % 256 ^ min n M := Int.emod_nonneg _ (Int.ne_of_gt (Int.pow_pos (by decide)))
      have e := emod_pow_div (x := x) hi
      have e1 : ((x % 256 ^ min n M).toNat >>> (8 * i)) % 256 = (x / 256 ^ i % 256).toNat := by
        rw [Nat.shiftRight_eq_div_pow, Nat.pow_mul, show (2 : Nat) ^ 8 = 256 by decide, ← e]
        generalize x % 256 ^ min n M = r at *
        obtain ⟨R, rfl⟩ := Int.eq_ofNat_of_zero_le hpos
        rw [show ((256 : Int) ^ i) = ((256 ^ i : Nat) : Int) by rw [Int.natCast_pow]; rfl]
        rw [Int.toNat_natCast, ← Int.natCast_ediv, show (256 : Int) = ((256 : Nat) : Int) by rfl, ← Int.natCast_emod, Int.toNat_natCast]
      rw [e1]
    · rw [dif_neg (by simpa using hi)]
      simp only [List.getElem_replicate, List.getElem_map, List.getElem_range]
      have hiM : M ≤ i := by omega
      have hp : (256 : Nat) ^ M ≤ 256 ^ i := Nat.pow_le_pow_right (by decide) hiM
      have hx : x.natAbs < 256 ^ i := by omega
      have hc : ((256 : Int) ^ i) = ((256 ^ i : Nat) : Int) := by rw [Int.natCast_pow]; rfl
      by_cases h0 : x < 0
      · rw [if_pos h0]
        have : x / 256 ^ i = -1 := by
          rw [hc]
          generalize (256 : Nat) ^ i = P at *
          have hP : (0 : Int) < (P : Int) := by omega
          exact Int.ediv_eq_neg_one_of_neg_of_le h0 (by omega)
        rw [this]; decide
      · rw [if_neg h0]
        have : x / 256 ^ i = 0 := by
          rw [hc]
          exact Int.ediv_eq_zero_of_lt (by omega) (by omega)
        rw [this]; decide
section
variable {prog : Program} {w : World} {M : Model} {A : Around} {E : Value → Shared → Prop} {s : Shared} {x : Int} {k : Nat} {t u v : Tok}
theorem bits_in (h0 : 0 ≤ x) (h1 : x < 256 ^ k) : Builtin.Int.intBits x ≤ 8 * k := by
  refine intBits_le_iff.mpr ?_
  rw [Nat.pow_mul, show (2 : Nat) ^ 8 = 256 by decide]
  rw [show ((256 : Int) ^ k) = ((256 ^ k : Nat) : Int) by rw [Int.natCast_pow]; rfl] at h1
  generalize (256 : Nat) ^ k = P at *
  omega
theorem to_bytes_u {Q : Value → Shared → Prop} (hk : k ≤ 16777216) (h0 : 0 ≤ x) (h1 : x < 256 ^ k) (h : ∀ t' tk', Q (.bytes (leb k x).toArray t') { s with toks := tk' }) :
    wpAny (model prog w) A (call (.builtin "int.to_bytes") [.int x t, .int (k : Int) u, .str (PySem.Str.ofString "little") v]) Q E s := by
  refine wpAny_call_entry KTBy.slot (typeIs_int s x t) KTBy.entry ?_ (KTBy.args _ _ _)
  have hb := bits_in h0 h1
  show wpAny _ _ (Builtin.Int.intOfSelf (.int x t) >>= fun y => _) _ _ s
  refine wpAny_bind (wpAny_of_eq (a := x) rfl ?_)
  show wpAny _ _ (Builtin.Int.intBindNamed "to_bytes" ["length", "byteorder", "signed"] 0 2 [.int (k : Int) u, .str (PySem.Str.ofString "little") v] [] >>= fun l => _) _ _ s
  refine wpAny_bind (wpAny_of_eq (a := [some (.int (k : Int) u), some (.str (PySem.Str.ofString "little") v), none]) (by kernel_rfl) ?_)
  show wpAny _ _ (Builtin.Int.intIndex "int.to_bytes" (.int (k : Int) u) >>= fun n => _) _ _ s
  refine wpAny_bind (wpAny_of_eq (a := (k : Int)) rfl ?_)
  refine KTBy.if_not (by show (decide ((k : Int) < -(2 ^ 63 : Int)) || decide ((k : Int) ≥ 2 ^ 63)) = false; rw [decide_eq_false (show ¬ ((k : Int) < -(2 ^ 63 : Int)) by omega), decide_eq_false (show ¬ ((k : Int) ≥ 2 ^ 63) by omega)]; rfl) ?_
  refine wpAny_bind (wpAny_of_eq (a := PySem.Str.ofString "little") (by kernel_rfl) ?_)
  refine wpAny_bind (wpAny_of_eq (a := false) rfl ?_)
  refine wpAny_bind (wpAny_of_eq (a := true) (by kernel_rfl) ?_)
  refine wpAny_ite_false (decide_eq_false (show ¬ ((k : Int) < 0) by omega)) ?_
  refine wpAny_ite_false (decide_eq_false (show ¬ ((k : Int) > 2 ^ 63 - 1 - 33) by omega)) ?_
  refine wpAny_ite_false (decide_eq_false (show ¬ ((k : Int) > (sizeLine : Int)) by rw [sizeLine_eq]; omega)) ?_
  refine KTBy.if_not (by show (decide (x < 0) && !false) = false; rw [decide_eq_false (show ¬ x < 0 by omega)]; rfl) ?_
  refine KTBy.if_not (by show (_ && decide ((Builtin.Int.intBits x : Int) > 8 * (k : Int))) = false; rw [decide_eq_false (show ¬ ((Builtin.Int.intBits x : Int) > 8 * (k : Int)) by omega), Bool.and_false]) ?_
  have e : KTBy.low x (Int.toNat (k : Int)) = leb k x := by rw [low_eq, Int.toNat_natCast]
  refine wpAny_bind (wpAny_mkBytes (wpAny_pure ⟨_, rfl, ?_⟩) (by show (KTBy.low x (Int.toNat (k : Int))).length ≤ sizeLine; rw [e, leb_length, sizeLine_eq]; omega))
  show Q (.bytes (KTBy.low x (Int.toNat (k : Int))).toArray _) _
  rw [e]
  exact h _ _
theorem args_kw (a b c : Value) (d : Value) : argsOk "int.to_bytes" ⟨[a, b, c], [(PySem.Str.ofString "signed", d)]⟩ := by unfold argsOk; kernel_rfl
theorem to_bytes_s {Q : Value → Shared → Prop} (hk : k + 1 ≤ 16777216) (h0 : -(128 * 256 ^ k) ≤ x) (h1 : x < 128 * 256 ^ k) (h : ∀ t' tk', Q (.bytes (leb (k + 1) x).toArray t') { s with toks := tk' }) :
    wpAny (model prog w) A (call (.builtin "int.to_bytes") [.int x t, .int ((k + 1 : Nat) : Int) u, .str (PySem.Str.ofString "little") v] [(PySem.Str.ofString "signed", .bool true)]) Q E s := by
  refine wpAny_call_entry_kw KTBy.slot (typeIs_int s x t) KTBy.entry ?_ (args_kw _ _ _ _)
  have hb : Builtin.Int.intBits (if x < 0 then -x - 1 else x) + 1 ≤ 8 * (k + 1) := by
    have : Builtin.Int.intBits (if x < 0 then -x - 1 else x) ≤ 8 * k + 7 := by
      refine intBits_le_iff.mpr ?_
      rw [Nat.pow_add, Nat.pow_mul, show (2 : Nat) ^ 8 = 256 by decide, show (2 : Nat) ^ 7 = 128 by decide]
      rw [show ((256 : Int) ^ k) = ((256 ^ k : Nat) : Int) by rw [Int.natCast_pow]; rfl] at h0 h1
      generalize (256 : Nat) ^ k = P at *
      split <;> omega
    omega
  show wpAny _ _ (Builtin.Int.intOfSelf (.int x t) >>= fun y => _) _ _ s
  refine wpAny_bind (wpAny_of_eq (a := x) rfl ?_)
  show wpAny _ _ (Builtin.Int.intBindNamed "to_bytes" ["length", "byteorder", "signed"] 0 2 [.int ((k + 1 : Nat) : Int) u, .str (PySem.Str.ofString "little") v] [(PySem.Str.ofString "signed", .bool true)] >>= fun l => _) _ _ s
  refine wpAny_bind (wpAny_of_eq (a := [some (.int ((k + 1 : Nat) : Int) u), some (.str (PySem.Str.ofString "little") v), some (.bool true)]) (by kernel_rfl) ?_)
  show wpAny _ _ (Builtin.Int.intIndex "int.to_bytes" (.int ((k + 1 : Nat) : Int) u) >>= fun n => _) _ _ s
  refine wpAny_bind (wpAny_of_eq (a := ((k + 1 : Nat) : Int)) rfl ?_)
  refine KTBy.if_not (by show (decide (((k + 1 : Nat) : Int) < -(2 ^ 63 : Int)) || decide (((k + 1 : Nat) : Int) ≥ 2 ^ 63)) = false; rw [decide_eq_false (show ¬ (((k + 1 : Nat) : Int) < -(2 ^ 63 : Int)) by omega), decide_eq_false (show ¬ (((k + 1 : Nat) : Int) ≥ 2 ^ 63) by omega)]; rfl) ?_
  refine wpAny_bind (wpAny_of_eq (a := PySem.Str.ofString "little") (by kernel_rfl) ?_)
  refine wpAny_bind (wpAny_of_eq (a := true) rfl ?_)
  refine wpAny_bind (wpAny_of_eq (a := true) (by kernel_rfl) ?_)
  refine wpAny_ite_false (decide_eq_false (show ¬ (((k + 1 : Nat) : Int) < 0) by omega)) ?_
  refine wpAny_ite_false (decide_eq_false (show ¬ (((k + 1 : Nat) : Int) > 2 ^ 63 - 1 - 33) by omega)) ?_
  refine wpAny_ite_false (decide_eq_false (show ¬ (((k + 1 : Nat) : Int) > (sizeLine : Int)) by rw [sizeLine_eq]; omega)) ?_
  refine KTBy.if_not (by show (decide (x < 0) && !true) = false; rw [Bool.not_true, Bool.and_false]) ?_
  refine KTBy.if_not (by show (_ && decide (((Builtin.Int.intBits (if x < 0 then -x - 1 else x) : Int) + 1) > 8 * ((k + 1 : Nat) : Int))) = false; rw [decide_eq_false (by omega), Bool.and_false]) ?_
  have e : KTBy.low x (Int.toNat ((k + 1 : Nat) : Int)) = leb (k + 1) x := by rw [low_eq, Int.toNat_natCast]
  refine wpAny_bind (wpAny_mkBytes (wpAny_pure ⟨_, rfl, ?_⟩) (by show (KTBy.low x (Int.toNat ((k + 1 : Nat) : Int))).length ≤ sizeLine; rw [e, leb_length, sizeLine_eq]; omega))
  show Q (.bytes (KTBy.low x (Int.toNat ((k + 1 : Nat) : Int))).toArray _) _
  rw [e]
  exact h _ _
theorem unle_fold : ∀ (l : List UInt8), l.reverse.foldl (fun (acc : Nat) (b : UInt8) => acc * 256 + b.toNat) 0 = unle l
  | [] => rfl
  | b :: r => by rw [List.reverse_cons, List.foldl_append, unle_fold r, unle]; simp only [List.foldl_cons, List.foldl_nil]; omega
theorem unle_lt : ∀ (l : List UInt8), unle l < 256 ^ l.length
  | [] => by decide
  | b :: r => by
    have := unle_lt r
    have hb := b.toNat_lt
    rw [unle, List.length_cons, Nat.pow_succ]
    omega
end
end Mine
end
section
namespace Mine
def sle (sg : Bool) (l : List UInt8) : Int := if sg && l.getLast?.any (· ≥ 128) then (unle l : Int) - 256 ^ l.length else (unle l : Int)
section
variable {prog : Program} {w : World} {M : Model} {A : Around} {E : Value → Shared → Prop} {s : Shared} {t u : Tok} {b : Array UInt8}
theorem grownI {z : Int} {Q : Value → Shared → Prop} (hn : z.natAbs < 2 ^ 134217728) (h : Q (.int z s.toks) { s with toks := s.toks + 1 }) : wpAny M A (mkIntGrown z) Q E s := by
  unfold mkIntGrown
  have hl : ¬ (z.natAbs.log2 ≥ bitsLine) := by
    have hb : bitsLine = 134217728 := by first | rfl | decide
    rw [hb]
    by_cases hz : z.natAbs = 0
    · rw [hz, Nat.log2_zero]; omega
    · have h1 := (Nat.log2_lt hz).mpr hn
      omega
  rw [if_neg hl]
  exact wpAny_mkInt h
set_option exponentiation.threshold 10 in
theorem sle_abs {sg : Bool} {l : List UInt8} (hl : l.length ≤ 16777215) : (sle sg l).natAbs < 2 ^ 134217728 := by
  have h := unle_lt l
  have h2 : 256 ^ l.length < 2 ^ 134217728 := by
    rw [show (256 : Nat) = 2 ^ 8 by decide, ← Nat.pow_mul]
    exact Nat.pow_lt_pow_right (by decide) (by omega)
  unfold sle
  rw [show ((256 : Int) ^ l.length) = ((256 ^ l.length : Nat) : Int) by rw [Int.natCast_pow]; rfl]
  generalize (256 : Nat) ^ l.length = P at *
  generalize (2 : Nat) ^ 134217728 = R at *
  split <;> omega
theorem tree_fb {sg : Option Bool} {kw : List (PySem.Str × Value)} {P : Fin → Shared → Prop} (hl : b.size ≤ 16777215)
    (hkw : kw = match sg with | none => [] | some g => [(PySem.Str.ofString "signed", .bool g)])
    (h : P (.done (.ret (.int (sle (sg.getD false) b.toList) s.toks))) { s with toks := s.toks + 1 }) :
    wpAny M A (Builtin.«int.from_bytes» ⟨[.type "int", .bytes b t, .str (PySem.Str.ofString "little") u], kw⟩) P E s := by
  unfold Builtin.«int.from_bytes»
  subst hkw
  cases sg with
  | none =>
    refine wpAny_bind (wpAny_of_eq (a := true) KFB.type_int ?_)
    refine KTBy.if_not rfl ?_
    refine wpAny_bind (wpAny_of_eq (a := true) F.conv_sub_int ?_)
    refine KTBy.if_not rfl ?_
    refine wpAny_bind (wpAny_of_eq (a := [some (.bytes b t), some (.str (PySem.Str.ofString "little") u), none]) (by kernel_rfl) ?_)
    refine wpAny_bind (wpAny_of_eq (a := PySem.Str.ofString "little") (by kernel_rfl) ?_)
    refine wpAny_bind (wpAny_of_eq (a := false) rfl ?_)
    refine wpAny_bind (wpAny_of_eq (a := true) (by kernel_rfl) ?_)
    refine wpAny_bind (wpAny_of_eq (a := b) rfl ?_)
    show wpAny _ _ (mkIntGrown (if (false && (b.toList.reverse.head?.any (· ≥ 128))) = true then b.toList.reverse.foldl (fun (acc : Int) (b : UInt8) => acc * 256 + (b.toNat : Int)) ((0 : Nat) : Int) - 256 ^ b.toList.reverse.length else b.toList.reverse.foldl (fun (acc : Int) (b : UInt8) => acc * 256 + (b.toNat : Int)) ((0 : Nat) : Int)) >>= fun v => _) _ _ _
    have e : (if (false && (b.toList.reverse.head?.any (· ≥ 128))) = true then b.toList.reverse.foldl (fun (acc : Int) (b : UInt8) => acc * 256 + (b.toNat : Int)) ((0 : Nat) : Int) - 256 ^ b.toList.reverse.length else b.toList.reverse.foldl (fun (acc : Int) (b : UInt8) => acc * 256 + (b.toNat : Int)) ((0 : Nat) : Int)) = sle (false) b.toList := by
      rw [KFB.foldI_eq, unle_fold, List.length_reverse, List.head?_reverse]
      rfl
    rw [e]
    refine wpAny_bind (grownI (sle_abs (by rw [Array.length_toList]; exact hl)) ?_)
    refine KFB.if_so (by decide +kernel) ?_
    exact wpAny_bind (wpAny_pure (wpAny_pure h))
  | some g =>
    refine wpAny_bind (wpAny_of_eq (a := true) KFB.type_int ?_)
    refine KTBy.if_not rfl ?_
    refine wpAny_bind (wpAny_of_eq (a := true) F.conv_sub_int ?_)
    refine KTBy.if_not rfl ?_
    refine wpAny_bind (wpAny_of_eq (a := [some (.bytes b t), some (.str (PySem.Str.ofString "little") u), some (.bool g)]) (by kernel_rfl) ?_)
    refine wpAny_bind (wpAny_of_eq (a := PySem.Str.ofString "little") (by kernel_rfl) ?_)
    refine wpAny_bind (wpAny_of_eq (a := g) rfl ?_)
    refine wpAny_bind (wpAny_of_eq (a := true) (by kernel_rfl) ?_)
    refine wpAny_bind (wpAny_of_eq (a := b) rfl ?_)
    show wpAny _ _ (mkIntGrown (if (g && (b.toList.reverse.head?.any (· ≥ 128))) = true then b.toList.reverse.foldl (fun (acc : Int) (b : UInt8) => acc * 256 + (b.toNat : Int)) ((0 : Nat) : Int) - 256 ^ b.toList.reverse.length else b.toList.reverse.foldl (fun (acc : Int) (b : UInt8) => acc * 256 + (b.toNat : Int)) ((0 : Nat) : Int)) >>= fun v => _) _ _ _
    have e : (if (g && (b.toList.reverse.head?.any (· ≥ 128))) = true then b.toList.reverse.foldl (fun (acc : Int) (b : UInt8) => acc * 256 + (b.toNat : Int)) ((0 : Nat) : Int) - 256 ^ b.toList.reverse.length else b.toList.reverse.foldl (fun (acc : Int) (b : UInt8) => acc * 256 + (b.toNat : Int)) ((0 : Nat) : Int)) = sle (g) b.toList := by
      rw [KFB.foldI_eq, unle_fold, List.length_reverse, List.head?_reverse]
      rfl
    rw [e]
    refine wpAny_bind (grownI (sle_abs (by rw [Array.length_toList]; exact hl)) ?_)
    refine KFB.if_so (by decide +kernel) ?_
    exact wpAny_bind (wpAny_pure (wpAny_pure h))
theorem check_fb {o : PySem.Str} {sg : Option Bool} : checkBoundCall "int.from_bytes" ⟨[.type "int", .bytes b t, .str o u], match sg with | none => [] | some g => [(PySem.Str.ofString "signed", .bool g)]⟩ = pure () := by cases sg <;> first | kernel_rfl | rfl
theorem from_bytes {x : Addr} {sg : Option Bool} {kw : List (PySem.Str × Value)} {Q : Value → Shared → Prop} (ho : KFB.StandsAt x s.heap) (hl : b.size ≤ 16777215)
    (hkw : kw = match sg with | none => [] | some g => [(PySem.Str.ofString "signed", .bool g)])
    (h : ∀ t' tk', Q (.int (sle (sg.getD false) b.toList) t') { s with toks := tk' }) : wpAny (model prog w) A (call (.ref x) [.bytes b t, .str (PySem.Str.ofString "little") u] kw) Q E s := by
  subst hkw
  refine wpAny_call (codeAny_of_tree ?_)
  show wpAny _ A.in1 (callAny (.ref x) ⟨[.bytes b t, .str (PySem.Str.ofString "little") u], _⟩) _ _ s
  simp only [callAny]
  refine wpAny_bind (wpAny_load ho ?_)
  simp only [KFB.bound, show (Value.type "builtin_function_or_method" == Value.type "method" || Value.type "builtin_function_or_method" == Value.type "builtin_function_or_method" || Value.type "builtin_function_or_method" == Value.type "method-wrapper") = true by decide, if_true]
  refine KFB.if_so (by decide) ?_
  refine wpAny_bind (wpAny_of_eq (a := ()) check_fb ?_)
  refine wpAny_bind (wpAny_pure (wpAny_pure ?_))
  exact ⟨KFB.quiet_fb, codeAny_builtin KFB.entry_fb (tree_fb hl rfl (h _ _))⟩
end
end Mine
end
section
namespace Mine
section
variable {M : Model} {A : Around} {E : Value → Shared → Prop} {s : Shared} {env : Env}
theorem callWith_kwM {pos : Pos} {id : String} {first : List Value} {e : Expr} {rest : List Expr} {k : Keyword} {kws : List Keyword} {Q : Value → Shared → Prop}
    (h : wpAny M A (spliced (backTo pos (starEach (e :: rest) env))) (fun vs s₁ => wpAny M A (evalAll ((backToKw pos (keywordEach (k :: kws) env)).map (·.2)))
      (fun kvs s₂ => wpAny M A (call (.builtin id) (first ++ vs) (((backToKw pos (keywordEach (k :: kws) env)).filterMap (·.1)).zip kvs)) Q E s₂) E s₁) E s)
    (he : backTo pos (starEach (e :: rest) env) = (false, eval e env) :: backTo pos (starEach rest env) := by rfl)
    (hplain : (backTo pos (starEach (e :: rest) env)).any (·.1) = false := by rfl)
    (hall : (backToKw pos (keywordEach (k :: kws) env)).all (·.1.isSome) = true := by rfl)
    (hkw : (backToKw pos (keywordEach (k :: kws) env)).any (·.1.isNone) = false := by rfl) :
    wpAny M A (callWith pos (.builtin id) first (backTo pos (starEach (e :: rest) env)) (backToKw pos (keywordEach (k :: kws) env))) Q E s := by
  refine callWith_builtin_kwB hplain hkw ?_
  rw [he] at h ⊢
  exact evalArgs_kwB hall h
theorem callWith_fbKw {pos : Pos} {u : Addr} {first : List Value} {e : Expr} {rest : List Expr} {k : Keyword} {kws : List Keyword} {Q : Value → Shared → Prop}
    (h : wpAny M A (spliced (backTo pos (starEach (e :: rest) env))) (fun vs s₁ => wpAny M A (evalAll ((backToKw pos (keywordEach (k :: kws) env)).map (·.2)))
      (fun kvs s₂ => KFB.StandsAt u s₂.heap ∧ wpAny M A (call (.ref u) (first ++ vs) (((backToKw pos (keywordEach (k :: kws) env)).filterMap (·.1)).zip kvs)) Q E s₂) E s₁) E s)
    (he : backTo pos (starEach (e :: rest) env) = (false, eval e env) :: backTo pos (starEach rest env) := by rfl)
    (hplain : (backTo pos (starEach (e :: rest) env)).any (·.1) = false := by rfl)
    (hall : (backToKw pos (keywordEach (k :: kws) env)).all (·.1.isSome) = true := by rfl)
    (hkw : (backToKw pos (keywordEach (k :: kws) env)).any (·.1.isNone) = false := by rfl) :
    wpAny M A (callWith pos (.ref u) first (backTo pos (starEach (e :: rest) env)) (backToKw pos (keywordEach (k :: kws) env))) Q E s := by
  unfold callWith
  have h' : wpAny M A (evalArgs (.ref u) true (backTo pos (starEach (e :: rest) env)) (backToKw pos (keywordEach (k :: kws) env))) (fun x s₁ => KFB.StandsAt u s₁.heap ∧ wpAny M A (call (.ref u) (first ++ x.pos) x.kw) Q E s₁) E s := by
    rw [he] at h ⊢
    exact evalArgs_kwB hall h
  refine wpAny_bind (wpAny_holding (wpAny_mono h' (fun x s₁ h₁ => wpAny_bind (wpAny_standAt ?_)) fun _ _ x => x))
  obtain ⟨ho, hcall⟩ := h₁
  simp only [hplain, hkw, Bool.or_false]
  refine wpAny_bind (m := keeperOf (.ref u)) ?_
  unfold keeperOf
  refine wpAny_bind (wpAny_load ho ?_)
  simp only [KFB.bound, show (Value.type "builtin_function_or_method" != Value.type "method") = true by decide, show (Value.type "builtin_function_or_method" == Value.type "builtin_function_or_method" || Value.type "builtin_function_or_method" == Value.type "method-wrapper") = true by decide, if_true]
  refine wpAny_pure ?_
  exact wpAny_bind (wpAny_mono hcall (fun r s₂ hr => wpAny_bind (wpAny_holding (wpAny_point (wpAny_pure hr)))) fun _ _ x => x)
end
section
variable {prog : Program} {w : World} {A : Around} {E : Value → Shared → Prop} {s : Shared} {value slice : PySem.Expr} {b : Array UInt8} {t : Tok} {h₀ : Heap} {L : Addr} {m : PySem.Str → Option Value} {news : List (Addr × Obj)} {l u : Value} {lo hi : Option Int} {Q : Value → Shared → Prop}
theorem slice_B (hF : Fr h₀ L s.heap m) (hN : News h₀ L s.heap news) (hl : IsPart l lo) (hu : IsPart u hi) (hz : b.size ≤ 16777216)
    (h : ∀ h' t' k, Fr h₀ L h' m → News h₀ L h' news → Q (.bytes (KBy.picked b lo hi) t') { s with heap := h', toks := k })
    (hs : subscripted slice false (.bytes b t) (.ref s.heap.objs.size) = operate [.ref s.heap.objs.size, .bytes b t] (getItem (.bytes b t) (.ref s.heap.objs.size)) := by with_unfolding_all rfl)
    (ht : ∀ r, letTemporaryGo value (.bytes b t) r = pure () := by intro _; with_unfolding_all rfl) :
    wpAny (model prog w) A (subscriptTail value slice (.bytes b t) (.ref s.heap.objs.size)) Q E { s with heap := s.heap.push { cls := .type "slice", data := .fields #[l, u, .none] } } :=
  tail_of_ItemOn ⟨"bytes", _, FB.slot_bytes_getitem.lookup, typeIs_bytes _ _ _, getItem_meets (typeIs_bytes _ _ _) (by decide) FB.slot_bytes_getitem FB.entry_bytes_getitem (FB.args_bytes_getitem_2 _ _) (KBc.meets_slice2 b t _ hl hu)
    ⟨Heap.IsSliceOf.new _ _ _ _, Nat.le_trans (KBc.size_picked_le b lo hi) (by rw [sizeLine_eq]; exact hz), fun t' k => h _ _ _ (hF.push _) (News.pushKeep hN _)⟩⟩ hs ht
end
theorem all_ne_of {d : Addr} {l : List (Addr × Obj)} (h : AllLt d l) : ∀ p ∈ l, p.1 ≠ d := by
  induction l with
  | nil => exact List.forall_mem_nil _
  | cons x r ih => exact List.forall_mem_cons.mpr ⟨Nat.ne_of_lt h.1, ih h.2⟩
theorem sub_cons {a : Addr × Obj} {l src : List (Addr × Obj)} (h1 : a ∈ src) (h2 : ∀ p ∈ l, p ∈ src) : ∀ p ∈ a :: l, p ∈ src := fun p hp => by
  rcases List.mem_cons.mp hp with rfl | hp
  · exact h1
  · exact h2 p hp
end Mine
end
section
namespace Mine
section
variable {M : Model} {A : Around} {E : Value → Shared → Prop} {env : Env}
theorem wp_append {Γ : PySem.Ctx} {l2 : List Stmt} {Q : Flow → Pos → Shared → Prop} {E : Value → Pos → Shared → Prop} : ∀ {l1 : List Stmt} {p : Pos} {s : Shared}, Sem.wp M Γ (execs l1 env) (fun fl p s' => match fl with | .next => Sem.wp M Γ (execs l2 env) Q E p s' | f => Q f p s') E p s → Sem.wp M Γ (execs (l1 ++ l2) env) Q E p s
  | [], p, s, h => h
  | st :: l1, p, s, h => by
    rw [execs_cons, Sem.wp_bind'] at h
    rw [List.cons_append, execs_cons, Sem.wp_bind']
    refine Sem.wp_mono M Γ _ (fun f p' s' h' => ?_) (fun _ _ _ h' => h') _ _ h
    cases f with
    | next => exact wp_append h'
    | brk => exact h'
    | cont => exact h'
    | ret v => exact h'
theorem execs_cut {l1 l2 : List Stmt} {s : Shared} {Q : Flow → Shared → Prop} (h : wpAny M A (execs l1 env) (fun fl s' => match fl with | .next => wpAny M A (execs l2 env) Q E s' | f => Q f s') E s) : wpAny M A (execs (l1 ++ l2) env) Q E s := fun Γ p hΓ =>
  wp_append (Q := fun f _ s' => Q f s') (E := fun e _ s' => E e s') (Sem.wp_mono M Γ _ (fun f p' s' h' => by cases f <;> first | exact h' Γ p' hΓ | exact h') (fun _ _ _ h' => h') _ _ (h Γ p hΓ))
theorem execs_seg {l1 l2 : List Stmt} {s : Shared} {Q : Flow → Shared → Prop} (P : Shared → Prop) (h : wpAny M A (execs l1 env) (fun fl s' => (fl = .next ∧ P s') ∨ (fl ≠ .next ∧ Q fl s')) E s) (h2 : ∀ s', P s' → wpAny M A (execs l2 env) Q E s') : wpAny M A (execs (l1 ++ l2) env) Q E s :=
  execs_cut (wpAny_mono h (fun fl s' h' => by
    rcases h' with ⟨rfl, hp⟩ | ⟨hn, hq⟩
    · exact h2 s' hp
    · cases fl <;> first | exact absurd rfl hn | exact hq) fun _ _ x => x)
end
def Held (P : Prop) : Prop := P
theorem execs_hold {M : Model} {A : Around} {E : Value → Shared → Prop} {env : Env} {l1 l2 : List Stmt} {s : Shared} {Q : Flow → Shared → Prop} (h : wpAny M A (execs l1 env) (fun fl s' => match fl with | .next => Held (wpAny M A (execs l2 env) Q E s') | f => Q f s') E s) : wpAny M A (execs (l1 ++ l2) env) Q E s := execs_cut h
end Mine
end
section
namespace Mine
section
variable {prog : Program} {w : World} {M : Model} {A : Around} {E : Value → Shared → Prop} {s : Shared}
theorem item_lst {value slice : PySem.Expr} {l : Addr} {ys : List Value} {ms : List Int} {k : Int} {u : Tok} {Q : Value → Shared → Prop} (hl : s.heap.IsList l ys.toArray) (hY : IntsAre ys ms)
    (h0 : 0 ≤ k) (h1 : k < ms.length) (hz : ms.length ≤ 1000000) (h : ∀ t, Q (.int (ms.getD k.toNat 0) t) s)
    (hs : subscripted slice false (.ref l) (.int k u) = operate [.ref l, .int k u] (getItem (.ref l) (.int k u)) := by with_unfolding_all rfl) :
    wpAny (model prog w) A (subscriptTail value slice (.ref l) (.int k u)) Q E s := by
  have hlen := hY.length
  have hk : k.toNat < ys.length := by omega
  obtain ⟨n, t, hx, hn⟩ := IntsAre.at hY k.toNat (ys[k.toNat]'hk) (List.getElem?_eq_getElem hk)
  refine tail_any hl.typeIs slot_list_getitem.lookup (wpAny_getItem_list hl h0 (by omega) (x := .int (ms.getD k.toNat 0) t) ?_ (h t)) hs
  simp only [List.getElem?_toArray]
  rw [List.getElem?_eq_getElem hk, hx, List.getD_eq_getElem?_getD, hn]
  rfl
end
end Mine
end
section
namespace Mine
theorem RaisedN.sub {base : Heap} {l : List Env} {e : Addr} {cls : Value} {news news' : List (Addr × Obj)} {h : Heap} (x : RaisedN base l e cls news h) (hs : ∀ p ∈ news', p ∈ news) : RaisedN base l e cls news' h := by
  obtain ⟨B, a0, h1, h2, h3⟩ := x
  exact ⟨B, a0, h1, fun q hq => h2 q (hs q hq), h3⟩
section
variable {prog : Program} {w : World} {A : Around} {E : Value → Shared → Prop} {s : Shared} {h₀ : Heap} {L : Addr} {m : Str → Option Value} {news : List (Addr × Obj)}
theorem bytes_L {l : Addr} {vs : List Value} {ns : List Int} {Q : Value → Shared → Prop} (F : Fr h₀ L s.heap m) (N : News h₀ L s.heap news) (hh : A.handled = none) (hl : s.heap.IsList l vs.toArray) (hi : IntsAre vs ns) (hr : ∀ n ∈ ns, 0 ≤ n ∧ n < 256) (hz : ns.length ≤ 16777216)
    (hQ : ∀ h' t k, Fr h₀ L h' m → News h₀ L h' news → Q (.bytes (byteArr ns) t) { s with heap := h', toks := k }) : wpAny (model prog w) A (call (.type "bytes") [.ref l]) Q E s :=
  call_bytes_ints hl hi hr (by rw [hi.length, sizeLine_eq]; exact hz) hh fun h' t k hk => hQ h' t k (F.keeps hk) fun p hp => ⟨hk _ _ (N p hp).1, (N p hp).2⟩
end
theorem fmod256 (n : Int) : 0 ≤ n.fmod 256 ∧ n.fmod 256 < 256 := by rw [Int.fmod_eq_emod_of_nonneg n (by decide)]; omega
theorem in_map256 {l : List Int} : ∀ n ∈ l.map (fun n => n.fmod 256), 0 ≤ n ∧ n < 256 := by
  intro n hn
  obtain ⟨x, _, rfl⟩ := List.mem_map.mp hn
  exact fmod256 x
theorem st8 {pre ms : List Int} {n : Int} (h : ms = pre.map (fun n => n.fmod 256)) (_ : ms.length = pre.length) (h0 : ∀ n ∈ pre, -128 ≤ n ∧ n ≤ 127) (h1 : -128 ≤ n) (h2 : n ≤ 127) :
  ms ++ [n.fmod 256] = (pre ++ [n]).map (fun n => n.fmod 256) ∧ (ms ++ [n.fmod 256]).length = (pre ++ [n]).length ∧ ∀ n' ∈ pre ++ [n], -128 ≤ n' ∧ n' ≤ 127 := by
  subst h
  refine ⟨by simp, by simp, fun x hx => ?_⟩
  rcases List.mem_append.mp hx with hx | hx
  · exact h0 x hx
  · rw [List.mem_singleton.mp hx]; exact ⟨h1, h2⟩
theorem stB {pre ms : List Int} {n : Int} (h : ms = pre.map (fun n => n)) (_ : ms.length = pre.length) (h0 : ∀ n ∈ pre, 0 ≤ n ∧ n ≤ 255) (h1 : 0 ≤ n) (h2 : n ≤ 255) :
  ms ++ [n] = (pre ++ [n]).map (fun n => n) ∧ (ms ++ [n]).length = (pre ++ [n]).length ∧ ∀ n' ∈ pre ++ [n], 0 ≤ n' ∧ n' ≤ 255 := by
  subst h
  refine ⟨by simp, by simp, fun x hx => ?_⟩
  rcases List.mem_append.mp hx with hx | hx
  · exact h0 x hx
  · rw [List.mem_singleton.mp hx]; exact ⟨h1, h2⟩
theorem in_255 {l : List Int} (h : ∀ n ∈ l, 0 ≤ n ∧ n ≤ 255) : ∀ n ∈ l, 0 ≤ n ∧ n < 256 := fun n hn => ⟨(h n hn).1, by have := (h n hn).2; omega⟩
end Mine
end
section
namespace Mine
open PySem.SeqAt
section
variable {A : Around} {s : Shared}
theorem ea_bytes (b c : Array UInt8) (t u : Tok) : EqAt A s (.bytes b t) (.bytes c u) (decide (b = c)) := fun prog w E Q h => eqBool_bytes (by
  rw [show decide (b.toList = c.toList) = decide (b = c) by rw [Bool.eq_iff_iff]; simp]; exact h)
theorem ea_int (a b : Int) (t u : Tok) : EqAt A s (.int a t) (.int b u) (a == b) := (MeetsSeq.EqGives.int a b t u).at A s
theorem ea_str (a b : Str) (t u : Tok) : EqAt A s (.str a t) (.str b u) (a == b) := (eqGives_str a b t u).at A s
theorem ea_rc {y x : Value} {k : Bool} (hf : ∀ b t, y ≠ .float b t) (hne : (y == x) = false) (h : RcAt A s y x k) : EqAt A s y x k := fun prog w E Q hq => by
  unfold eqBool
  refine wpAny_holding ?_
  refine wpAny_ite_split (fun hab => absurd hab (by rw [hne]; decide)) (fun _ => ?_)
  cases y <;> first | exact absurd rfl (hf _ _) | exact wpAny_bind (h prog w E _ (wpAny_truthy_bool hq))
theorem ea_str_tup {l : Addr} {items : Array Value} (b : Str) (u : Tok) (hl : s.heap.IsTuple l items) (hu : A.units < cLine) : EqAt A s (.str b u) (.ref l) false := ea_rc (by intros; simp) (by rfl) (RcAt.str_tuple b u hl hu)
theorem ea_tup_str {l : Addr} {items : Array Value} (b : Str) (u : Tok) (hl : s.heap.IsTuple l items) (hu : A.units < cLine) : EqAt A s (.ref l) (.str b u) false := ea_rc (by intros; simp) (by rfl) (RcAt.tuple_str b u hl hu)
inductive EqAll (A : Around) (s : Shared) : List Value → List Value → List Bool → Prop
  | nil : EqAll A s [] [] []
  | cons {x y : Value} {b : Bool} {xs ys : List Value} {bs : List Bool} : EqAt A s x y b → EqAll A s xs ys bs → EqAll A s (x :: xs) (y :: ys) (b :: bs)
theorem EqAll.len {xs ys : List Value} {bs : List Bool} (h : EqAll A s xs ys bs) : xs.length = ys.length ∧ bs.length = xs.length := by
  induction h with
  | nil => exact ⟨rfl, rfl⟩
  | cons _ _ ih => simp [ih.1, ih.2]
theorem EqAll.at {xs ys : List Value} {bs : List Bool} (h : EqAll A s xs ys bs) : ∀ (j : Nat) (h1 : j < xs.length) (h2 : j < ys.length), EqAt A s xs[j] ys[j] (bs.getD j true) := by
  induction h with
  | nil => intro j h1; exact absurd h1 (Nat.not_lt_zero _)
  | cons h0 _ ih =>
    intro j h1 h2
    cases j with
    | zero => exact h0
    | succ j => simpa using ih j (by simpa using h1) (by simpa using h2)
theorem all_getD (bs : List Bool) : ∀ n, n = bs.length → (List.range n).all (fun j => bs.getD j true) = bs.all id := by
  intro n hn
  rw [Bool.eq_iff_iff, List.all_eq_true, List.all_eq_true]
  constructor
  · intro h x hx
    obtain ⟨j, hj, rfl⟩ := List.mem_iff_getElem.mp hx
    have := h j (List.mem_range.mpr (by omega))
    rw [List.getD_eq_getElem?_getD, List.getElem?_eq_getElem hj] at this
    exact this
  · intro h j hj
    have hj := List.mem_range.mp hj
    rw [List.getD_eq_getElem?_getD, List.getElem?_eq_getElem (by omega)]
    exact h _ (List.getElem_mem _)
theorem isTup_of {h₀ h : Heap} {L l : Addr} {news : List (Addr × Obj)} {items : Array Value} {n : Nat} (N : News h₀ L h news) (hm : (l, { cls := .type "tuple", data := .seq items n }) ∈ news) : h.IsTuple l items := ⟨_, N.get hm, rfl, n, rfl⟩
theorem rc_tups {l b : Addr} {xs ys : List Value} {bs : List Bool} (hl : s.heap.IsTuple l xs.toArray) (hb : s.heap.IsTuple b ys.toArray) (hu : A.units < cLine) (h : EqAll A.in1 s xs ys bs) : RcAt A s (.ref l) (.ref b) (bs.all id) := fun prog w E Q hq =>
  RcAt.tuples (e := fun j => bs.getD j true) hl hb hu (fun j h1 h2 => by
    have := h.at j (by simpa using h1) (by simpa using h2)
    simpa using this) prog w E Q (by
    have e1 := h.len
    rw [show ((List.range (min xs.toArray.size ys.toArray.size)).all (fun j => bs.getD j true) && xs.toArray.size == ys.toArray.size) = bs.all id by
      rw [all_getD bs _ (by simp [e1.1, e1.2])]
      simp [e1.1]]
    exact hq)
theorem ea_tups {l b : Addr} {xs ys : List Value} {bs : List Bool} (hne : l ≠ b) (hl : s.heap.IsTuple l xs.toArray) (hb : s.heap.IsTuple b ys.toArray) (hu : A.units < cLine) (h : EqAll A.in1 s xs ys bs) : EqAt A s (.ref l) (.ref b) (bs.all id) := EqAt.of_refs hne (rc_tups hl hb hu h)
end
section
variable {prog : Program} {w : World} {A : Around} {E : Value → Shared → Prop} {s : Shared} {Q : Value → Shared → Prop}
theorem eq_tupsL {l b : Addr} {xs ys : List Value} {bs : List Bool} (hl : s.heap.IsTuple l xs.toArray) (hb : s.heap.IsTuple b ys.toArray) (hu : A.units < cLine) (h : EqAll A.in1 s xs ys bs) (hq : Q (.bool (bs.all id)) s) : wpAny (model prog w) A (compareOp .Eq (.ref l) (.ref b)) Q E s := rc_tups hl hb hu h prog w E Q hq
theorem ne_tupsL {l b : Addr} {xs ys : List Value} {bs : List Bool} (hl : s.heap.IsTuple l xs.toArray) (hb : s.heap.IsTuple b ys.toArray) (hu : A.units < cLine) (h : EqAll A.in1 s xs ys bs) (hq : Q (.bool (!(bs.all id))) s) : wpAny (model prog w) A (compareOp .NotEq (.ref l) (.ref b)) Q E s :=
  RcNeAt.tuples (e := fun j => bs.getD j true) hl hb hu (fun j h1 h2 => by
    have := h.at j (by simpa using h1) (by simpa using h2)
    simpa using this) prog w E Q (by
    have e1 := h.len
    rw [show (!((List.range (min xs.toArray.size ys.toArray.size)).all (fun j => bs.getD j true) && xs.toArray.size == ys.toArray.size)) = !(bs.all id) by
      rw [all_getD bs _ (by simp [e1.1, e1.2])]
      simp [e1.1]]
    exact hq)
theorem ne_listsL {l b : Addr} {xs ys : List Value} {bs : List Bool} (hl : s.heap.IsList l xs.toArray) (hb : s.heap.IsList b ys.toArray) (hu : A.units < cLine) (h : EqAll A.in1 s xs ys bs) (hq : Q (.bool (!(bs.all id))) s) : wpAny (model prog w) A (compareOp .NotEq (.ref l) (.ref b)) Q E s :=
  RcNeAt.lists (e := fun j => bs.getD j true) hl hb (by simp [h.len.1]) hu (fun j h1 h2 => by
    have := h.at j (by simpa using h1) (by simpa using h2)
    simpa using this) prog w E Q (by
    have e1 := h.len
    rw [show (!((List.range xs.toArray.size).all (fun j => bs.getD j true))) = !(bs.all id) by
      rw [all_getD bs _ (by simp [e1.2])]]
    exact hq)
def isB (b : Array UInt8) : Value → Bool
  | .bytes c _ => decide (c = b)
  | _ => false
def bytesAll (items : List Value) : Bool := items.all fun | .bytes _ _ => true | _ => false
theorem ea_isB {items : List Value} (h : bytesAll items = true) (b : Array UInt8) (t : Tok) {A : Around} : ∀ y, y ∈ items.toArray → EqAt A s y (.bytes b t) (isB b y) := by
  intro y hy
  have h1 := (List.all_eq_true.mp h) y (by simpa using hy)
  cases y <;> simp_all
  exact ea_bytes _ _ _ _
theorem notin_bytes {v : Bool} {l : Addr} {items : List Value} {b : Array UInt8} {t : Tok} (hl : s.heap.IsTuple l items.toArray) (h : bytesAll items = true) (he : (!items.any (isB b)) = v) (hq : Q (.bool v) s) : wpAny (model prog w) A (compareOp .NotIn (.bytes b t) (.ref l)) Q E s :=
  notIn_tupleAt (isB b) hl (ea_isB h b t) (by rw [show items.toArray.any (isB b) = items.any (isB b) by simp, he]; exact hq)
end
end Mine
end
section
namespace Mine
def octs (ms : List Int) : Array UInt8 := byteArr (ms.map fun n => n.fmod 256)
theorem octs_size {ms : List Int} : (octs ms).size = ms.length := by unfold octs; rw [byteArr_size, List.length_map]
theorem map_fmod_id {l : List Int} (h : ∀ n ∈ l, 0 ≤ n ∧ n ≤ 255) : l.map (fun n => n.fmod 256) = l := by
  induction l with
  | nil => rfl
  | cons x r ih =>
    have hx := h x (.head _)
    rw [List.map_cons, ih fun n hn => h n (.tail _ hn), Int.fmod_eq_emod_of_nonneg x (by decide), Int.emod_eq_of_lt hx.1 (by omega)]
def Good (b : Bool) (p : Int) (ms : List Int) : Prop :=
  if b then ((∀ n ∈ ms, 0 ≤ n ∧ n ≤ 255) ∧ p ≤ 7 ∧ (p ≠ 0 → ms ≠ [] ∧ (ms.getD (ms.length - 1) 0) % 2 ^ p.toNat = 0)) else ((∀ n ∈ ms, -128 ≤ n ∧ n ≤ 127) ∧ p = 0)
theorem news_dup {h₀ h : Heap} {L : Addr} {news : List (Addr × Obj)} {x : Addr × Obj} (N : News h₀ L h news) (h1 : x ∈ news) : News h₀ L h (x :: news) := List.forall_mem_cons.mpr ⟨N _ h1, N⟩
theorem news_undup {h₀ h : Heap} {L : Addr} {news : List (Addr × Obj)} {x : Addr × Obj} (N : News h₀ L h (x :: news)) : News h₀ L h news := fun p hp => N p (.tail _ hp)
theorem raisedN_undup {base : Heap} {l : List Env} {e : Addr} {cls : Value} {news : List (Addr × Obj)} {h : Heap} {x : Addr × Obj} (R : RaisedN base l e cls (x :: news) h) : RaisedN base l e cls news h := RaisedN.sub R fun _ hp => .tail _ hp
theorem has_bytes : typeLookup (.type "bytes") "__bytes__" = pure (some (.builtin "bytes.__bytes__")) := by rw [typeLookup_type, builtinLookup_eq_fast]; kernel_rfl
inductive IsLow (v x : Int) (k : Nat) : Prop
  | mk : v = x % 2 ^ k → IsLow v x k
section
variable {prog : Program} {w : World} {A : Around} {E : Value → Shared → Prop} {s : Shared} {h₀ : Heap} {L : Addr} {m : Str → Option Value} {news : List (Addr × Obj)}
theorem new_id {b : Array UInt8} {t : Tok} {Q : Value → Shared → Prop} (hQ : Q (.bytes b t) s) :
    codeAny (model prog w) A (.call (.builtin "bytes.__new__") ⟨[.type "bytes", .bytes b t], []⟩) (wants Q E) s := by
  refine codeAny_of_tree ?_
  show wpAny _ A.in1 (do checkBuiltinCall "bytes.__new__" ⟨[.type "bytes", .bytes b t], []⟩; again (.builtin "bytes.__new__" ⟨[.type "bytes", .bytes b t], []⟩)) _ _ s
  refine wpAny_bind (wpAny_of_eq (F.bm_newCall _) (wpAny_pure ⟨plainId_quiet F.bm_plain _, codeAny_builtin F.bm_entry ?_⟩))
  rw [Around.under_plainId F.bm_plain _]
  have hT : s.TypeIs (.bytes b t) "bytes" := PySem.W.typeIs_bytes _ _ _
  unfold Builtin.«bytes.__new__»
  refine wpAny_bind (wpAny_of_eq (a := true) rfl ?_)
  refine bm_if_false rfl ?_
  refine wpAny_bind (wpAny_of_eq F.bm_sub ?_)
  refine bm_if_false rfl ?_
  refine wpAny_bind (wpAny_of_eq (F.bm_bind _) ?_)
  refine wpAny_bind (wpAny_of_eq (a := ()) rfl ?_)
  refine wpAny_bind (wpAny_of_eq (a := ()) rfl ?_)
  refine bm_if_false rfl ?_
  refine wpAny_bind (wpAny_specialOf hT has_bytes ?_)
  refine wpAny_bind (wpAny_rule ?_)
  refine wpAny_bind (wpAny_of_eq (a := .type "bytes") rfl ?_)
  refine bm_if_true (by decide) ?_
  show wpAny _ _ (if (Value.type "bytes" == Value.type "bytes") = true then _ else _) _ _ _
  refine bm_if_true (by decide) ?_
  first
    | exact wpAny_pure hQ
    | exact wpAny_bind (wpAny_pure (wpAny_pure hQ))
theorem bytes_id {b : Array UInt8} {t : Tok} {Q : Value → Shared → Prop} (hQ : Q (.bytes b t) s) : wpAny (model prog w) A (call (.type "bytes") [.bytes b t]) Q E s := by
  refine callType_codes (Q₁ := fun obj s₁ => s₁.TypeIs obj "bytes" ∧ Q obj s₁) F.bm_called (F.bm_typeCall _) F.entry_object_init
    (new_id ⟨PySem.W.typeIs_bytes _ _ _, hQ⟩) fun obj s₁ h₁ => ?_
  exact ⟨h₁.1, F.args_object_init_2 obj _, object_init_meets F.bm_called.init.lookup F.bm_called.made (by decide) prog w A.in1 _ s₁ ⟨h₁.1, rfl, h₁.2⟩⟩
theorem and_lowT {x : Int} {k : Nat} {t u : Tok} {Q : Value → Shared → Prop} (hx : 0 ≤ x) (h : ∀ v t' tk', IsLow v x k → Q (.int v t') { s with toks := tk' }) :
    wpAny (model prog w) A (binaryOp .BitAnd (.int x t) (.int (1 * 2 ^ k - 1) u)) Q E s := by
  refine and_int ?_
  have e : Builtin.bitAnd x (1 * 2 ^ k - 1) = x % 2 ^ k := by
    have hp : (1 : Int) * 2 ^ k - 1 = ((2 ^ k - 1 : Nat) : Int) := by
      have : 1 ≤ 2 ^ k := Nat.one_le_two_pow
      rw [Int.natCast_sub this, Int.natCast_pow]; simp
    rw [hp, bitAnd_pp hx (Int.natCast_nonneg _), Int.toNat_natCast, Nat.and_two_pow_sub_one_eq_mod, Int.natCast_emod, Int.natCast_pow, Int.toNat_of_nonneg hx]
    rfl
  rw [e]
  exact h _ _ _ (.mk rfl)
def lastO (b : Array UInt8) : Int := (KBw.bInts b).getD (b.size - 1) 0
theorem last_octet {value slice : PySem.Expr} {b : Array UInt8} {t u : Tok} {Q : Value → Shared → Prop} (h0 : 0 < b.size) (hz : b.size ≤ 16777216) (h : ∀ v t' tk', v = lastO b → 0 ≤ v → v < 256 → Q (.int v t') { s with toks := tk' })
    (hs : subscripted slice false (.bytes b t) (.int (-1) u) = operate [.bytes b t, .int (-1) u] (getItem (.bytes b t) (.int (-1) u)) := by with_unfolding_all rfl)
    (ht : ∀ r, letTemporaryGo value (.bytes b t) r = pure () := by intro _; with_unfolding_all rfl) :
    wpAny (model prog w) A (subscriptTail value slice (.bytes b t) (.int (-1) u)) Q E s := by
  have e : (-1 + ((KBw.bInts b).length : Int)).toNat = b.size - 1 := by rw [KBw.ints_length]; omega
  refine KBc.itemR_K (ks := KBw.bInts b) rfl (by rw [KBw.ints_length]; omega) (by rw [KBw.ints_length]; omega) (by decide) (fun t' k h1 h2 => ?_) hs ht
  rw [e] at h1 h2 ⊢
  exact h _ _ _ rfl h1 h2
end
theorem octs_last {ms : List Int} (h : 0 < ms.length) : lastO (octs ms) = (ms.getD (ms.length - 1) 0) % 256 := by
  unfold lastO
  rw [octs_size]
  have h1 : ms.length - 1 < ms.length := by omega
  unfold octs byteArr KBw.bInts
  simp only [List.map_map, List.getD_eq_getElem?_getD, List.getElem?_map, List.getElem?_eq_getElem h1, Option.map_some, Option.getD_some, Function.comp]
  have h3 : ((ms[ms.length - 1]'h1).fmod 256).toNat < 256 := by have := fmod256 (ms[ms.length - 1]'h1); omega
  show (((UInt8.ofNat ((ms[ms.length - 1]'h1).fmod 256).toNat).toNat : Nat) : Int) = _
  rw [UInt8.toNat_ofNat', Nat.mod_eq_of_lt (by simpa using h3), Int.fmod_eq_emod_of_nonneg _ (by decide)]
  omega
theorem goodT {p : Int} {ms : List Int} : Good true p ms ↔ ((∀ n ∈ ms, 0 ≤ n ∧ n ≤ 255) ∧ p ≤ 7 ∧ (p ≠ 0 → ms ≠ [] ∧ (ms.getD (ms.length - 1) 0) % 2 ^ p.toNat = 0)) := by simp [Good]
theorem goodF {p : Int} {ms : List Int} : Good false p ms ↔ ((∀ n ∈ ms, -128 ≤ n ∧ n ≤ 127) ∧ p = 0) := by simp [Good]
def vecB (k : UInt8) (p : Int) (ms : List Int) : Array UInt8 := #[k] ++ #[p.toNat.toUInt8] ++ octs ms
theorem last_low {ms : List Int} {v : Int} {k : Nat} (hr : ∀ n ∈ ms, 0 ≤ n ∧ n ≤ 255) (h0 : ms ≠ []) (h : IsLow v (lastO (octs ms)) k) : v = (ms.getD (ms.length - 1) 0) % 2 ^ k := by
  obtain ⟨h⟩ := h
  have hl : 0 < ms.length := List.length_pos_iff.mpr h0
  have h1 : ms.length - 1 < ms.length := by omega
  have hx := hr (ms[ms.length - 1]'h1) (List.getElem_mem _)
  rw [h, octs_last hl]
  rw [List.getD_eq_getElem?_getD, List.getElem?_eq_getElem h1]
  show ((ms[ms.length - 1]'h1) % 256) % 2 ^ k = (ms[ms.length - 1]'h1) % 2 ^ k
  rw [Int.emod_eq_of_lt hx.1 (by omega)]
theorem news_dup3 {h₀ h : Heap} {L : Addr} {news : List (Addr × Obj)} {x y z : Addr × Obj} (N : News h₀ L h news) (h1 : x ∈ news) (h2 : y ∈ news) (h3 : z ∈ news) : News h₀ L h (x :: y :: z :: news) := news_dup (news_dup (news_dup N h3) (.tail _ h2)) (.tail _ (.tail _ h1))
theorem news_undup3 {h₀ h : Heap} {L : Addr} {news : List (Addr × Obj)} {x y z : Addr × Obj} (N : News h₀ L h (x :: y :: z :: news)) : News h₀ L h news := news_undup (news_undup (news_undup N))
theorem raisedN_undup3 {base : Heap} {l : List Env} {e : Addr} {cls : Value} {news : List (Addr × Obj)} {h : Heap} {x y z : Addr × Obj} (R : RaisedN base l e cls (x :: y :: z :: news) h) : RaisedN base l e cls news h := raisedN_undup (raisedN_undup (raisedN_undup R))
theorem news_und2 {h₀ h : Heap} {L : Addr} {news : List (Addr × Obj)} {a b x : Addr × Obj} (N : News h₀ L h (a :: b :: x :: news)) : News h₀ L h (a :: b :: news) := List.forall_mem_cons.mpr ⟨N _ (.head _), List.forall_mem_cons.mpr ⟨N _ (.tail _ (.head _)), fun p hp => N p (.tail _ (.tail _ (.tail _ hp)))⟩⟩
theorem news_und23 {h₀ h : Heap} {L : Addr} {news : List (Addr × Obj)} {a b x y z : Addr × Obj} (N : News h₀ L h (a :: b :: x :: y :: z :: news)) : News h₀ L h (a :: b :: news) := news_und2 (news_und2 (news_und2 N))
end Mine
end
section
namespace Mine
theorem raisedSN_sub {base G : Heap} {l : List Env} {e : Addr} {cls : Value} {news news' : List (Addr × Obj)} {h : Heap} (x : RaisedSN base G l e cls news h) (hs : ∀ p ∈ news', p ∈ news) : RaisedSN base G l e cls news' h := by
  obtain ⟨B, a0, h1, h2, h3, h4⟩ := x
  exact ⟨B, a0, h1, h2, fun q hq => h3 q (hs q hq), h4⟩
theorem raisedSN_undup {base G : Heap} {l : List Env} {e : Addr} {cls : Value} {news : List (Addr × Obj)} {h : Heap} {x : Addr × Obj} (R : RaisedSN base G l e cls (x :: news) h) : RaisedSN base G l e cls news h := raisedSN_sub R fun _ hp => .tail _ hp
theorem raisedSN_undup3 {base G : Heap} {l : List Env} {e : Addr} {cls : Value} {news : List (Addr × Obj)} {h : Heap} {x y z : Addr × Obj} (R : RaisedSN base G l e cls (x :: y :: z :: news) h) : RaisedSN base G l e cls news h := raisedSN_undup (raisedSN_undup (raisedSN_undup R))
section
variable {prog : Program} {w : World} {A₀ A : Around} {s : Shared} {base h₀ : Heap} {env : Env} {L : Addr} {m : Str → Option Value} {news : List (Addr × Obj)} {K : Frag} {p : Program} {loose : List Str} {mean : ExcName → Option Value} {mg mb : Str → Option Value}
    {R : Result → Shared → Prop} {name qual : Str} {params : Arguments} {body : List Stmt} {scope : Scope} {dV kV doc pm cdv ct oc : Value} {an od : Option Addr} {osl : Array (Option Value)} {f : Addr} {args : Args} {binds : List (Str × Value)}
theorem code_S0X (B : Below A₀ base [] h₀) (F : Fr h₀ L s.heap m) (X₀ : K.In h₀) (N : News h₀ L s.heap news) (T : Top p loose mean mg mb h₀) (hA : A.frames = some [env]) (hf : env.frame = some L) (hke : env.scope.kind = .function)
    (ho : K.lookup f = some ⟨oc, od, .func (fnOf name qual params body scope dV kV doc pm an cdv ct), osl⟩) (hcd : codeIn K cdv qual = true) (hroom : A.depth < recursionLimit)
    (hbind : BindsTo s (fnOf name qual params body scope dV kV doc pm an cdv ct) args binds) (hloc : ∀ y ∈ binds, scope.names.lookup y.1 = some .local)
    (h : ∀ g L' h₁, Fr h₀ L g m → Fr g L' h₁ (fun y => binds.reverse.lookup y) → News g L' h₁ news → Below A base [env] g → K.In g → Top p loose mean mg mb g → KtsDicts ([env].filterMap (·.frame)) g →
      wpAny (model prog w) (A.deeper (envOf qual scope L' f cdv)) (execs body (envOf qual scope L' f cdv))
        (fun fl s' => LeaveS0 ([env].filterMap (·.frame)) h₀ L m g R (match fl with | .ret v => v | _ => .none) s')
        (fun e s' => wpAny (model prog w) (A.deeper (envOf qual scope L' f cdv)) (leaving (envOf qual scope L' f cdv) e) (fun _ s'' => R (.error e) s'') (fun e' s'' => R (.error e') s'') s')
        { s with heap := h₁, toks := s.toks + binds.length })
    (hco : scope.isCoroutine = false) (hgen : scope.isGenerator = false) (hk : scope.kind = .function)
    (hcell : ∀ x ∈ scope.names, x.2 ≠ .cell) : codeAny (model prog w) A (.call (.ref f) args) R s := by
  obtain ⟨FG, BG, st, _⟩ := groundX (R := R) B F N hA hf hke
  have hfr : [env].filterMap (·.frame) = [L] := by simp [hf]
  have X := X₀.keeps F.keep
  obtain ⟨oL, es, ep, hLg, hLd, hLk, hLf⟩ := FG.ns
  refine codeAny_call_def (fd := fnOf name qual params body scope dV kV doc pm an cdv ct) (body := body) (binds := binds) hroom (X _ _ ho) rfl (T.nolimit.keeps F.keep) (codeRec_of X hcd) rfl hbind hcell hloc (fun h₁ hns hk₁ => ?_) hco hgen hk
  refine wpAny_mono (h _ s.heap.objs.size h₁ FG ⟨hns, fun b o e => hk₁ b o (of_hideAll _ e), Nat.le_of_eq (hideAll_size _ _)⟩
    (fun p hp => ⟨hk₁ _ _ (N p hp).1, Nat.ne_of_lt (Heap.lt_size (N p hp).1), hideAll_none _ (List.mem_map_of_mem hp)⟩) BG (X₀.keeps st) (T.keeps st) ?_) ?_ fun _ _ y => y
  · rw [hfr]
    intro b hb
    rw [List.mem_singleton.mp hb]
    exact ⟨oL, es, ep, hLg, hLd⟩
  · intro fl s' hl
    rw [hfr] at hl
    obtain ⟨g', L', m', news', T', F', N', k⟩ := hl
    have nL₀ : h₀.get? L = none := kts_self F
    obtain ⟨sl, hs⟩ := T'.up hLg
    have old : ∀ b o, h₀.get? b = some o → g'.get? b = some o := fun b o e => T'.other b o (st b o e) fun q => by
      rw [List.mem_singleton.mp q, nL₀] at e
      cases e
    refine k ⟨⟨_, es, ep, F'.keep _ _ hs, hLd, hLk, hLf⟩, fun b o e => F'.keep b o (old b o e), F.above⟩ fun p hp => ⟨(N' p hp).1, fun q => ?_, ?_⟩
    · have := (N' p hp).2.2
      rw [q, hs] at this
      cases this
    · cases q : h₀.get? p.1 with
      | none => rfl
      | some o =>
        have := (N' p hp).2.2
        rw [old _ _ q] at this
        cases this
end
theorem g_bytes_int (b : Array UInt8) (t : Tok) (n : Int) (u : Tok) : Gives (Builtin.«bytes.__eq__» ⟨[.bytes b t, .int n u], []⟩) (.val (Value.notImplemented)) := by
  refine .of_wp fun M A E s Q hq => ?_
  show wpAny M A (isInstance (.int n u) (.type "bytes") >>= fun r => _) _ E s
  refine wpAny_bind (wpAny_isInstance (typeIs_int s n u) F.sub_int_bytes ?_)
  refine wpAny_bind (wpAny_isInstance (typeIs_int s n u) F.sub_int_bytes ?_)
  refine wpAny_bind (wpAny_rule ?_)
  exact wpAny_pure ⟨_, rfl, hq⟩
theorem g_int_bytes (n : Int) (u : Tok) (b : Array UInt8) (t : Tok) : Gives (Builtin.«int.__eq__» ⟨[.int n u, .bytes b t], []⟩) (.val (Value.notImplemented)) :=
  .of_wp fun M A E s Q h => by obtain ⟨hp, g, d, tk, os⟩ := s; wp_walk; exact ⟨_, rfl, h⟩
open PySem.SeqAt in
theorem ea_bytes_int {A : Around} {s : Shared} (b : Array UInt8) (t : Tok) (n : Int) (u : Tok) : EqAt A s (.bytes b t) (.int n u) false := ea_rc (by intros; simp) (by rfl) fun prog w E Q h =>
  EqNone.wpAny_richCompare_eq_decline (k := false) (fun s' => PySem.W.typeIs_bytes s' b t) (fun s' => typeIs_int s' n u) (by decide) F.sub_int_bytes FB.slot_bytes_eq F.slot_int_eq_refl rfl
    (call_gives FB.slot_bytes_eq (PySem.W.typeIs_bytes s b t) FB.entry_bytes_eq (FB.args_bytes_eq_2 _ _) (g_bytes_int b t n u)
      ⟨rfl, call_gives F.slot_int_eq_refl (typeIs_int s n u) F.entry_int_eq (F.args_int_eq_2 _ _) (g_int_bytes n u b t) ⟨rfl, h⟩⟩)
section
variable {prog : Program} {w : World} {A : Around} {E : Value → Shared → Prop} {s : Shared}
theorem notin_int_bytes {l : Addr} {items : List Value} {n : Int} {t : Tok} {Q : Value → Shared → Prop} (hl : s.heap.IsTuple l items.toArray) (h : bytesAll items = true) (hq : Q (.bool true) s) : wpAny (model prog w) A (compareOp .NotIn (.int n t) (.ref l)) Q E s :=
  SeqAt.notIn_tupleAt (fun _ => false) hl (by
    intro y hy
    have h1 := (List.all_eq_true.mp h) y (by simpa using hy)
    cases y <;> simp_all
    exact ea_bytes_int _ _ _ _) (by rw [show (!items.toArray.any fun _ => false) = true by simp]; exact hq)
theorem truthy_bytesV {b : Array UInt8} {t : Tok} {v : Bool} {Q : Bool → Shared → Prop} (hz : b.size ≤ 16777216) (he : ((b.size : Int) != 0) = v) (h : Q v { s with toks := s.toks + 1 + 1 }) : wpAny (model prog w) A (truthy (.bytes b t)) Q E s :=
  truthy_bytes (by omega) (by rw [he]; exact h)
end
theorem len_bytesV {prog : Program} {w : World} {A : Around} {E : Value → Shared → Prop} {s : Shared} {b : Array UInt8} {t : Tok} {n : Int} {Q : Value → Shared → Prop} (hz : b.size ≤ 16777216) (he : (b.size : Int) = n) (h : ∀ t' tk', Q (.int n t') { s with toks := tk' }) : wpAny (model prog w) A (call (.builtin "len") [.bytes b t]) Q E s :=
  len_bytes (by omega) (by rw [he]; exact h _ _)
end Mine
end
local macro_rules | `(tactic| walk_at $s:str) => do
  let k := Lean.Syntax.mkStrLit ("!" ++ s.getString)
  `(tactic| k_extra $k)
local macro_rules | `(tactic| k_mem) => `(tactic| k_extra "k_mem")
local macro_rules | `(tactic| k_room) => `(tactic| k_extra "k_room")
local macro_rules | `(tactic| k_units) => `(tactic| k_extra "k_units")
local macro_rules | `(tactic| ktr_rel) => `(tactic| k_extra "ktr_rel")
local macro_rules | `(tactic| k_all) => `(tactic| k_extra "k_all")
local macro_rules | `(tactic| cell_enter) => `(tactic| k_extra "cell_enter")
local macro_rules | `(tactic| k_typeOf) => `(tactic| k_extra "k_typeOf")
local macro_rules | `(tactic| kit_dict) => `(tactic| k_extra "kit_dict")
local macro_rules | `(tactic| k_lt $h) => `(tactic| (k_extra "k_lt?"; replace $h := allLt_of $h; simp only [AllLt, and_true] at $h:ident; repeat (obtain ⟨_, $h⟩ := $h)))
section
namespace Mine
def Marks (_ : OpenLaw) (_ : Params → Frag) : Prop := True
theorem filledAll : Marks PySem.Challenge.rw_ag0002_03 K0 := by k_fill; trivial
theorem wdC3a0 : True := by
  k_with_none
  (k_with "!eval Call" => first | (k_here; (with_reducible show wpAny _ _ (eval (Expr.Call _ _ [] _) _) _ _ _); k_dflt (refine Call_ ?_)))
  (k_with "!exec Raise some none" => first | (k_here; (with_reducible show wpAny _ _ (exec (Stmt.Raise (some (Expr.Call (Expr.Name (PySem.Str.ofString "ValueError") _) _ _ _)) none _) _) _ _ _); k_dflt (refine Raise_new rfl ?_)) | (k_here; (with_reducible show wpAny _ _ (exec (Stmt.Raise (some (Expr.Call (Expr.Name (PySem.Str.ofString "TypeError") _) _ _ _)) none _) _) _ _ _); k_dflt (refine Raise_new rfl ?_)))
  (k_with "!leaving ref" => first | (k_here; (with_reducible rename KtsDicts _ _ => kdX); k_dflt (first | (refine' leave_raiseS ?zqk1 ?zqk0 ?zqk2 ?zqk3 ?_; (case zqk0 => first | assumption | exact Heap.MadeExc.of (by assumption)); (case zqk2 => assumption); (case zqk1 => assumption); (case zqk3 => k_asm); k_whole; intro h' t' S' R' U'; (try dsimp only at S' R' U' ⊢)) | (refine' leave_onS ?zqk1 ?zqk2 ?zqk3 ?zqk4 ?_; (case zqk3 => assumption); (case zqk2 => assumption); (case zqk1 => assumption); (case zqk4 => assumption); k_whole; intro h' S' R' U'; (try dsimp only at S' R' U' ⊢)) | (refine' leave_newS ?zqk1 ?zqk0 ?zqk2 ?zqk3 ?_; (case zqk0 => assumption); (case zqk2 => assumption); (case zqk1 => assumption); (case zqk3 => k_asm); k_whole; intro h' S' R' U'; (try dsimp only at S' R' U' ⊢)) | (refine' leave_onSN ?zqk1 ?zqk2 ?zqk3 ?zqk4 ?_; (case zqk3 => assumption); (case zqk2 => assumption); (case zqk1 => assumption); (case zqk4 => assumption); k_whole; intro h' S' R' U'; (try dsimp only at S' R' U' ⊢)))))
  (k_with "!eval Name" => first | (k_here; (first | (with_reducible show wpAny _ _ (eval (Expr.Name _ _) (envOf _ _ _ _ _)) _ _ _) | (with_reducible show wpAny _ _ (eval (Expr.Name _ _) (envOfC _ _ _ _ _)) _ _ _)); k_dflt (first | (refine' nameX_L ?zqF ?zqv ?_ ?zqa ?zqb; (case zqF => k_asm); (case zqv => rfl); (case zqa => rfl); (case zqb => kernel_rfl); k_whole) | (refine' nameX_K ?zqF ?zqX ?zqT ?zqe ?_ ?zqa ?zqb; (case zqT => k_asm); (case zqX => k_asm); (case zqF => k_asm); (case zqe => k_is); (case zqa => rfl); (case zqb => kernel_rfl); k_whole) | (refine' nameX_B ?zqF ?zqX ?zqT ?zqe ?zqv ?zqn ?_ ?zqa ?zqb; (case zqT => k_asm); (case zqX => k_asm); (case zqF => k_asm); (case zqe => k_is); (case zqv => boot_fast); (case zqn => decide); (case zqa => rfl); (case zqb => kernel_rfl); k_whole))))
  (k_with "k_mem" => (assumption))
  (k_with "k_room" => (ktr_room))
  (k_with "k_units" => (ktr_units))
  (k_with "ktr_rel" => (first | k_asm | (refine' cb_drop ?zqcbN ?zqcbS; (case zqcbN => k_asm); (case zqcbS => (repeat (first | (intro p hp; (repeat (first | exact hp | exact List.mem_append_left _ hp | apply List.mem_cons_of_mem)); done) | (refine' sub_cons ?_ ?_; focus k_mem)))))))
  (k_with "k_lt?" => skip)
  (k_with "k_all" => (refine all_ne_of ?_; assumption))
  (k_with "!call type:bytes" => first | (k_here; (with_reducible show wpAny _ _ (call (Value.type "bytes") [Value.bytes _ _]) _ _ _); refine bytes_id ?_) | (k_here; (with_reducible show wpAny _ _ (call (Value.type "bytes") [Value.ref _]) _ _ _); k_dflt (refine' bytes_L ?zqbF ?zqbN ?zqbh ?zqbl ?zqbi ?zqbr ?zqbz ?_; (case zqbF => k_asm); (case zqbN => k_asm); (case zqbh => rfl); (case zqbl => is_list); (case zqbi => assumption); (case zqbr => (first | (subst_vars; rw [List.map_id']; exact in_255 (by assumption)) | exact in_map256 | (subst_vars; exact in_map256) | exact in_255 (by assumption) | assumption)); (case zqbz => (simp_all; omega))); intro _ _ _ F' N'))
  (k_with "!binaryOp Add bytes bytes" => (k_here; (with_reducible show wpAny _ _ (binaryOp Operator.Add (Value.bytes _ _) (Value.bytes _ _)) _ _ _); (refine KBy.add_bytes (by (try simp only [Array.size_append, List.size_toArray, byteArr_size, octs_size, List.length_cons, List.length_nil, List.length_map]); omega) ?_); intro _ _))
  (k_with "cell_enter" => (refine' code_def ?zqk1 ?zqk2 ?zqk3 ?zqk4 ?zqk5 ?zqkA ?zqkF ?zqkK ?zqk6 ?zqk7 ?zqk8 ?zqk9 ?zqkB ?_ ?zqc2 ?zqc3 ?zqc4 ?zqc5; (case zqkA => exact rfl); (case zqkF => exact rfl); (case zqkK => assumption); (case zqk1 => k_asm); (case zqk2 => k_asm); (case zqk3 => k_asm); (case zqk4 => k_asm); (case zqk5 => k_asm); (case zqk6 => k_is); (case zqk7 => k_is); (case zqk8 => ktr_room); (case zqk9 => first | exact BindsTo.of_eq rfl | exact binds_K (by k_in) rfl (by k_is) rfl rfl rfl); (case zqc5 => decide); (case zqkB => exact locs rfl); (case zqc2 => exact rfl); (case zqc3 => exact rfl); (case zqc4 => exact rfl); k_whole; intro g' L' h' FG' F' N' B' X' T'; (try dsimp only); (try k_lift B'); (try k_fold)))
  (k_with "!compareOp NotIn" => first | (k_here; (with_reducible show wpAny _ _ (compareOp CmpOp.NotIn (Value.int _ _) (Value.ref _)) _ _ _); k_dflt (refine' notin_int_bytes ?zqt ?zqh ?_; (case zqt => exact isTup_of (by k_asm) (by k_mem)); (case zqh => rfl))) | (k_here; (with_reducible show wpAny _ _ (compareOp CmpOp.NotIn (Value.bytes _ _) (Value.ref _)) _ _ _); k_dflt (refine' notin_bytes ?zqt ?zqh ?zqe ?_; (case zqt => exact isTup_of (by k_asm) (by k_mem)); (case zqh => rfl); (case zqe => first | exact (rfl : _ = false) | exact (rfl : _ = true)))))
  (k_with "!binaryOp BitAnd int int" => (k_here; (with_reducible refine and_lowT (by omega) ?_); intro _ _ _ vE))
  (k_with "!subscriptTail" => (k_here; (with_reducible show wpAny _ _ (subscriptTail _ _ (Value.bytes _ _) (Value.int (-1) _)) _ _ _); (refine last_octet (by (try simp only [octs_size]); omega) (by (try simp only [octs_size]); omega) ?_); intro _ _ _ lO _ _))
  (k_with "!ite" => first | (k_closed; k_dflt (first | refine PySem.W.ite_pos (by decide) ?_ | refine PySem.W.ite_neg (by decide) ?_)) | (first | refine PySem.W.ite_neg (by (try simp only [bne_iff_ne, ne_eq, beq_iff_eq, decide_eq_true_eq, Bool.not_eq_true', bne_eq_false_iff_eq, beq_eq_false_iff_ne]); omega) ?_ | refine PySem.W.ite_pos (by (try simp only [bne_iff_ne, ne_eq, beq_iff_eq, decide_eq_true_eq]); omega) ?_))
  (k_with "!execs cons" => (k_here; dsimp only))
  (k_with "!execs nil" => (k_here; dsimp only))
  (k_with "!truthy bytes" => (k_here; (refine truthy_bytesV (v := true) (by (try simp only [Array.size_append, List.size_toArray, octs_size, List.length_cons, List.length_nil]); omega) rfl ?_)))
  trivial
section
variable {w : World} {dp un : Nat} {gd : Option (List Code)} {cn : Str} {cs : Scope} {a : Addr} {ccd : Value} {cl : List (Str × Addr)} {outer : List Env} {A₀ : Around} {base h₀ : Heap} {L : Addr} {m : Str → Option Value} {s : Shared} {R : Result → Shared → Prop}
  {loose : List Str} {mean : ExcName → Option Value} {mg mb : Str → Option Value} {news : List (Addr × Obj)} {D : Addr} {ys : List Value} {ms : List Int}
  (B : Below A₀ base outer h₀) (F : Fr h₀ L s.heap m) (X : (K0 w.params).In h₀) (N : News h₀ L s.heap ((D, LCg.lst ys) :: news)) (T : Top q1 loose mean mg mb h₀) (hk : cs.kind = .function)
  (h1 : dp + 8 < recursionLimit) (h2 : un + 80 < cLine)
include B F X N T hk h1 h2
theorem c_pack8 {t : Tok} (hY : IntsAre ys ms) (hm : ms.length ≤ 64)
  (ret : (∀ n ∈ ms, -128 ≤ n ∧ n ≤ 127) → ∀ (t' : Tok) (h' : Heap) (tk' : Nat), Fr h₀ L h' m → News h₀ L h' ((D, LCg.lst ys) :: news) → R (.ok (.ret (.bytes (octs ms) t'))) { s with heap := h', toks := tk' })
  (exc : (¬ ∀ n ∈ ms, -128 ≤ n ∧ n ≤ 127) → ∀ (e : Addr) (g h' : Heap) (tk' : Nat), Fr h₀ L g m → g.UpToSlots h' → RaisedSN base g (envX cn cs L a ccd cl :: outer) e (.type "ValueError") ((D, LCg.lst ys) :: news) h' → R (.error (.ref e)) { s with heap := h', toks := tk' }) :
  codeAny (model P1 w) (ktrTop dp un gd cn cs L a ccd cl outer) (.call (.ref 64) ⟨[.str "b" t, .ref D], []⟩) R s := by
  k_with "pyIter ref" => k_state (fun pre octets => octets = pre.map (fun n => n.fmod 256) ∧ octets.length = pre.length ∧ ∀ n ∈ pre, -128 ≤ n ∧ n ≤ 127) "octets"
  k_with "state" => first | exact st8 (by assumption) (by assumption) (by assumption) (by assumption) (by assumption) | exact ⟨rfl, rfl, List.forall_mem_nil _⟩
  have D0 : KtsDicts [] h₀ := ktsDicts_nil
  k_dflt cell_enter
  conv in (bdy _) => whnf
  k_steps
  · refine exc ?_ _ _ _ _ (by assumption) (by assumption) (raisedSN_sub (by assumption) fun p hp => ?_)
    · intro hA; have := hA _ (by assumption); omega
    · refine .tail _ ?_
      rcases List.mem_cons.mp hp with rfl | hp
      · exact .head _
      · exact .tail _ (List.mem_append_left _ hp)
  · refine exc ?_ _ _ _ _ (by assumption) (by assumption) (raisedSN_sub (by assumption) fun p hp => ?_)
    · intro hA; have := hA _ (by assumption); omega
    · refine .tail _ ?_
      rcases List.mem_cons.mp hp with rfl | hp
      · exact .head _
      · exact .tail _ (List.mem_append_left _ hp)
  · subst_vars
    refine ret (by assumption) _ _ _ ?_ ?_
    · k_asm
    · ktr_rel
theorem c_packB {t : Tok} (hY : IntsAre ys ms) (hm : ms.length ≤ 64)
  (ret : (∀ n ∈ ms, 0 ≤ n ∧ n ≤ 255) → ∀ (t' : Tok) (h' : Heap) (tk' : Nat), Fr h₀ L h' m → News h₀ L h' ((D, LCg.lst ys) :: news) → R (.ok (.ret (.bytes (octs ms) t'))) { s with heap := h', toks := tk' })
  (exc : (¬ ∀ n ∈ ms, 0 ≤ n ∧ n ≤ 255) → ∀ (e : Addr) (g h' : Heap) (tk' : Nat), Fr h₀ L g m → g.UpToSlots h' → RaisedSN base g (envX cn cs L a ccd cl :: outer) e (.type "ValueError") ((D, LCg.lst ys) :: news) h' → R (.error (.ref e)) { s with heap := h', toks := tk' }) :
  codeAny (model P1 w) (ktrTop dp un gd cn cs L a ccd cl outer) (.call (.ref 64) ⟨[.str "B" t, .ref D], []⟩) R s := by
  k_with "pyIter ref" => k_state (fun pre octets => octets = pre.map (fun n => n) ∧ octets.length = pre.length ∧ ∀ n ∈ pre, 0 ≤ n ∧ n ≤ 255) "octets"
  k_with "state" => first | exact stB (by assumption) (by assumption) (by assumption) (by assumption) (by assumption) | exact ⟨rfl, rfl, List.forall_mem_nil _⟩
  have D0 : KtsDicts [] h₀ := ktsDicts_nil
  k_dflt cell_enter
  conv in (bdy _) => whnf
  k_steps
  · refine exc ?_ _ _ _ _ (by assumption) (by assumption) (raisedSN_sub (by assumption) fun p hp => ?_)
    · intro hA; have := hA _ (by assumption); omega
    · refine .tail _ ?_
      rcases List.mem_cons.mp hp with rfl | hp
      · exact .head _
      · exact .tail _ (List.mem_append_left _ hp)
  · refine exc ?_ _ _ _ _ (by assumption) (by assumption) (raisedSN_sub (by assumption) fun p hp => ?_)
    · intro hA; have := hA _ (by assumption); omega
    · refine .tail _ ?_
      rcases List.mem_cons.mp hp with rfl | hp
      · exact .head _
      · exact .tail _ (List.mem_append_left _ hp)
  · subst_vars
    rw [List.map_id'] at *
    have ec := map_fmod_id (l := ms) (by assumption)
    rw [show octs ms = byteArr ms by unfold octs; rw [ec]] at ret
    refine ret (by assumption) _ _ _ ?_ ?_
    · k_asm
    · ktr_rel
end
end Mine
end
section
namespace Mine
theorem wdC3d0 : True := by
  k_with_none
  (k_with "!eval Call" => first | (k_here; (with_reducible show wpAny _ _ (eval (Expr.Call _ _ [] _) _) _ _ _); k_dflt (refine Call_ ?_)))
  (k_with "!exec Raise some none" => first | (k_here; (with_reducible show wpAny _ _ (exec (Stmt.Raise (some (Expr.Call (Expr.Name (PySem.Str.ofString "ValueError") _) _ _ _)) none _) _) _ _ _); k_dflt (refine Raise_new rfl ?_)) | (k_here; (with_reducible show wpAny _ _ (exec (Stmt.Raise (some (Expr.Call (Expr.Name (PySem.Str.ofString "TypeError") _) _ _ _)) none _) _) _ _ _); k_dflt (refine Raise_new rfl ?_)))
  (k_with "!leaving ref" => first | (k_here; (with_reducible rename KtsDicts _ _ => kdX); k_dflt (first | (refine' leave_raiseS ?zqk1 ?zqk0 ?zqk2 ?zqk3 ?_; (case zqk0 => first | assumption | exact Heap.MadeExc.of (by assumption)); (case zqk2 => assumption); (case zqk1 => assumption); (case zqk3 => k_asm); k_whole; intro h' t' S' R' U'; (try dsimp only at S' R' U' ⊢)) | (refine' leave_onS ?zqk1 ?zqk2 ?zqk3 ?zqk4 ?_; (case zqk3 => assumption); (case zqk2 => assumption); (case zqk1 => assumption); (case zqk4 => assumption); k_whole; intro h' S' R' U'; (try dsimp only at S' R' U' ⊢)) | (refine' leave_newS ?zqk1 ?zqk0 ?zqk2 ?zqk3 ?_; (case zqk0 => assumption); (case zqk2 => assumption); (case zqk1 => assumption); (case zqk3 => k_asm); k_whole; intro h' S' R' U'; (try dsimp only at S' R' U' ⊢)) | (refine' leave_onSN ?zqk1 ?zqk2 ?zqk3 ?zqk4 ?_; (case zqk3 => assumption); (case zqk2 => assumption); (case zqk1 => assumption); (case zqk4 => assumption); k_whole; intro h' S' R' U'; (try dsimp only at S' R' U' ⊢)))))
  (k_with "k_mem" => (assumption))
  (k_with "k_room" => (ktr_room))
  (k_with "k_units" => (ktr_units))
  (k_with "ktr_rel" => (first | k_asm | (refine' cb_drop ?zqcbN ?zqcbS; (case zqcbN => k_asm); (case zqcbS => (repeat (first | (intro p hp; (repeat (first | exact hp | exact List.mem_append_left _ hp | apply List.mem_cons_of_mem)); done) | (refine' sub_cons ?_ ?_; focus k_mem)))))))
  (k_with "k_lt?" => skip)
  (k_with "k_all" => (refine all_ne_of ?_; assumption))
  (k_with "!call type:bytes" => first | (k_here; (with_reducible show wpAny _ _ (call (Value.type "bytes") [Value.bytes _ _]) _ _ _); refine bytes_id ?_) | (k_here; (with_reducible show wpAny _ _ (call (Value.type "bytes") [Value.ref _]) _ _ _); k_dflt (refine' bytes_L ?zqbF ?zqbN ?zqbh ?zqbl ?zqbi ?zqbr ?zqbz ?_; (case zqbF => k_asm); (case zqbN => k_asm); (case zqbh => rfl); (case zqbl => is_list); (case zqbi => assumption); (case zqbr => (first | (subst_vars; rw [List.map_id']; exact in_255 (by assumption)) | exact in_map256 | (subst_vars; exact in_map256) | exact in_255 (by assumption) | assumption)); (case zqbz => (simp_all; omega))); intro _ _ _ F' N'))
  (k_with "!binaryOp Add bytes bytes" => (k_here; (with_reducible show wpAny _ _ (binaryOp Operator.Add (Value.bytes _ _) (Value.bytes _ _)) _ _ _); (refine KBy.add_bytes (by (try simp only [Array.size_append, List.size_toArray, byteArr_size, octs_size, List.length_cons, List.length_nil, List.length_map]); omega) ?_); intro _ _))
  (k_with "cell_enter" => (refine' code_def ?zqk1 ?zqk2 ?zqk3 ?zqk4 ?zqk5 ?zqkA ?zqkF ?zqkK ?zqk6 ?zqk7 ?zqk8 ?zqk9 ?zqkB ?_ ?zqc2 ?zqc3 ?zqc4 ?zqc5; (case zqkA => exact rfl); (case zqkF => exact rfl); (case zqkK => assumption); (case zqk1 => k_asm); (case zqk2 => k_asm); (case zqk3 => k_asm); (case zqk4 => k_asm); (case zqk5 => k_asm); (case zqk6 => k_is); (case zqk7 => k_is); (case zqk8 => ktr_room); (case zqk9 => first | exact BindsTo.of_eq rfl | exact binds_K (by k_in) rfl (by k_is) rfl rfl rfl); (case zqc5 => decide); (case zqkB => exact locs rfl); (case zqc2 => exact rfl); (case zqc3 => exact rfl); (case zqc4 => exact rfl); k_whole; intro g' L' h' FG' F' N' B' X' T'; (try dsimp only); (try k_lift B'); (try k_fold)))
  (k_with "!compareOp NotIn" => first | (k_here; (with_reducible show wpAny _ _ (compareOp CmpOp.NotIn (Value.int _ _) (Value.ref _)) _ _ _); k_dflt (refine' notin_int_bytes ?zqt ?zqh ?_; (case zqt => exact isTup_of (by k_asm) (by k_mem)); (case zqh => rfl))) | (k_here; (with_reducible show wpAny _ _ (compareOp CmpOp.NotIn (Value.bytes _ _) (Value.ref _)) _ _ _); k_dflt (refine' notin_bytes ?zqt ?zqh ?zqe ?_; (case zqt => exact isTup_of (by k_asm) (by k_mem)); (case zqh => rfl); (case zqe => first | exact (rfl : _ = false) | exact (rfl : _ = true)))))
  (k_with "!binaryOp BitAnd int int" => (k_here; (with_reducible refine and_lowT (by omega) ?_); intro _ _ _ vE))
  (k_with "!subscriptTail" => (k_here; (with_reducible show wpAny _ _ (subscriptTail _ _ (Value.bytes _ _) (Value.int (-1) _)) _ _ _); (refine last_octet (by (try simp only [octs_size]); omega) (by (try simp only [octs_size]); omega) ?_); intro _ _ _ lO _ _))
  (k_with "!ite" => first | (k_closed; k_dflt (first | refine PySem.W.ite_pos (by decide) ?_ | refine PySem.W.ite_neg (by decide) ?_)) | (first | refine PySem.W.ite_neg (by (try simp only [bne_iff_ne, ne_eq, beq_iff_eq, decide_eq_true_eq, Bool.not_eq_true', bne_eq_false_iff_eq, beq_eq_false_iff_ne]); omega) ?_ | refine PySem.W.ite_pos (by (try simp only [bne_iff_ne, ne_eq, beq_iff_eq, decide_eq_true_eq]); omega) ?_))
  (k_with "!execs cons" => (k_here; dsimp only))
  (k_with "!execs nil" => (k_here; dsimp only))
  (k_with "!truthy bytes" => (k_here; (refine truthy_bytesV (v := true) (by (try simp only [Array.size_append, List.size_toArray, octs_size, List.length_cons, List.length_nil]); omega) rfl ?_)))
  (k_with "!eval Name" => first | (k_here; (first | (with_reducible show wpAny _ _ (eval (Expr.Name _ _) (envOf _ _ _ _ _)) _ _ _) | (with_reducible show wpAny _ _ (eval (Expr.Name _ _) (envOfC _ _ _ _ _)) _ _ _)); k_dflt (first | (refine' nameX_L ?zqF ?zqv ?_ ?zqa ?zqb; (case zqF => k_asm); (case zqv => rfl); (case zqa => rfl); (case zqb => kernel_rfl); k_whole) | (refine' nameX_K ?zqF ?zqX ?zqT ?zqe ?_ ?zqa ?zqb; (case zqT => k_asm); (case zqX => k_asm); (case zqF => k_asm); (case zqe => k_is); (case zqa => rfl); (case zqb => kernel_rfl); k_whole) | (refine' nameX_B ?zqF ?zqX ?zqT ?zqe ?zqv ?zqn ?_ ?zqa ?zqb; (case zqT => k_asm); (case zqX => k_asm); (case zqF => k_asm); (case zqe => k_is); (case zqv => boot_fast); (case zqn => decide); (case zqa => rfl); (case zqb => kernel_rfl); k_whole))) | (k_here; k_dflt (refine' ld ?zqk1 ?zqk2 ?_; (case zqk1 => k_asm); (case zqk2 => assumption); k_whole)))
  (k_with "!call ref" => first | (k_here; (with_reducible show wpAny _ _ (call (Value.ref 64) [Value.str (PySem.Str.ofString "b") _, Value.ref _] _) _ _ _); k_dflt ((refine wpAny_call ?_); (refine' c_pack8 ?zqcB ?zqcF ?zqcX ?zqcN ?zqcT ?zqck ?zqcd ?zqcu ?zqcY ?zqcm ?_ ?_); (case zqcB => k_asm); (case zqcF => k_asm); (case zqcX => k_asm); (case zqcN => exact news_dup (by k_asm) (by k_mem)); (case zqcT => k_asm); (case zqck => first | exact rfl | assumption); (case zqcd => ktr_room); (case zqcu => ktr_units); (case zqcY => assumption); (case zqcm => omega); (all_goals (first | (intro hA t' h' tk' F' N'; replace N' := news_undup N') | (intro hA e' g' h' tk' Fg' U' R'; replace R' := raisedSN_undup R'))); (all_goals (try dsimp only)); (all_goals (try k_sweep)); (all_goals (try k_fold)))) | (k_here; (with_reducible show wpAny _ _ (call (Value.ref 64) [Value.str (PySem.Str.ofString "B") _, Value.ref _] _) _ _ _); k_dflt ((refine wpAny_call ?_); (refine' c_packB ?zqcB ?zqcF ?zqcX ?zqcN ?zqcT ?zqck ?zqcd ?zqcu ?zqcY ?zqcm ?_ ?_); (case zqcB => k_asm); (case zqcF => k_asm); (case zqcX => k_asm); (case zqcN => exact news_dup (by k_asm) (by k_mem)); (case zqcT => k_asm); (case zqck => first | exact rfl | assumption); (case zqcd => ktr_room); (case zqcu => ktr_units); (case zqcY => assumption); (case zqcm => omega); (all_goals (first | (intro hA t' h' tk' F' N'; replace N' := news_undup N') | (intro hA e' g' h' tk' Fg' U' R'; replace R' := raisedSN_undup R'))); (all_goals (try dsimp only)); (all_goals (try k_sweep)); (all_goals (try k_fold)))))
  trivial
noncomputable def fvS : { x : List Stmt // bdy (fn2 18 4) = x } := ⟨_, by conv => lhs; whnf⟩
section
variable {w : World} {dp un : Nat} {gd : Option (List Code)} {cn : Str} {cs : Scope} {a : Addr} {ccd : Value} {cl : List (Str × Addr)} {outer : List Env} {base h₀ g' h' : Heap} {L L' : Addr} {m mm : Str → Option Value} {s : Shared} {R : Result → Shared → Prop} {tk : Nat}
  {loose : List Str} {mean : ExcName → Option Value} {mg mb : Str → Option Value} {news : List (Addr × Obj)} {D : Addr} {ys : List Value} {ms : List Int}
  (FG' : Fr h₀ L g' m) (B' : Below (ktrTop dp un gd cn cs L a ccd cl outer) base (envX cn cs L a ccd cl :: outer) g') (X' : (K0 w.params).In g') (T' : Top q1 loose mean mg mb g') (F' : Fr g' L' h' mm) (N' : News g' L' h' ((D, LCg.lst ys) :: news)) (hk : cs.kind = .function)
  (h1 : dp + 16 < recursionLimit) (h2 : un + 160 < cLine)
include FG' B' X' T' F' N' hk h1 h2
theorem t_fv16z {p : Int} {t t2 : Tok} (nc : mm "cls" = some (.ref 223)) (nv : mm "vector" = some (.ref D)) (nd : mm "dtype" = some (.bytes #[16] t)) (np : mm "padding" = some (.int 0 t2)) (hY : IntsAre ys ms) (hm : ms.length ≤ 8)
  (ret : Good true 0 ms → ∀ (x dx : Addr) (ta tb tc td : Tok) (h' : Heap) (tk' : Nat), Fr h₀ L h' m → News h₀ L h' ((x, instObj 223 dx) :: (dx, dictOf [⟨PyData.keyHash w.params "data", .str "data" ta, .bytes (vecB 16 0 ms) tb⟩, ⟨PyData.keyHash w.params "_subtype", .str "_subtype" tc, .int 9 td⟩] 2) :: ((D, LCg.lst ys) :: news)) → R (.ok (.ret (.ref x))) { s with heap := h', toks := tk' })
  (exc : ¬ Good true 0 ms → ∀ (e : Addr) (g h' : Heap) (tk' : Nat), Fr h₀ L g m → g.UpToSlots h' → RaisedSN base g (envX cn cs L a ccd cl :: outer) e (.type "ValueError") ((D, LCg.lst ys) :: news) h' → R (.error (.ref e)) { s with heap := h', toks := tk' }) :
  wpAny (model P1 w) ((ktrTop dp un gd cn cs L a ccd cl outer).deeper (envOf ("Binary.from_vector" : Str) (scp (fn2 18 4)) L' 187 (.ref 186))) (execs ((bdy (fn2 18 4)).drop 2) (envOf ("Binary.from_vector" : Str) (scp (fn2 18 4)) L' 187 (.ref 186))) (fun fl s' => LeaveK h₀ L m g' R (match fl with | .ret v => v | _ => .none) s') (fun e s' => wpAny (model P1 w) ((ktrTop dp un gd cn cs L a ccd cl outer).deeper (envOf ("Binary.from_vector" : Str) (scp (fn2 18 4)) L' 187 (.ref 186))) (leaving (envOf ("Binary.from_vector" : Str) (scp (fn2 18 4)) L' 187 (.ref 186)) e) (fun _ s'' => R (.error e) s'') (fun e' s'' => R (.error e') s'') s') { s with heap := h', toks := tk } := by
  have D0 : KtsDicts [] h₀ := ktsDicts_nil
  rw [fvS.2]; dsimp only [fvS, List.drop]
  (try k_fold)
  k_steps
  · refine' leaveK_ ?ka ?kb fun kF kN => ?_; (case ka => k_asm); (case kb => k_asm)
    refine' ret (goodT.mpr ⟨by assumption, by decide, fun h => absurd rfl h⟩) _ _ _ _ _ _ _ _ ?kf ?kn
    case kf => k_asm
    case kn => ktr_rel
  · refine exc (fun hG => absurd (goodT.mp hG).1 (by assumption)) _ _ _ _ (by assumption) (by assumption) (raisedSN_sub (by assumption) ?_)
    (repeat (first | (intro p hp; (repeat (first | exact hp | exact List.mem_append_left _ hp | apply List.mem_cons_of_mem)); done) | (refine' sub_cons ?_ ?_; focus k_mem)))
theorem t_fv16p {p : Int} {t t2 : Tok} (nc : mm "cls" = some (.ref 223)) (nv : mm "vector" = some (.ref D)) (nd : mm "dtype" = some (.bytes #[16] t)) (np : mm "padding" = some (.int p t2)) (hY : IntsAre ys ms) (hm : ms.length ≤ 8) (hp : 1 ≤ p ∧ p ≤ 255)
  (ret : Good true p ms → ∀ (x dx : Addr) (ta tb tc td : Tok) (h' : Heap) (tk' : Nat), Fr h₀ L h' m → News h₀ L h' ((x, instObj 223 dx) :: (dx, dictOf [⟨PyData.keyHash w.params "data", .str "data" ta, .bytes (vecB 16 p ms) tb⟩, ⟨PyData.keyHash w.params "_subtype", .str "_subtype" tc, .int 9 td⟩] 2) :: ((D, LCg.lst ys) :: news)) → R (.ok (.ret (.ref x))) { s with heap := h', toks := tk' })
  (exc : ¬ Good true p ms → ∀ (e : Addr) (g h' : Heap) (tk' : Nat), Fr h₀ L g m → g.UpToSlots h' → RaisedSN base g (envX cn cs L a ccd cl :: outer) e (.type "ValueError") ((D, LCg.lst ys) :: news) h' → R (.error (.ref e)) { s with heap := h', toks := tk' }) :
  wpAny (model P1 w) ((ktrTop dp un gd cn cs L a ccd cl outer).deeper (envOf ("Binary.from_vector" : Str) (scp (fn2 18 4)) L' 187 (.ref 186))) (execs ((bdy (fn2 18 4)).drop 2) (envOf ("Binary.from_vector" : Str) (scp (fn2 18 4)) L' 187 (.ref 186))) (fun fl s' => LeaveK h₀ L m g' R (match fl with | .ret v => v | _ => .none) s') (fun e s' => wpAny (model P1 w) ((ktrTop dp un gd cn cs L a ccd cl outer).deeper (envOf ("Binary.from_vector" : Str) (scp (fn2 18 4)) L' 187 (.ref 186))) (leaving (envOf ("Binary.from_vector" : Str) (scp (fn2 18 4)) L' 187 (.ref 186)) e) (fun _ s'' => R (.error e) s'') (fun e' s'' => R (.error e') s'') s') { s with heap := h', toks := tk } := by
  have D0 : KtsDicts [] h₀ := ktsDicts_nil
  rw [fvS.2]; dsimp only [fvS, List.drop]
  (try k_fold)
  k_steps
  · refine exc (fun hG => by have := (goodT.mp hG).2.1; omega) _ _ _ _ (by assumption) (by assumption) (raisedSN_sub (by assumption) ?_)
    (repeat (first | (intro p hp; (repeat (first | exact hp | exact List.mem_append_left _ hp | apply List.mem_cons_of_mem)); done) | (refine' sub_cons ?_ ?_; focus k_mem)))
  · refine' leaveK_ ?ka ?kb fun kF kN => ?_; (case ka => k_asm); (case kb => k_asm)
    refine' ret (goodT.mpr ⟨by assumption, by omega, fun _ => ⟨fun e => by subst e; simp at *, by rw [← last_low (k := p.toNat) (by assumption) (fun e => by subst e; simp at *) (by subst_vars; assumption)]⟩⟩) _ _ _ _ _ _ _ _ ?kf ?kn
    case kf => k_asm
    case kn => ktr_rel
  · refine exc (fun hG => by have h2 := (goodT.mp hG).2.2 (by omega); have h3 := last_low (k := p.toNat) (goodT.mp hG).1 h2.1 (by subst_vars; assumption); omega) _ _ _ _ (by assumption) (by assumption) (raisedSN_sub (by assumption) ?_)
    (repeat (first | (intro p hp; (repeat (first | exact hp | exact List.mem_append_left _ hp | apply List.mem_cons_of_mem)); done) | (refine' sub_cons ?_ ?_; focus k_mem)))
  · refine exc (fun hG => absurd (goodT.mp hG).1 (by assumption)) _ _ _ _ (by assumption) (by assumption) (raisedSN_sub (by assumption) ?_)
    (repeat (first | (intro p hp; (repeat (first | exact hp | exact List.mem_append_left _ hp | apply List.mem_cons_of_mem)); done) | (refine' sub_cons ?_ ?_; focus k_mem)))
  · refine exc (fun hG => by have h2 := ((goodT.mp hG).2.2 (by omega)).1; have := List.length_pos_iff.mpr h2; omega) _ _ _ _ (by assumption) (by assumption) (raisedSN_sub (by assumption) ?_)
    (repeat (first | (intro p hp; (repeat (first | exact hp | exact List.mem_append_left _ hp | apply List.mem_cons_of_mem)); done) | (refine' sub_cons ?_ ?_; focus k_mem)))
theorem t_fv3z {p : Int} {t t2 : Tok} (nc : mm "cls" = some (.ref 223)) (nv : mm "vector" = some (.ref D)) (nd : mm "dtype" = some (.bytes #[3] t)) (np : mm "padding" = some (.int 0 t2)) (hY : IntsAre ys ms) (hm : ms.length ≤ 8)
  (ret : Good false 0 ms → ∀ (x dx : Addr) (ta tb tc td : Tok) (h' : Heap) (tk' : Nat), Fr h₀ L h' m → News h₀ L h' ((x, instObj 223 dx) :: (dx, dictOf [⟨PyData.keyHash w.params "data", .str "data" ta, .bytes (vecB 3 0 ms) tb⟩, ⟨PyData.keyHash w.params "_subtype", .str "_subtype" tc, .int 9 td⟩] 2) :: ((D, LCg.lst ys) :: news)) → R (.ok (.ret (.ref x))) { s with heap := h', toks := tk' })
  (exc : ¬ Good false 0 ms → ∀ (e : Addr) (g h' : Heap) (tk' : Nat), Fr h₀ L g m → g.UpToSlots h' → RaisedSN base g (envX cn cs L a ccd cl :: outer) e (.type "ValueError") ((D, LCg.lst ys) :: news) h' → R (.error (.ref e)) { s with heap := h', toks := tk' }) :
  wpAny (model P1 w) ((ktrTop dp un gd cn cs L a ccd cl outer).deeper (envOf ("Binary.from_vector" : Str) (scp (fn2 18 4)) L' 187 (.ref 186))) (execs ((bdy (fn2 18 4)).drop 2) (envOf ("Binary.from_vector" : Str) (scp (fn2 18 4)) L' 187 (.ref 186))) (fun fl s' => LeaveK h₀ L m g' R (match fl with | .ret v => v | _ => .none) s') (fun e s' => wpAny (model P1 w) ((ktrTop dp un gd cn cs L a ccd cl outer).deeper (envOf ("Binary.from_vector" : Str) (scp (fn2 18 4)) L' 187 (.ref 186))) (leaving (envOf ("Binary.from_vector" : Str) (scp (fn2 18 4)) L' 187 (.ref 186)) e) (fun _ s'' => R (.error e) s'') (fun e' s'' => R (.error e') s'') s') { s with heap := h', toks := tk } := by
  have D0 : KtsDicts [] h₀ := ktsDicts_nil
  rw [fvS.2]; dsimp only [fvS, List.drop]
  (try k_fold)
  k_steps
  · refine' leaveK_ ?ka ?kb fun kF kN => ?_; (case ka => k_asm); (case kb => k_asm)
    refine' ret (goodF.mpr ⟨by assumption, rfl⟩) _ _ _ _ _ _ _ _ ?kf ?kn
    case kf => k_asm
    case kn => ktr_rel
  · refine exc (fun hG => absurd (goodF.mp hG).1 (by assumption)) _ _ _ _ (by assumption) (by assumption) (raisedSN_sub (by assumption) ?_)
    (repeat (first | (intro p hp; (repeat (first | exact hp | exact List.mem_append_left _ hp | apply List.mem_cons_of_mem)); done) | (refine' sub_cons ?_ ?_; focus k_mem)))
theorem t_fv3p {p : Int} {t t2 : Tok} (nc : mm "cls" = some (.ref 223)) (nv : mm "vector" = some (.ref D)) (nd : mm "dtype" = some (.bytes #[3] t)) (np : mm "padding" = some (.int p t2)) (hY : IntsAre ys ms) (hm : ms.length ≤ 8) (hp : 1 ≤ p ∧ p ≤ 255)
  (ret : Good false p ms → ∀ (x dx : Addr) (ta tb tc td : Tok) (h' : Heap) (tk' : Nat), Fr h₀ L h' m → News h₀ L h' ((x, instObj 223 dx) :: (dx, dictOf [⟨PyData.keyHash w.params "data", .str "data" ta, .bytes (vecB 3 p ms) tb⟩, ⟨PyData.keyHash w.params "_subtype", .str "_subtype" tc, .int 9 td⟩] 2) :: ((D, LCg.lst ys) :: news)) → R (.ok (.ret (.ref x))) { s with heap := h', toks := tk' })
  (exc : ¬ Good false p ms → ∀ (e : Addr) (g h' : Heap) (tk' : Nat), Fr h₀ L g m → g.UpToSlots h' → RaisedSN base g (envX cn cs L a ccd cl :: outer) e (.type "ValueError") ((D, LCg.lst ys) :: news) h' → R (.error (.ref e)) { s with heap := h', toks := tk' }) :
  wpAny (model P1 w) ((ktrTop dp un gd cn cs L a ccd cl outer).deeper (envOf ("Binary.from_vector" : Str) (scp (fn2 18 4)) L' 187 (.ref 186))) (execs ((bdy (fn2 18 4)).drop 2) (envOf ("Binary.from_vector" : Str) (scp (fn2 18 4)) L' 187 (.ref 186))) (fun fl s' => LeaveK h₀ L m g' R (match fl with | .ret v => v | _ => .none) s') (fun e s' => wpAny (model P1 w) ((ktrTop dp un gd cn cs L a ccd cl outer).deeper (envOf ("Binary.from_vector" : Str) (scp (fn2 18 4)) L' 187 (.ref 186))) (leaving (envOf ("Binary.from_vector" : Str) (scp (fn2 18 4)) L' 187 (.ref 186)) e) (fun _ s'' => R (.error e) s'') (fun e' s'' => R (.error e') s'') s') { s with heap := h', toks := tk } := by
  have D0 : KtsDicts [] h₀ := ktsDicts_nil
  rw [fvS.2]; dsimp only [fvS, List.drop]
  (try k_fold)
  k_steps
  · refine exc (fun hG => by have := (goodF.mp hG).2; omega) _ _ _ _ (by assumption) (by assumption) (raisedSN_sub (by assumption) ?_)
    (repeat (first | (intro p hp; (repeat (first | exact hp | exact List.mem_append_left _ hp | apply List.mem_cons_of_mem)); done) | (refine' sub_cons ?_ ?_; focus k_mem)))
end
end Mine
end
section
namespace Mine
theorem wdC3e0 : True := by
  k_with_none
  (k_with "!eval Call" => first | (k_here; (with_reducible show wpAny _ _ (eval (Expr.Call _ _ [] _) _) _ _ _); k_dflt (refine Call_ ?_)))
  (k_with "!exec Raise some none" => first | (k_here; (with_reducible show wpAny _ _ (exec (Stmt.Raise (some (Expr.Call (Expr.Name (PySem.Str.ofString "ValueError") _) _ _ _)) none _) _) _ _ _); k_dflt (refine Raise_new rfl ?_)) | (k_here; (with_reducible show wpAny _ _ (exec (Stmt.Raise (some (Expr.Call (Expr.Name (PySem.Str.ofString "TypeError") _) _ _ _)) none _) _) _ _ _); k_dflt (refine Raise_new rfl ?_)))
  (k_with "!leaving ref" => first | (k_here; (with_reducible rename KtsDicts _ _ => kdX); k_dflt (first | (refine' leave_raiseS ?zqk1 ?zqk0 ?zqk2 ?zqk3 ?_; (case zqk0 => first | assumption | exact Heap.MadeExc.of (by assumption)); (case zqk2 => assumption); (case zqk1 => assumption); (case zqk3 => k_asm); k_whole; intro h' t' S' R' U'; (try dsimp only at S' R' U' ⊢)) | (refine' leave_onS ?zqk1 ?zqk2 ?zqk3 ?zqk4 ?_; (case zqk3 => assumption); (case zqk2 => assumption); (case zqk1 => assumption); (case zqk4 => assumption); k_whole; intro h' S' R' U'; (try dsimp only at S' R' U' ⊢)) | (refine' leave_newS ?zqk1 ?zqk0 ?zqk2 ?zqk3 ?_; (case zqk0 => assumption); (case zqk2 => assumption); (case zqk1 => assumption); (case zqk3 => k_asm); k_whole; intro h' S' R' U'; (try dsimp only at S' R' U' ⊢)) | (refine' leave_onSN ?zqk1 ?zqk2 ?zqk3 ?zqk4 ?_; (case zqk3 => assumption); (case zqk2 => assumption); (case zqk1 => assumption); (case zqk4 => assumption); k_whole; intro h' S' R' U'; (try dsimp only at S' R' U' ⊢)))))
  (k_with "!eval Name" => first | (k_here; (first | (with_reducible show wpAny _ _ (eval (Expr.Name _ _) (envOf _ _ _ _ _)) _ _ _) | (with_reducible show wpAny _ _ (eval (Expr.Name _ _) (envOfC _ _ _ _ _)) _ _ _)); k_dflt (first | (refine' nameX_L ?zqF ?zqv ?_ ?zqa ?zqb; (case zqF => k_asm); (case zqv => rfl); (case zqa => rfl); (case zqb => kernel_rfl); k_whole) | (refine' nameX_K ?zqF ?zqX ?zqT ?zqe ?_ ?zqa ?zqb; (case zqT => k_asm); (case zqX => k_asm); (case zqF => k_asm); (case zqe => k_is); (case zqa => rfl); (case zqb => kernel_rfl); k_whole) | (refine' nameX_B ?zqF ?zqX ?zqT ?zqe ?zqv ?zqn ?_ ?zqa ?zqb; (case zqT => k_asm); (case zqX => k_asm); (case zqF => k_asm); (case zqe => k_is); (case zqv => boot_fast); (case zqn => decide); (case zqa => rfl); (case zqb => kernel_rfl); k_whole))))
  (k_with "k_mem" => (assumption))
  (k_with "k_room" => (ktr_room))
  (k_with "k_units" => (ktr_units))
  (k_with "ktr_rel" => (first | k_asm | (refine' cb_drop ?zqcbN ?zqcbS; (case zqcbN => k_asm); (case zqcbS => (repeat (first | (intro p hp; (repeat (first | exact hp | exact List.mem_append_left _ hp | apply List.mem_cons_of_mem)); done) | (refine' sub_cons ?_ ?_; focus k_mem)))))))
  (k_with "k_lt?" => skip)
  (k_with "k_all" => (refine all_ne_of ?_; assumption))
  (k_with "!call type:bytes" => first | (k_here; (with_reducible show wpAny _ _ (call (Value.type "bytes") [Value.bytes _ _]) _ _ _); refine bytes_id ?_) | (k_here; (with_reducible show wpAny _ _ (call (Value.type "bytes") [Value.ref _]) _ _ _); k_dflt (refine' bytes_L ?zqbF ?zqbN ?zqbh ?zqbl ?zqbi ?zqbr ?zqbz ?_; (case zqbF => k_asm); (case zqbN => k_asm); (case zqbh => rfl); (case zqbl => is_list); (case zqbi => assumption); (case zqbr => (first | (subst_vars; rw [List.map_id']; exact in_255 (by assumption)) | exact in_map256 | (subst_vars; exact in_map256) | exact in_255 (by assumption) | assumption)); (case zqbz => (simp_all; omega))); intro _ _ _ F' N'))
  (k_with "!binaryOp Add bytes bytes" => (k_here; (with_reducible show wpAny _ _ (binaryOp Operator.Add (Value.bytes _ _) (Value.bytes _ _)) _ _ _); (refine KBy.add_bytes (by (try simp only [Array.size_append, List.size_toArray, byteArr_size, octs_size, List.length_cons, List.length_nil, List.length_map]); omega) ?_); intro _ _))
  (k_with "cell_enter" => (refine' code_def ?zqk1 ?zqk2 ?zqk3 ?zqk4 ?zqk5 ?zqkA ?zqkF ?zqkK ?zqk6 ?zqk7 ?zqk8 ?zqk9 ?zqkB ?_ ?zqc2 ?zqc3 ?zqc4 ?zqc5; (case zqkA => exact rfl); (case zqkF => exact rfl); (case zqkK => assumption); (case zqk1 => k_asm); (case zqk2 => k_asm); (case zqk3 => k_asm); (case zqk4 => k_asm); (case zqk5 => k_asm); (case zqk6 => k_is); (case zqk7 => k_is); (case zqk8 => ktr_room); (case zqk9 => first | exact BindsTo.of_eq rfl | exact binds_K (by k_in) rfl (by k_is) rfl rfl rfl); (case zqc5 => decide); (case zqkB => exact locs rfl); (case zqc2 => exact rfl); (case zqc3 => exact rfl); (case zqc4 => exact rfl); k_whole; intro g' L' h' FG' F' N' B' X' T'; (try dsimp only); (try k_lift B'); (try k_fold)))
  (k_with "!compareOp NotIn" => first | (k_here; (with_reducible show wpAny _ _ (compareOp CmpOp.NotIn (Value.int _ _) (Value.ref _)) _ _ _); k_dflt (refine' notin_int_bytes ?zqt ?zqh ?_; (case zqt => exact isTup_of (by k_asm) (by k_mem)); (case zqh => rfl))) | (k_here; (with_reducible show wpAny _ _ (compareOp CmpOp.NotIn (Value.bytes _ _) (Value.ref _)) _ _ _); k_dflt (refine' notin_bytes ?zqt ?zqh ?zqe ?_; (case zqt => exact isTup_of (by k_asm) (by k_mem)); (case zqh => rfl); (case zqe => first | exact (rfl : _ = false) | exact (rfl : _ = true)))))
  (k_with "!binaryOp BitAnd int int" => (k_here; (with_reducible refine and_lowT (by omega) ?_); intro _ _ _ vE))
  (k_with "!subscriptTail" => (k_here; (with_reducible show wpAny _ _ (subscriptTail _ _ (Value.bytes _ _) (Value.int (-1) _)) _ _ _); (refine last_octet (by (try simp only [octs_size]); omega) (by (try simp only [octs_size]); omega) ?_); intro _ _ _ lO _ _))
  (k_with "!ite" => first | (k_closed; k_dflt (first | refine PySem.W.ite_pos (by decide) ?_ | refine PySem.W.ite_neg (by decide) ?_)) | (first | refine PySem.W.ite_neg (by (try simp only [bne_iff_ne, ne_eq, beq_iff_eq, decide_eq_true_eq, Bool.not_eq_true', bne_eq_false_iff_eq, beq_eq_false_iff_ne]); omega) ?_ | refine PySem.W.ite_pos (by (try simp only [bne_iff_ne, ne_eq, beq_iff_eq, decide_eq_true_eq]); omega) ?_))
  (k_with "!execs cons" => (k_here; dsimp only))
  (k_with "!execs nil" => (k_here; dsimp only))
  (k_with "!truthy bytes" => (k_here; (refine truthy_bytesV (v := true) (by (try simp only [Array.size_append, List.size_toArray, octs_size, List.length_cons, List.length_nil]); omega) rfl ?_)))
  trivial
noncomputable def fvH : { x : List Stmt // (bdy (fn2 18 4)).take 2 = x } := ⟨(fvS.1).take 2, by rw [← fvS.2]⟩
section
variable {w : World} {dp un : Nat} {gd : Option (List Code)} {cn : Str} {cs : Scope} {a : Addr} {ccd : Value} {cl : List (Str × Addr)} {outer : List Env} {base h₀ g' h' : Heap} {L L' : Addr} {m mm : Str → Option Value} {s : Shared} {R : Result → Shared → Prop} {tk : Nat}
  {loose : List Str} {mean : ExcName → Option Value} {mg mb : Str → Option Value} {news : List (Addr × Obj)} {D : Addr} {ys : List Value} {ms : List Int}
  (FG' : Fr h₀ L g' m) (B' : Below (ktrTop dp un gd cn cs L a ccd cl outer) base (envX cn cs L a ccd cl :: outer) g') (X' : (K0 w.params).In g') (T' : Top q1 loose mean mg mb g') (F' : Fr g' L' h' mm) (N' : News g' L' h' ((D, LCg.lst ys) :: news)) (hk : cs.kind = .function)
  (h1 : dp + 16 < recursionLimit) (h2 : un + 160 < cLine)
include FG' B' X' T' F' N' hk h1 h2
theorem t_fv16 {p : Int} {t t2 : Tok} (nc : mm "cls" = some (.ref 223)) (nv : mm "vector" = some (.ref D)) (nd : mm "dtype" = some (.bytes #[16] t)) (np : mm "padding" = some (.int p t2)) (hY : IntsAre ys ms) (hm : ms.length ≤ 8) (hp : 0 ≤ p ∧ p ≤ 255)
  (ret : Good true p ms → ∀ (x dx : Addr) (ta tb tc td : Tok) (h' : Heap) (tk' : Nat), Fr h₀ L h' m → News h₀ L h' ((x, instObj 223 dx) :: (dx, dictOf [⟨PyData.keyHash w.params "data", .str "data" ta, .bytes (vecB 16 p ms) tb⟩, ⟨PyData.keyHash w.params "_subtype", .str "_subtype" tc, .int 9 td⟩] 2) :: ((D, LCg.lst ys) :: news)) → R (.ok (.ret (.ref x))) { s with heap := h', toks := tk' })
  (exc : ¬ Good true p ms → ∀ (e : Addr) (g h' : Heap) (tk' : Nat), Fr h₀ L g m → g.UpToSlots h' → RaisedSN base g (envX cn cs L a ccd cl :: outer) e (.type "ValueError") ((D, LCg.lst ys) :: news) h' → R (.error (.ref e)) { s with heap := h', toks := tk' }) :
  wpAny (model P1 w) ((ktrTop dp un gd cn cs L a ccd cl outer).deeper (envOf ("Binary.from_vector" : Str) (scp (fn2 18 4)) L' 187 (.ref 186))) (execs ((bdy (fn2 18 4)).drop 2) (envOf ("Binary.from_vector" : Str) (scp (fn2 18 4)) L' 187 (.ref 186))) (fun fl s' => LeaveK h₀ L m g' R (match fl with | .ret v => v | _ => .none) s') (fun e s' => wpAny (model P1 w) ((ktrTop dp un gd cn cs L a ccd cl outer).deeper (envOf ("Binary.from_vector" : Str) (scp (fn2 18 4)) L' 187 (.ref 186))) (leaving (envOf ("Binary.from_vector" : Str) (scp (fn2 18 4)) L' 187 (.ref 186)) e) (fun _ s'' => R (.error e) s'') (fun e' s'' => R (.error e') s'') s') { s with heap := h', toks := tk } := by
  by_cases h0 : p = 0
  · subst h0; exact t_fv16z (p := 0) FG' B' X' T' F' N' hk h1 h2 nc nv nd np hY hm ret exc
  · exact t_fv16p FG' B' X' T' F' N' hk h1 h2 nc nv nd np hY hm ⟨by omega, hp.2⟩ ret exc
theorem t_fv3 {p : Int} {t t2 : Tok} (nc : mm "cls" = some (.ref 223)) (nv : mm "vector" = some (.ref D)) (nd : mm "dtype" = some (.bytes #[3] t)) (np : mm "padding" = some (.int p t2)) (hY : IntsAre ys ms) (hm : ms.length ≤ 8) (hp : 0 ≤ p ∧ p ≤ 255)
  (ret : Good false p ms → ∀ (x dx : Addr) (ta tb tc td : Tok) (h' : Heap) (tk' : Nat), Fr h₀ L h' m → News h₀ L h' ((x, instObj 223 dx) :: (dx, dictOf [⟨PyData.keyHash w.params "data", .str "data" ta, .bytes (vecB 3 p ms) tb⟩, ⟨PyData.keyHash w.params "_subtype", .str "_subtype" tc, .int 9 td⟩] 2) :: ((D, LCg.lst ys) :: news)) → R (.ok (.ret (.ref x))) { s with heap := h', toks := tk' })
  (exc : ¬ Good false p ms → ∀ (e : Addr) (g h' : Heap) (tk' : Nat), Fr h₀ L g m → g.UpToSlots h' → RaisedSN base g (envX cn cs L a ccd cl :: outer) e (.type "ValueError") ((D, LCg.lst ys) :: news) h' → R (.error (.ref e)) { s with heap := h', toks := tk' }) :
  wpAny (model P1 w) ((ktrTop dp un gd cn cs L a ccd cl outer).deeper (envOf ("Binary.from_vector" : Str) (scp (fn2 18 4)) L' 187 (.ref 186))) (execs ((bdy (fn2 18 4)).drop 2) (envOf ("Binary.from_vector" : Str) (scp (fn2 18 4)) L' 187 (.ref 186))) (fun fl s' => LeaveK h₀ L m g' R (match fl with | .ret v => v | _ => .none) s') (fun e s' => wpAny (model P1 w) ((ktrTop dp un gd cn cs L a ccd cl outer).deeper (envOf ("Binary.from_vector" : Str) (scp (fn2 18 4)) L' 187 (.ref 186))) (leaving (envOf ("Binary.from_vector" : Str) (scp (fn2 18 4)) L' 187 (.ref 186)) e) (fun _ s'' => R (.error e) s'') (fun e' s'' => R (.error e') s'') s') { s with heap := h', toks := tk } := by
  by_cases h0 : p = 0
  · subst h0; exact t_fv3z (p := 0) FG' B' X' T' F' N' hk h1 h2 nc nv nd np hY hm ret exc
  · exact t_fv3p FG' B' X' T' F' N' hk h1 h2 nc nv nd np hY hm ⟨by omega, hp.2⟩ ret exc
end
section
variable {w : World} {dp un : Nat} {gd : Option (List Code)} {cn : Str} {cs : Scope} {a : Addr} {ccd : Value} {cl : List (Str × Addr)} {outer : List Env} {A₀ : Around} {base h₀ : Heap} {L : Addr} {m : Str → Option Value} {s : Shared} {R : Result → Shared → Prop}
  {loose : List Str} {mean : ExcName → Option Value} {mg mb : Str → Option Value} {news : List (Addr × Obj)} {D : Addr} {ys : List Value} {ms : List Int}
  (B : Below A₀ base outer h₀) (F : Fr h₀ L s.heap m) (X : (K0 w.params).In h₀) (N : News h₀ L s.heap ((D, LCg.lst ys) :: news)) (T : Top q1 loose mean mg mb h₀) (hk : cs.kind = .function)
  (h1 : dp + 18 < recursionLimit) (h2 : un + 180 < cLine)
include B F X N T hk h1 h2
theorem c_fv16 {p : Int} {t t2 : Tok} (hY : IntsAre ys ms) (hm : ms.length ≤ 8) (hp : 0 ≤ p ∧ p ≤ 255)
  (ret : Good true p ms → ∀ (x dx : Addr) (ta tb tc td : Tok) (h' : Heap) (tk' : Nat), Fr h₀ L h' m → News h₀ L h' ((x, instObj 223 dx) :: (dx, dictOf [⟨PyData.keyHash w.params "data", .str "data" ta, .bytes (vecB 16 p ms) tb⟩, ⟨PyData.keyHash w.params "_subtype", .str "_subtype" tc, .int 9 td⟩] 2) :: ((D, LCg.lst ys) :: news)) → R (.ok (.ret (.ref x))) { s with heap := h', toks := tk' })
  (exc : ¬ Good true p ms → ∀ (e : Addr) (g h' : Heap) (tk' : Nat), Fr h₀ L g m → g.UpToSlots h' → RaisedSN base g (envX cn cs L a ccd cl :: outer) e (.type "ValueError") ((D, LCg.lst ys) :: news) h' → R (.error (.ref e)) { s with heap := h', toks := tk' }) :
  codeAny (model P1 w) (ktrTop dp un gd cn cs L a ccd cl outer) (.call (.ref 187) ⟨[.ref 223, .ref D, .bytes #[16] t, .int p t2], []⟩) R s := by
  k_dflt cell_enter
  refine execs_hold (l1 := (bdy (fn2 18 4)).take 2) (l2 := (bdy (fn2 18 4)).drop 2) ?_
  rw [fvH.2]; dsimp only [fvH, fvS, List.take]
  k_steps
  all_goals (refine' t_fv16 ?a1 ?a2 ?a3 ?a4 ?a5 ?a6 hk (by omega) (by omega) ?n1 ?n2 ?n3 ?n4 hY hm hp ?r ?e; (case a1 => k_asm); (case a2 => k_asm); (case a3 => k_asm); (case a4 => k_asm); (case a5 => k_asm); (case a6 => exact news_dup (by k_asm) (by k_mem)); (case n1 => exact rfl); (case n2 => exact rfl); (case n3 => exact rfl); (case n4 => exact rfl))
  case r => intro hG x dx ta tb tc td h' tk' F' N'; exact ret hG x dx ta tb tc td h' tk' F' (cb_drop N' (by (repeat (first | (intro p hp; (repeat (first | exact hp | exact List.mem_append_left _ hp | apply List.mem_cons_of_mem)); done) | (refine' sub_cons ?_ ?_; focus k_mem)))))
  case e => intro hG e g h' tk' Fg U R'; exact exc hG e g h' tk' Fg U (raisedSN_sub R' (by (repeat (first | (intro p hp; (repeat (first | exact hp | exact List.mem_append_left _ hp | apply List.mem_cons_of_mem)); done) | (refine' sub_cons ?_ ?_; focus k_mem)))))
theorem c_fv3 {p : Int} {t t2 : Tok} (hY : IntsAre ys ms) (hm : ms.length ≤ 8) (hp : 0 ≤ p ∧ p ≤ 255)
  (ret : Good false p ms → ∀ (x dx : Addr) (ta tb tc td : Tok) (h' : Heap) (tk' : Nat), Fr h₀ L h' m → News h₀ L h' ((x, instObj 223 dx) :: (dx, dictOf [⟨PyData.keyHash w.params "data", .str "data" ta, .bytes (vecB 3 p ms) tb⟩, ⟨PyData.keyHash w.params "_subtype", .str "_subtype" tc, .int 9 td⟩] 2) :: ((D, LCg.lst ys) :: news)) → R (.ok (.ret (.ref x))) { s with heap := h', toks := tk' })
  (exc : ¬ Good false p ms → ∀ (e : Addr) (g h' : Heap) (tk' : Nat), Fr h₀ L g m → g.UpToSlots h' → RaisedSN base g (envX cn cs L a ccd cl :: outer) e (.type "ValueError") ((D, LCg.lst ys) :: news) h' → R (.error (.ref e)) { s with heap := h', toks := tk' }) :
  codeAny (model P1 w) (ktrTop dp un gd cn cs L a ccd cl outer) (.call (.ref 187) ⟨[.ref 223, .ref D, .bytes #[3] t, .int p t2], []⟩) R s := by
  k_dflt cell_enter
  refine execs_hold (l1 := (bdy (fn2 18 4)).take 2) (l2 := (bdy (fn2 18 4)).drop 2) ?_
  rw [fvH.2]; dsimp only [fvH, fvS, List.take]
  k_steps
  all_goals (refine' t_fv3 ?a1 ?a2 ?a3 ?a4 ?a5 ?a6 hk (by omega) (by omega) ?n1 ?n2 ?n3 ?n4 hY hm hp ?r ?e; (case a1 => k_asm); (case a2 => k_asm); (case a3 => k_asm); (case a4 => k_asm); (case a5 => k_asm); (case a6 => exact news_dup (by k_asm) (by k_mem)); (case n1 => exact rfl); (case n2 => exact rfl); (case n3 => exact rfl); (case n4 => exact rfl))
  case r => intro hG x dx ta tb tc td h' tk' F' N'; exact ret hG x dx ta tb tc td h' tk' F' (cb_drop N' (by (repeat (first | (intro p hp; (repeat (first | exact hp | exact List.mem_append_left _ hp | apply List.mem_cons_of_mem)); done) | (refine' sub_cons ?_ ?_; focus k_mem)))))
  case e => intro hG e g h' tk' Fg U R'; exact exc hG e g h' tk' Fg U (raisedSN_sub R' (by (repeat (first | (intro p hp; (repeat (first | exact hp | exact List.mem_append_left _ hp | apply List.mem_cons_of_mem)); done) | (refine' sub_cons ?_ ?_; focus k_mem)))))
end
section
variable {w : World} {dp un : Nat} {gd : Option (List Code)} {cn : Str} {cs : Scope} {a : Addr} {ccd : Value} {cl : List (Str × Addr)} {outer : List Env} {A₀ : Around} {base h₀ : Heap} {L : Addr} {m : Str → Option Value} {s : Shared} {R : Result → Shared → Prop}
  {loose : List Str} {mean : ExcName → Option Value} {mg mb : Str → Option Value} {news : List (Addr × Obj)} {D V dV : Addr} {ys : List Value} {ms : List Int} {p : Int} {va vb vc vd ve : Tok}
  (B : Below A₀ base outer h₀) (F : Fr h₀ L s.heap m) (X : (K0 w.params).In h₀) (N : News h₀ L s.heap ((V, instObj 141 dV) :: (dV, dictOf [⟨PyData.keyHash w.params "data", .str "data" va, .ref D⟩, ⟨PyData.keyHash w.params "dtype", .str "dtype" vb, .bytes #[16] vc⟩, ⟨PyData.keyHash w.params "padding", .str "padding" vd, .int p ve⟩] 3) :: (D, LCg.lst ys) :: news)) (T : Top q1 loose mean mg mb h₀) (hk : cs.kind = .function)
  (h1 : dp + 18 < recursionLimit) (h2 : un + 180 < cLine)
include B F X N T hk h1 h2
theorem c_fvv16 (hY : IntsAre ys ms) (hm : ms.length ≤ 8) (hp : 0 ≤ p ∧ p ≤ 255)
  (ret : Good true p ms → ∀ (x dx : Addr) (ta tb tc td : Tok) (h' : Heap) (tk' : Nat), Fr h₀ L h' m → News h₀ L h' ((x, instObj 223 dx) :: (dx, dictOf [⟨PyData.keyHash w.params "data", .str "data" ta, .bytes (vecB 16 p ms) tb⟩, ⟨PyData.keyHash w.params "_subtype", .str "_subtype" tc, .int 9 td⟩] 2) :: ((V, instObj 141 dV) :: (dV, dictOf [⟨PyData.keyHash w.params "data", .str "data" va, .ref D⟩, ⟨PyData.keyHash w.params "dtype", .str "dtype" vb, .bytes #[16] vc⟩, ⟨PyData.keyHash w.params "padding", .str "padding" vd, .int p ve⟩] 3) :: (D, LCg.lst ys) :: news)) → R (.ok (.ret (.ref x))) { s with heap := h', toks := tk' })
  (exc : ¬ Good true p ms → ∀ (e : Addr) (g h' : Heap) (tk' : Nat), Fr h₀ L g m → g.UpToSlots h' → RaisedSN base g (envX cn cs L a ccd cl :: outer) e (.type "ValueError") ((V, instObj 141 dV) :: (dV, dictOf [⟨PyData.keyHash w.params "data", .str "data" va, .ref D⟩, ⟨PyData.keyHash w.params "dtype", .str "dtype" vb, .bytes #[16] vc⟩, ⟨PyData.keyHash w.params "padding", .str "padding" vd, .int p ve⟩] 3) :: (D, LCg.lst ys) :: news) h' → R (.error (.ref e)) { s with heap := h', toks := tk' }) :
  codeAny (model P1 w) (ktrTop dp un gd cn cs L a ccd cl outer) (.call (.ref 187) ⟨[.ref 223, .ref V], []⟩) R s := by
  k_dflt cell_enter
  refine execs_hold (l1 := (bdy (fn2 18 4)).take 2) (l2 := (bdy (fn2 18 4)).drop 2) ?_
  rw [fvH.2]; dsimp only [fvH, fvS, List.take]
  k_steps
  all_goals (refine' t_fv16 ?a1 ?a2 ?a3 ?a4 ?a5 ?a6 hk (by omega) (by omega) ?n1 ?n2 ?n3 ?n4 hY hm hp ?r ?e; (case a1 => k_asm); (case a2 => k_asm); (case a3 => k_asm); (case a4 => k_asm); (case a5 => k_asm); (case a6 => exact news_dup (by k_asm) (by k_mem)); (case n1 => exact rfl); (case n2 => exact rfl); (case n3 => exact rfl); (case n4 => exact rfl))
  case r => intro hG x dx ta tb tc td h' tk' F' N'; exact ret hG x dx ta tb tc td h' tk' F' (cb_drop N' (by (repeat (first | (intro p hp; (repeat (first | exact hp | exact List.mem_append_left _ hp | apply List.mem_cons_of_mem)); done) | (refine' sub_cons ?_ ?_; focus k_mem)))))
  case e => intro hG e g h' tk' Fg U R'; exact exc hG e g h' tk' Fg U (raisedSN_sub R' (by (repeat (first | (intro p hp; (repeat (first | exact hp | exact List.mem_append_left _ hp | apply List.mem_cons_of_mem)); done) | (refine' sub_cons ?_ ?_; focus k_mem)))))
theorem c_fvn16 {t2 : Tok} (hY : IntsAre ys ms) (hm : ms.length ≤ 8) (hp : 0 ≤ p ∧ p ≤ 255)
  (ret : Good true p ms → ∀ (x dx : Addr) (ta tb tc td : Tok) (h' : Heap) (tk' : Nat), Fr h₀ L h' m → News h₀ L h' ((x, instObj 223 dx) :: (dx, dictOf [⟨PyData.keyHash w.params "data", .str "data" ta, .bytes (vecB 16 p ms) tb⟩, ⟨PyData.keyHash w.params "_subtype", .str "_subtype" tc, .int 9 td⟩] 2) :: ((V, instObj 141 dV) :: (dV, dictOf [⟨PyData.keyHash w.params "data", .str "data" va, .ref D⟩, ⟨PyData.keyHash w.params "dtype", .str "dtype" vb, .bytes #[16] vc⟩, ⟨PyData.keyHash w.params "padding", .str "padding" vd, .int p ve⟩] 3) :: (D, LCg.lst ys) :: news)) → R (.ok (.ret (.ref x))) { s with heap := h', toks := tk' })
  (exc : ¬ Good true p ms → ∀ (e : Addr) (g h' : Heap) (tk' : Nat), Fr h₀ L g m → g.UpToSlots h' → RaisedSN base g (envX cn cs L a ccd cl :: outer) e (.type "ValueError") ((V, instObj 141 dV) :: (dV, dictOf [⟨PyData.keyHash w.params "data", .str "data" va, .ref D⟩, ⟨PyData.keyHash w.params "dtype", .str "dtype" vb, .bytes #[16] vc⟩, ⟨PyData.keyHash w.params "padding", .str "padding" vd, .int p ve⟩] 3) :: (D, LCg.lst ys) :: news) h' → R (.error (.ref e)) { s with heap := h', toks := tk' }) :
  codeAny (model P1 w) (ktrTop dp un gd cn cs L a ccd cl outer) (.call (.ref 187) ⟨[.ref 223, .ref V, .none, .int 0 t2], []⟩) R s := by
  k_dflt cell_enter
  refine execs_hold (l1 := (bdy (fn2 18 4)).take 2) (l2 := (bdy (fn2 18 4)).drop 2) ?_
  rw [fvH.2]; dsimp only [fvH, fvS, List.take]
  k_steps
  all_goals (refine' t_fv16 ?a1 ?a2 ?a3 ?a4 ?a5 ?a6 hk (by omega) (by omega) ?n1 ?n2 ?n3 ?n4 hY hm hp ?r ?e; (case a1 => k_asm); (case a2 => k_asm); (case a3 => k_asm); (case a4 => k_asm); (case a5 => k_asm); (case a6 => exact news_dup (by k_asm) (by k_mem)); (case n1 => exact rfl); (case n2 => exact rfl); (case n3 => exact rfl); (case n4 => exact rfl))
  case r => intro hG x dx ta tb tc td h' tk' F' N'; exact ret hG x dx ta tb tc td h' tk' F' (cb_drop N' (by (repeat (first | (intro p hp; (repeat (first | exact hp | exact List.mem_append_left _ hp | apply List.mem_cons_of_mem)); done) | (refine' sub_cons ?_ ?_; focus k_mem)))))
  case e => intro hG e g h' tk' Fg U R'; exact exc hG e g h' tk' Fg U (raisedSN_sub R' (by (repeat (first | (intro p hp; (repeat (first | exact hp | exact List.mem_append_left _ hp | apply List.mem_cons_of_mem)); done) | (refine' sub_cons ?_ ?_; focus k_mem)))))
end
section
variable {w : World} {dp un : Nat} {gd : Option (List Code)} {cn : Str} {cs : Scope} {a : Addr} {ccd : Value} {cl : List (Str × Addr)} {outer : List Env} {A₀ : Around} {base h₀ : Heap} {L : Addr} {m : Str → Option Value} {s : Shared} {R : Result → Shared → Prop}
  {loose : List Str} {mean : ExcName → Option Value} {mg mb : Str → Option Value} {news : List (Addr × Obj)} {D V dV : Addr} {ys : List Value} {ms : List Int} {p : Int} {va vb vc vd ve : Tok}
  (B : Below A₀ base outer h₀) (F : Fr h₀ L s.heap m) (X : (K0 w.params).In h₀) (N : News h₀ L s.heap ((V, instObj 141 dV) :: (dV, dictOf [⟨PyData.keyHash w.params "data", .str "data" va, .ref D⟩, ⟨PyData.keyHash w.params "dtype", .str "dtype" vb, .bytes #[3] vc⟩, ⟨PyData.keyHash w.params "padding", .str "padding" vd, .int p ve⟩] 3) :: (D, LCg.lst ys) :: news)) (T : Top q1 loose mean mg mb h₀) (hk : cs.kind = .function)
  (h1 : dp + 18 < recursionLimit) (h2 : un + 180 < cLine)
include B F X N T hk h1 h2
theorem c_fvv3 (hY : IntsAre ys ms) (hm : ms.length ≤ 8) (hp : 0 ≤ p ∧ p ≤ 255)
  (ret : Good false p ms → ∀ (x dx : Addr) (ta tb tc td : Tok) (h' : Heap) (tk' : Nat), Fr h₀ L h' m → News h₀ L h' ((x, instObj 223 dx) :: (dx, dictOf [⟨PyData.keyHash w.params "data", .str "data" ta, .bytes (vecB 3 p ms) tb⟩, ⟨PyData.keyHash w.params "_subtype", .str "_subtype" tc, .int 9 td⟩] 2) :: ((V, instObj 141 dV) :: (dV, dictOf [⟨PyData.keyHash w.params "data", .str "data" va, .ref D⟩, ⟨PyData.keyHash w.params "dtype", .str "dtype" vb, .bytes #[3] vc⟩, ⟨PyData.keyHash w.params "padding", .str "padding" vd, .int p ve⟩] 3) :: (D, LCg.lst ys) :: news)) → R (.ok (.ret (.ref x))) { s with heap := h', toks := tk' })
  (exc : ¬ Good false p ms → ∀ (e : Addr) (g h' : Heap) (tk' : Nat), Fr h₀ L g m → g.UpToSlots h' → RaisedSN base g (envX cn cs L a ccd cl :: outer) e (.type "ValueError") ((V, instObj 141 dV) :: (dV, dictOf [⟨PyData.keyHash w.params "data", .str "data" va, .ref D⟩, ⟨PyData.keyHash w.params "dtype", .str "dtype" vb, .bytes #[3] vc⟩, ⟨PyData.keyHash w.params "padding", .str "padding" vd, .int p ve⟩] 3) :: (D, LCg.lst ys) :: news) h' → R (.error (.ref e)) { s with heap := h', toks := tk' }) :
  codeAny (model P1 w) (ktrTop dp un gd cn cs L a ccd cl outer) (.call (.ref 187) ⟨[.ref 223, .ref V], []⟩) R s := by
  k_dflt cell_enter
  refine execs_hold (l1 := (bdy (fn2 18 4)).take 2) (l2 := (bdy (fn2 18 4)).drop 2) ?_
  rw [fvH.2]; dsimp only [fvH, fvS, List.take]
  k_steps
  all_goals (refine' t_fv3 ?a1 ?a2 ?a3 ?a4 ?a5 ?a6 hk (by omega) (by omega) ?n1 ?n2 ?n3 ?n4 hY hm hp ?r ?e; (case a1 => k_asm); (case a2 => k_asm); (case a3 => k_asm); (case a4 => k_asm); (case a5 => k_asm); (case a6 => exact news_dup (by k_asm) (by k_mem)); (case n1 => exact rfl); (case n2 => exact rfl); (case n3 => exact rfl); (case n4 => exact rfl))
  case r => intro hG x dx ta tb tc td h' tk' F' N'; exact ret hG x dx ta tb tc td h' tk' F' (cb_drop N' (by (repeat (first | (intro p hp; (repeat (first | exact hp | exact List.mem_append_left _ hp | apply List.mem_cons_of_mem)); done) | (refine' sub_cons ?_ ?_; focus k_mem)))))
  case e => intro hG e g h' tk' Fg U R'; exact exc hG e g h' tk' Fg U (raisedSN_sub R' (by (repeat (first | (intro p hp; (repeat (first | exact hp | exact List.mem_append_left _ hp | apply List.mem_cons_of_mem)); done) | (refine' sub_cons ?_ ?_; focus k_mem)))))
theorem c_fvn3 {t2 : Tok} (hY : IntsAre ys ms) (hm : ms.length ≤ 8) (hp : 0 ≤ p ∧ p ≤ 255)
  (ret : Good false p ms → ∀ (x dx : Addr) (ta tb tc td : Tok) (h' : Heap) (tk' : Nat), Fr h₀ L h' m → News h₀ L h' ((x, instObj 223 dx) :: (dx, dictOf [⟨PyData.keyHash w.params "data", .str "data" ta, .bytes (vecB 3 p ms) tb⟩, ⟨PyData.keyHash w.params "_subtype", .str "_subtype" tc, .int 9 td⟩] 2) :: ((V, instObj 141 dV) :: (dV, dictOf [⟨PyData.keyHash w.params "data", .str "data" va, .ref D⟩, ⟨PyData.keyHash w.params "dtype", .str "dtype" vb, .bytes #[3] vc⟩, ⟨PyData.keyHash w.params "padding", .str "padding" vd, .int p ve⟩] 3) :: (D, LCg.lst ys) :: news)) → R (.ok (.ret (.ref x))) { s with heap := h', toks := tk' })
  (exc : ¬ Good false p ms → ∀ (e : Addr) (g h' : Heap) (tk' : Nat), Fr h₀ L g m → g.UpToSlots h' → RaisedSN base g (envX cn cs L a ccd cl :: outer) e (.type "ValueError") ((V, instObj 141 dV) :: (dV, dictOf [⟨PyData.keyHash w.params "data", .str "data" va, .ref D⟩, ⟨PyData.keyHash w.params "dtype", .str "dtype" vb, .bytes #[3] vc⟩, ⟨PyData.keyHash w.params "padding", .str "padding" vd, .int p ve⟩] 3) :: (D, LCg.lst ys) :: news) h' → R (.error (.ref e)) { s with heap := h', toks := tk' }) :
  codeAny (model P1 w) (ktrTop dp un gd cn cs L a ccd cl outer) (.call (.ref 187) ⟨[.ref 223, .ref V, .none, .int 0 t2], []⟩) R s := by
  k_dflt cell_enter
  refine execs_hold (l1 := (bdy (fn2 18 4)).take 2) (l2 := (bdy (fn2 18 4)).drop 2) ?_
  rw [fvH.2]; dsimp only [fvH, fvS, List.take]
  k_steps
  all_goals (refine' t_fv3 ?a1 ?a2 ?a3 ?a4 ?a5 ?a6 hk (by omega) (by omega) ?n1 ?n2 ?n3 ?n4 hY hm hp ?r ?e; (case a1 => k_asm); (case a2 => k_asm); (case a3 => k_asm); (case a4 => k_asm); (case a5 => k_asm); (case a6 => exact news_dup (by k_asm) (by k_mem)); (case n1 => exact rfl); (case n2 => exact rfl); (case n3 => exact rfl); (case n4 => exact rfl))
  case r => intro hG x dx ta tb tc td h' tk' F' N'; exact ret hG x dx ta tb tc td h' tk' F' (cb_drop N' (by (repeat (first | (intro p hp; (repeat (first | exact hp | exact List.mem_append_left _ hp | apply List.mem_cons_of_mem)); done) | (refine' sub_cons ?_ ?_; focus k_mem)))))
  case e => intro hG e g h' tk' Fg U R'; exact exc hG e g h' tk' Fg U (raisedSN_sub R' (by (repeat (first | (intro p hp; (repeat (first | exact hp | exact List.mem_append_left _ hp | apply List.mem_cons_of_mem)); done) | (refine' sub_cons ?_ ?_; focus k_mem)))))
end
end Mine
end
section
namespace Mine
theorem wdC3f10 : True := by
  k_with_none
  (k_with "!eval Call" => first | (k_here; (with_reducible show wpAny _ _ (eval (Expr.Call _ _ [] _) _) _ _ _); k_dflt (refine Call_ ?_)))
  (k_with "!exec Raise some none" => first | (k_here; (with_reducible show wpAny _ _ (exec (Stmt.Raise (some (Expr.Call (Expr.Name (PySem.Str.ofString "ValueError") _) _ _ _)) none _) _) _ _ _); k_dflt (refine Raise_new rfl ?_)) | (k_here; (with_reducible show wpAny _ _ (exec (Stmt.Raise (some (Expr.Call (Expr.Name (PySem.Str.ofString "TypeError") _) _ _ _)) none _) _) _ _ _); k_dflt (refine Raise_new rfl ?_)))
  (k_with "!leaving ref" => first | (k_here; (with_reducible rename KtsDicts _ _ => kdX); k_dflt (first | (refine' leave_raiseS ?zqk1 ?zqk0 ?zqk2 ?zqk3 ?_; (case zqk0 => first | assumption | exact Heap.MadeExc.of (by assumption)); (case zqk2 => assumption); (case zqk1 => assumption); (case zqk3 => k_asm); k_whole; intro h' t' S' R' U'; (try dsimp only at S' R' U' ⊢)) | (refine' leave_onS ?zqk1 ?zqk2 ?zqk3 ?zqk4 ?_; (case zqk3 => assumption); (case zqk2 => assumption); (case zqk1 => assumption); (case zqk4 => assumption); k_whole; intro h' S' R' U'; (try dsimp only at S' R' U' ⊢)) | (refine' leave_newS ?zqk1 ?zqk0 ?zqk2 ?zqk3 ?_; (case zqk0 => assumption); (case zqk2 => assumption); (case zqk1 => assumption); (case zqk3 => k_asm); k_whole; intro h' S' R' U'; (try dsimp only at S' R' U' ⊢)) | (refine' leave_onSN ?zqk1 ?zqk2 ?zqk3 ?zqk4 ?_; (case zqk3 => assumption); (case zqk2 => assumption); (case zqk1 => assumption); (case zqk4 => assumption); k_whole; intro h' S' R' U'; (try dsimp only at S' R' U' ⊢)))))
  (k_with "!eval Name" => first | (k_here; (first | (with_reducible show wpAny _ _ (eval (Expr.Name _ _) (envOf _ _ _ _ _)) _ _ _) | (with_reducible show wpAny _ _ (eval (Expr.Name _ _) (envOfC _ _ _ _ _)) _ _ _)); k_dflt (first | (refine' nameX_L ?zqF ?zqv ?_ ?zqa ?zqb; (case zqF => k_asm); (case zqv => rfl); (case zqa => rfl); (case zqb => kernel_rfl); k_whole) | (refine' nameX_K ?zqF ?zqX ?zqT ?zqe ?_ ?zqa ?zqb; (case zqT => k_asm); (case zqX => k_asm); (case zqF => k_asm); (case zqe => k_is); (case zqa => rfl); (case zqb => kernel_rfl); k_whole) | (refine' nameX_B ?zqF ?zqX ?zqT ?zqe ?zqv ?zqn ?_ ?zqa ?zqb; (case zqT => k_asm); (case zqX => k_asm); (case zqF => k_asm); (case zqe => k_is); (case zqv => boot_fast); (case zqn => decide); (case zqa => rfl); (case zqb => kernel_rfl); k_whole))))
  (k_with "k_mem" => (assumption))
  (k_with "k_room" => (ktr_room))
  (k_with "k_units" => (ktr_units))
  (k_with "ktr_rel" => (first | k_asm | (refine' cb_drop ?zqcbN ?zqcbS; (case zqcbN => k_asm); (case zqcbS => (repeat (first | (intro p hp; (repeat (first | exact hp | exact List.mem_append_left _ hp | apply List.mem_cons_of_mem)); done) | (refine' sub_cons ?_ ?_; focus k_mem)))))))
  (k_with "k_lt?" => skip)
  (k_with "k_all" => (refine all_ne_of ?_; assumption))
  (k_with "!call type:bytes" => first | (k_here; (with_reducible show wpAny _ _ (call (Value.type "bytes") [Value.bytes _ _]) _ _ _); refine bytes_id ?_) | (k_here; (with_reducible show wpAny _ _ (call (Value.type "bytes") [Value.ref _]) _ _ _); k_dflt (refine' bytes_L ?zqbF ?zqbN ?zqbh ?zqbl ?zqbi ?zqbr ?zqbz ?_; (case zqbF => k_asm); (case zqbN => k_asm); (case zqbh => rfl); (case zqbl => is_list); (case zqbi => assumption); (case zqbr => (first | (subst_vars; rw [List.map_id']; exact in_255 (by assumption)) | exact in_map256 | (subst_vars; exact in_map256) | exact in_255 (by assumption) | assumption)); (case zqbz => (simp_all; omega))); intro _ _ _ F' N'))
  (k_with "!binaryOp Add bytes bytes" => (k_here; (with_reducible show wpAny _ _ (binaryOp Operator.Add (Value.bytes _ _) (Value.bytes _ _)) _ _ _); (refine KBy.add_bytes (by (try simp only [Array.size_append, List.size_toArray, byteArr_size, octs_size, List.length_cons, List.length_nil, List.length_map]); omega) ?_); intro _ _))
  (k_with "cell_enter" => first | (refine' code_S0X ?zqk1 ?zqk2 ?zqk3 ?zqk4 ?zqk5 ?zqkA ?zqkF ?zqkK ?zqk6 ?zqk7 ?zqk8 ?zqk9 ?zqkB ?_ ?zqc2 ?zqc3 ?zqc4 ?zqc5; (case zqkA => exact rfl); (case zqkF => exact rfl); (case zqkK => assumption); (case zqk1 => k_asm); (case zqk2 => k_asm); (case zqk3 => k_asm); (case zqk4 => k_asm); (case zqk5 => k_asm); (case zqk6 => k_is); (case zqk7 => k_is); (case zqk8 => ktr_room); (case zqk9 => first | exact BindsTo.of_eq rfl | exact binds_K (by k_in) rfl (by k_is) rfl rfl rfl); (case zqc5 => decide); (case zqkB => exact locs rfl); (case zqc2 => exact rfl); (case zqc3 => exact rfl); (case zqc4 => exact rfl); k_whole; intro g' L' h' FG' F' N' B' X' T' D'; (try dsimp only); (try k_lift B'); (try k_fold)) | (refine' code_def ?zqk1 ?zqk2 ?zqk3 ?zqk4 ?zqk5 ?zqkA ?zqkF ?zqkK ?zqk6 ?zqk7 ?zqk8 ?zqk9 ?zqkB ?_ ?zqc2 ?zqc3 ?zqc4 ?zqc5; (case zqkA => exact rfl); (case zqkF => exact rfl); (case zqkK => assumption); (case zqk1 => k_asm); (case zqk2 => k_asm); (case zqk3 => k_asm); (case zqk4 => k_asm); (case zqk5 => k_asm); (case zqk6 => k_is); (case zqk7 => k_is); (case zqk8 => ktr_room); (case zqk9 => first | exact BindsTo.of_eq rfl | exact binds_K (by k_in) rfl (by k_is) rfl rfl rfl); (case zqc5 => decide); (case zqkB => exact locs rfl); (case zqc2 => exact rfl); (case zqc3 => exact rfl); (case zqc4 => exact rfl); k_whole; intro g' L' h' FG' F' N' B' X' T'; (try dsimp only); (try k_lift B'); (try k_fold)))
  (k_with "!compareOp NotIn" => first | (k_here; (with_reducible show wpAny _ _ (compareOp CmpOp.NotIn (Value.int _ _) (Value.ref _)) _ _ _); k_dflt (refine' notin_int_bytes ?zqt ?zqh ?_; (case zqt => exact isTup_of (by k_asm) (by k_mem)); (case zqh => rfl))) | (k_here; (with_reducible show wpAny _ _ (compareOp CmpOp.NotIn (Value.bytes _ _) (Value.ref _)) _ _ _); k_dflt (refine' notin_bytes ?zqt ?zqh ?zqe ?_; (case zqt => exact isTup_of (by k_asm) (by k_mem)); (case zqh => rfl); (case zqe => first | exact (rfl : _ = false) | exact (rfl : _ = true)))))
  (k_with "!binaryOp BitAnd int int" => (k_here; (with_reducible refine and_lowT (by omega) ?_); intro _ _ _ vE))
  (k_with "!subscriptTail" => (k_here; (with_reducible show wpAny _ _ (subscriptTail _ _ (Value.bytes _ _) (Value.int (-1) _)) _ _ _); (refine last_octet (by (try simp only [octs_size]); omega) (by (try simp only [octs_size]); omega) ?_); intro _ _ _ lO _ _))
  (k_with "!ite" => first | (k_closed; k_dflt (first | refine PySem.W.ite_pos (by decide) ?_ | refine PySem.W.ite_neg (by decide) ?_)) | (first | refine PySem.W.ite_neg (by (try simp only [bne_iff_ne, ne_eq, beq_iff_eq, decide_eq_true_eq, Bool.not_eq_true', bne_eq_false_iff_eq, beq_eq_false_iff_ne]); omega) ?_ | refine PySem.W.ite_pos (by (try simp only [bne_iff_ne, ne_eq, beq_iff_eq, decide_eq_true_eq]); omega) ?_))
  (k_with "!execs cons" => (k_here; dsimp only))
  (k_with "!execs nil" => (k_here; dsimp only))
  (k_with "!truthy bytes" => (k_here; (refine truthy_bytesV (v := true) (by (try simp only [Array.size_append, List.size_toArray, octs_size, List.length_cons, List.length_nil]); omega) rfl ?_)))
  (k_with "!call ref" => first | (k_here; (with_reducible show wpAny _ _ (call (Value.ref _) [Value.ref _, Value.bytes (List.toArray [3]) _, Value.int _ _] _) _ _ _); k_dflt ((refine' call_meth ?zqkm ?zqkq ?_; (case zqkm => k_asm); (case zqkq => k_mem)); (refine' c_fv3 ?zqcB ?zqcF ?zqcX ?zqcN ?zqcT ?zqck ?zqcd ?zqcu ?zqcY ?zqcm ?zqcp ?_ ?_); (case zqcN => exact news_dup (by k_asm) (by k_mem)); (case zqcB => k_asm); (case zqcF => k_asm); (case zqcX => k_asm); (case zqcT => k_asm); (case zqck => first | exact rfl | assumption); (case zqcd => ktr_room); (case zqcu => ktr_units); (case zqcY => assumption); (case zqcm => omega); (case zqcp => first | assumption | omega); (all_goals (first | (intro hA x' dx' ta' tb' tc' td' h' tk' F' N'; replace N' := news_und2 N') | (intro hA e' g' h' tk' Fg' U' R'; replace R' := raisedSN_undup R'))); (all_goals (try dsimp only)); (all_goals (try k_sweep)); (all_goals (try k_fold)))) | (k_here; (with_reducible show wpAny _ _ (call (Value.ref _) [Value.ref _, Value.bytes (List.toArray [16]) _, Value.int _ _] _) _ _ _); k_dflt ((refine' call_meth ?zqkm ?zqkq ?_; (case zqkm => k_asm); (case zqkq => k_mem)); (refine' c_fv16 ?zqcB ?zqcF ?zqcX ?zqcN ?zqcT ?zqck ?zqcd ?zqcu ?zqcY ?zqcm ?zqcp ?_ ?_); (case zqcN => exact news_dup (by k_asm) (by k_mem)); (case zqcB => k_asm); (case zqcF => k_asm); (case zqcX => k_asm); (case zqcT => k_asm); (case zqck => first | exact rfl | assumption); (case zqcd => ktr_room); (case zqcu => ktr_units); (case zqcY => assumption); (case zqcm => omega); (case zqcp => first | assumption | omega); (all_goals (first | (intro hA x' dx' ta' tb' tc' td' h' tk' F' N'; replace N' := news_und2 N') | (intro hA e' g' h' tk' Fg' U' R'; replace R' := raisedSN_undup R'))); (all_goals (try dsimp only)); (all_goals (try k_sweep)); (all_goals (try k_fold)))))
  trivial
section
variable {w : World} {dp un : Nat} {gd : Option (List Code)} {cn : Str} {cs : Scope} {a : Addr} {ccd : Value} {cl : List (Str × Addr)}  {A₀ : Around} {base h₀ : Heap} {L : Addr} {m : Str → Option Value} {s : Shared} {R : Result → Shared → Prop}
  {loose : List Str} {mean : ExcName → Option Value} {mg mb : Str → Option Value} {news : List (Addr × Obj)} {D : Addr} {ys : List Value} {ms : List Int}
  (XB : (K0 w.params).In base) (TB : Top q1 loose mean mg mb base) (B : Below A₀ base [] h₀) (F : Fr h₀ L s.heap m) (X : (K0 w.params).In h₀) (N : News h₀ L s.heap ((D, LCg.lst ys) :: news)) (T : Top q1 loose mean mg mb h₀) (hk : cs.kind = .function)
  (h1 : dp + 24 < recursionLimit) (h2 : un + 240 < cLine)
include XB TB B F X N T hk h1 h2
theorem c_made16 {p : Int} {t t2 : Tok} (hY : IntsAre ys ms) (hm : ms.length ≤ 8) (hp : 0 ≤ p ∧ p ≤ 255)
  (retG : Good true p ms → ∀ (z : Addr) (ta tb : Tok) (h' : Heap) (tk' : Nat), Fr h₀ L h' m → News h₀ L h' ((z, { cls := .type "tuple", data := .seq #[.int 9 ta, .bytes (vecB 16 p ms) tb] }) :: ((D, LCg.lst ys) :: news)) → R (.ok (.ret (.ref z))) { s with heap := h', toks := tk' })
  (retB : ¬ Good true p ms → ∀ (t' : Tok) (h' : Heap) (tk' : Nat), Fr h₀ L h' m → News h₀ L h' ((D, LCg.lst ys) :: news) → R (.ok (.ret (.str "value" t'))) { s with heap := h', toks := tk' }) :
  codeAny (model P1 w) (ktrTop dp un gd cn cs L a ccd cl []) (.call (.ref 1533) ⟨[.ref D, .bytes #[16] t, .int p t2], []⟩) R s := by
  k_dflt cell_enter
  conv in (bdy _) => whnf
  k_steps
  all_goals first
    | (refine' retG (by assumption) _ _ _ _ _ ?kf ?kn; (case kf => k_asm); (case kn => ktr_rel))
    | (refine' retB (by assumption) _ _ _ ?kf ?kn; (case kf => k_asm); (case kn => ktr_rel))
theorem c_made3 {p : Int} {t t2 : Tok} (hY : IntsAre ys ms) (hm : ms.length ≤ 8) (hp : 0 ≤ p ∧ p ≤ 255)
  (retG : Good false p ms → ∀ (z : Addr) (ta tb : Tok) (h' : Heap) (tk' : Nat), Fr h₀ L h' m → News h₀ L h' ((z, { cls := .type "tuple", data := .seq #[.int 9 ta, .bytes (vecB 3 p ms) tb] }) :: ((D, LCg.lst ys) :: news)) → R (.ok (.ret (.ref z))) { s with heap := h', toks := tk' })
  (retB : ¬ Good false p ms → ∀ (t' : Tok) (h' : Heap) (tk' : Nat), Fr h₀ L h' m → News h₀ L h' ((D, LCg.lst ys) :: news) → R (.ok (.ret (.str "value" t'))) { s with heap := h', toks := tk' }) :
  codeAny (model P1 w) (ktrTop dp un gd cn cs L a ccd cl []) (.call (.ref 1533) ⟨[.ref D, .bytes #[3] t, .int p t2], []⟩) R s := by
  k_dflt cell_enter
  conv in (bdy _) => whnf
  k_steps
  all_goals first
    | (refine' retG (by assumption) _ _ _ _ _ ?kf ?kn; (case kf => k_asm); (case kn => ktr_rel))
    | (refine' retB (by assumption) _ _ _ ?kf ?kn; (case kf => k_asm); (case kn => ktr_rel))
end
end Mine
end
section
namespace Mine
theorem wdC3f20 : True := by
  k_with_none
  (k_with "!eval Call" => first | (k_here; (with_reducible show wpAny _ _ (eval (Expr.Call _ _ [] _) _) _ _ _); k_dflt (refine Call_ ?_)))
  (k_with "!exec Raise some none" => first | (k_here; (with_reducible show wpAny _ _ (exec (Stmt.Raise (some (Expr.Call (Expr.Name (PySem.Str.ofString "ValueError") _) _ _ _)) none _) _) _ _ _); k_dflt (refine Raise_new rfl ?_)) | (k_here; (with_reducible show wpAny _ _ (exec (Stmt.Raise (some (Expr.Call (Expr.Name (PySem.Str.ofString "TypeError") _) _ _ _)) none _) _) _ _ _); k_dflt (refine Raise_new rfl ?_)))
  (k_with "!leaving ref" => first | (k_here; (with_reducible rename KtsDicts _ _ => kdX); k_dflt (first | (refine' leave_raiseS ?zqk1 ?zqk0 ?zqk2 ?zqk3 ?_; (case zqk0 => first | assumption | exact Heap.MadeExc.of (by assumption)); (case zqk2 => assumption); (case zqk1 => assumption); (case zqk3 => k_asm); k_whole; intro h' t' S' R' U'; (try dsimp only at S' R' U' ⊢)) | (refine' leave_onS ?zqk1 ?zqk2 ?zqk3 ?zqk4 ?_; (case zqk3 => assumption); (case zqk2 => assumption); (case zqk1 => assumption); (case zqk4 => assumption); k_whole; intro h' S' R' U'; (try dsimp only at S' R' U' ⊢)) | (refine' leave_newS ?zqk1 ?zqk0 ?zqk2 ?zqk3 ?_; (case zqk0 => assumption); (case zqk2 => assumption); (case zqk1 => assumption); (case zqk3 => k_asm); k_whole; intro h' S' R' U'; (try dsimp only at S' R' U' ⊢)) | (refine' leave_onSN ?zqk1 ?zqk2 ?zqk3 ?zqk4 ?_; (case zqk3 => assumption); (case zqk2 => assumption); (case zqk1 => assumption); (case zqk4 => assumption); k_whole; intro h' S' R' U'; (try dsimp only at S' R' U' ⊢)))))
  (k_with "!eval Name" => first | (k_here; (first | (with_reducible show wpAny _ _ (eval (Expr.Name _ _) (envOf _ _ _ _ _)) _ _ _) | (with_reducible show wpAny _ _ (eval (Expr.Name _ _) (envOfC _ _ _ _ _)) _ _ _)); k_dflt (first | (refine' nameX_L ?zqF ?zqv ?_ ?zqa ?zqb; (case zqF => k_asm); (case zqv => rfl); (case zqa => rfl); (case zqb => kernel_rfl); k_whole) | (refine' nameX_K ?zqF ?zqX ?zqT ?zqe ?_ ?zqa ?zqb; (case zqT => k_asm); (case zqX => k_asm); (case zqF => k_asm); (case zqe => k_is); (case zqa => rfl); (case zqb => kernel_rfl); k_whole) | (refine' nameX_B ?zqF ?zqX ?zqT ?zqe ?zqv ?zqn ?_ ?zqa ?zqb; (case zqT => k_asm); (case zqX => k_asm); (case zqF => k_asm); (case zqe => k_is); (case zqv => boot_fast); (case zqn => decide); (case zqa => rfl); (case zqb => kernel_rfl); k_whole))))
  (k_with "k_mem" => (assumption))
  (k_with "k_room" => (ktr_room))
  (k_with "k_units" => (ktr_units))
  (k_with "ktr_rel" => (first | k_asm | (refine' cb_drop ?zqcbN ?zqcbS; (case zqcbN => k_asm); (case zqcbS => (repeat (first | (intro p hp; (repeat (first | exact hp | exact List.mem_append_left _ hp | apply List.mem_cons_of_mem)); done) | (refine' sub_cons ?_ ?_; focus k_mem)))))))
  (k_with "k_lt?" => skip)
  (k_with "k_all" => (refine all_ne_of ?_; assumption))
  (k_with "!call type:bytes" => first | (k_here; (with_reducible show wpAny _ _ (call (Value.type "bytes") [Value.bytes _ _]) _ _ _); refine bytes_id ?_) | (k_here; (with_reducible show wpAny _ _ (call (Value.type "bytes") [Value.ref _]) _ _ _); k_dflt (refine' bytes_L ?zqbF ?zqbN ?zqbh ?zqbl ?zqbi ?zqbr ?zqbz ?_; (case zqbF => k_asm); (case zqbN => k_asm); (case zqbh => rfl); (case zqbl => is_list); (case zqbi => assumption); (case zqbr => (first | (subst_vars; rw [List.map_id']; exact in_255 (by assumption)) | exact in_map256 | (subst_vars; exact in_map256) | exact in_255 (by assumption) | assumption)); (case zqbz => (simp_all; omega))); intro _ _ _ F' N'))
  (k_with "!binaryOp Add bytes bytes" => (k_here; (with_reducible show wpAny _ _ (binaryOp Operator.Add (Value.bytes _ _) (Value.bytes _ _)) _ _ _); (refine KBy.add_bytes (by (try simp only [Array.size_append, List.size_toArray, byteArr_size, octs_size, List.length_cons, List.length_nil, List.length_map]); omega) ?_); intro _ _))
  (k_with "cell_enter" => first | (refine' code_S0X ?zqk1 ?zqk2 ?zqk3 ?zqk4 ?zqk5 ?zqkA ?zqkF ?zqkK ?zqk6 ?zqk7 ?zqk8 ?zqk9 ?zqkB ?_ ?zqc2 ?zqc3 ?zqc4 ?zqc5; (case zqkA => exact rfl); (case zqkF => exact rfl); (case zqkK => assumption); (case zqk1 => k_asm); (case zqk2 => k_asm); (case zqk3 => k_asm); (case zqk4 => k_asm); (case zqk5 => k_asm); (case zqk6 => k_is); (case zqk7 => k_is); (case zqk8 => ktr_room); (case zqk9 => first | exact BindsTo.of_eq rfl | exact binds_K (by k_in) rfl (by k_is) rfl rfl rfl); (case zqc5 => decide); (case zqkB => exact locs rfl); (case zqc2 => exact rfl); (case zqc3 => exact rfl); (case zqc4 => exact rfl); k_whole; intro g' L' h' FG' F' N' B' X' T' D'; (try dsimp only); (try k_lift B'); (try k_fold)) | (refine' code_def ?zqk1 ?zqk2 ?zqk3 ?zqk4 ?zqk5 ?zqkA ?zqkF ?zqkK ?zqk6 ?zqk7 ?zqk8 ?zqk9 ?zqkB ?_ ?zqc2 ?zqc3 ?zqc4 ?zqc5; (case zqkA => exact rfl); (case zqkF => exact rfl); (case zqkK => assumption); (case zqk1 => k_asm); (case zqk2 => k_asm); (case zqk3 => k_asm); (case zqk4 => k_asm); (case zqk5 => k_asm); (case zqk6 => k_is); (case zqk7 => k_is); (case zqk8 => ktr_room); (case zqk9 => first | exact BindsTo.of_eq rfl | exact binds_K (by k_in) rfl (by k_is) rfl rfl rfl); (case zqc5 => decide); (case zqkB => exact locs rfl); (case zqc2 => exact rfl); (case zqc3 => exact rfl); (case zqc4 => exact rfl); k_whole; intro g' L' h' FG' F' N' B' X' T'; (try dsimp only); (try k_lift B'); (try k_fold)))
  (k_with "!compareOp NotIn" => first | (k_here; (with_reducible show wpAny _ _ (compareOp CmpOp.NotIn (Value.int _ _) (Value.ref _)) _ _ _); k_dflt (refine' notin_int_bytes ?zqt ?zqh ?_; (case zqt => exact isTup_of (by k_asm) (by k_mem)); (case zqh => rfl))) | (k_here; (with_reducible show wpAny _ _ (compareOp CmpOp.NotIn (Value.bytes _ _) (Value.ref _)) _ _ _); k_dflt (refine' notin_bytes ?zqt ?zqh ?zqe ?_; (case zqt => exact isTup_of (by k_asm) (by k_mem)); (case zqh => rfl); (case zqe => first | exact (rfl : _ = false) | exact (rfl : _ = true)))))
  (k_with "!binaryOp BitAnd int int" => (k_here; (with_reducible refine and_lowT (by omega) ?_); intro _ _ _ vE))
  (k_with "!subscriptTail" => (k_here; (with_reducible show wpAny _ _ (subscriptTail _ _ (Value.bytes _ _) (Value.int (-1) _)) _ _ _); (refine last_octet (by (try simp only [octs_size]); omega) (by (try simp only [octs_size]); omega) ?_); intro _ _ _ lO _ _))
  (k_with "!ite" => first | (k_closed; k_dflt (first | refine PySem.W.ite_pos (by decide) ?_ | refine PySem.W.ite_neg (by decide) ?_)) | (first | refine PySem.W.ite_neg (by (try simp only [bne_iff_ne, ne_eq, beq_iff_eq, decide_eq_true_eq, Bool.not_eq_true', bne_eq_false_iff_eq, beq_eq_false_iff_ne]); omega) ?_ | refine PySem.W.ite_pos (by (try simp only [bne_iff_ne, ne_eq, beq_iff_eq, decide_eq_true_eq]); omega) ?_))
  (k_with "!execs cons" => (k_here; dsimp only))
  (k_with "!execs nil" => (k_here; dsimp only))
  (k_with "!truthy bytes" => (k_here; (refine truthy_bytesV (v := true) (by (try simp only [Array.size_append, List.size_toArray, octs_size, List.length_cons, List.length_nil]); omega) rfl ?_)))
  (k_with "!call ref" => first | (k_here; (with_reducible show wpAny _ _ (call (Value.ref _) [Value.ref _, Value.none, Value.int 0 _] _) _ _ _); k_dflt ((refine' call_meth ?zqkm ?zqkq ?_; (case zqkm => k_asm); (case zqkq => k_mem)); (refine' c_fvn16 ?zqcB ?zqcF ?zqcX ?zqcN ?zqcT ?zqck ?zqcd ?zqcu ?zqcY ?zqcm ?zqcp ?_ ?_); (case zqcN => exact news_dup3 (by k_asm) (by k_mem) (by k_mem) (by k_mem)); (case zqcB => k_asm); (case zqcF => k_asm); (case zqcX => k_asm); (case zqcT => k_asm); (case zqck => first | exact rfl | assumption); (case zqcd => ktr_room); (case zqcu => ktr_units); (case zqcY => assumption); (case zqcm => omega); (case zqcp => first | assumption | omega); (all_goals (first | (intro hA x' dx' ta' tb' tc' td' h' tk' F' N'; replace N' := news_und23 N') | (intro hA e' g' h' tk' Fg' U' R'; replace R' := raisedSN_undup3 R'))); (all_goals (try dsimp only)); (all_goals (try k_sweep)); (all_goals (try k_fold)))) | (k_here; (with_reducible show wpAny _ _ (call (Value.ref _) [Value.ref _] _) _ _ _); k_dflt ((refine' call_meth ?zqkm ?zqkq ?_; (case zqkm => k_asm); (case zqkq => k_mem)); (refine' c_fvv16 ?zqcB ?zqcF ?zqcX ?zqcN ?zqcT ?zqck ?zqcd ?zqcu ?zqcY ?zqcm ?zqcp ?_ ?_); (case zqcN => exact news_dup3 (by k_asm) (by k_mem) (by k_mem) (by k_mem)); (case zqcB => k_asm); (case zqcF => k_asm); (case zqcX => k_asm); (case zqcT => k_asm); (case zqck => first | exact rfl | assumption); (case zqcd => ktr_room); (case zqcu => ktr_units); (case zqcY => assumption); (case zqcm => omega); (case zqcp => first | assumption | omega); (all_goals (first | (intro hA x' dx' ta' tb' tc' td' h' tk' F' N'; replace N' := news_und23 N') | (intro hA e' g' h' tk' Fg' U' R'; replace R' := raisedSN_undup3 R'))); (all_goals (try dsimp only)); (all_goals (try k_sweep)); (all_goals (try k_fold)))))
  trivial
section
variable {w : World} {dp un : Nat} {gd : Option (List Code)} {cn : Str} {cs : Scope} {a : Addr} {ccd : Value} {cl : List (Str × Addr)}  {A₀ : Around} {base h₀ : Heap} {L : Addr} {m : Str → Option Value} {s : Shared} {R : Result → Shared → Prop}
  {loose : List Str} {mean : ExcName → Option Value} {mg mb : Str → Option Value} {news : List (Addr × Obj)} {D V dV : Addr} {ys : List Value} {ms : List Int} {p : Int} {va vb vc vd ve : Tok}
  (XB : (K0 w.params).In base) (TB : Top q1 loose mean mg mb base) (B : Below A₀ base [] h₀) (F : Fr h₀ L s.heap m) (X : (K0 w.params).In h₀) (N : News h₀ L s.heap ((V, instObj 141 dV) :: (dV, dictOf [⟨PyData.keyHash w.params "data", .str "data" va, .ref D⟩, ⟨PyData.keyHash w.params "dtype", .str "dtype" vb, .bytes #[16] vc⟩, ⟨PyData.keyHash w.params "padding", .str "padding" vd, .int p ve⟩] 3) :: (D, LCg.lst ys) :: news)) (T : Top q1 loose mean mg mb h₀) (hk : cs.kind = .function)
  (h1 : dp + 24 < recursionLimit) (h2 : un + 240 < cLine)
include XB TB B F X N T hk h1 h2
theorem c_packed16 (hY : IntsAre ys ms) (hm : ms.length ≤ 8) (hp : 0 ≤ p ∧ p ≤ 255)
  (retG : Good true p ms → ∀ (z : Addr) (ta tb : Tok) (h' : Heap) (tk' : Nat), Fr h₀ L h' m → News h₀ L h' ((z, { cls := .type "tuple", data := .seq #[.int 9 ta, .bytes (vecB 16 p ms) tb] }) :: ((V, instObj 141 dV) :: (dV, dictOf [⟨PyData.keyHash w.params "data", .str "data" va, .ref D⟩, ⟨PyData.keyHash w.params "dtype", .str "dtype" vb, .bytes #[16] vc⟩, ⟨PyData.keyHash w.params "padding", .str "padding" vd, .int p ve⟩] 3) :: (D, LCg.lst ys) :: news)) → R (.ok (.ret (.ref z))) { s with heap := h', toks := tk' })
  (retB : ¬ Good true p ms → ∀ (t' : Tok) (h' : Heap) (tk' : Nat), Fr h₀ L h' m → News h₀ L h' ((V, instObj 141 dV) :: (dV, dictOf [⟨PyData.keyHash w.params "data", .str "data" va, .ref D⟩, ⟨PyData.keyHash w.params "dtype", .str "dtype" vb, .bytes #[16] vc⟩, ⟨PyData.keyHash w.params "padding", .str "padding" vd, .int p ve⟩] 3) :: (D, LCg.lst ys) :: news) → R (.ok (.ret (.str "value" t'))) { s with heap := h', toks := tk' }) :
  codeAny (model P1 w) (ktrTop dp un gd cn cs L a ccd cl []) (.call (.ref 1540) ⟨[.ref V], []⟩) R s := by
  k_dflt cell_enter
  conv in (bdy _) => whnf
  k_steps
  all_goals first
    | (refine' retG (by assumption) _ _ _ _ _ ?kf ?kn; (case kf => k_asm); (case kn => ktr_rel))
    | (refine' retB (by assumption) _ _ _ ?kf ?kn; (case kf => k_asm); (case kn => ktr_rel))
theorem c_madeV16 {t t2 : Tok}
  (retB : ∀ (t' : Tok) (h' : Heap) (tk' : Nat), Fr h₀ L h' m → News h₀ L h' ((V, instObj 141 dV) :: (dV, dictOf [⟨PyData.keyHash w.params "data", .str "data" va, .ref D⟩, ⟨PyData.keyHash w.params "dtype", .str "dtype" vb, .bytes #[16] vc⟩, ⟨PyData.keyHash w.params "padding", .str "padding" vd, .int p ve⟩] 3) :: (D, LCg.lst ys) :: news) → R (.ok (.ret (.str "value" t'))) { s with heap := h', toks := tk' }) :
  codeAny (model P1 w) (ktrTop dp un gd cn cs L a ccd cl []) (.call (.ref 1533) ⟨[.ref V, .bytes #[16] t, .int 0 t2], []⟩) R s := by
  k_dflt cell_enter
  conv in (bdy _) => whnf
  k_steps
  all_goals (refine' retB _ _ _ ?kf ?kn; (case kf => k_asm); (case kn => ktr_rel))
theorem c_madeVn16 {q : Int} {t2 : Tok} (hq : q ≠ 0)
  (retB : ∀ (t' : Tok) (h' : Heap) (tk' : Nat), Fr h₀ L h' m → News h₀ L h' ((V, instObj 141 dV) :: (dV, dictOf [⟨PyData.keyHash w.params "data", .str "data" va, .ref D⟩, ⟨PyData.keyHash w.params "dtype", .str "dtype" vb, .bytes #[16] vc⟩, ⟨PyData.keyHash w.params "padding", .str "padding" vd, .int p ve⟩] 3) :: (D, LCg.lst ys) :: news) → R (.ok (.ret (.str "value" t'))) { s with heap := h', toks := tk' }) :
  codeAny (model P1 w) (ktrTop dp un gd cn cs L a ccd cl []) (.call (.ref 1533) ⟨[.ref V, .none, .int q t2], []⟩) R s := by
  k_dflt cell_enter
  conv in (bdy _) => whnf
  k_steps
  all_goals (refine' retB _ _ _ ?kf ?kn; (case kf => k_asm); (case kn => ktr_rel))
theorem c_madeVz16 {t2 : Tok} (hY : IntsAre ys ms) (hm : ms.length ≤ 8) (hp : 0 ≤ p ∧ p ≤ 255)
  (retG : Good true p ms → ∀ (z : Addr) (ta tb : Tok) (h' : Heap) (tk' : Nat), Fr h₀ L h' m → News h₀ L h' ((z, { cls := .type "tuple", data := .seq #[.int 9 ta, .bytes (vecB 16 p ms) tb] }) :: ((V, instObj 141 dV) :: (dV, dictOf [⟨PyData.keyHash w.params "data", .str "data" va, .ref D⟩, ⟨PyData.keyHash w.params "dtype", .str "dtype" vb, .bytes #[16] vc⟩, ⟨PyData.keyHash w.params "padding", .str "padding" vd, .int p ve⟩] 3) :: (D, LCg.lst ys) :: news)) → R (.ok (.ret (.ref z))) { s with heap := h', toks := tk' })
  (retB : ¬ Good true p ms → ∀ (t' : Tok) (h' : Heap) (tk' : Nat), Fr h₀ L h' m → News h₀ L h' ((V, instObj 141 dV) :: (dV, dictOf [⟨PyData.keyHash w.params "data", .str "data" va, .ref D⟩, ⟨PyData.keyHash w.params "dtype", .str "dtype" vb, .bytes #[16] vc⟩, ⟨PyData.keyHash w.params "padding", .str "padding" vd, .int p ve⟩] 3) :: (D, LCg.lst ys) :: news) → R (.ok (.ret (.str "value" t'))) { s with heap := h', toks := tk' }) :
  codeAny (model P1 w) (ktrTop dp un gd cn cs L a ccd cl []) (.call (.ref 1533) ⟨[.ref V, .none, .int 0 t2], []⟩) R s := by
  k_dflt cell_enter
  conv in (bdy _) => whnf
  k_steps
  all_goals first
    | (refine' retG (by assumption) _ _ _ _ _ ?kf ?kn; (case kf => k_asm); (case kn => ktr_rel))
    | (refine' retB (by assumption) _ _ _ ?kf ?kn; (case kf => k_asm); (case kn => ktr_rel))
end
end Mine
end
section
namespace Mine
theorem wdC3f30 : True := by
  k_with_none
  (k_with "!eval Call" => first | (k_here; (with_reducible show wpAny _ _ (eval (Expr.Call _ _ [] _) _) _ _ _); k_dflt (refine Call_ ?_)))
  (k_with "!exec Raise some none" => first | (k_here; (with_reducible show wpAny _ _ (exec (Stmt.Raise (some (Expr.Call (Expr.Name (PySem.Str.ofString "ValueError") _) _ _ _)) none _) _) _ _ _); k_dflt (refine Raise_new rfl ?_)) | (k_here; (with_reducible show wpAny _ _ (exec (Stmt.Raise (some (Expr.Call (Expr.Name (PySem.Str.ofString "TypeError") _) _ _ _)) none _) _) _ _ _); k_dflt (refine Raise_new rfl ?_)))
  (k_with "!leaving ref" => first | (k_here; (with_reducible rename KtsDicts _ _ => kdX); k_dflt (first | (refine' leave_raiseS ?zqk1 ?zqk0 ?zqk2 ?zqk3 ?_; (case zqk0 => first | assumption | exact Heap.MadeExc.of (by assumption)); (case zqk2 => assumption); (case zqk1 => assumption); (case zqk3 => k_asm); k_whole; intro h' t' S' R' U'; (try dsimp only at S' R' U' ⊢)) | (refine' leave_onS ?zqk1 ?zqk2 ?zqk3 ?zqk4 ?_; (case zqk3 => assumption); (case zqk2 => assumption); (case zqk1 => assumption); (case zqk4 => assumption); k_whole; intro h' S' R' U'; (try dsimp only at S' R' U' ⊢)) | (refine' leave_newS ?zqk1 ?zqk0 ?zqk2 ?zqk3 ?_; (case zqk0 => assumption); (case zqk2 => assumption); (case zqk1 => assumption); (case zqk3 => k_asm); k_whole; intro h' S' R' U'; (try dsimp only at S' R' U' ⊢)) | (refine' leave_onSN ?zqk1 ?zqk2 ?zqk3 ?zqk4 ?_; (case zqk3 => assumption); (case zqk2 => assumption); (case zqk1 => assumption); (case zqk4 => assumption); k_whole; intro h' S' R' U'; (try dsimp only at S' R' U' ⊢)))))
  (k_with "!eval Name" => first | (k_here; (first | (with_reducible show wpAny _ _ (eval (Expr.Name _ _) (envOf _ _ _ _ _)) _ _ _) | (with_reducible show wpAny _ _ (eval (Expr.Name _ _) (envOfC _ _ _ _ _)) _ _ _)); k_dflt (first | (refine' nameX_L ?zqF ?zqv ?_ ?zqa ?zqb; (case zqF => k_asm); (case zqv => rfl); (case zqa => rfl); (case zqb => kernel_rfl); k_whole) | (refine' nameX_K ?zqF ?zqX ?zqT ?zqe ?_ ?zqa ?zqb; (case zqT => k_asm); (case zqX => k_asm); (case zqF => k_asm); (case zqe => k_is); (case zqa => rfl); (case zqb => kernel_rfl); k_whole) | (refine' nameX_B ?zqF ?zqX ?zqT ?zqe ?zqv ?zqn ?_ ?zqa ?zqb; (case zqT => k_asm); (case zqX => k_asm); (case zqF => k_asm); (case zqe => k_is); (case zqv => boot_fast); (case zqn => decide); (case zqa => rfl); (case zqb => kernel_rfl); k_whole))))
  (k_with "k_mem" => (assumption))
  (k_with "k_room" => (ktr_room))
  (k_with "k_units" => (ktr_units))
  (k_with "ktr_rel" => (first | k_asm | (refine' cb_drop ?zqcbN ?zqcbS; (case zqcbN => k_asm); (case zqcbS => (repeat (first | (intro p hp; (repeat (first | exact hp | exact List.mem_append_left _ hp | apply List.mem_cons_of_mem)); done) | (refine' sub_cons ?_ ?_; focus k_mem)))))))
  (k_with "k_lt?" => skip)
  (k_with "k_all" => (refine all_ne_of ?_; assumption))
  (k_with "!call type:bytes" => first | (k_here; (with_reducible show wpAny _ _ (call (Value.type "bytes") [Value.bytes _ _]) _ _ _); refine bytes_id ?_) | (k_here; (with_reducible show wpAny _ _ (call (Value.type "bytes") [Value.ref _]) _ _ _); k_dflt (refine' bytes_L ?zqbF ?zqbN ?zqbh ?zqbl ?zqbi ?zqbr ?zqbz ?_; (case zqbF => k_asm); (case zqbN => k_asm); (case zqbh => rfl); (case zqbl => is_list); (case zqbi => assumption); (case zqbr => (first | (subst_vars; rw [List.map_id']; exact in_255 (by assumption)) | exact in_map256 | (subst_vars; exact in_map256) | exact in_255 (by assumption) | assumption)); (case zqbz => (simp_all; omega))); intro _ _ _ F' N'))
  (k_with "!binaryOp Add bytes bytes" => (k_here; (with_reducible show wpAny _ _ (binaryOp Operator.Add (Value.bytes _ _) (Value.bytes _ _)) _ _ _); (refine KBy.add_bytes (by (try simp only [Array.size_append, List.size_toArray, byteArr_size, octs_size, List.length_cons, List.length_nil, List.length_map]); omega) ?_); intro _ _))
  (k_with "cell_enter" => first | (refine' code_S0X ?zqk1 ?zqk2 ?zqk3 ?zqk4 ?zqk5 ?zqkA ?zqkF ?zqkK ?zqk6 ?zqk7 ?zqk8 ?zqk9 ?zqkB ?_ ?zqc2 ?zqc3 ?zqc4 ?zqc5; (case zqkA => exact rfl); (case zqkF => exact rfl); (case zqkK => assumption); (case zqk1 => k_asm); (case zqk2 => k_asm); (case zqk3 => k_asm); (case zqk4 => k_asm); (case zqk5 => k_asm); (case zqk6 => k_is); (case zqk7 => k_is); (case zqk8 => ktr_room); (case zqk9 => first | exact BindsTo.of_eq rfl | exact binds_K (by k_in) rfl (by k_is) rfl rfl rfl); (case zqc5 => decide); (case zqkB => exact locs rfl); (case zqc2 => exact rfl); (case zqc3 => exact rfl); (case zqc4 => exact rfl); k_whole; intro g' L' h' FG' F' N' B' X' T' D'; (try dsimp only); (try k_lift B'); (try k_fold)) | (refine' code_def ?zqk1 ?zqk2 ?zqk3 ?zqk4 ?zqk5 ?zqkA ?zqkF ?zqkK ?zqk6 ?zqk7 ?zqk8 ?zqk9 ?zqkB ?_ ?zqc2 ?zqc3 ?zqc4 ?zqc5; (case zqkA => exact rfl); (case zqkF => exact rfl); (case zqkK => assumption); (case zqk1 => k_asm); (case zqk2 => k_asm); (case zqk3 => k_asm); (case zqk4 => k_asm); (case zqk5 => k_asm); (case zqk6 => k_is); (case zqk7 => k_is); (case zqk8 => ktr_room); (case zqk9 => first | exact BindsTo.of_eq rfl | exact binds_K (by k_in) rfl (by k_is) rfl rfl rfl); (case zqc5 => decide); (case zqkB => exact locs rfl); (case zqc2 => exact rfl); (case zqc3 => exact rfl); (case zqc4 => exact rfl); k_whole; intro g' L' h' FG' F' N' B' X' T'; (try dsimp only); (try k_lift B'); (try k_fold)))
  (k_with "!compareOp NotIn" => first | (k_here; (with_reducible show wpAny _ _ (compareOp CmpOp.NotIn (Value.int _ _) (Value.ref _)) _ _ _); k_dflt (refine' notin_int_bytes ?zqt ?zqh ?_; (case zqt => exact isTup_of (by k_asm) (by k_mem)); (case zqh => rfl))) | (k_here; (with_reducible show wpAny _ _ (compareOp CmpOp.NotIn (Value.bytes _ _) (Value.ref _)) _ _ _); k_dflt (refine' notin_bytes ?zqt ?zqh ?zqe ?_; (case zqt => exact isTup_of (by k_asm) (by k_mem)); (case zqh => rfl); (case zqe => first | exact (rfl : _ = false) | exact (rfl : _ = true)))))
  (k_with "!binaryOp BitAnd int int" => (k_here; (with_reducible refine and_lowT (by omega) ?_); intro _ _ _ vE))
  (k_with "!subscriptTail" => (k_here; (with_reducible show wpAny _ _ (subscriptTail _ _ (Value.bytes _ _) (Value.int (-1) _)) _ _ _); (refine last_octet (by (try simp only [octs_size]); omega) (by (try simp only [octs_size]); omega) ?_); intro _ _ _ lO _ _))
  (k_with "!ite" => first | (k_closed; k_dflt (first | refine PySem.W.ite_pos (by decide) ?_ | refine PySem.W.ite_neg (by decide) ?_)) | (first | refine PySem.W.ite_neg (by (try simp only [bne_iff_ne, ne_eq, beq_iff_eq, decide_eq_true_eq, Bool.not_eq_true', bne_eq_false_iff_eq, beq_eq_false_iff_ne]); omega) ?_ | refine PySem.W.ite_pos (by (try simp only [bne_iff_ne, ne_eq, beq_iff_eq, decide_eq_true_eq]); omega) ?_))
  (k_with "!execs cons" => (k_here; dsimp only))
  (k_with "!execs nil" => (k_here; dsimp only))
  (k_with "!truthy bytes" => (k_here; (refine truthy_bytesV (v := true) (by (try simp only [Array.size_append, List.size_toArray, octs_size, List.length_cons, List.length_nil]); omega) rfl ?_)))
  (k_with "!call ref" => first | (k_here; (with_reducible show wpAny _ _ (call (Value.ref _) [Value.ref _, Value.none, Value.int 0 _] _) _ _ _); k_dflt ((refine' call_meth ?zqkm ?zqkq ?_; (case zqkm => k_asm); (case zqkq => k_mem)); (refine' c_fvn3 ?zqcB ?zqcF ?zqcX ?zqcN ?zqcT ?zqck ?zqcd ?zqcu ?zqcY ?zqcm ?zqcp ?_ ?_); (case zqcN => exact news_dup3 (by k_asm) (by k_mem) (by k_mem) (by k_mem)); (case zqcB => k_asm); (case zqcF => k_asm); (case zqcX => k_asm); (case zqcT => k_asm); (case zqck => first | exact rfl | assumption); (case zqcd => ktr_room); (case zqcu => ktr_units); (case zqcY => assumption); (case zqcm => omega); (case zqcp => first | assumption | omega); (all_goals (first | (intro hA x' dx' ta' tb' tc' td' h' tk' F' N'; replace N' := news_und23 N') | (intro hA e' g' h' tk' Fg' U' R'; replace R' := raisedSN_undup3 R'))); (all_goals (try dsimp only)); (all_goals (try k_sweep)); (all_goals (try k_fold)))) | (k_here; (with_reducible show wpAny _ _ (call (Value.ref _) [Value.ref _] _) _ _ _); k_dflt ((refine' call_meth ?zqkm ?zqkq ?_; (case zqkm => k_asm); (case zqkq => k_mem)); (refine' c_fvv3 ?zqcB ?zqcF ?zqcX ?zqcN ?zqcT ?zqck ?zqcd ?zqcu ?zqcY ?zqcm ?zqcp ?_ ?_); (case zqcN => exact news_dup3 (by k_asm) (by k_mem) (by k_mem) (by k_mem)); (case zqcB => k_asm); (case zqcF => k_asm); (case zqcX => k_asm); (case zqcT => k_asm); (case zqck => first | exact rfl | assumption); (case zqcd => ktr_room); (case zqcu => ktr_units); (case zqcY => assumption); (case zqcm => omega); (case zqcp => first | assumption | omega); (all_goals (first | (intro hA x' dx' ta' tb' tc' td' h' tk' F' N'; replace N' := news_und23 N') | (intro hA e' g' h' tk' Fg' U' R'; replace R' := raisedSN_undup3 R'))); (all_goals (try dsimp only)); (all_goals (try k_sweep)); (all_goals (try k_fold)))))
  trivial
section
variable {w : World} {dp un : Nat} {gd : Option (List Code)} {cn : Str} {cs : Scope} {a : Addr} {ccd : Value} {cl : List (Str × Addr)}  {A₀ : Around} {base h₀ : Heap} {L : Addr} {m : Str → Option Value} {s : Shared} {R : Result → Shared → Prop}
  {loose : List Str} {mean : ExcName → Option Value} {mg mb : Str → Option Value} {news : List (Addr × Obj)} {D V dV : Addr} {ys : List Value} {ms : List Int} {p : Int} {va vb vc vd ve : Tok}
  (XB : (K0 w.params).In base) (TB : Top q1 loose mean mg mb base) (B : Below A₀ base [] h₀) (F : Fr h₀ L s.heap m) (X : (K0 w.params).In h₀) (N : News h₀ L s.heap ((V, instObj 141 dV) :: (dV, dictOf [⟨PyData.keyHash w.params "data", .str "data" va, .ref D⟩, ⟨PyData.keyHash w.params "dtype", .str "dtype" vb, .bytes #[3] vc⟩, ⟨PyData.keyHash w.params "padding", .str "padding" vd, .int p ve⟩] 3) :: (D, LCg.lst ys) :: news)) (T : Top q1 loose mean mg mb h₀) (hk : cs.kind = .function)
  (h1 : dp + 24 < recursionLimit) (h2 : un + 240 < cLine)
include XB TB B F X N T hk h1 h2
theorem c_packed3 (hY : IntsAre ys ms) (hm : ms.length ≤ 8) (hp : 0 ≤ p ∧ p ≤ 255)
  (retG : Good false p ms → ∀ (z : Addr) (ta tb : Tok) (h' : Heap) (tk' : Nat), Fr h₀ L h' m → News h₀ L h' ((z, { cls := .type "tuple", data := .seq #[.int 9 ta, .bytes (vecB 3 p ms) tb] }) :: ((V, instObj 141 dV) :: (dV, dictOf [⟨PyData.keyHash w.params "data", .str "data" va, .ref D⟩, ⟨PyData.keyHash w.params "dtype", .str "dtype" vb, .bytes #[3] vc⟩, ⟨PyData.keyHash w.params "padding", .str "padding" vd, .int p ve⟩] 3) :: (D, LCg.lst ys) :: news)) → R (.ok (.ret (.ref z))) { s with heap := h', toks := tk' })
  (retB : ¬ Good false p ms → ∀ (t' : Tok) (h' : Heap) (tk' : Nat), Fr h₀ L h' m → News h₀ L h' ((V, instObj 141 dV) :: (dV, dictOf [⟨PyData.keyHash w.params "data", .str "data" va, .ref D⟩, ⟨PyData.keyHash w.params "dtype", .str "dtype" vb, .bytes #[3] vc⟩, ⟨PyData.keyHash w.params "padding", .str "padding" vd, .int p ve⟩] 3) :: (D, LCg.lst ys) :: news) → R (.ok (.ret (.str "value" t'))) { s with heap := h', toks := tk' }) :
  codeAny (model P1 w) (ktrTop dp un gd cn cs L a ccd cl []) (.call (.ref 1540) ⟨[.ref V], []⟩) R s := by
  k_dflt cell_enter
  conv in (bdy _) => whnf
  k_steps
  all_goals first
    | (refine' retG (by assumption) _ _ _ _ _ ?kf ?kn; (case kf => k_asm); (case kn => ktr_rel))
    | (refine' retB (by assumption) _ _ _ ?kf ?kn; (case kf => k_asm); (case kn => ktr_rel))
theorem c_madeV3 {t t2 : Tok}
  (retB : ∀ (t' : Tok) (h' : Heap) (tk' : Nat), Fr h₀ L h' m → News h₀ L h' ((V, instObj 141 dV) :: (dV, dictOf [⟨PyData.keyHash w.params "data", .str "data" va, .ref D⟩, ⟨PyData.keyHash w.params "dtype", .str "dtype" vb, .bytes #[3] vc⟩, ⟨PyData.keyHash w.params "padding", .str "padding" vd, .int p ve⟩] 3) :: (D, LCg.lst ys) :: news) → R (.ok (.ret (.str "value" t'))) { s with heap := h', toks := tk' }) :
  codeAny (model P1 w) (ktrTop dp un gd cn cs L a ccd cl []) (.call (.ref 1533) ⟨[.ref V, .bytes #[3] t, .int 0 t2], []⟩) R s := by
  k_dflt cell_enter
  conv in (bdy _) => whnf
  k_steps
  all_goals (refine' retB _ _ _ ?kf ?kn; (case kf => k_asm); (case kn => ktr_rel))
theorem c_madeVn3 {q : Int} {t2 : Tok} (hq : q ≠ 0)
  (retB : ∀ (t' : Tok) (h' : Heap) (tk' : Nat), Fr h₀ L h' m → News h₀ L h' ((V, instObj 141 dV) :: (dV, dictOf [⟨PyData.keyHash w.params "data", .str "data" va, .ref D⟩, ⟨PyData.keyHash w.params "dtype", .str "dtype" vb, .bytes #[3] vc⟩, ⟨PyData.keyHash w.params "padding", .str "padding" vd, .int p ve⟩] 3) :: (D, LCg.lst ys) :: news) → R (.ok (.ret (.str "value" t'))) { s with heap := h', toks := tk' }) :
  codeAny (model P1 w) (ktrTop dp un gd cn cs L a ccd cl []) (.call (.ref 1533) ⟨[.ref V, .none, .int q t2], []⟩) R s := by
  k_dflt cell_enter
  conv in (bdy _) => whnf
  k_steps
  all_goals (refine' retB _ _ _ ?kf ?kn; (case kf => k_asm); (case kn => ktr_rel))
theorem c_madeVz3 {t2 : Tok} (hY : IntsAre ys ms) (hm : ms.length ≤ 8) (hp : 0 ≤ p ∧ p ≤ 255)
  (retG : Good false p ms → ∀ (z : Addr) (ta tb : Tok) (h' : Heap) (tk' : Nat), Fr h₀ L h' m → News h₀ L h' ((z, { cls := .type "tuple", data := .seq #[.int 9 ta, .bytes (vecB 3 p ms) tb] }) :: ((V, instObj 141 dV) :: (dV, dictOf [⟨PyData.keyHash w.params "data", .str "data" va, .ref D⟩, ⟨PyData.keyHash w.params "dtype", .str "dtype" vb, .bytes #[3] vc⟩, ⟨PyData.keyHash w.params "padding", .str "padding" vd, .int p ve⟩] 3) :: (D, LCg.lst ys) :: news)) → R (.ok (.ret (.ref z))) { s with heap := h', toks := tk' })
  (retB : ¬ Good false p ms → ∀ (t' : Tok) (h' : Heap) (tk' : Nat), Fr h₀ L h' m → News h₀ L h' ((V, instObj 141 dV) :: (dV, dictOf [⟨PyData.keyHash w.params "data", .str "data" va, .ref D⟩, ⟨PyData.keyHash w.params "dtype", .str "dtype" vb, .bytes #[3] vc⟩, ⟨PyData.keyHash w.params "padding", .str "padding" vd, .int p ve⟩] 3) :: (D, LCg.lst ys) :: news) → R (.ok (.ret (.str "value" t'))) { s with heap := h', toks := tk' }) :
  codeAny (model P1 w) (ktrTop dp un gd cn cs L a ccd cl []) (.call (.ref 1533) ⟨[.ref V, .none, .int 0 t2], []⟩) R s := by
  k_dflt cell_enter
  conv in (bdy _) => whnf
  k_steps
  all_goals first
    | (refine' retG (by assumption) _ _ _ _ _ ?kf ?kn; (case kf => k_asm); (case kn => ktr_rel))
    | (refine' retB (by assumption) _ _ _ ?kf ?kn; (case kf => k_asm); (case kn => ktr_rel))
end
end Mine
end
section
namespace Mine
theorem wdC3f40 : True := by
  k_with_none
  (k_with "!eval Call" => first | (k_here; (with_reducible show wpAny _ _ (eval (Expr.Call _ _ [] _) _) _ _ _); k_dflt (refine Call_ ?_)))
  (k_with "!exec Raise some none" => first | (k_here; (with_reducible show wpAny _ _ (exec (Stmt.Raise (some (Expr.Call (Expr.Name (PySem.Str.ofString "ValueError") _) _ _ _)) none _) _) _ _ _); k_dflt (refine Raise_new rfl ?_)) | (k_here; (with_reducible show wpAny _ _ (exec (Stmt.Raise (some (Expr.Call (Expr.Name (PySem.Str.ofString "TypeError") _) _ _ _)) none _) _) _ _ _); k_dflt (refine Raise_new rfl ?_)))
  (k_with "!leaving ref" => first | (k_here; (with_reducible rename KtsDicts _ _ => kdX); k_dflt (first | (refine' leave_raiseS ?zqk1 ?zqk0 ?zqk2 ?zqk3 ?_; (case zqk0 => first | assumption | exact Heap.MadeExc.of (by assumption)); (case zqk2 => assumption); (case zqk1 => assumption); (case zqk3 => k_asm); k_whole; intro h' t' S' R' U'; (try dsimp only at S' R' U' ⊢)) | (refine' leave_onS ?zqk1 ?zqk2 ?zqk3 ?zqk4 ?_; (case zqk3 => assumption); (case zqk2 => assumption); (case zqk1 => assumption); (case zqk4 => assumption); k_whole; intro h' S' R' U'; (try dsimp only at S' R' U' ⊢)) | (refine' leave_newS ?zqk1 ?zqk0 ?zqk2 ?zqk3 ?_; (case zqk0 => assumption); (case zqk2 => assumption); (case zqk1 => assumption); (case zqk3 => k_asm); k_whole; intro h' S' R' U'; (try dsimp only at S' R' U' ⊢)) | (refine' leave_onSN ?zqk1 ?zqk2 ?zqk3 ?zqk4 ?_; (case zqk3 => assumption); (case zqk2 => assumption); (case zqk1 => assumption); (case zqk4 => assumption); k_whole; intro h' S' R' U'; (try dsimp only at S' R' U' ⊢)))))
  (k_with "!eval Name" => first | (k_here; (first | (with_reducible show wpAny _ _ (eval (Expr.Name _ _) (envOf _ _ _ _ _)) _ _ _) | (with_reducible show wpAny _ _ (eval (Expr.Name _ _) (envOfC _ _ _ _ _)) _ _ _)); k_dflt (first | (refine' nameX_L ?zqF ?zqv ?_ ?zqa ?zqb; (case zqF => k_asm); (case zqv => rfl); (case zqa => rfl); (case zqb => kernel_rfl); k_whole) | (refine' nameX_K ?zqF ?zqX ?zqT ?zqe ?_ ?zqa ?zqb; (case zqT => k_asm); (case zqX => k_asm); (case zqF => k_asm); (case zqe => k_is); (case zqa => rfl); (case zqb => kernel_rfl); k_whole) | (refine' nameX_B ?zqF ?zqX ?zqT ?zqe ?zqv ?zqn ?_ ?zqa ?zqb; (case zqT => k_asm); (case zqX => k_asm); (case zqF => k_asm); (case zqe => k_is); (case zqv => boot_fast); (case zqn => decide); (case zqa => rfl); (case zqb => kernel_rfl); k_whole))))
  (k_with "k_mem" => (assumption))
  (k_with "k_room" => (ktr_room))
  (k_with "k_units" => (ktr_units))
  (k_with "ktr_rel" => (first | k_asm | (refine' cb_drop ?zqcbN ?zqcbS; (case zqcbN => k_asm); (case zqcbS => (repeat (first | (intro p hp; (repeat (first | exact hp | exact List.mem_append_left _ hp | apply List.mem_cons_of_mem)); done) | (refine' sub_cons ?_ ?_; focus k_mem)))))))
  (k_with "k_lt?" => skip)
  (k_with "k_all" => (refine all_ne_of ?_; assumption))
  (k_with "!call type:bytes" => first | (k_here; (with_reducible show wpAny _ _ (call (Value.type "bytes") [Value.bytes _ _]) _ _ _); refine bytes_id ?_) | (k_here; (with_reducible show wpAny _ _ (call (Value.type "bytes") [Value.ref _]) _ _ _); k_dflt (refine' bytes_L ?zqbF ?zqbN ?zqbh ?zqbl ?zqbi ?zqbr ?zqbz ?_; (case zqbF => k_asm); (case zqbN => k_asm); (case zqbh => rfl); (case zqbl => is_list); (case zqbi => assumption); (case zqbr => (first | (subst_vars; rw [List.map_id']; exact in_255 (by assumption)) | exact in_map256 | (subst_vars; exact in_map256) | exact in_255 (by assumption) | assumption)); (case zqbz => (simp_all; omega))); intro _ _ _ F' N'))
  (k_with "!binaryOp Add bytes bytes" => (k_here; (with_reducible show wpAny _ _ (binaryOp Operator.Add (Value.bytes _ _) (Value.bytes _ _)) _ _ _); (refine KBy.add_bytes (by (try simp only [Array.size_append, List.size_toArray, byteArr_size, octs_size, List.length_cons, List.length_nil, List.length_map]); omega) ?_); intro _ _))
  (k_with "cell_enter" => first | (refine' code_S0X ?zqk1 ?zqk2 ?zqk3 ?zqk4 ?zqk5 ?zqkA ?zqkF ?zqkK ?zqk6 ?zqk7 ?zqk8 ?zqk9 ?zqkB ?_ ?zqc2 ?zqc3 ?zqc4 ?zqc5; (case zqkA => exact rfl); (case zqkF => exact rfl); (case zqkK => assumption); (case zqk1 => k_asm); (case zqk2 => k_asm); (case zqk3 => k_asm); (case zqk4 => k_asm); (case zqk5 => k_asm); (case zqk6 => k_is); (case zqk7 => k_is); (case zqk8 => ktr_room); (case zqk9 => first | exact BindsTo.of_eq rfl | exact binds_K (by k_in) rfl (by k_is) rfl rfl rfl); (case zqc5 => decide); (case zqkB => exact locs rfl); (case zqc2 => exact rfl); (case zqc3 => exact rfl); (case zqc4 => exact rfl); k_whole; intro g' L' h' FG' F' N' B' X' T' D'; (try dsimp only); (try k_lift B'); (try k_fold)) | (refine' code_def ?zqk1 ?zqk2 ?zqk3 ?zqk4 ?zqk5 ?zqkA ?zqkF ?zqkK ?zqk6 ?zqk7 ?zqk8 ?zqk9 ?zqkB ?_ ?zqc2 ?zqc3 ?zqc4 ?zqc5; (case zqkA => exact rfl); (case zqkF => exact rfl); (case zqkK => assumption); (case zqk1 => k_asm); (case zqk2 => k_asm); (case zqk3 => k_asm); (case zqk4 => k_asm); (case zqk5 => k_asm); (case zqk6 => k_is); (case zqk7 => k_is); (case zqk8 => ktr_room); (case zqk9 => first | exact BindsTo.of_eq rfl | exact binds_K (by k_in) rfl (by k_is) rfl rfl rfl); (case zqc5 => decide); (case zqkB => exact locs rfl); (case zqc2 => exact rfl); (case zqc3 => exact rfl); (case zqc4 => exact rfl); k_whole; intro g' L' h' FG' F' N' B' X' T'; (try dsimp only); (try k_lift B'); (try k_fold)))
  (k_with "!compareOp NotIn" => first | (k_here; (with_reducible show wpAny _ _ (compareOp CmpOp.NotIn (Value.int _ _) (Value.ref _)) _ _ _); k_dflt (refine' notin_int_bytes ?zqt ?zqh ?_; (case zqt => exact isTup_of (by k_asm) (by k_mem)); (case zqh => rfl))) | (k_here; (with_reducible show wpAny _ _ (compareOp CmpOp.NotIn (Value.bytes _ _) (Value.ref _)) _ _ _); k_dflt (refine' notin_bytes ?zqt ?zqh ?zqe ?_; (case zqt => exact isTup_of (by k_asm) (by k_mem)); (case zqh => rfl); (case zqe => first | exact (rfl : _ = false) | exact (rfl : _ = true)))))
  (k_with "!binaryOp BitAnd int int" => (k_here; (with_reducible refine and_lowT (by omega) ?_); intro _ _ _ vE))
  (k_with "!subscriptTail" => (k_here; (with_reducible show wpAny _ _ (subscriptTail _ _ (Value.bytes _ _) (Value.int (-1) _)) _ _ _); (refine last_octet (by (try simp only [octs_size]); omega) (by (try simp only [octs_size]); omega) ?_); intro _ _ _ lO _ _))
  (k_with "!ite" => first | (k_closed; k_dflt (first | refine PySem.W.ite_pos (by decide) ?_ | refine PySem.W.ite_neg (by decide) ?_)) | (first | refine PySem.W.ite_neg (by (try simp only [bne_iff_ne, ne_eq, beq_iff_eq, decide_eq_true_eq, Bool.not_eq_true', bne_eq_false_iff_eq, beq_eq_false_iff_ne]); omega) ?_ | refine PySem.W.ite_pos (by (try simp only [bne_iff_ne, ne_eq, beq_iff_eq, decide_eq_true_eq]); omega) ?_))
  (k_with "!execs cons" => (k_here; dsimp only))
  (k_with "!execs nil" => (k_here; dsimp only))
  (k_with "!truthy bytes" => (k_here; (refine truthy_bytesV (v := true) (by (try simp only [Array.size_append, List.size_toArray, octs_size, List.length_cons, List.length_nil]); omega) rfl ?_)))
  trivial
section
variable {w : World} {dp un : Nat} {gd : Option (List Code)} {cn : Str} {cs : Scope} {a : Addr} {ccd : Value} {cl : List (Str × Addr)}  {A₀ : Around} {base h₀ : Heap} {L : Addr} {m : Str → Option Value} {s : Shared} {R : Result → Shared → Prop}
  {loose : List Str} {mean : ExcName → Option Value} {mg mb : Str → Option Value} {news : List (Addr × Obj)} {D : Addr} {ys : List Value} {ms : List Int}
  (XB : (K0 w.params).In base) (TB : Top q1 loose mean mg mb base) (B : Below A₀ base [] h₀) (F : Fr h₀ L s.heap m) (X : (K0 w.params).In h₀) (N : News h₀ L s.heap ((D, LCg.lst ys) :: news)) (T : Top q1 loose mean mg mb h₀) (hk : cs.kind = .function)
  (h1 : dp + 24 < recursionLimit) (h2 : un + 240 < cLine)
include XB TB B F X N T hk h1 h2
theorem c_madeK5 {p : Int} {t t2 : Tok} (hp : 0 ≤ p ∧ p ≤ 255)
  (retB : ∀ (t' : Tok) (h' : Heap) (tk' : Nat), Fr h₀ L h' m → News h₀ L h' ((D, LCg.lst ys) :: news) → R (.ok (.ret (.str "kind" t'))) { s with heap := h', toks := tk' }) :
  codeAny (model P1 w) (ktrTop dp un gd cn cs L a ccd cl []) (.call (.ref 1533) ⟨[.ref D, .bytes #[5] t, .int p t2], []⟩) R s := by
  k_dflt cell_enter
  conv in (bdy _) => whnf
  k_steps
  all_goals (refine' retB _ _ _ ?kf ?kn; (case kf => k_asm); (case kn => ktr_rel))
theorem c_madeK3 {p : Int} {t t2 : Tok} (hp : 0 ≤ p ∧ p ≤ 255)
  (retB : ∀ (t' : Tok) (h' : Heap) (tk' : Nat), Fr h₀ L h' m → News h₀ L h' ((D, LCg.lst ys) :: news) → R (.ok (.ret (.str "kind" t'))) { s with heap := h', toks := tk' }) :
  codeAny (model P1 w) (ktrTop dp un gd cn cs L a ccd cl []) (.call (.ref 1533) ⟨[.ref D, .int 3 t, .int p t2], []⟩) R s := by
  k_dflt cell_enter
  conv in (bdy _) => whnf
  k_steps
  all_goals (refine' retB _ _ _ ?kf ?kn; (case kf => k_asm); (case kn => ktr_rel))
end
end Mine
end
section
namespace Mine
theorem wdC3g0 : True := by
  k_with_none
  (k_with "!eval Call" => first | (k_here; (with_reducible show wpAny _ _ (eval (Expr.Call _ _ [] _) _) _ _ _); k_dflt (refine Call_ ?_)))
  (k_with "!exec Raise some none" => first | (k_here; (with_reducible show wpAny _ _ (exec (Stmt.Raise (some (Expr.Call (Expr.Name (PySem.Str.ofString "ValueError") _) _ _ _)) none _) _) _ _ _); k_dflt (refine Raise_new rfl ?_)) | (k_here; (with_reducible show wpAny _ _ (exec (Stmt.Raise (some (Expr.Call (Expr.Name (PySem.Str.ofString "TypeError") _) _ _ _)) none _) _) _ _ _); k_dflt (refine Raise_new rfl ?_)))
  (k_with "!leaving ref" => first | (k_here; (with_reducible rename KtsDicts _ _ => kdX); k_dflt (first | (refine' leave_raiseS ?zqk1 ?zqk0 ?zqk2 ?zqk3 ?_; (case zqk0 => first | assumption | exact Heap.MadeExc.of (by assumption)); (case zqk2 => assumption); (case zqk1 => assumption); (case zqk3 => k_asm); k_whole; intro h' t' S' R' U'; (try dsimp only at S' R' U' ⊢)) | (refine' leave_onS ?zqk1 ?zqk2 ?zqk3 ?zqk4 ?_; (case zqk3 => assumption); (case zqk2 => assumption); (case zqk1 => assumption); (case zqk4 => assumption); k_whole; intro h' S' R' U'; (try dsimp only at S' R' U' ⊢)) | (refine' leave_newS ?zqk1 ?zqk0 ?zqk2 ?zqk3 ?_; (case zqk0 => assumption); (case zqk2 => assumption); (case zqk1 => assumption); (case zqk3 => k_asm); k_whole; intro h' S' R' U'; (try dsimp only at S' R' U' ⊢)) | (refine' leave_onSN ?zqk1 ?zqk2 ?zqk3 ?zqk4 ?_; (case zqk3 => assumption); (case zqk2 => assumption); (case zqk1 => assumption); (case zqk4 => assumption); k_whole; intro h' S' R' U'; (try dsimp only at S' R' U' ⊢)))))
  (k_with "!eval Name" => first | (k_here; (first | (with_reducible show wpAny _ _ (eval (Expr.Name _ _) (envOf _ _ _ _ _)) _ _ _) | (with_reducible show wpAny _ _ (eval (Expr.Name _ _) (envOfC _ _ _ _ _)) _ _ _)); k_dflt (first | (refine' nameX_L ?zqF ?zqv ?_ ?zqa ?zqb; (case zqF => k_asm); (case zqv => rfl); (case zqa => rfl); (case zqb => kernel_rfl); k_whole) | (refine' nameX_K ?zqF ?zqX ?zqT ?zqe ?_ ?zqa ?zqb; (case zqT => k_asm); (case zqX => k_asm); (case zqF => k_asm); (case zqe => k_is); (case zqa => rfl); (case zqb => kernel_rfl); k_whole) | (refine' nameX_B ?zqF ?zqX ?zqT ?zqe ?zqv ?zqn ?_ ?zqa ?zqb; (case zqT => k_asm); (case zqX => k_asm); (case zqF => k_asm); (case zqe => k_is); (case zqv => boot_fast); (case zqn => decide); (case zqa => rfl); (case zqb => kernel_rfl); k_whole))))
  (k_with "k_mem" => (assumption))
  (k_with "k_room" => (ktr_room))
  (k_with "k_units" => (ktr_units))
  (k_with "ktr_rel" => (first | k_asm | (refine' cb_drop ?zqcbN ?zqcbS; (case zqcbN => k_asm); (case zqcbS => (repeat (first | (intro p hp; (repeat (first | exact hp | exact List.mem_append_left _ hp | apply List.mem_cons_of_mem)); done) | (refine' sub_cons ?_ ?_; focus k_mem)))))))
  (k_with "k_lt?" => skip)
  (k_with "k_all" => (refine all_ne_of ?_; assumption))
  (k_with "!call type:bytes" => first | (k_here; (with_reducible show wpAny _ _ (call (Value.type "bytes") [Value.bytes _ _]) _ _ _); refine bytes_id ?_) | (k_here; (with_reducible show wpAny _ _ (call (Value.type "bytes") [Value.ref _]) _ _ _); k_dflt (refine' bytes_L ?zqbF ?zqbN ?zqbh ?zqbl ?zqbi ?zqbr ?zqbz ?_; (case zqbF => k_asm); (case zqbN => k_asm); (case zqbh => rfl); (case zqbl => is_list); (case zqbi => assumption); (case zqbr => (first | (subst_vars; rw [List.map_id']; exact in_255 (by assumption)) | exact in_map256 | (subst_vars; exact in_map256) | exact in_255 (by assumption) | assumption)); (case zqbz => (simp_all; omega))); intro _ _ _ F' N'))
  (k_with "!binaryOp Add bytes bytes" => (k_here; (with_reducible show wpAny _ _ (binaryOp Operator.Add (Value.bytes _ _) (Value.bytes _ _)) _ _ _); (refine KBy.add_bytes (by (try simp only [Array.size_append, List.size_toArray, byteArr_size, octs_size, List.length_cons, List.length_nil, List.length_map]); omega) ?_); intro _ _))
  (k_with "cell_enter" => first | (refine' code_S0X ?zqk1 ?zqk2 ?zqk3 ?zqk4 ?zqk5 ?zqkA ?zqkF ?zqkK ?zqk6 ?zqk7 ?zqk8 ?zqk9 ?zqkB ?_ ?zqc2 ?zqc3 ?zqc4 ?zqc5; (case zqkA => exact rfl); (case zqkF => exact rfl); (case zqkK => assumption); (case zqk1 => k_asm); (case zqk2 => k_asm); (case zqk3 => k_asm); (case zqk4 => k_asm); (case zqk5 => k_asm); (case zqk6 => k_is); (case zqk7 => k_is); (case zqk8 => ktr_room); (case zqk9 => first | exact BindsTo.of_eq rfl | exact binds_K (by k_in) rfl (by k_is) rfl rfl rfl); (case zqc5 => decide); (case zqkB => exact locs rfl); (case zqc2 => exact rfl); (case zqc3 => exact rfl); (case zqc4 => exact rfl); k_whole; intro g' L' h' FG' F' N' B' X' T' D'; (try dsimp only); (try k_lift B'); (try k_fold)) | (refine' code_def ?zqk1 ?zqk2 ?zqk3 ?zqk4 ?zqk5 ?zqkA ?zqkF ?zqkK ?zqk6 ?zqk7 ?zqk8 ?zqk9 ?zqkB ?_ ?zqc2 ?zqc3 ?zqc4 ?zqc5; (case zqkA => exact rfl); (case zqkF => exact rfl); (case zqkK => assumption); (case zqk1 => k_asm); (case zqk2 => k_asm); (case zqk3 => k_asm); (case zqk4 => k_asm); (case zqk5 => k_asm); (case zqk6 => k_is); (case zqk7 => k_is); (case zqk8 => ktr_room); (case zqk9 => first | exact BindsTo.of_eq rfl | exact binds_K (by k_in) rfl (by k_is) rfl rfl rfl); (case zqc5 => decide); (case zqkB => exact locs rfl); (case zqc2 => exact rfl); (case zqc3 => exact rfl); (case zqc4 => exact rfl); k_whole; intro g' L' h' FG' F' N' B' X' T'; (try dsimp only); (try k_lift B'); (try k_fold)))
  (k_with "!compareOp NotIn" => first | (k_here; (with_reducible show wpAny _ _ (compareOp CmpOp.NotIn (Value.int _ _) (Value.ref _)) _ _ _); k_dflt (refine' notin_int_bytes ?zqt ?zqh ?_; (case zqt => exact isTup_of (by k_asm) (by k_mem)); (case zqh => rfl))) | (k_here; (with_reducible show wpAny _ _ (compareOp CmpOp.NotIn (Value.bytes _ _) (Value.ref _)) _ _ _); k_dflt (refine' notin_bytes ?zqt ?zqh ?zqe ?_; (case zqt => exact isTup_of (by k_asm) (by k_mem)); (case zqh => rfl); (case zqe => first | exact (rfl : _ = false) | exact (rfl : _ = true)))))
  (k_with "!binaryOp BitAnd int int" => (k_here; (with_reducible refine and_lowT (by omega) ?_); intro _ _ _ vE))
  (k_with "!subscriptTail" => (k_here; (with_reducible show wpAny _ _ (subscriptTail _ _ (Value.bytes _ _) (Value.int (-1) _)) _ _ _); (refine last_octet (by (try simp only [octs_size]); omega) (by (try simp only [octs_size]); omega) ?_); intro _ _ _ lO _ _))
  (k_with "!ite" => first | (k_closed; k_dflt (first | refine PySem.W.ite_pos (by decide) ?_ | refine PySem.W.ite_neg (by decide) ?_)) | (first | refine PySem.W.ite_neg (by (try simp only [bne_iff_ne, ne_eq, beq_iff_eq, decide_eq_true_eq, Bool.not_eq_true', bne_eq_false_iff_eq, beq_eq_false_iff_ne]); omega) ?_ | refine PySem.W.ite_pos (by (try simp only [bne_iff_ne, ne_eq, beq_iff_eq, decide_eq_true_eq]); omega) ?_))
  (k_with "!execs cons" => (k_here; dsimp only))
  (k_with "!execs nil" => (k_here; dsimp only))
  (k_with "!truthy bytes" => (k_here; (refine truthy_bytesV (v := true) (by (try simp only [Array.size_append, List.size_toArray, octs_size, List.length_cons, List.length_nil]); omega) rfl ?_)))
  trivial
def KD (b : Bool) (kd : Array UInt8) : Prop := (b = true ∧ kd = #[16]) ∨ (b = false ∧ kd = #[3])
def vec (kd : Array UInt8) (p : Int) (ms : List Int) : Array UInt8 := kd ++ #[p.toNat.toUInt8] ++ octs ms
section
variable {w : World} {dp un : Nat} {gd : Option (List Code)} {cn : Str} {cs : Scope} {a : Addr} {ccd : Value} {cl : List (Str × Addr)}  {A₀ : Around} {base h₀ : Heap} {L : Addr} {m : Str → Option Value} {s : Shared} {R : Result → Shared → Prop}
  {loose : List Str} {mean : ExcName → Option Value} {mg mb : Str → Option Value} {news : List (Addr × Obj)} {D : Addr} {ys : List Value} {ms : List Int} {b : Bool} {kd : Array UInt8}
  (XB : (K0 w.params).In base) (TB : Top q1 loose mean mg mb base) (B : Below A₀ base [] h₀) (F : Fr h₀ L s.heap m) (X : (K0 w.params).In h₀) (N : News h₀ L s.heap ((D, LCg.lst ys) :: news)) (T : Top q1 loose mean mg mb h₀) (hk : cs.kind = .function)
  (h1 : dp + 24 < recursionLimit) (h2 : un + 240 < cLine)
include XB TB B F X N T hk h1 h2
theorem g_made {p : Int} {t t2 : Tok} (hK : KD b kd) (hY : IntsAre ys ms) (hm : ms.length ≤ 8) (hp : 0 ≤ p ∧ p ≤ 255)
  (retG : Good b p ms → ∀ (z : Addr) (ta tb : Tok) (h' : Heap) (tk' : Nat), Fr h₀ L h' m → News h₀ L h' ((z, { cls := .type "tuple", data := .seq #[.int 9 ta, .bytes (vec kd p ms) tb] }) :: ((D, LCg.lst ys) :: news)) → R (.ok (.ret (.ref z))) { s with heap := h', toks := tk' })
  (retB : ¬ Good b p ms → ∀ (t' : Tok) (h' : Heap) (tk' : Nat), Fr h₀ L h' m → News h₀ L h' ((D, LCg.lst ys) :: news) → R (.ok (.ret (.str "value" t'))) { s with heap := h', toks := tk' }) :
  codeAny (model P1 w) (ktrTop dp un gd cn cs L a ccd cl []) (.call (.ref 1533) ⟨[.ref D, .bytes kd t, .int p t2], []⟩) R s := by
  rcases hK with ⟨rfl, rfl⟩ | ⟨rfl, rfl⟩
  · exact c_made16 XB TB B F X N T hk h1 h2 hY hm hp retG retB
  · exact c_made3 XB TB B F X N T hk h1 h2 hY hm hp retG retB
end
section
variable {w : World} {dp un : Nat} {gd : Option (List Code)} {cn : Str} {cs : Scope} {a : Addr} {ccd : Value} {cl : List (Str × Addr)}  {A₀ : Around} {base h₀ : Heap} {L : Addr} {m : Str → Option Value} {s : Shared} {R : Result → Shared → Prop}
  {loose : List Str} {mean : ExcName → Option Value} {mg mb : Str → Option Value} {news : List (Addr × Obj)} {D V dV : Addr} {ys : List Value} {ms : List Int} {p : Int} {va vb vc vd ve : Tok} {b : Bool} {kd : Array UInt8}
  (XB : (K0 w.params).In base) (TB : Top q1 loose mean mg mb base) (B : Below A₀ base [] h₀) (F : Fr h₀ L s.heap m) (X : (K0 w.params).In h₀) (N : News h₀ L s.heap ((V, instObj 141 dV) :: (dV, dictOf [⟨PyData.keyHash w.params "data", .str "data" va, .ref D⟩, ⟨PyData.keyHash w.params "dtype", .str "dtype" vb, .bytes kd vc⟩, ⟨PyData.keyHash w.params "padding", .str "padding" vd, .int p ve⟩] 3) :: (D, LCg.lst ys) :: news)) (T : Top q1 loose mean mg mb h₀) (hk : cs.kind = .function)
  (h1 : dp + 24 < recursionLimit) (h2 : un + 240 < cLine)
include XB TB B F X N T hk h1 h2
theorem g_packed (hK : KD b kd) (hY : IntsAre ys ms) (hm : ms.length ≤ 8) (hp : 0 ≤ p ∧ p ≤ 255)
  (retG : Good b p ms → ∀ (z : Addr) (ta tb : Tok) (h' : Heap) (tk' : Nat), Fr h₀ L h' m → News h₀ L h' ((z, { cls := .type "tuple", data := .seq #[.int 9 ta, .bytes (vec kd p ms) tb] }) :: ((V, instObj 141 dV) :: (dV, dictOf [⟨PyData.keyHash w.params "data", .str "data" va, .ref D⟩, ⟨PyData.keyHash w.params "dtype", .str "dtype" vb, .bytes kd vc⟩, ⟨PyData.keyHash w.params "padding", .str "padding" vd, .int p ve⟩] 3) :: (D, LCg.lst ys) :: news)) → R (.ok (.ret (.ref z))) { s with heap := h', toks := tk' })
  (retB : ¬ Good b p ms → ∀ (t' : Tok) (h' : Heap) (tk' : Nat), Fr h₀ L h' m → News h₀ L h' ((V, instObj 141 dV) :: (dV, dictOf [⟨PyData.keyHash w.params "data", .str "data" va, .ref D⟩, ⟨PyData.keyHash w.params "dtype", .str "dtype" vb, .bytes kd vc⟩, ⟨PyData.keyHash w.params "padding", .str "padding" vd, .int p ve⟩] 3) :: (D, LCg.lst ys) :: news) → R (.ok (.ret (.str "value" t'))) { s with heap := h', toks := tk' }) :
  codeAny (model P1 w) (ktrTop dp un gd cn cs L a ccd cl []) (.call (.ref 1540) ⟨[.ref V], []⟩) R s := by
  rcases hK with ⟨rfl, rfl⟩ | ⟨rfl, rfl⟩
  · exact c_packed16 XB TB B F X N T hk h1 h2 hY hm hp retG retB
  · exact c_packed3 XB TB B F X N T hk h1 h2 hY hm hp retG retB
theorem g_madeV {t t2 : Tok} (hK : KD b kd)
  (retB : ∀ (t' : Tok) (h' : Heap) (tk' : Nat), Fr h₀ L h' m → News h₀ L h' ((V, instObj 141 dV) :: (dV, dictOf [⟨PyData.keyHash w.params "data", .str "data" va, .ref D⟩, ⟨PyData.keyHash w.params "dtype", .str "dtype" vb, .bytes kd vc⟩, ⟨PyData.keyHash w.params "padding", .str "padding" vd, .int p ve⟩] 3) :: (D, LCg.lst ys) :: news) → R (.ok (.ret (.str "value" t'))) { s with heap := h', toks := tk' }) :
  codeAny (model P1 w) (ktrTop dp un gd cn cs L a ccd cl []) (.call (.ref 1533) ⟨[.ref V, .bytes kd t, .int 0 t2], []⟩) R s := by
  rcases hK with ⟨rfl, rfl⟩ | ⟨rfl, rfl⟩
  · exact c_madeV16 XB TB B F X N T hk h1 h2 retB
  · exact c_madeV3 XB TB B F X N T hk h1 h2 retB
theorem g_madeVn {q : Int} {t2 : Tok} (hK : KD b kd) (hq : q ≠ 0)
  (retB : ∀ (t' : Tok) (h' : Heap) (tk' : Nat), Fr h₀ L h' m → News h₀ L h' ((V, instObj 141 dV) :: (dV, dictOf [⟨PyData.keyHash w.params "data", .str "data" va, .ref D⟩, ⟨PyData.keyHash w.params "dtype", .str "dtype" vb, .bytes kd vc⟩, ⟨PyData.keyHash w.params "padding", .str "padding" vd, .int p ve⟩] 3) :: (D, LCg.lst ys) :: news) → R (.ok (.ret (.str "value" t'))) { s with heap := h', toks := tk' }) :
  codeAny (model P1 w) (ktrTop dp un gd cn cs L a ccd cl []) (.call (.ref 1533) ⟨[.ref V, .none, .int q t2], []⟩) R s := by
  rcases hK with ⟨rfl, rfl⟩ | ⟨rfl, rfl⟩
  · exact c_madeVn16 XB TB B F X N T hk h1 h2 hq retB
  · exact c_madeVn3 XB TB B F X N T hk h1 h2 hq retB
theorem g_madeVz {q : Int} {t2 : Tok} (hK : KD b kd) (hq : q = 0) (hY : IntsAre ys ms) (hm : ms.length ≤ 8) (hp : 0 ≤ p ∧ p ≤ 255)
  (retG : Good b p ms → ∀ (z : Addr) (ta tb : Tok) (h' : Heap) (tk' : Nat), Fr h₀ L h' m → News h₀ L h' ((z, { cls := .type "tuple", data := .seq #[.int 9 ta, .bytes (vec kd p ms) tb] }) :: ((V, instObj 141 dV) :: (dV, dictOf [⟨PyData.keyHash w.params "data", .str "data" va, .ref D⟩, ⟨PyData.keyHash w.params "dtype", .str "dtype" vb, .bytes kd vc⟩, ⟨PyData.keyHash w.params "padding", .str "padding" vd, .int p ve⟩] 3) :: (D, LCg.lst ys) :: news)) → R (.ok (.ret (.ref z))) { s with heap := h', toks := tk' })
  (retB : ¬ Good b p ms → ∀ (t' : Tok) (h' : Heap) (tk' : Nat), Fr h₀ L h' m → News h₀ L h' ((V, instObj 141 dV) :: (dV, dictOf [⟨PyData.keyHash w.params "data", .str "data" va, .ref D⟩, ⟨PyData.keyHash w.params "dtype", .str "dtype" vb, .bytes kd vc⟩, ⟨PyData.keyHash w.params "padding", .str "padding" vd, .int p ve⟩] 3) :: (D, LCg.lst ys) :: news) → R (.ok (.ret (.str "value" t'))) { s with heap := h', toks := tk' }) :
  codeAny (model P1 w) (ktrTop dp un gd cn cs L a ccd cl []) (.call (.ref 1533) ⟨[.ref V, .none, .int q t2], []⟩) R s := by
  subst hq
  rcases hK with ⟨rfl, rfl⟩ | ⟨rfl, rfl⟩
  · exact c_madeVz16 XB TB B F X N T hk h1 h2 hY hm hp retG retB
  · exact c_madeVz3 XB TB B F X N T hk h1 h2 hY hm hp retG retB
end
end Mine
end
section
namespace Mine
section
variable {prog : Program} {w : World} {A₀ : Around} {E : Value → Shared → Prop} {s' : Shared} {h₀ h : Heap} {outer : List Env} {L e : Addr} {m : Str → Option Value} {env : Env}
  {b₀ : Stmt} {suite : List Stmt} {pos np : Pos} {rest : List ExceptHandler} {Q : Flow → Shared → Prop} {news : List (Addr × Obj)}
  {p : Program} {loose : List Str} {mean : ExcName → Option Value} {mg mb : Str → Option Value} {x : Str} {X T' : String}
theorem caught_X0 (K : Below A₀ h₀ outer h₀) (hf : env.frame = some L) (F : Fr h₀ L h m) (hsm : h.UpToSlots s'.heap) (R : RaisedN h₀ (env :: outer) e (.type X) news s'.heap)
    (T : TopRead p loose mg mb h₀) (hv : bootBuiltins x = some (.type T'))
    (hexc : isSubtype (.type T') (.type "BaseException") = pure true) (hnt : isSubtype (.type ((Manifest.find? T').elim "type" fun y => y.metatype)) (.type "tuple") = pure false) (hsub : isSubtype (.type X) (.type T') = pure true)
    (hE : PassesOwnAt (model prog w) ((A₀.deeper env).mark (some (.ref e))) (A₀.deeper env) env E)
    (k : ∀ h', Fr h₀ L h' m → News h₀ L h' news →
      wpAny (model prog w) ((A₀.deeper env).mark (some (.ref e))) (execs (b₀ :: suite) env) Q E { s' with heap := h' })
    (hmiss : mg x = none) (hn : x ≠ "__name__" := by decide +kernel)
    (hgl : mainGlobals = env.globals := by rfl) (hbl : builtinsNs = env.builtins := by rfl) (hk : env.scope.kind = .function := by rfl) (hx : env.kindOf x = some .globalImplicit := by rfl) (hd : (x == ("__debug__" : Str)) = false := by decide) :
    wpAny (model prog w) (A₀.deeper env) (noteFrame (.ref e) env)
      (fun _ s₂ => wpAny (model prog w) (A₀.deeper env) (setFlight (.ref e) none) (fun _ s₃ =>
        wpAny (model prog w) (A₀.deeper env) (handleBy (.ref e) env (.ExceptHandler (some (.Name x np)) none (b₀ :: suite) pos :: rest)) Q E s₃) E s₂) E s' := by
  obtain ⟨B, a0, hB, hl, hfl⟩ := R
  have hL : B.get? L = none := by
    obtain ⟨_, ⟨L', _, hf', hn', _⟩, _⟩ := hfl.2.2.1
    have : L = L' := Option.some.inj (hf.symm.trans hf')
    rw [this]; exact hn'
  refine wpAny_looks_onW (Around.frames_deeper K.stack) hf hfl fun h₄ hheld₄ hsm₄ => ?_
  refine wpAny_landsW hheld₄ fun h₅ hheld hsm₅' => ?_
  have hsm₅ := hsm₄.trans hsm₅'
  have hheld' := flyingW_base hB hheld
  have F₅ := F.of_stays hheld'.1 (hsm.trans hsm₅)
  obtain ⟨ob, hob, hobc⟩ := hheld'.there
  refine wpAny_handleBy_builtin (X := X) (T := T') (b := true) hexc hnt hsub (Calls.Name_function_global hk hx (Calls.loadGlobal_builtin (env := env) (hgl ▸ T.g.keeps F₅.keep) hmiss (hbl ▸ T.b.keeps F₅.keep) ((T.builtins x hn).trans hv) ⟨rfl, ⟨ob, hob, hobc⟩, ?_⟩) hd)
  refine lands_againW hheld fun h₆ hfl₆ hsm₆ => ?_
  have F₆ := F.of_stays (flyingW_base hB hfl₆).1 ((hsm.trans hsm₅).trans hsm₆)
  exact wpAny_passesOwnAt hE (k h₆ F₆ fun q hq => ⟨hfl₆.1 _ _ (hl q hq).1, (fun z => by have := (hl q hq).1; rw [z, hL] at this; cases this), (hl q hq).2⟩)
end
theorem picked_drop2 (x0 x1 : UInt8) (l : List UInt8) : KBy.picked (x0 :: x1 :: l).toArray (some 2) none = l.toArray := by
  rw [KBc.picked_eq]
  have e2 : ∀ n, clipAt n 2 = min 2 n := fun n => clipAt_nat n 2
  simp only [Option.elim, e2, List.size_toArray, List.length_cons]
  rw [Nat.min_eq_left (by omega)]
  simp
theorem picked_01 (x0 x1 : UInt8) (l : List UInt8) : KBy.picked (x0 :: x1 :: l).toArray (some 0) (some 1) = #[x0] := by
  rw [KBc.picked_eq]
  have e0 : ∀ n, clipAt n 0 = min 0 n := fun n => clipAt_nat n 0
  have e1 : ∀ n, clipAt n 1 = min 1 n := fun n => clipAt_nat n 1
  simp only [Option.elim, e0, e1, List.size_toArray, List.length_cons]
  rw [Nat.min_eq_left (by omega), Nat.min_eq_left (by omega)]
  simp
section
variable {prog : Program} {w : World} {A : Around} {E : Value → Shared → Prop} {s : Shared} {value slice : PySem.Expr} {b c : Array UInt8} {t : Tok} {h₀ : Heap} {L : Addr} {m : PySem.Str → Option Value} {news : List (Addr × Obj)} {l u : Value} {lo hi : Option Int} {Q : Value → Shared → Prop}
theorem slice_BV (hF : Fr h₀ L s.heap m) (hN : News h₀ L s.heap news) (hl : IsPart l lo) (hu : IsPart u hi) (hz : b.size ≤ 16777216) (he : KBy.picked b lo hi = c)
    (h : ∀ h' t' k, Fr h₀ L h' m → News h₀ L h' news → Q (.bytes c t') { s with heap := h', toks := k })
    (hs : subscripted slice false (.bytes b t) (.ref s.heap.objs.size) = operate [.ref s.heap.objs.size, .bytes b t] (getItem (.bytes b t) (.ref s.heap.objs.size)) := by with_unfolding_all rfl)
    (ht : ∀ r, letTemporaryGo value (.bytes b t) r = pure () := by intro _; with_unfolding_all rfl) :
    wpAny (model prog w) A (subscriptTail value slice (.bytes b t) (.ref s.heap.objs.size)) Q E { s with heap := s.heap.push { cls := .type "slice", data := .fields #[l, u, .none] } } :=
  slice_B hF hN hl hu hz (fun h' t' k F N => by rw [he]; exact h h' t' k F N) hs ht
theorem item_octet {b : List UInt8} {i : Int} {u : Tok} {x : UInt8} (h0 : 0 ≤ i) (hx : b[i.toNat]? = some x) (hz : b.length ≤ 16777216) (h : ∀ t' tk', Q (.int (x.toNat : Int) t') { s with toks := tk' })
    (hs : subscripted slice false (.bytes b.toArray t) (.int i u) = operate [.bytes b.toArray t, .int i u] (getItem (.bytes b.toArray t) (.int i u)) := by with_unfolding_all rfl)
    (ht : ∀ r, letTemporaryGo value (.bytes b.toArray t) r = pure () := by intro _; with_unfolding_all rfl) :
    wpAny (model prog w) A (subscriptTail value slice (.bytes b.toArray t) (.int i u)) Q E s := by
  have hl : i.toNat < b.length := by
    rcases Nat.lt_or_ge i.toNat b.length with h' | h'
    · exact h'
    · rw [List.getElem?_eq_none h'] at hx; cases hx
  refine tail_any (typeIs_bytes _ _ _) FB.slot_bytes_getitem.lookup (getItem_bytes (by omega) h0 (by omega) ?_) hs
  rw [List.getD_eq_getElem?_getD, hx]
  exact h _ _
end
end Mine
end
section
namespace Mine
theorem wdC3h0 : True := by
  k_with_none
  (k_with "!eval Call" => first | (k_here; (with_reducible show wpAny _ _ (eval (Expr.Call _ _ [] _) _) _ _ _); k_dflt (refine Call_ ?_)))
  (k_with "!exec Raise some none" => first | (k_here; (with_reducible show wpAny _ _ (exec (Stmt.Raise (some (Expr.Call (Expr.Name (PySem.Str.ofString "ValueError") _) _ _ _)) none _) _) _ _ _); k_dflt (refine Raise_new rfl ?_)) | (k_here; (with_reducible show wpAny _ _ (exec (Stmt.Raise (some (Expr.Call (Expr.Name (PySem.Str.ofString "TypeError") _) _ _ _)) none _) _) _ _ _); k_dflt (refine Raise_new rfl ?_)))
  (k_with "!leaving ref" => first | (k_here; (with_reducible rename KtsDicts _ _ => kdX); k_dflt (first | (refine' leave_raiseS ?zqk1 ?zqk0 ?zqk2 ?zqk3 ?_; (case zqk0 => first | assumption | exact Heap.MadeExc.of (by assumption)); (case zqk2 => assumption); (case zqk1 => assumption); (case zqk3 => k_asm); k_whole; intro h' t' S' R' U'; (try dsimp only at S' R' U' ⊢)) | (refine' leave_onS ?zqk1 ?zqk2 ?zqk3 ?zqk4 ?_; (case zqk3 => assumption); (case zqk2 => assumption); (case zqk1 => assumption); (case zqk4 => assumption); k_whole; intro h' S' R' U'; (try dsimp only at S' R' U' ⊢)) | (refine' leave_newS ?zqk1 ?zqk0 ?zqk2 ?zqk3 ?_; (case zqk0 => assumption); (case zqk2 => assumption); (case zqk1 => assumption); (case zqk3 => k_asm); k_whole; intro h' S' R' U'; (try dsimp only at S' R' U' ⊢)) | (refine' leave_onSN ?zqk1 ?zqk2 ?zqk3 ?zqk4 ?_; (case zqk3 => assumption); (case zqk2 => assumption); (case zqk1 => assumption); (case zqk4 => assumption); k_whole; intro h' S' R' U'; (try dsimp only at S' R' U' ⊢)))))
  (k_with "!eval Name" => first | (k_here; (first | (with_reducible show wpAny _ _ (eval (Expr.Name _ _) (envOf _ _ _ _ _)) _ _ _) | (with_reducible show wpAny _ _ (eval (Expr.Name _ _) (envOfC _ _ _ _ _)) _ _ _)); k_dflt (first | (refine' nameX_L ?zqF ?zqv ?_ ?zqa ?zqb; (case zqF => k_asm); (case zqv => rfl); (case zqa => rfl); (case zqb => kernel_rfl); k_whole) | (refine' nameX_K ?zqF ?zqX ?zqT ?zqe ?_ ?zqa ?zqb; (case zqT => k_asm); (case zqX => k_asm); (case zqF => k_asm); (case zqe => k_is); (case zqa => rfl); (case zqb => kernel_rfl); k_whole) | (refine' nameX_B ?zqF ?zqX ?zqT ?zqe ?zqv ?zqn ?_ ?zqa ?zqb; (case zqT => k_asm); (case zqX => k_asm); (case zqF => k_asm); (case zqe => k_is); (case zqv => boot_fast); (case zqn => decide); (case zqa => rfl); (case zqb => kernel_rfl); k_whole))))
  (k_with "k_mem" => (assumption))
  (k_with "k_room" => (ktr_room))
  (k_with "k_units" => (ktr_units))
  (k_with "ktr_rel" => (first | k_asm | (refine' cb_drop ?zqcbN ?zqcbS; (case zqcbN => k_asm); (case zqcbS => (repeat (first | (intro p hp; (repeat (first | exact hp | exact List.mem_append_left _ hp | apply List.mem_cons_of_mem)); done) | (refine' sub_cons ?_ ?_; focus k_mem)))))))
  (k_with "k_lt?" => skip)
  (k_with "k_all" => (first | (refine all_ne_of ?_; assumption) | exact fun p hp => Nat.ne_of_lt ((by assumption : ∀ p ∈ _, p.1 < _) p hp)))
  (k_with "!call type:bytes" => first | (k_here; (with_reducible show wpAny _ _ (call (Value.type "bytes") [Value.bytes _ _]) _ _ _); refine bytes_id ?_) | (k_here; (with_reducible show wpAny _ _ (call (Value.type "bytes") [Value.ref _]) _ _ _); k_dflt (refine' bytes_L ?zqbF ?zqbN ?zqbh ?zqbl ?zqbi ?zqbr ?zqbz ?_; (case zqbF => k_asm); (case zqbN => k_asm); (case zqbh => rfl); (case zqbl => is_list); (case zqbi => assumption); (case zqbr => (first | (subst_vars; rw [List.map_id']; exact in_255 (by assumption)) | exact in_map256 | (subst_vars; exact in_map256) | exact in_255 (by assumption) | assumption)); (case zqbz => (simp_all; omega))); intro _ _ _ F' N'))
  (k_with "!binaryOp Add bytes bytes" => (k_here; (with_reducible show wpAny _ _ (binaryOp Operator.Add (Value.bytes _ _) (Value.bytes _ _)) _ _ _); (refine KBy.add_bytes (by (try simp only [Array.size_append, List.size_toArray, byteArr_size, octs_size, List.length_cons, List.length_nil, List.length_map]); omega) ?_); intro _ _))
  (k_with "cell_enter" => (refine' code_def ?zqk1 ?zqk2 ?zqk3 ?zqk4 ?zqk5 ?zqkA ?zqkF ?zqkK ?zqk6 ?zqk7 ?zqk8 ?zqk9 ?zqkB ?_ ?zqc2 ?zqc3 ?zqc4 ?zqc5; (case zqkA => exact rfl); (case zqkF => exact rfl); (case zqkK => assumption); (case zqk1 => k_asm); (case zqk2 => k_asm); (case zqk3 => k_asm); (case zqk4 => k_asm); (case zqk5 => k_asm); (case zqk6 => k_is); (case zqk7 => k_is); (case zqk8 => ktr_room); (case zqk9 => first | exact BindsTo.of_eq rfl | exact binds_K (by k_in) rfl (by k_is) rfl rfl rfl); (case zqc5 => decide); (case zqkB => exact locs rfl); (case zqc2 => exact rfl); (case zqc3 => exact rfl); (case zqc4 => exact rfl); k_whole; intro g' L' h' FG' F' N' B' X' T'; (try dsimp only); (try k_lift B'); (try k_fold)))
  (k_with "!compareOp NotIn" => first | (k_here; (with_reducible show wpAny _ _ (compareOp CmpOp.NotIn (Value.int _ _) (Value.ref _)) _ _ _); k_dflt (refine' notin_int_bytes ?zqt ?zqh ?_; (case zqt => exact isTup_of (by k_asm) (by k_mem)); (case zqh => rfl))) | (k_here; (with_reducible show wpAny _ _ (compareOp CmpOp.NotIn (Value.bytes _ _) (Value.ref _)) _ _ _); k_dflt (refine' notin_bytes ?zqt ?zqh ?zqe ?_; (case zqt => exact isTup_of (by k_asm) (by k_mem)); (case zqh => rfl); (case zqe => first | exact (rfl : _ = false) | exact (rfl : _ = true)))))
  (k_with "!binaryOp BitAnd int int" => (k_here; (with_reducible refine and_lowT (by omega) ?_); intro _ _ _ vE))
  (k_with "!subscriptTail" => first | (k_here; (with_reducible show wpAny _ _ (subscriptTail _ _ (Value.bytes (List.toArray _) _) (Value.int _ _)) _ _ _); (refine item_octet (by decide) rfl (by (try simp only [List.length_cons, List.length_nil, List.length_append]); omega) ?_); intro _ _) | (k_here; (with_reducible show wpAny _ _ (subscriptTail _ (Expr.Slice _ _ none _) (Value.bytes _ _) (Value.ref _)) _ _ _); (with_reducible rename Fr _ _ _ _ => F'); (with_reducible rename News _ _ _ _ => N'); (refine slice_BV (s := ⟨_, _, _, _, _⟩) F' N' (by constructor) (by constructor) (by (try simp only [Array.size_append, List.size_toArray, octs_size, List.length_cons, List.length_nil, List.length_append]); omega) (by first | exact picked_drop2 _ _ _ | exact picked_01 _ _ _) ?_); intro _ _ _ _ _) | (k_here; (with_reducible show wpAny _ _ (subscriptTail _ _ (Value.bytes _ _) (Value.int (-1) _)) _ _ _); (refine last_octet (by (try simp only [octs_size]); omega) (by (try simp only [octs_size]); omega) ?_); intro _ _ _ lO _ _))
  (k_with "!ite" => first | (k_closed; k_dflt (first | refine PySem.W.ite_pos (by decide) ?_ | refine PySem.W.ite_neg (by decide) ?_)) | (first | refine PySem.W.ite_neg (by (try simp only [bne_iff_ne, ne_eq, beq_iff_eq, decide_eq_true_eq, Bool.not_eq_true', bne_eq_false_iff_eq, beq_eq_false_iff_ne]); omega) ?_ | refine PySem.W.ite_pos (by (try simp only [bne_iff_ne, ne_eq, beq_iff_eq, decide_eq_true_eq]); omega) ?_))
  (k_with "!execs cons" => (k_here; dsimp only))
  (k_with "!execs nil" => (k_here; dsimp only))
  (k_with "!truthy bytes" => (k_here; (refine truthy_bytesV (v := true) (by (try simp only [Array.size_append, List.size_toArray, octs_size, List.length_cons, List.length_nil]); omega) rfl ?_)))
  (k_with "!call builtin:len" => (k_here; (with_reducible show wpAny _ _ (call (Value.builtin "len") [Value.bytes _ _]) _ _ _); (refine len_bytesV (by (try simp only [Array.size_append, List.size_toArray, octs_size, List.length_cons, List.length_nil, List.length_append]); omega) (by simp only [Array.size_append, List.size_toArray, octs_size, List.length_cons, List.length_nil, List.length_append]; rfl) ?_); intro _ _))
  (k_with "!exec For Name Subscript cons nil" => (k_here; (rename Fr _ _ _ _ => lF'); (with_unfolding_all refine' For_invVF lF' ?zqk1 ?zqk2 ?_; (case zqk1 => exact rfl); (case zqk2 => exact rfl); k_whole)))
  trivial
theorem stU {f : Int → Int} {pre ms : List Int} {n v : Int} (h : ms = pre.map f) (_ : ms.length = pre.length) (hv : v = f n) : ms ++ [v] = (pre ++ [n]).map f ∧ (ms ++ [v]).length = (pre ++ [n]).length := by
  subst h hv
  exact ⟨by simp, by simp⟩
section
variable {w : World} {dp un : Nat} {gd : Option (List Code)} {cn : Str} {cs : Scope} {a : Addr} {ccd : Value} {cl : List (Str × Addr)} {outer : List Env} {A₀ : Around} {base h₀ : Heap} {L : Addr} {m : Str → Option Value} {s : Shared} {R : Result → Shared → Prop}
  {loose : List Str} {mean : ExcName → Option Value} {mg mb : Str → Option Value} {news : List (Addr × Obj)}
  (B : Below A₀ base outer h₀) (F : Fr h₀ L s.heap m) (X : (K0 w.params).In h₀) (N : News h₀ L s.heap news) (T : Top q1 loose mean mg mb h₀) (hk : cs.kind = .function)
  (h1 : dp + 16 < recursionLimit) (h2 : un + 160 < cLine)
include B F X N T hk h1 h2
theorem c_unpB {x0 x1 : UInt8} {l : List UInt8} {t t2 t3 : Tok} (hl : l.length ≤ 64)
  (ret : ∀ (z : Addr) (zs : List Value) (zk : Nat) (h' : Heap) (tk' : Nat), IntsAre zs ((l.map fun c => (c.toNat : Int)).map fun n => n) → Fr h₀ L h' m → News h₀ L h' ((z, W.listOf zs.toArray zk) :: news) → R (.ok (.ret (.ref z))) { s with heap := h', toks := tk' }) :
  codeAny (model P1 w) (ktrTop dp un gd cn cs L a ccd cl outer) (.call (.ref 71) ⟨[.str "B" t, .bytes (x0 :: x1 :: l).toArray t2, .int 2 t3], []⟩) R s := by
  have D0 : KtsDicts [] h₀ := ktsDicts_nil
  k_with "state" => exact stU (f := fun n => n) (by assumption) (by assumption) rfl
  k_dflt cell_enter
  conv in (bdy _) => whnf
  k_steps
  rename Fr _ _ _ _ => F9
  rename News _ _ _ _ => N9
  refine KStb.kst_bytes (σ := List Value × List Int × Nat) (fun c => (_, W.listOf c.1.toArray c.2.2) :: news) (fun _ => []) (fun c => IntsAre c.1 c.2.1) ["octet"] (fun pre c => c.2.1 = pre.map (fun n => n) ∧ c.2.1.length = pre.length) ([], [], 0) rfl rfl rfl F9 N9 .nil (fun p hp => nomatch hp) ⟨rfl, rfl⟩ ?turn ?done
  case turn =>
    clear N9 F9
    rintro ⟨cv, ci, cn⟩ pre post n t u h tk own hks hlt h0 h255 hoff hf ⟨hP1, hP2⟩ F' N'
    have kMark := kstMark
    dsimp only [kstB] at F' N' hf hP1 hP2
    (try simp only [List.cons_append, List.nil_append, List.append_nil] at N')
    (try simp only [List.map_cons, List.map_nil] at hoff)
    have hz : (KBw.bInts l.toArray).length ≤ 64 := by rw [KBw.ints_length]; simpa using hl
    have kLen := hf.length
    (try k_fold)
    k_steps
  case done =>
    clear N9 F9
    rintro ⟨cv, ci, cn⟩ u h tk hl' hf ⟨hP1, hP2⟩ F' N'
    have kMark := kstMark
    dsimp only [kstB] at F' N' hf hP1 hP2
    (try simp only [List.cons_append, List.nil_append, List.append_nil] at N')
    (try simp only [List.map_cons, List.map_nil] at hoff)
    have hz : (KBw.bInts l.toArray).length ≤ 64 := by rw [KBw.ints_length]; simpa using hl
    have kLen := hf.length
    (try k_fold)
    k_steps
    subst hP1
    refine' ret _ cv cn _ _ ?ki ?kf ?kn
    case ki => simpa [KBw.bInts] using hf
    case kf => k_asm
    case kn => ktr_rel
theorem c_unp8 {x0 x1 : UInt8} {l : List UInt8} {t t2 t3 : Tok} (hl : l.length ≤ 64)
  (ret : ∀ (z : Addr) (zs : List Value) (zk : Nat) (h' : Heap) (tk' : Nat), IntsAre zs ((l.map fun c => (c.toNat : Int)).map fun n => if n > 127 then n - 256 else n) → Fr h₀ L h' m → News h₀ L h' ((z, W.listOf zs.toArray zk) :: news) → R (.ok (.ret (.ref z))) { s with heap := h', toks := tk' }) :
  codeAny (model P1 w) (ktrTop dp un gd cn cs L a ccd cl outer) (.call (.ref 71) ⟨[.str "b" t, .bytes (x0 :: x1 :: l).toArray t2, .int 2 t3], []⟩) R s := by
  have D0 : KtsDicts [] h₀ := ktsDicts_nil
  k_with "state" => first | exact stU (f := fun n => if n > 127 then n - 256 else n) (by assumption) (by assumption) (if_pos (by omega)).symm | exact stU (f := fun n => if n > 127 then n - 256 else n) (by assumption) (by assumption) (if_neg (by omega)).symm
  k_dflt cell_enter
  conv in (bdy _) => whnf
  k_steps
  rename Fr _ _ _ _ => F9
  rename News _ _ _ _ => N9
  refine KStb.kst_bytes (σ := List Value × List Int × Nat) (fun c => (_, W.listOf c.1.toArray c.2.2) :: news) (fun _ => []) (fun c => IntsAre c.1 c.2.1) ["octet"] (fun pre c => c.2.1 = pre.map (fun n => if n > 127 then n - 256 else n) ∧ c.2.1.length = pre.length) ([], [], 0) rfl rfl rfl F9 N9 .nil (fun p hp => nomatch hp) ⟨rfl, rfl⟩ ?turn ?done
  case turn =>
    clear N9 F9
    rintro ⟨cv, ci, cn⟩ pre post n t u h tk own hks hlt h0 h255 hoff hf ⟨hP1, hP2⟩ F' N'
    have kMark := kstMark
    dsimp only [kstB] at F' N' hf hP1 hP2
    (try simp only [List.cons_append, List.nil_append, List.append_nil] at N')
    (try simp only [List.map_cons, List.map_nil] at hoff)
    have hz : (KBw.bInts l.toArray).length ≤ 64 := by rw [KBw.ints_length]; simpa using hl
    have kLen := hf.length
    (try k_fold)
    k_steps
  case done =>
    clear N9 F9
    rintro ⟨cv, ci, cn⟩ u h tk hl' hf ⟨hP1, hP2⟩ F' N'
    have kMark := kstMark
    dsimp only [kstB] at F' N' hf hP1 hP2
    (try simp only [List.cons_append, List.nil_append, List.append_nil] at N')
    (try simp only [List.map_cons, List.map_nil] at hoff)
    have hz : (KBw.bInts l.toArray).length ≤ 64 := by rw [KBw.ints_length]; simpa using hl
    have kLen := hf.length
    (try k_fold)
    k_steps
    subst hP1
    refine' ret _ cv cn _ _ ?ki ?kf ?kn
    case ki => simpa [KBw.bInts] using hf
    case kf => k_asm
    case kn => ktr_rel
end
end Mine
end
section
namespace Mine
theorem wdC3i0 : True := by
  k_with_none
  (k_with "!eval Call" => first | (k_here; (with_reducible show wpAny _ _ (eval (Expr.Call _ _ [] _) _) _ _ _); k_dflt (refine Call_ ?_)))
  (k_with "!exec Raise some none" => first | (k_here; (with_reducible show wpAny _ _ (exec (Stmt.Raise (some (Expr.Call (Expr.Name (PySem.Str.ofString "ValueError") _) _ _ _)) none _) _) _ _ _); k_dflt (refine Raise_new rfl ?_)) | (k_here; (with_reducible show wpAny _ _ (exec (Stmt.Raise (some (Expr.Call (Expr.Name (PySem.Str.ofString "TypeError") _) _ _ _)) none _) _) _ _ _); k_dflt (refine Raise_new rfl ?_)))
  (k_with "!leaving ref" => first | (k_here; (with_reducible rename KtsDicts _ _ => kdX); k_dflt (first | (refine' leave_raiseS ?zqk1 ?zqk0 ?zqk2 ?zqk3 ?_; (case zqk0 => first | assumption | exact Heap.MadeExc.of (by assumption)); (case zqk2 => assumption); (case zqk1 => assumption); (case zqk3 => k_asm); k_whole; intro h' t' S' R' U'; (try dsimp only at S' R' U' ⊢)) | (refine' leave_onS ?zqk1 ?zqk2 ?zqk3 ?zqk4 ?_; (case zqk3 => assumption); (case zqk2 => assumption); (case zqk1 => assumption); (case zqk4 => assumption); k_whole; intro h' S' R' U'; (try dsimp only at S' R' U' ⊢)) | (refine' leave_newS ?zqk1 ?zqk0 ?zqk2 ?zqk3 ?_; (case zqk0 => assumption); (case zqk2 => assumption); (case zqk1 => assumption); (case zqk3 => k_asm); k_whole; intro h' S' R' U'; (try dsimp only at S' R' U' ⊢)) | (refine' leave_onSN ?zqk1 ?zqk2 ?zqk3 ?zqk4 ?_; (case zqk3 => assumption); (case zqk2 => assumption); (case zqk1 => assumption); (case zqk4 => assumption); k_whole; intro h' S' R' U'; (try dsimp only at S' R' U' ⊢)))))
  (k_with "!eval Name" => first | (k_here; (first | (with_reducible show wpAny _ _ (eval (Expr.Name _ _) (envOf _ _ _ _ _)) _ _ _) | (with_reducible show wpAny _ _ (eval (Expr.Name _ _) (envOfC _ _ _ _ _)) _ _ _)); k_dflt (first | (refine' nameX_L ?zqF ?zqv ?_ ?zqa ?zqb; (case zqF => k_asm); (case zqv => rfl); (case zqa => rfl); (case zqb => kernel_rfl); k_whole) | (refine' nameX_K ?zqF ?zqX ?zqT ?zqe ?_ ?zqa ?zqb; (case zqT => k_asm); (case zqX => k_asm); (case zqF => k_asm); (case zqe => k_is); (case zqa => rfl); (case zqb => kernel_rfl); k_whole) | (refine' nameX_B ?zqF ?zqX ?zqT ?zqe ?zqv ?zqn ?_ ?zqa ?zqb; (case zqT => k_asm); (case zqX => k_asm); (case zqF => k_asm); (case zqe => k_is); (case zqv => boot_fast); (case zqn => decide); (case zqa => rfl); (case zqb => kernel_rfl); k_whole))))
  (k_with "k_mem" => (assumption))
  (k_with "k_room" => (ktr_room))
  (k_with "k_units" => (ktr_units))
  (k_with "ktr_rel" => (first | k_asm | (refine' cb_drop ?zqcbN ?zqcbS; (case zqcbN => k_asm); (case zqcbS => (repeat (first | (intro p hp; (repeat (first | exact hp | exact List.mem_append_left _ hp | apply List.mem_cons_of_mem)); done) | (refine' sub_cons ?_ ?_; focus k_mem)))))))
  (k_with "k_lt?" => skip)
  (k_with "k_all" => (first | (refine all_ne_of ?_; assumption) | exact fun p hp => Nat.ne_of_lt ((by assumption : ∀ p ∈ _, p.1 < _) p hp)))
  (k_with "!call type:bytes" => first | (k_here; (with_reducible show wpAny _ _ (call (Value.type "bytes") [Value.bytes _ _]) _ _ _); refine bytes_id ?_) | (k_here; (with_reducible show wpAny _ _ (call (Value.type "bytes") [Value.ref _]) _ _ _); k_dflt (refine' bytes_L ?zqbF ?zqbN ?zqbh ?zqbl ?zqbi ?zqbr ?zqbz ?_; (case zqbF => k_asm); (case zqbN => k_asm); (case zqbh => rfl); (case zqbl => is_list); (case zqbi => assumption); (case zqbr => (first | (subst_vars; rw [List.map_id']; exact in_255 (by assumption)) | exact in_map256 | (subst_vars; exact in_map256) | exact in_255 (by assumption) | assumption)); (case zqbz => (simp_all; omega))); intro _ _ _ F' N'))
  (k_with "!binaryOp Add bytes bytes" => (k_here; (with_reducible show wpAny _ _ (binaryOp Operator.Add (Value.bytes _ _) (Value.bytes _ _)) _ _ _); (refine KBy.add_bytes (by (try simp only [Array.size_append, List.size_toArray, byteArr_size, octs_size, List.length_cons, List.length_nil, List.length_map]); omega) ?_); intro _ _))
  (k_with "cell_enter" => (refine' code_def ?zqk1 ?zqk2 ?zqk3 ?zqk4 ?zqk5 ?zqkA ?zqkF ?zqkK ?zqk6 ?zqk7 ?zqk8 ?zqk9 ?zqkB ?_ ?zqc2 ?zqc3 ?zqc4 ?zqc5; (case zqkA => exact rfl); (case zqkF => exact rfl); (case zqkK => assumption); (case zqk1 => k_asm); (case zqk2 => k_asm); (case zqk3 => k_asm); (case zqk4 => k_asm); (case zqk5 => k_asm); (case zqk6 => k_is); (case zqk7 => k_is); (case zqk8 => ktr_room); (case zqk9 => first | exact BindsTo.of_eq rfl | exact binds_K (by k_in) rfl (by k_is) rfl rfl rfl); (case zqc5 => decide); (case zqkB => exact locs rfl); (case zqc2 => exact rfl); (case zqc3 => exact rfl); (case zqc4 => exact rfl); k_whole; intro g' L' h' FG' F' N' B' X' T'; (try dsimp only); (try k_lift B'); (try k_fold)))
  (k_with "!compareOp NotIn" => first | (k_here; (with_reducible show wpAny _ _ (compareOp CmpOp.NotIn (Value.bytes (List.toArray [_]) _) (Value.ref _)) _ _ _); k_dflt (refine' notin_bytes (v := true) ?zqt ?zqh ?zqe ?_; (case zqt => exact isTup_of (by k_asm) (by k_mem)); (case zqh => rfl); (case zqe => first | rfl | (simp [isB]; refine ⟨?_, ?_, ?_⟩ <;> (intro ee; subst ee; contradiction))))) | (k_here; (with_reducible show wpAny _ _ (compareOp CmpOp.NotIn (Value.int _ _) (Value.ref _)) _ _ _); k_dflt (refine' notin_int_bytes ?zqt ?zqh ?_; (case zqt => exact isTup_of (by k_asm) (by k_mem)); (case zqh => rfl))) | (k_here; (with_reducible show wpAny _ _ (compareOp CmpOp.NotIn (Value.bytes _ _) (Value.ref _)) _ _ _); k_dflt (refine' notin_bytes ?zqt ?zqh ?zqe ?_; (case zqt => exact isTup_of (by k_asm) (by k_mem)); (case zqh => rfl); (case zqe => first | exact (rfl : _ = false) | exact (rfl : _ = true)))))
  (k_with "!binaryOp BitAnd int int" => (k_here; (with_reducible refine and_lowT (by omega) ?_); intro _ _ _ vE))
  (k_with "!subscriptTail" => first | (k_here; (with_reducible show wpAny _ _ (subscriptTail _ _ (Value.bytes (List.toArray _) _) (Value.int _ _)) _ _ _); (refine item_octet (by decide) rfl (by (try simp only [List.length_cons, List.length_nil, List.length_append]); omega) ?_); intro _ _) | (k_here; (with_reducible show wpAny _ _ (subscriptTail _ (Expr.Slice _ _ none _) (Value.bytes _ _) (Value.ref _)) _ _ _); (with_reducible rename Fr _ _ _ _ => F'); (with_reducible rename News _ _ _ _ => N'); (refine slice_BV (s := ⟨_, _, _, _, _⟩) F' N' (by constructor) (by constructor) (by (try simp only [Array.size_append, List.size_toArray, octs_size, List.length_cons, List.length_nil, List.length_append]); omega) (by first | exact picked_drop2 _ _ _ | exact picked_01 _ _ _) ?_); intro _ _ _ _ _) | (k_here; (with_reducible show wpAny _ _ (subscriptTail _ _ (Value.bytes _ _) (Value.int (-1) _)) _ _ _); (refine last_octet (by (try simp only [octs_size]); omega) (by (try simp only [octs_size]); omega) ?_); intro _ _ _ lO _ _))
  (k_with "!ite" => first | (k_closed; k_dflt (first | refine PySem.W.ite_pos (by decide) ?_ | refine PySem.W.ite_neg (by decide) ?_)) | (first | refine PySem.W.ite_pos (by (try simp only [Bool.not_eq_true', bne_iff_ne, ne_eq, beq_eq_false_iff_ne, decide_eq_true_eq]); omega) ?_ | refine PySem.W.ite_neg (by (try simp only [bne_iff_ne, ne_eq, beq_iff_eq, decide_eq_true_eq, Bool.not_eq_true', bne_eq_false_iff_eq, beq_eq_false_iff_ne]); omega) ?_) | (first | refine PySem.W.ite_neg (by (try simp only [bne_iff_ne, ne_eq, beq_iff_eq, decide_eq_true_eq, Bool.not_eq_true', bne_eq_false_iff_eq, beq_eq_false_iff_ne]); omega) ?_ | refine PySem.W.ite_pos (by (try simp only [bne_iff_ne, ne_eq, beq_iff_eq, decide_eq_true_eq]); omega) ?_))
  (k_with "!execs cons" => (k_here; dsimp only))
  (k_with "!execs nil" => (k_here; dsimp only))
  (k_with "!truthy bytes" => (k_here; (refine truthy_bytesV (v := true) (by (try simp only [Array.size_append, List.size_toArray, octs_size, List.length_cons, List.length_nil]); omega) rfl ?_)))
  (k_with "!call builtin:len" => (k_here; (with_reducible show wpAny _ _ (call (Value.builtin "len") [Value.bytes _ _]) _ _ _); (refine len_bytesV (by (try simp only [Array.size_append, List.size_toArray, octs_size, List.length_cons, List.length_nil, List.length_append]); omega) (by simp only [Array.size_append, List.size_toArray, octs_size, List.length_cons, List.length_nil, List.length_append]; rfl) ?_); intro _ _))
  (k_with "!exec For Name Subscript cons nil" => (k_here; (rename Fr _ _ _ _ => lF'); (with_unfolding_all refine' For_invVF lF' ?zqk1 ?zqk2 ?_; (case zqk1 => exact rfl); (case zqk2 => exact rfl); k_whole)))
  (k_with "!call ref" => first | (k_here; (with_reducible show wpAny _ _ (call (Value.ref 71) [Value.str (PySem.Str.ofString "B") _, Value.bytes (List.toArray (_ :: _ :: _)) _, Value.int 2 _] _) _ _ _); k_dflt ((refine wpAny_call ?_); (refine' c_unpB ?zqcB ?zqcF ?zqcX ?zqcN ?zqcT ?zqck ?zqcd ?zqcu ?zqcl ?_); (case zqcN => k_asm); (case zqcB => k_asm); (case zqcF => k_asm); (case zqcX => k_asm); (case zqcT => k_asm); (case zqck => first | exact rfl | assumption); (case zqcd => ktr_room); (case zqcu => ktr_units); (case zqcl => omega); (intro z' zs' zk' h' tk' zI' F' N'); (try dsimp only); (try k_sweep); (try k_fold))) | (k_here; (with_reducible show wpAny _ _ (call (Value.ref 71) [Value.str (PySem.Str.ofString "b") _, Value.bytes (List.toArray (_ :: _ :: _)) _, Value.int 2 _] _) _ _ _); k_dflt ((refine wpAny_call ?_); (refine' c_unp8 ?zqcB ?zqcF ?zqcX ?zqcN ?zqcT ?zqck ?zqcd ?zqcu ?zqcl ?_); (case zqcN => k_asm); (case zqcB => k_asm); (case zqcF => k_asm); (case zqcX => k_asm); (case zqcT => k_asm); (case zqck => first | exact rfl | assumption); (case zqcd => ktr_room); (case zqcu => ktr_units); (case zqcl => omega); (intro z' zs' zk' h' tk' zI' F' N'); (try dsimp only); (try k_sweep); (try k_fold))))
  trivial
section
variable {w : World} {dp un : Nat} {gd : Option (List Code)} {cn : Str} {cs : Scope} {a : Addr} {ccd : Value} {cl : List (Str × Addr)} {outer : List Env} {A₀ : Around} {base h₀ : Heap} {L : Addr} {m : Str → Option Value} {s : Shared} {R : Result → Shared → Prop}
  {loose : List Str} {mean : ExcName → Option Value} {mg mb : Str → Option Value} {news : List (Addr × Obj)} {x0 x1 : UInt8} {l : List UInt8} {xB dB : Addr} {ta tb tc td : Tok} {sbt : Int}
  (B : Below A₀ base outer h₀) (F : Fr h₀ L s.heap m) (X : (K0 w.params).In h₀) (N : News h₀ L s.heap ((xB, instObj 223 dB) :: (dB, dictOf [⟨PyData.keyHash w.params "data", .str "data" ta, .bytes (3 :: x1 :: l).toArray tb⟩, ⟨PyData.keyHash w.params "_subtype", .str "_subtype" tc, .int 9 td⟩] 2) :: news)) (T : Top q1 loose mean mg mb h₀) (hk : cs.kind = .function)
  (h1 : dp + 24 < recursionLimit) (h2 : un + 240 < cLine)
include B F X N T hk h1 h2
theorem c_av3 (hl : l.length ≤ 64)
  (ret : x1.toNat = 0 → ∀ (V dV z : Addr) (zs : List Value) (zk : Nat) (va vb vc vd ve : Tok) (h' : Heap) (tk' : Nat), IntsAre zs ((l.map fun c => (c.toNat : Int)).map fun n => if n > 127 then n - 256 else n) → Fr h₀ L h' m → News h₀ L h' ((V, instObj 141 dV) :: (dV, dictOf [⟨PyData.keyHash w.params "data", .str "data" va, .ref z⟩, ⟨PyData.keyHash w.params "dtype", .str "dtype" vb, .bytes #[3] vc⟩, ⟨PyData.keyHash w.params "padding", .str "padding" vd, .int (x1.toNat : Int) ve⟩] 3) :: (z, W.listOf zs.toArray zk) :: (xB, instObj 223 dB) :: (dB, dictOf [⟨PyData.keyHash w.params "data", .str "data" ta, .bytes (3 :: x1 :: l).toArray tb⟩, ⟨PyData.keyHash w.params "_subtype", .str "_subtype" tc, .int 9 td⟩] 2) :: news) → R (.ok (.ret (.ref V))) { s with heap := h', toks := tk' })
  (exc : ¬ (x1.toNat = 0) → ∀ (e : Addr) (g h' : Heap) (tk' : Nat), Fr h₀ L g m → g.UpToSlots h' → RaisedSN base g (envX cn cs L a ccd cl :: outer) e (.type "ValueError") ((xB, instObj 223 dB) :: (dB, dictOf [⟨PyData.keyHash w.params "data", .str "data" ta, .bytes (3 :: x1 :: l).toArray tb⟩, ⟨PyData.keyHash w.params "_subtype", .str "_subtype" tc, .int 9 td⟩] 2) :: news) h' → R (.error (.ref e)) { s with heap := h', toks := tk' }) :
  codeAny (model P1 w) (ktrTop dp un gd cn cs L a ccd cl outer) (.call (.ref 198) ⟨[.ref xB], []⟩) R s := by
  have D0 : KtsDicts [] h₀ := ktsDicts_nil
  k_dflt cell_enter
  conv in (bdy _) => whnf
  k_steps
  all_goals first
    | (exfalso; omega)
    | (refine exc (by omega) _ _ _ _ (by assumption) (by assumption) (raisedSN_sub (by assumption) ?_); (repeat (first | (intro p hp; (repeat (first | exact hp | exact List.mem_append_left _ hp | apply List.mem_cons_of_mem)); done) | (refine' sub_cons ?_ ?_; focus k_mem))))
    | (refine exc _ _ _ _ (by assumption) (by assumption) (raisedSN_sub (by assumption) ?_); (repeat (first | (intro p hp; (repeat (first | exact hp | exact List.mem_append_left _ hp | apply List.mem_cons_of_mem)); done) | (refine' sub_cons ?_ ?_; focus k_mem))))
    | (refine' ret (by omega) _ _ _ _ _ _ _ _ _ _ _ _ (by assumption) ?kf ?kn; (case kf => k_asm); (case kn => ktr_rel))
end
section
variable {w : World} {dp un : Nat} {gd : Option (List Code)} {cn : Str} {cs : Scope} {a : Addr} {ccd : Value} {cl : List (Str × Addr)} {outer : List Env} {A₀ : Around} {base h₀ : Heap} {L : Addr} {m : Str → Option Value} {s : Shared} {R : Result → Shared → Prop}
  {loose : List Str} {mean : ExcName → Option Value} {mg mb : Str → Option Value} {news : List (Addr × Obj)} {x0 x1 : UInt8} {l : List UInt8} {xB dB : Addr} {ta tb tc td : Tok} {sbt : Int}
  (B : Below A₀ base outer h₀) (F : Fr h₀ L s.heap m) (X : (K0 w.params).In h₀) (N : News h₀ L s.heap ((xB, instObj 223 dB) :: (dB, dictOf [⟨PyData.keyHash w.params "data", .str "data" ta, .bytes (16 :: x1 :: l).toArray tb⟩, ⟨PyData.keyHash w.params "_subtype", .str "_subtype" tc, .int 9 td⟩] 2) :: news)) (T : Top q1 loose mean mg mb h₀) (hk : cs.kind = .function)
  (h1 : dp + 24 < recursionLimit) (h2 : un + 240 < cLine)
include B F X N T hk h1 h2
theorem c_av16 (hl : l.length ≤ 64)
  (ret : x1.toNat ≤ 7 ∧ (x1.toNat = 0 ∨ 0 < l.length) → ∀ (V dV z : Addr) (zs : List Value) (zk : Nat) (va vb vc vd ve : Tok) (h' : Heap) (tk' : Nat), IntsAre zs ((l.map fun c => (c.toNat : Int)).map fun n => n) → Fr h₀ L h' m → News h₀ L h' ((V, instObj 141 dV) :: (dV, dictOf [⟨PyData.keyHash w.params "data", .str "data" va, .ref z⟩, ⟨PyData.keyHash w.params "dtype", .str "dtype" vb, .bytes #[16] vc⟩, ⟨PyData.keyHash w.params "padding", .str "padding" vd, .int (x1.toNat : Int) ve⟩] 3) :: (z, W.listOf zs.toArray zk) :: (xB, instObj 223 dB) :: (dB, dictOf [⟨PyData.keyHash w.params "data", .str "data" ta, .bytes (16 :: x1 :: l).toArray tb⟩, ⟨PyData.keyHash w.params "_subtype", .str "_subtype" tc, .int 9 td⟩] 2) :: news) → R (.ok (.ret (.ref V))) { s with heap := h', toks := tk' })
  (exc : ¬ (x1.toNat ≤ 7 ∧ (x1.toNat = 0 ∨ 0 < l.length)) → ∀ (e : Addr) (g h' : Heap) (tk' : Nat), Fr h₀ L g m → g.UpToSlots h' → RaisedSN base g (envX cn cs L a ccd cl :: outer) e (.type "ValueError") ((xB, instObj 223 dB) :: (dB, dictOf [⟨PyData.keyHash w.params "data", .str "data" ta, .bytes (16 :: x1 :: l).toArray tb⟩, ⟨PyData.keyHash w.params "_subtype", .str "_subtype" tc, .int 9 td⟩] 2) :: news) h' → R (.error (.ref e)) { s with heap := h', toks := tk' }) :
  codeAny (model P1 w) (ktrTop dp un gd cn cs L a ccd cl outer) (.call (.ref 198) ⟨[.ref xB], []⟩) R s := by
  have D0 : KtsDicts [] h₀ := ktsDicts_nil
  k_dflt cell_enter
  conv in (bdy _) => whnf
  k_steps
  all_goals first
    | (exfalso; omega)
    | (refine exc (by omega) _ _ _ _ (by assumption) (by assumption) (raisedSN_sub (by assumption) ?_); (repeat (first | (intro p hp; (repeat (first | exact hp | exact List.mem_append_left _ hp | apply List.mem_cons_of_mem)); done) | (refine' sub_cons ?_ ?_; focus k_mem))))
    | (refine exc _ _ _ _ (by assumption) (by assumption) (raisedSN_sub (by assumption) ?_); (repeat (first | (intro p hp; (repeat (first | exact hp | exact List.mem_append_left _ hp | apply List.mem_cons_of_mem)); done) | (refine' sub_cons ?_ ?_; focus k_mem))))
    | (refine' ret (by omega) _ _ _ _ _ _ _ _ _ _ _ _ (by assumption) ?kf ?kn; (case kf => k_asm); (case kn => ktr_rel))
end
section
variable {w : World} {dp un : Nat} {gd : Option (List Code)} {cn : Str} {cs : Scope} {a : Addr} {ccd : Value} {cl : List (Str × Addr)} {outer : List Env} {A₀ : Around} {base h₀ : Heap} {L : Addr} {m : Str → Option Value} {s : Shared} {R : Result → Shared → Prop}
  {loose : List Str} {mean : ExcName → Option Value} {mg mb : Str → Option Value} {news : List (Addr × Obj)} {x0 x1 : UInt8} {l : List UInt8} {xB dB : Addr} {ta tb tc td : Tok} {sbt : Int}
  (B : Below A₀ base outer h₀) (F : Fr h₀ L s.heap m) (X : (K0 w.params).In h₀) (N : News h₀ L s.heap ((xB, instObj 223 dB) :: (dB, dictOf [⟨PyData.keyHash w.params "data", .str "data" ta, .bytes (x0 :: x1 :: l).toArray tb⟩, ⟨PyData.keyHash w.params "_subtype", .str "_subtype" tc, .int 9 td⟩] 2) :: news)) (T : Top q1 loose mean mg mb h₀) (hk : cs.kind = .function)
  (h1 : dp + 24 < recursionLimit) (h2 : un + 240 < cLine)
include B F X N T hk h1 h2
theorem c_avx (hl : l.length ≤ 64) (n3 : x0 ≠ 3) (n16 : x0 ≠ 16) (n39 : x0 ≠ 39)
  (exc : ∀ (e : Addr) (g h' : Heap) (tk' : Nat), Fr h₀ L g m → g.UpToSlots h' → RaisedSN base g (envX cn cs L a ccd cl :: outer) e (.type "ValueError") ((xB, instObj 223 dB) :: (dB, dictOf [⟨PyData.keyHash w.params "data", .str "data" ta, .bytes (x0 :: x1 :: l).toArray tb⟩, ⟨PyData.keyHash w.params "_subtype", .str "_subtype" tc, .int 9 td⟩] 2) :: news) h' → R (.error (.ref e)) { s with heap := h', toks := tk' }) :
  codeAny (model P1 w) (ktrTop dp un gd cn cs L a ccd cl outer) (.call (.ref 198) ⟨[.ref xB], []⟩) R s := by
  have D0 : KtsDicts [] h₀ := ktsDicts_nil
  k_dflt cell_enter
  conv in (bdy _) => whnf
  k_steps
  all_goals first
    | (exfalso; omega)
    | (refine exc (by omega) _ _ _ _ (by assumption) (by assumption) (raisedSN_sub (by assumption) ?_); (repeat (first | (intro p hp; (repeat (first | exact hp | exact List.mem_append_left _ hp | apply List.mem_cons_of_mem)); done) | (refine' sub_cons ?_ ?_; focus k_mem))))
    | (refine exc _ _ _ _ (by assumption) (by assumption) (raisedSN_sub (by assumption) ?_); (repeat (first | (intro p hp; (repeat (first | exact hp | exact List.mem_append_left _ hp | apply List.mem_cons_of_mem)); done) | (refine' sub_cons ?_ ?_; focus k_mem))))
    | (refine' ret (by omega) _ _ _ _ _ _ _ _ _ _ _ _ (by assumption) ?kf ?kn; (case kf => k_asm); (case kn => ktr_rel))
end
section
variable {w : World} {dp un : Nat} {gd : Option (List Code)} {cn : Str} {cs : Scope} {a : Addr} {ccd : Value} {cl : List (Str × Addr)} {outer : List Env} {A₀ : Around} {base h₀ : Heap} {L : Addr} {m : Str → Option Value} {s : Shared} {R : Result → Shared → Prop}
  {loose : List Str} {mean : ExcName → Option Value} {mg mb : Str → Option Value} {news : List (Addr × Obj)} {x0 x1 : UInt8} {l : List UInt8} {xB dB : Addr} {ta tb tc td : Tok} {sbt : Int}
  (B : Below A₀ base outer h₀) (F : Fr h₀ L s.heap m) (X : (K0 w.params).In h₀) (N : News h₀ L s.heap ((xB, instObj 223 dB) :: (dB, dictOf [⟨PyData.keyHash w.params "data", .str "data" ta, .bytes l.toArray tb⟩, ⟨PyData.keyHash w.params "_subtype", .str "_subtype" tc, .int 9 td⟩] 2) :: news)) (T : Top q1 loose mean mg mb h₀) (hk : cs.kind = .function)
  (h1 : dp + 24 < recursionLimit) (h2 : un + 240 < cLine)
include B F X N T hk h1 h2
theorem c_avs (hl : l.length < 2)
  (exc : ∀ (e : Addr) (g h' : Heap) (tk' : Nat), Fr h₀ L g m → g.UpToSlots h' → RaisedSN base g (envX cn cs L a ccd cl :: outer) e (.type "ValueError") ((xB, instObj 223 dB) :: (dB, dictOf [⟨PyData.keyHash w.params "data", .str "data" ta, .bytes l.toArray tb⟩, ⟨PyData.keyHash w.params "_subtype", .str "_subtype" tc, .int 9 td⟩] 2) :: news) h' → R (.error (.ref e)) { s with heap := h', toks := tk' }) :
  codeAny (model P1 w) (ktrTop dp un gd cn cs L a ccd cl outer) (.call (.ref 198) ⟨[.ref xB], []⟩) R s := by
  have D0 : KtsDicts [] h₀ := ktsDicts_nil
  k_dflt cell_enter
  conv in (bdy _) => whnf
  k_steps
  all_goals first
    | (exfalso; omega)
    | (refine exc (by omega) _ _ _ _ (by assumption) (by assumption) (raisedSN_sub (by assumption) ?_); (repeat (first | (intro p hp; (repeat (first | exact hp | exact List.mem_append_left _ hp | apply List.mem_cons_of_mem)); done) | (refine' sub_cons ?_ ?_; focus k_mem))))
    | (refine exc _ _ _ _ (by assumption) (by assumption) (raisedSN_sub (by assumption) ?_); (repeat (first | (intro p hp; (repeat (first | exact hp | exact List.mem_append_left _ hp | apply List.mem_cons_of_mem)); done) | (refine' sub_cons ?_ ?_; focus k_mem))))
    | (refine' ret (by omega) _ _ _ _ _ _ _ _ _ _ _ _ (by assumption) ?kf ?kn; (case kf => k_asm); (case kn => ktr_rel))
end
section
variable {w : World} {dp un : Nat} {gd : Option (List Code)} {cn : Str} {cs : Scope} {a : Addr} {ccd : Value} {cl : List (Str × Addr)} {outer : List Env} {A₀ : Around} {base h₀ : Heap} {L : Addr} {m : Str → Option Value} {s : Shared} {R : Result → Shared → Prop}
  {loose : List Str} {mean : ExcName → Option Value} {mg mb : Str → Option Value} {news : List (Addr × Obj)} {x0 x1 : UInt8} {l : List UInt8} {xB dB : Addr} {ta tb tc td : Tok} {sbt : Int}
  (B : Below A₀ base outer h₀) (F : Fr h₀ L s.heap m) (X : (K0 w.params).In h₀) (N : News h₀ L s.heap ((xB, instObj 223 dB) :: (dB, dictOf [⟨PyData.keyHash w.params "data", .str "data" ta, .bytes l.toArray tb⟩, ⟨PyData.keyHash w.params "_subtype", .str "_subtype" tc, .int sbt td⟩] 2) :: news)) (T : Top q1 loose mean mg mb h₀) (hk : cs.kind = .function)
  (h1 : dp + 24 < recursionLimit) (h2 : un + 240 < cLine)
include B F X N T hk h1 h2
theorem c_avk (hl : l.length ≤ 66) (hst : sbt ≠ 9)
  (exc : ∀ (e : Addr) (g h' : Heap) (tk' : Nat), Fr h₀ L g m → g.UpToSlots h' → RaisedSN base g (envX cn cs L a ccd cl :: outer) e (.type "ValueError") ((xB, instObj 223 dB) :: (dB, dictOf [⟨PyData.keyHash w.params "data", .str "data" ta, .bytes l.toArray tb⟩, ⟨PyData.keyHash w.params "_subtype", .str "_subtype" tc, .int sbt td⟩] 2) :: news) h' → R (.error (.ref e)) { s with heap := h', toks := tk' }) :
  codeAny (model P1 w) (ktrTop dp un gd cn cs L a ccd cl outer) (.call (.ref 198) ⟨[.ref xB], []⟩) R s := by
  have D0 : KtsDicts [] h₀ := ktsDicts_nil
  k_dflt cell_enter
  conv in (bdy _) => whnf
  k_steps
  all_goals first
    | (exfalso; omega)
    | (refine exc (by omega) _ _ _ _ (by assumption) (by assumption) (raisedSN_sub (by assumption) ?_); (repeat (first | (intro p hp; (repeat (first | exact hp | exact List.mem_append_left _ hp | apply List.mem_cons_of_mem)); done) | (refine' sub_cons ?_ ?_; focus k_mem))))
    | (refine exc _ _ _ _ (by assumption) (by assumption) (raisedSN_sub (by assumption) ?_); (repeat (first | (intro p hp; (repeat (first | exact hp | exact List.mem_append_left _ hp | apply List.mem_cons_of_mem)); done) | (refine' sub_cons ?_ ?_; focus k_mem))))
    | (refine' ret (by omega) _ _ _ _ _ _ _ _ _ _ _ _ (by assumption) ?kf ?kn; (case kf => k_asm); (case kn => ktr_rel))
end
end Mine
end
section
namespace Mine
theorem wdC3j0 : True := by
  k_with_none
  (k_with "!eval Call" => first | (k_here; (with_reducible show wpAny _ _ (eval (Expr.Call _ _ [] _) _) _ _ _); k_dflt (refine Call_ ?_)))
  (k_with "!exec Raise some none" => first | (k_here; (with_reducible show wpAny _ _ (exec (Stmt.Raise (some (Expr.Call (Expr.Name (PySem.Str.ofString "ValueError") _) _ _ _)) none _) _) _ _ _); k_dflt (refine Raise_new rfl ?_)) | (k_here; (with_reducible show wpAny _ _ (exec (Stmt.Raise (some (Expr.Call (Expr.Name (PySem.Str.ofString "TypeError") _) _ _ _)) none _) _) _ _ _); k_dflt (refine Raise_new rfl ?_)))
  (k_with "!leaving ref" => first | (k_here; (with_reducible rename KtsDicts _ _ => kdX); k_dflt (first | (refine' leave_raiseS ?zqk1 ?zqk0 ?zqk2 ?zqk3 ?_; (case zqk0 => first | assumption | exact Heap.MadeExc.of (by assumption)); (case zqk2 => assumption); (case zqk1 => assumption); (case zqk3 => k_asm); k_whole; intro h' t' S' R' U'; (try dsimp only at S' R' U' ⊢)) | (refine' leave_onS ?zqk1 ?zqk2 ?zqk3 ?zqk4 ?_; (case zqk3 => assumption); (case zqk2 => assumption); (case zqk1 => assumption); (case zqk4 => assumption); k_whole; intro h' S' R' U'; (try dsimp only at S' R' U' ⊢)) | (refine' leave_newS ?zqk1 ?zqk0 ?zqk2 ?zqk3 ?_; (case zqk0 => assumption); (case zqk2 => assumption); (case zqk1 => assumption); (case zqk3 => k_asm); k_whole; intro h' S' R' U'; (try dsimp only at S' R' U' ⊢)) | (refine' leave_onSN ?zqk1 ?zqk2 ?zqk3 ?zqk4 ?_; (case zqk3 => assumption); (case zqk2 => assumption); (case zqk1 => assumption); (case zqk4 => assumption); k_whole; intro h' S' R' U'; (try dsimp only at S' R' U' ⊢)))))
  (k_with "!eval Name" => first | (k_here; (first | (with_reducible show wpAny _ _ (eval (Expr.Name _ _) (envOf _ _ _ _ _)) _ _ _) | (with_reducible show wpAny _ _ (eval (Expr.Name _ _) (envOfC _ _ _ _ _)) _ _ _)); k_dflt (first | (refine' nameX_L ?zqF ?zqv ?_ ?zqa ?zqb; (case zqF => k_asm); (case zqv => rfl); (case zqa => rfl); (case zqb => kernel_rfl); k_whole) | (refine' nameX_K ?zqF ?zqX ?zqT ?zqe ?_ ?zqa ?zqb; (case zqT => k_asm); (case zqX => k_asm); (case zqF => k_asm); (case zqe => k_is); (case zqa => rfl); (case zqb => kernel_rfl); k_whole) | (refine' nameX_B ?zqF ?zqX ?zqT ?zqe ?zqv ?zqn ?_ ?zqa ?zqb; (case zqT => k_asm); (case zqX => k_asm); (case zqF => k_asm); (case zqe => k_is); (case zqv => boot_fast); (case zqn => decide); (case zqa => rfl); (case zqb => kernel_rfl); k_whole))))
  (k_with "k_mem" => (assumption))
  (k_with "k_room" => (ktr_room))
  (k_with "k_units" => (ktr_units))
  (k_with "ktr_rel" => (first | k_asm | (refine' cb_drop ?zqcbN ?zqcbS; (case zqcbN => k_asm); (case zqcbS => (repeat (first | (intro p hp; (repeat (first | exact hp | exact List.mem_append_left _ hp | apply List.mem_cons_of_mem)); done) | (refine' sub_cons ?_ ?_; focus k_mem)))))))
  (k_with "k_lt?" => skip)
  (k_with "k_all" => (first | (refine all_ne_of ?_; assumption) | exact fun p hp => Nat.ne_of_lt ((by assumption : ∀ p ∈ _, p.1 < _) p hp)))
  (k_with "!call type:bytes" => first | (k_here; (with_reducible show wpAny _ _ (call (Value.type "bytes") [Value.bytes _ _]) _ _ _); refine bytes_id ?_) | (k_here; (with_reducible show wpAny _ _ (call (Value.type "bytes") [Value.ref _]) _ _ _); k_dflt (refine' bytes_L ?zqbF ?zqbN ?zqbh ?zqbl ?zqbi ?zqbr ?zqbz ?_; (case zqbF => k_asm); (case zqbN => k_asm); (case zqbh => rfl); (case zqbl => is_list); (case zqbi => assumption); (case zqbr => (first | (subst_vars; rw [List.map_id']; exact in_255 (by assumption)) | exact in_map256 | (subst_vars; exact in_map256) | exact in_255 (by assumption) | assumption)); (case zqbz => (simp_all; omega))); intro _ _ _ F' N'))
  (k_with "!binaryOp Add bytes bytes" => (k_here; (with_reducible show wpAny _ _ (binaryOp Operator.Add (Value.bytes _ _) (Value.bytes _ _)) _ _ _); (refine KBy.add_bytes (by (try simp only [Array.size_append, List.size_toArray, byteArr_size, octs_size, List.length_cons, List.length_nil, List.length_map]); omega) ?_); intro _ _))
  (k_with "cell_enter" => (refine' code_def ?zqk1 ?zqk2 ?zqk3 ?zqk4 ?zqk5 ?zqkA ?zqkF ?zqkK ?zqk6 ?zqk7 ?zqk8 ?zqk9 ?zqkB ?_ ?zqc2 ?zqc3 ?zqc4 ?zqc5; (case zqkA => exact rfl); (case zqkF => exact rfl); (case zqkK => assumption); (case zqk1 => k_asm); (case zqk2 => k_asm); (case zqk3 => k_asm); (case zqk4 => k_asm); (case zqk5 => k_asm); (case zqk6 => k_is); (case zqk7 => k_is); (case zqk8 => ktr_room); (case zqk9 => first | exact BindsTo.of_eq rfl | exact binds_K (by k_in) rfl (by k_is) rfl rfl rfl); (case zqc5 => decide); (case zqkB => exact locs rfl); (case zqc2 => exact rfl); (case zqc3 => exact rfl); (case zqc4 => exact rfl); k_whole; intro g' L' h' FG' F' N' B' X' T'; (try dsimp only); (try k_lift B'); (try k_fold)))
  (k_with "!compareOp NotIn" => first | (k_here; (with_reducible show wpAny _ _ (compareOp CmpOp.NotIn (Value.int _ _) (Value.ref _)) _ _ _); k_dflt (refine' notin_int_bytes ?zqt ?zqh ?_; (case zqt => exact isTup_of (by k_asm) (by k_mem)); (case zqh => rfl))) | (k_here; (with_reducible show wpAny _ _ (compareOp CmpOp.NotIn (Value.bytes _ _) (Value.ref _)) _ _ _); k_dflt (refine' notin_bytes ?zqt ?zqh ?zqe ?_; (case zqt => exact isTup_of (by k_asm) (by k_mem)); (case zqh => rfl); (case zqe => first | exact (rfl : _ = false) | exact (rfl : _ = true)))))
  (k_with "!binaryOp BitAnd int int" => (k_here; (with_reducible refine and_lowT (by omega) ?_); intro _ _ _ vE))
  (k_with "!subscriptTail" => first | (k_here; (with_reducible show wpAny _ _ (subscriptTail _ _ (Value.bytes (List.toArray _) _) (Value.int _ _)) _ _ _); (refine item_octet (by decide) rfl (by (try simp only [List.length_cons, List.length_nil, List.length_append]); omega) ?_); intro _ _) | (k_here; (with_reducible show wpAny _ _ (subscriptTail _ (Expr.Slice _ _ none _) (Value.bytes _ _) (Value.ref _)) _ _ _); (with_reducible rename Fr _ _ _ _ => F'); (with_reducible rename News _ _ _ _ => N'); (refine slice_BV (s := ⟨_, _, _, _, _⟩) F' N' (by constructor) (by constructor) (by (try simp only [Array.size_append, List.size_toArray, octs_size, List.length_cons, List.length_nil, List.length_append]); omega) (by first | exact picked_drop2 _ _ _ | exact picked_01 _ _ _) ?_); intro _ _ _ _ _) | (k_here; (with_reducible show wpAny _ _ (subscriptTail _ _ (Value.bytes _ _) (Value.int (-1) _)) _ _ _); (refine last_octet (by (try simp only [octs_size]); omega) (by (try simp only [octs_size]); omega) ?_); intro _ _ _ lO _ _))
  (k_with "!ite" => first | (k_closed; k_dflt (first | refine PySem.W.ite_pos (by decide) ?_ | refine PySem.W.ite_neg (by decide) ?_)) | (first | refine PySem.W.ite_neg (by (try simp only [bne_iff_ne, ne_eq, beq_iff_eq, decide_eq_true_eq, Bool.not_eq_true', bne_eq_false_iff_eq, beq_eq_false_iff_ne]); omega) ?_ | refine PySem.W.ite_pos (by (try simp only [bne_iff_ne, ne_eq, beq_iff_eq, decide_eq_true_eq]); omega) ?_))
  (k_with "!execs cons" => (k_here; dsimp only))
  (k_with "!execs nil" => (k_here; dsimp only))
  (k_with "!truthy bytes" => (k_here; (refine truthy_bytesV (v := true) (by (try simp only [Array.size_append, List.size_toArray, octs_size, List.length_cons, List.length_nil]); omega) rfl ?_)))
  (k_with "!call builtin:len" => (k_here; (with_reducible show wpAny _ _ (call (Value.builtin "len") [Value.bytes _ _]) _ _ _); (refine len_bytesV (by (try simp only [Array.size_append, List.size_toArray, octs_size, List.length_cons, List.length_nil, List.length_append]); omega) (by simp only [Array.size_append, List.size_toArray, octs_size, List.length_cons, List.length_nil, List.length_append]; rfl) ?_); intro _ _))
  (k_with "!exec For Name Subscript cons nil" => (k_here; (rename Fr _ _ _ _ => lF'); (with_unfolding_all refine' For_invVF lF' ?zqk1 ?zqk2 ?_; (case zqk1 => exact rfl); (case zqk2 => exact rfl); k_whole)))
  trivial
def RdOk (x0 x1 : UInt8) (l : List UInt8) : Prop := (x0 = 3 ∧ x1.toNat = 0) ∨ (x0 = 16 ∧ x1.toNat ≤ 7 ∧ (x1.toNat = 0 ∨ 0 < l.length))
def dec (x0 : UInt8) (l : List UInt8) : List Int := if x0 = 3 then (l.map fun c => (c.toNat : Int)).map (fun n => if n > 127 then n - 256 else n) else l.map fun c => (c.toNat : Int)
def Rd (d : Array UInt8) (sbt : Int) : Prop := ∃ x0 x1 l, d = (x0 :: x1 :: l).toArray ∧ sbt = 9 ∧ RdOk x0 x1 l
section
variable {w : World} {dp un : Nat} {gd : Option (List Code)} {cn : Str} {cs : Scope} {a : Addr} {ccd : Value} {cl : List (Str × Addr)} {outer : List Env} {A₀ : Around} {base h₀ : Heap} {L : Addr} {m : Str → Option Value} {s : Shared} {R : Result → Shared → Prop}
  {loose : List Str} {mean : ExcName → Option Value} {mg mb : Str → Option Value} {news : List (Addr × Obj)} {d : Array UInt8} {xB dB : Addr} {ta tb tc td : Tok} {sbt : Int}
  (B : Below A₀ base outer h₀) (F : Fr h₀ L s.heap m) (X : (K0 w.params).In h₀) (N : News h₀ L s.heap ((xB, instObj 223 dB) :: (dB, dictOf [⟨PyData.keyHash w.params "data", .str "data" ta, .bytes d tb⟩, ⟨PyData.keyHash w.params "_subtype", .str "_subtype" tc, .int sbt td⟩] 2) :: news)) (T : Top q1 loose mean mg mb h₀) (hk : cs.kind = .function)
  (h1 : dp + 24 < recursionLimit) (h2 : un + 240 < cLine)
include B F X N T hk h1 h2
theorem g_av (hd : d.size ≤ 66) (h39 : ∀ x1 l, d ≠ (39 :: x1 :: l).toArray)
  (ret : ∀ x0 x1 l, d = (x0 :: x1 :: l).toArray → sbt = 9 → RdOk x0 x1 l → ∀ (V dV z : Addr) (zs : List Value) (zk : Nat) (va vb vc vd ve : Tok) (h' : Heap) (tk' : Nat), IntsAre zs (dec x0 l) → Fr h₀ L h' m → News h₀ L h' ((V, instObj 141 dV) :: (dV, dictOf [⟨PyData.keyHash w.params "data", .str "data" va, .ref z⟩, ⟨PyData.keyHash w.params "dtype", .str "dtype" vb, .bytes #[x0] vc⟩, ⟨PyData.keyHash w.params "padding", .str "padding" vd, .int (x1.toNat : Int) ve⟩] 3) :: (z, W.listOf zs.toArray zk) :: (xB, instObj 223 dB) :: (dB, dictOf [⟨PyData.keyHash w.params "data", .str "data" ta, .bytes d tb⟩, ⟨PyData.keyHash w.params "_subtype", .str "_subtype" tc, .int sbt td⟩] 2) :: news) → R (.ok (.ret (.ref V))) { s with heap := h', toks := tk' })
  (exc : ¬ Rd d sbt → ∀ (e : Addr) (g h' : Heap) (tk' : Nat), Fr h₀ L g m → g.UpToSlots h' → RaisedSN base g (envX cn cs L a ccd cl :: outer) e (.type "ValueError") ((xB, instObj 223 dB) :: (dB, dictOf [⟨PyData.keyHash w.params "data", .str "data" ta, .bytes d tb⟩, ⟨PyData.keyHash w.params "_subtype", .str "_subtype" tc, .int sbt td⟩] 2) :: news) h' → R (.error (.ref e)) { s with heap := h', toks := tk' }) :
  codeAny (model P1 w) (ktrTop dp un gd cn cs L a ccd cl outer) (.call (.ref 198) ⟨[.ref xB], []⟩) R s := by
  obtain ⟨l0, rfl⟩ : ∃ l0 : List UInt8, d = l0.toArray := ⟨d.toList, by simp⟩
  have hd' : l0.length ≤ 66 := by simpa using hd
  by_cases hs : sbt = 9
  · subst hs
    match l0, hd' with
    | [], _ => exact c_avs B F X N T hk h1 h2 (by simp) (exc (by rintro ⟨a, b, c, e, _⟩; simp at e))
    | [y], _ => exact c_avs B F X N T hk h1 h2 (by simp) (exc (by rintro ⟨a, b, c, e, _⟩; simp at e))
    | x0 :: x1 :: l, hd' =>
      have hl : l.length ≤ 64 := by simp at hd'; omega
      have bad : ¬ RdOk x0 x1 l → ¬ Rd (x0 :: x1 :: l).toArray 9 := by
        rintro hb ⟨a, b, c, e, _, hr⟩
        simp at e
        obtain ⟨rfl, rfl, rfl⟩ := e
        exact hb hr
      by_cases h3 : x0 = 3
      · subst h3
        refine c_av3 B F X N T hk h1 h2 hl (fun hg V dV z zs zk va vb vc vd ve h' tk' hI F' N' => ?_) (fun hg => exc (bad ?_))
        · exact ret 3 x1 l rfl rfl (.inl ⟨rfl, hg⟩) V dV z zs zk va vb vc vd ve h' tk' (by unfold dec; rw [if_pos rfl]; exact hI) F' N'
        · rintro (⟨_, h⟩ | ⟨h, _⟩)
          · exact hg h
          · exact absurd h (by decide)
      · by_cases h16 : x0 = 16
        · subst h16
          refine c_av16 B F X N T hk h1 h2 hl (fun hg V dV z zs zk va vb vc vd ve h' tk' hI F' N' => ?_) (fun hg => exc (bad ?_))
          · exact ret 16 x1 l rfl rfl (.inr ⟨rfl, hg⟩) V dV z zs zk va vb vc vd ve h' tk' (by unfold dec; rw [if_neg (by decide), ← List.map_id' (l.map _)]; exact hI) F' N'
          · rintro (⟨h, _⟩ | ⟨_, h⟩)
            · exact absurd h (by decide)
            · exact hg h
        · exact c_avx B F X N T hk h1 h2 hl h3 h16 (fun e => h39 x1 l (by rw [e])) (exc (bad (by rintro (⟨h, _⟩ | ⟨h, _⟩); exact h3 h; exact h16 h)))
  · exact c_avk B F X N T hk h1 h2 hd' hs (exc (by rintro ⟨a, b, c, _, e, _⟩; exact hs e))
end
end Mine
end
section
namespace Mine
theorem wdC3k0 : True := by
  k_with_none
  (k_with "!eval Call" => first | (k_here; (with_reducible show wpAny _ _ (eval (Expr.Call _ _ [] _) _) _ _ _); k_dflt (refine Call_ ?_)))
  (k_with "!exec Raise some none" => first | (k_here; (with_reducible show wpAny _ _ (exec (Stmt.Raise (some (Expr.Call (Expr.Name (PySem.Str.ofString "ValueError") _) _ _ _)) none _) _) _ _ _); k_dflt (refine Raise_new rfl ?_)) | (k_here; (with_reducible show wpAny _ _ (exec (Stmt.Raise (some (Expr.Call (Expr.Name (PySem.Str.ofString "TypeError") _) _ _ _)) none _) _) _ _ _); k_dflt (refine Raise_new rfl ?_)))
  (k_with "!leaving ref" => first | (k_here; (with_reducible rename KtsDicts _ _ => kdX); k_dflt (first | (refine' leave_raiseS ?zqk1 ?zqk0 ?zqk2 ?zqk3 ?_; (case zqk0 => first | assumption | exact Heap.MadeExc.of (by assumption)); (case zqk2 => assumption); (case zqk1 => assumption); (case zqk3 => k_asm); k_whole; intro h' t' S' R' U'; (try dsimp only at S' R' U' ⊢)) | (refine' leave_onS ?zqk1 ?zqk2 ?zqk3 ?zqk4 ?_; (case zqk3 => assumption); (case zqk2 => assumption); (case zqk1 => assumption); (case zqk4 => assumption); k_whole; intro h' S' R' U'; (try dsimp only at S' R' U' ⊢)) | (refine' leave_newS ?zqk1 ?zqk0 ?zqk2 ?zqk3 ?_; (case zqk0 => assumption); (case zqk2 => assumption); (case zqk1 => assumption); (case zqk3 => k_asm); k_whole; intro h' S' R' U'; (try dsimp only at S' R' U' ⊢)) | (refine' leave_onSN ?zqk1 ?zqk2 ?zqk3 ?zqk4 ?_; (case zqk3 => assumption); (case zqk2 => assumption); (case zqk1 => assumption); (case zqk4 => assumption); k_whole; intro h' S' R' U'; (try dsimp only at S' R' U' ⊢)))))
  (k_with "!eval Name" => first | (k_here; (first | (with_reducible show wpAny _ _ (eval (Expr.Name _ _) (envOf _ _ _ _ _)) _ _ _) | (with_reducible show wpAny _ _ (eval (Expr.Name _ _) (envOfC _ _ _ _ _)) _ _ _)); k_dflt (first | (refine' nameX_L ?zqF ?zqv ?_ ?zqa ?zqb; (case zqF => k_asm); (case zqv => rfl); (case zqa => rfl); (case zqb => kernel_rfl); k_whole) | (refine' nameX_K ?zqF ?zqX ?zqT ?zqe ?_ ?zqa ?zqb; (case zqT => k_asm); (case zqX => k_asm); (case zqF => k_asm); (case zqe => k_is); (case zqa => rfl); (case zqb => kernel_rfl); k_whole) | (refine' nameX_B ?zqF ?zqX ?zqT ?zqe ?zqv ?zqn ?_ ?zqa ?zqb; (case zqT => k_asm); (case zqX => k_asm); (case zqF => k_asm); (case zqe => k_is); (case zqv => boot_fast); (case zqn => decide); (case zqa => rfl); (case zqb => kernel_rfl); k_whole))))
  (k_with "k_mem" => (assumption))
  (k_with "k_room" => (ktr_room))
  (k_with "k_units" => (ktr_units))
  (k_with "ktr_rel" => (first | k_asm | (refine' cb_drop ?zqcbN ?zqcbS; (case zqcbN => k_asm); (case zqcbS => (repeat (first | (intro p hp; (repeat (first | exact hp | exact List.mem_append_left _ hp | apply List.mem_cons_of_mem)); done) | (refine' sub_cons ?_ ?_; focus k_mem)))))))
  (k_with "k_lt?" => skip)
  (k_with "k_all" => (first | (refine all_ne_of ?_; assumption) | exact fun p hp => Nat.ne_of_lt ((by assumption : ∀ p ∈ _, p.1 < _) p hp)))
  (k_with "!call type:bytes" => first | (k_here; (with_reducible show wpAny _ _ (call (Value.type "bytes") [Value.bytes _ _]) _ _ _); refine bytes_id ?_) | (k_here; (with_reducible show wpAny _ _ (call (Value.type "bytes") [Value.ref _]) _ _ _); k_dflt (refine' bytes_L ?zqbF ?zqbN ?zqbh ?zqbl ?zqbi ?zqbr ?zqbz ?_; (case zqbF => k_asm); (case zqbN => k_asm); (case zqbh => rfl); (case zqbl => is_list); (case zqbi => assumption); (case zqbr => (first | (subst_vars; rw [List.map_id']; exact in_255 (by assumption)) | exact in_map256 | (subst_vars; exact in_map256) | exact in_255 (by assumption) | assumption)); (case zqbz => (simp_all; omega))); intro _ _ _ F' N'))
  (k_with "!binaryOp Add bytes bytes" => (k_here; (with_reducible show wpAny _ _ (binaryOp Operator.Add (Value.bytes _ _) (Value.bytes _ _)) _ _ _); (refine KBy.add_bytes (by (try simp only [Array.size_append, List.size_toArray, byteArr_size, octs_size, List.length_cons, List.length_nil, List.length_map]); omega) ?_); intro _ _))
  (k_with "cell_enter" => first | (refine' code_S0X ?zqk1 ?zqk2 ?zqk3 ?zqk4 ?zqk5 ?zqkA ?zqkF ?zqkK ?zqk6 ?zqk7 ?zqk8 ?zqk9 ?zqkB ?_ ?zqc2 ?zqc3 ?zqc4 ?zqc5; (case zqkA => exact rfl); (case zqkF => exact rfl); (case zqkK => assumption); (case zqk1 => k_asm); (case zqk2 => k_asm); (case zqk3 => k_asm); (case zqk4 => k_asm); (case zqk5 => k_asm); (case zqk6 => k_is); (case zqk7 => k_is); (case zqk8 => ktr_room); (case zqk9 => first | exact BindsTo.of_eq rfl | exact binds_K (by k_in) rfl (by k_is) rfl rfl rfl); (case zqc5 => decide); (case zqkB => exact locs rfl); (case zqc2 => exact rfl); (case zqc3 => exact rfl); (case zqc4 => exact rfl); k_whole; intro g' L' h' FG' F' N' B' X' T' D'; (try dsimp only); (try k_lift B'); (try k_fold)) | (refine' code_def ?zqk1 ?zqk2 ?zqk3 ?zqk4 ?zqk5 ?zqkA ?zqkF ?zqkK ?zqk6 ?zqk7 ?zqk8 ?zqk9 ?zqkB ?_ ?zqc2 ?zqc3 ?zqc4 ?zqc5; (case zqkA => exact rfl); (case zqkF => exact rfl); (case zqkK => assumption); (case zqk1 => k_asm); (case zqk2 => k_asm); (case zqk3 => k_asm); (case zqk4 => k_asm); (case zqk5 => k_asm); (case zqk6 => k_is); (case zqk7 => k_is); (case zqk8 => ktr_room); (case zqk9 => first | exact BindsTo.of_eq rfl | exact binds_K (by k_in) rfl (by k_is) rfl rfl rfl); (case zqc5 => decide); (case zqkB => exact locs rfl); (case zqc2 => exact rfl); (case zqc3 => exact rfl); (case zqc4 => exact rfl); k_whole; intro g' L' h' FG' F' N' B' X' T'; (try dsimp only); (try k_lift B'); (try k_fold)))
  (k_with "!compareOp NotIn" => first | (k_here; (with_reducible show wpAny _ _ (compareOp CmpOp.NotIn (Value.int _ _) (Value.ref _)) _ _ _); k_dflt (refine' notin_int_bytes ?zqt ?zqh ?_; (case zqt => exact isTup_of (by k_asm) (by k_mem)); (case zqh => rfl))) | (k_here; (with_reducible show wpAny _ _ (compareOp CmpOp.NotIn (Value.bytes _ _) (Value.ref _)) _ _ _); k_dflt (refine' notin_bytes ?zqt ?zqh ?zqe ?_; (case zqt => exact isTup_of (by k_asm) (by k_mem)); (case zqh => rfl); (case zqe => first | exact (rfl : _ = false) | exact (rfl : _ = true)))))
  (k_with "!binaryOp BitAnd int int" => (k_here; (with_reducible refine and_lowT (by omega) ?_); intro _ _ _ vE))
  (k_with "!subscriptTail" => first | (k_here; (with_reducible show wpAny _ _ (subscriptTail _ _ (Value.bytes (List.toArray _) _) (Value.int _ _)) _ _ _); (refine item_octet (by decide) rfl (by (try simp only [List.length_cons, List.length_nil, List.length_append]); omega) ?_); intro _ _) | (k_here; (with_reducible show wpAny _ _ (subscriptTail _ (Expr.Slice _ _ none _) (Value.bytes _ _) (Value.ref _)) _ _ _); (with_reducible rename Fr _ _ _ _ => F'); (with_reducible rename News _ _ _ _ => N'); (refine slice_BV (s := ⟨_, _, _, _, _⟩) F' N' (by constructor) (by constructor) (by (try simp only [Array.size_append, List.size_toArray, octs_size, List.length_cons, List.length_nil, List.length_append]); omega) (by first | exact picked_drop2 _ _ _ | exact picked_01 _ _ _) ?_); intro _ _ _ _ _) | (k_here; (with_reducible show wpAny _ _ (subscriptTail _ _ (Value.bytes _ _) (Value.int (-1) _)) _ _ _); (refine last_octet (by (try simp only [octs_size]); omega) (by (try simp only [octs_size]); omega) ?_); intro _ _ _ lO _ _))
  (k_with "!ite" => first | (k_closed; k_dflt (first | refine PySem.W.ite_pos (by decide) ?_ | refine PySem.W.ite_neg (by decide) ?_)) | (first | refine PySem.W.ite_neg (by (try simp only [bne_iff_ne, ne_eq, beq_iff_eq, decide_eq_true_eq, Bool.not_eq_true', bne_eq_false_iff_eq, beq_eq_false_iff_ne]); omega) ?_ | refine PySem.W.ite_pos (by (try simp only [bne_iff_ne, ne_eq, beq_iff_eq, decide_eq_true_eq]); omega) ?_))
  (k_with "!execs cons" => (k_here; dsimp only))
  (k_with "!execs nil" => (k_here; dsimp only))
  (k_with "!truthy bytes" => (k_here; (refine truthy_bytesV (v := true) (by (try simp only [Array.size_append, List.size_toArray, octs_size, List.length_cons, List.length_nil]); omega) rfl ?_)))
  (k_with "!call builtin:len" => (k_here; (with_reducible show wpAny _ _ (call (Value.builtin "len") [Value.bytes _ _]) _ _ _); (refine len_bytesV (by (try simp only [Array.size_append, List.size_toArray, octs_size, List.length_cons, List.length_nil, List.length_append]); omega) (by simp only [Array.size_append, List.size_toArray, octs_size, List.length_cons, List.length_nil, List.length_append]; rfl) ?_); intro _ _))
  (k_with "!exec For Name Subscript cons nil" => (k_here; (rename Fr _ _ _ _ => lF'); (with_unfolding_all refine' For_invVF lF' ?zqk1 ?zqk2 ?_; (case zqk1 => exact rfl); (case zqk2 => exact rfl); k_whole)))
  (k_with "!call ref" => (k_here; (try dsimp only [List.cons_append, List.nil_append]); (with_reducible show wpAny _ _ (call (Value.ref 198) [Value.ref _] _) _ _ _); k_dflt ((refine wpAny_call ?_); (refine' g_av ?zqcB ?zqcF ?zqcX ?zqcN ?zqcT ?zqck ?zqcd ?zqcu ?zqch ?zqc39 ?_ ?_); (case zqcN => k_asm); (case zqcB => k_asm); (case zqcF => k_asm); (case zqcX => k_asm); (case zqcT => k_asm); (case zqck => first | exact rfl | assumption); (case zqcd => ktr_room); (case zqcu => ktr_units); (case zqch => assumption); (case zqc39 => assumption); (all_goals (first | (intro x0 x1 l hdE hsE hOk V' dV' z' zs' zk' va' vb' vc' vd' ve' h' tk' zI' F' N') | (intro hA e' g' h' tk' Fg' U' R'))); (all_goals (try dsimp only)); (all_goals (try k_sweep)); (all_goals (try k_fold)))))
  trivial
section
variable {w : World} {dp un : Nat} {gd : Option (List Code)} {cn : Str} {cs : Scope} {a : Addr} {ccd : Value} {cl : List (Str × Addr)}  {A₀ : Around} {base h₀ : Heap} {L : Addr} {m : Str → Option Value} {s : Shared} {R : Result → Shared → Prop}
  {loose : List Str} {mean : ExcName → Option Value} {mg mb : Str → Option Value} {news : List (Addr × Obj)} {d : Array UInt8} {xB dB : Addr} {ta tb tc td : Tok} {sbt : Int}
  (XB : (K0 w.params).In base) (TB : Top q1 loose mean mg mb base) (B : Below A₀ base [] h₀) (F : Fr h₀ L s.heap m) (X : (K0 w.params).In h₀) (N : News h₀ L s.heap ((xB, instObj 223 dB) :: (dB, dictOf [⟨PyData.keyHash w.params "data", .str "data" ta, .bytes d tb⟩, ⟨PyData.keyHash w.params "_subtype", .str "_subtype" tc, .int sbt td⟩] 2) :: news)) (T : Top q1 loose mean mg mb h₀) (hk : cs.kind = .function)
  (h1 : dp + 32 < recursionLimit) (h2 : un + 320 < cLine)
include XB TB B F X N T hk h1 h2
theorem c_read (hd : d.size ≤ 66) (h39 : ∀ x1 l, d ≠ (39 :: x1 :: l).toArray)
  (ret : ∀ x0 x1 l, d = (x0 :: x1 :: l).toArray → sbt = 9 → RdOk x0 x1 l → ∀ (z T : Addr) (zs : List Value) (zk : Nat) (vc ve : Tok) (h' : Heap) (tk' : Nat), IntsAre zs (dec x0 l) → Fr h₀ L h' m → News h₀ L h' ((T, { cls := .type "tuple", data := .seq #[.ref z, .bytes #[x0] vc, .int (x1.toNat : Int) ve] }) :: (z, W.listOf zs.toArray zk) :: (xB, instObj 223 dB) :: (dB, dictOf [⟨PyData.keyHash w.params "data", .str "data" ta, .bytes d tb⟩, ⟨PyData.keyHash w.params "_subtype", .str "_subtype" tc, .int sbt td⟩] 2) :: news) → R (.ok (.ret (.ref T))) { s with heap := h', toks := tk' })
  (retB : ¬ Rd d sbt → ∀ (t' : Tok) (h' : Heap) (tk' : Nat), Fr h₀ L h' m → News h₀ L h' ((xB, instObj 223 dB) :: (dB, dictOf [⟨PyData.keyHash w.params "data", .str "data" ta, .bytes d tb⟩, ⟨PyData.keyHash w.params "_subtype", .str "_subtype" tc, .int sbt td⟩] 2) :: news) → R (.ok (.ret (.str "value" t'))) { s with heap := h', toks := tk' }) :
  codeAny (model P1 w) (ktrTop dp un gd cn cs L a ccd cl []) (.call (.ref 1547) ⟨[.ref xB], []⟩) R s := by
  k_dflt cell_enter
  conv in (bdy _) => whnf
  k_steps
  all_goals first
    | (refine' ret _ _ _ (by assumption) (by assumption) (by assumption) _ _ _ _ _ _ _ _ (by assumption) ?kf ?kn; (case kf => k_asm); (case kn => ktr_rel))
    | (refine' retB (by assumption) _ _ _ ?kf ?kn; (case kf => k_asm); (case kn => ktr_rel))
end
end Mine
end
section
namespace Mine
section
variable {prog : Program} {w : World} {A : Around} {h₀ : Heap} {L : Addr} {m : PySem.Str → Option Value} {env : Env} {s : Shared} {E : Value → Shared → Prop}
def SrcB (prog : Program) (w : World) (A : Around) (h₀ : Heap) (L : Addr) (m : PySem.Str → Option Value) (env : Env) (elt : PySem.Expr) (x : PySem.Str) (scope : Scope) (cl : List (PySem.Str × Addr)) (Q : Value → Shared → Prop) (xv : Value) (s₁ : Shared) : Prop :=
  ∃ (b : Array UInt8) (t : Tok) (news : List (Addr × Obj)), xv = .bytes b t ∧ A.handled = none ∧ Fr h₀ L s₁.heap m ∧ News h₀ L s₁.heap news ∧ b.size ≤ sizeLine ∧
    ∀ g, LCg.CompRest prog w A h₀ L m env elt x scope cl { s₁ with heap := g } (fun _ => True) (fun i v => ∃ c u, b[i]? = some c ∧ v = .int (c.toNat : Int) u) (LCg.FinE h₀ L m { s₁ with heap := g } Q) b.size 0 [] news
theorem listcomp_bytes {elt iter : PySem.Expr} {x : PySem.Str} {px : Pos} {scope : Scope} {cl : List (PySem.Str × Addr)} {pos : Pos} {Q : Value → Shared → Prop} (_ : Fr h₀ L s.heap m)
    (hclos : closureFor scope env = pure cl) (hcell : ∀ y ∈ scope.names, y.2 ≠ .cell) (hkind : scope.kind = .function)
    (hnames : ∀ y ∈ scope.names, y.2 = .local → scope.names.lookup y.1 = some .local) (hx : scope.names.lookup x = some .local)
    (h : wpAny (model prog w) A (eval iter env) (SrcB prog w A h₀ L m env elt x scope cl Q) E s)
    (hs : ∀ x, foldedSetIterable iter env x = pure x := by intro _; rfl) :
    wpAny (model prog w) A (eval (.ListComp elt [⟨.Name x px, iter, [], 0⟩] scope pos) env) Q E s := by
  rw [eval_ListComp]
  refine wpAny_comprehension_free (use := none) rfl hs hclos hkind hnames (wpAny_mono h (fun xv s₁ h₁ => ?_) fun _ _ e => e)
  obtain ⟨b, t, news, rfl, hh, F, N, hsz, R⟩ := h₁
  refine KBw.pyIter_bytes ?_
  refine LCg.block_U (KBw.walks hh s₁.heap.objs.size b t) hsz (fun i h st => by obtain ⟨o, e, _⟩ := st; exact ⟨o, e⟩) (fun i h h' o nw st e e' _ _ _ => by
    obtain ⟨o', q, r⟩ := st; rw [e] at q; cases q; exact ⟨o, e', r⟩) hcell hkind hx ⟨_, Heap.get?_push_size _ rfl, rfl, rfl⟩ (fun b' hb => ?_)
    (F.keeps fun _ _ e => Heap.get?_push_of_some _ e) (N.grown fun _ _ e => Heap.get?_push_of_some _ e) (Nat.ne_of_lt F.ns.lt) (next_is_new F) (fun p hp => Nat.ne_of_lt (Heap.lt_size (N p hp).1)) trivial (R _) ?_
  · rw [List.mem_singleton.mp hb]
    show s₁.heap.objs.size < (s₁.heap.push _).objs.size
    rw [Heap.size_push]; exact Nat.lt_succ_self _
  · intro D C h tk m' ys news' F' N' o1 hn hC₀ hD₀ hCL hDL hCD offC fin
    refine ⟨m', hn, fun h'' hs'' => fin D h'' tk (F'.change hs'' hCL hC₀) (fun p hp => ?_) o1⟩
    refine ⟨hs''.extBut _ _ ?_ (N' p hp).1, (N' p hp).2⟩
    rcases List.mem_cons.mp hp with rfl | hp
    · exact Ne.symm hCD
    · exact offC p hp
theorem srcB_of {elt : PySem.Expr} {x : PySem.Str} {scope : Scope} {cl : List (PySem.Str × Addr)} {Q : Value → Shared → Prop} {l : List UInt8} {t : Tok} {news : List (Addr × Obj)} {s₁ : Shared} (f : Int → Int)
    (hh : A.handled = none) (F : Fr h₀ L s₁.heap m) (N : News h₀ L s₁.heap news) (hsz : l.length ≤ 16777216)
    (turn : ∀ k t I oI C oC D m₂ ys h tk (E' : Value → Shared → Prop), 0 ≤ k ∧ k < 256 → LCg.NsObj oC m₂ → m₂ x = some (.int k t) → Fr h₀ L h m → News h₀ L h ((I, oI) :: (C, oC) :: (D, LCg.lst ys) :: news) → LCg.Off3 I C D news → ((@Ne Nat I C) ∧ (@Ne Nat I D) ∧ (@Ne Nat C D)) → KPfMark →
      wpAny (model prog w) A (eval elt (compEnvC scope cl C env)) (LCg.CompEnd h₀ L m { s₁ with heap := h, toks := tk } I oI C oC D (LCg.lst ys) (fun _ => True) (fun y news' => KCfEl news (f k) y news')) E' { s₁ with heap := h, toks := tk })
    (fin : ∀ ys D h tk, IntsAre ys ((l.map fun c => (c.toNat : Int)).map f) → Fr h₀ L h m → News h₀ L h ((D, LCg.lst ys) :: news) → LCg.Off1 D news → Q (.ref D) { s₁ with heap := h, toks := tk }) :
    SrcB prog w A h₀ L m env elt x scope cl Q (.bytes l.toArray t) s₁ :=
  ⟨l.toArray, t, news, rfl, hh, F, N, by rw [sizeLine_eq]; simpa using hsz, fun g => kcf_rest (ks := l.map fun c => (c.toNat : Int)) f (by simp) (fun i v hi ⟨c, u, hc, hv⟩ => ⟨c.toNat, u, by simpa using ⟨c, by simpa using hc, rfl⟩, hv⟩)
    (fun k t I oI C oC D m₂ ys h tk E' hk hC hx F' N' off ne mk => turn k t I oI C oC D m₂ ys h tk E' (by
      obtain ⟨c, _, rfl⟩ := List.mem_map.mp hk
      have := c.toNat_lt
      omega) hC hx F' N' off ne mk) (fun ys hy D h tk F' N' o1 => fin ys D h tk hy F' N' o1)⟩
end
end Mine
end
section
open PySem PySem.W PySem.Spec PySem.Calls PyProof.Rows PyProof.V
namespace Mine
section
variable {prog : Program} {w : World} {A : Around} {E : Value → Shared → Prop} {s : Shared} {env : Env} {h₀ : Heap} {L : Addr} {m : Str → Option Value} {news : List (Addr × Obj)} {kvs : List (Str × Value)} {d : Addr} {od : Obj}
theorem isDict_cls {o : Obj} (h : o.IsDictOf (strKind prog w) kvs) : o.cls = .type "dict" := by
  obtain ⟨es, n, ⟨h1, _, _⟩, _⟩ := h
  exact h1
theorem getMethod_dictL {name : Str} {id : String} {pl : Sem Bool} {Q : Value × List Value → Shared → Prop} (slot : Slot "dict" name id) (hty : typeOf (.builtin id) = pure (.type "method_descriptor"))
    (N : News h₀ L s.heap news) (hm : (d, od) ∈ news) (hd : od.IsDictOf (strKind prog w) kvs) (h : Q (.builtin id, [.ref d]) s) : wpAny (model prog w) A (getMethod (.ref d) name pl) Q E s := by
  have hD := kda_dict N hm hd
  exact getMethod_builtin hD.typeIs PySem.F.plainAttrs_dict slot hty hD.mapOf.noDict h
theorem call_items_dictL {Q : Value → Shared → Prop} (lo : (d == sysModules) = false) (hm : (d, od) ∈ news) (hd : od.IsDictOf (strKind prog w) kvs) (F : Fr h₀ L s.heap m) (N : News h₀ L s.heap news)
    (h : ∀ h' o vw, (∃ ov, h'.get? vw = some ov ∧ ov.cls = .type "dict_items" ∧ ov.data = .fields #[.ref d]) → Fr h₀ L h' m → News h₀ L h' ((vw, o) :: news) → Q (.ref vw) { s with heap := h' }) :
    wpAny (model prog w) A (call (.builtin "dict.items") [.ref d]) Q E s := by
  have hD := kda_dict N hm hd
  exact call_meetsIn PySem.F.slot_dict_items hD.typeIs PySem.F.entry_dict_items (PySem.F.args_dict_items_1 _) (meets_dict_items (strKind prog w) d lo)
    ⟨⟨kvs, hD⟩, h _ _ _ ⟨_, Heap.get?_push_size _ rfl, rfl, rfl⟩ (F.push _) (News.push F N _)⟩
def pairsI (kvs : List (Str × Value)) : List Itm := kvs.map fun p => Itm.pair (fun t => .str p.1 t) p.2
theorem items_any {target : Expr} {body : List Stmt} {Q : Flow → Shared → Prop} {elts : List Expr} {kk : Nat} {pos : Pos} {vw : Addr} {m₀ : Str → Option Value} (ht : target = .Tuple elts kk pos)
    (hh : A.handled = none) (F : Fr h₀ env.locals s.heap m₀) (N : News h₀ env.locals s.heap news) (hvw : ∃ ov, s.heap.get? vw = some ov ∧ ov.cls = .type "dict_items" ∧ ov.data = .fields #[.ref d]) (hd : od.IsDictOf (strKind prog w) kvs) (hm : (d, od) ∈ news)
    (rest₀ : ∀ I : Addr, (∀ p ∈ news, p.1 < I) → ItemsRest prog w A E h₀ env target body Q s [(I, "dict_itemiterator")] [(d, od)] (pairsI kvs) m₀ news) :
    wpAny (model prog w) A (pyIter (.ref vw)) (fun it s₂ => TurnsAt prog w A h₀ env target body Q E it s₂) E s := by
  subst ht
  have hax := N _ hm
  have hdo := kda_dict N hm hd
  obtain ⟨ep, hat⟩ := hdo.dictAt
  have hne : d ≠ s.heap.objs.size := Nat.ne_of_lt hat.lt_size
  refine wpAny_pyIter_items hvw hat ?_
  refine ktu_core (tk0 := s.toks) (keep := [(d, od)]) (kti_itemsTurns (knd := strKind prog w) hh s.heap.objs.size d hne kvs ep) (by rw [pairsI, List.length_map]) ?_ ?_ ?_ ?_ ?_ ?_ ?_ ?_ (F.push _) (fun p hp => ⟨Heap.get?_push_of_some _ (N p hp).1, (N p hp).2⟩) (And.intro hm trivial) (rest₀ _ fun p hp => Heap.lt_size (N p hp).1)
  · rintro i v h ⟨T', key, k, x, rfl, hx, hk, hT⟩
    obtain ⟨t, rfl⟩ := Value.isStrOf_shape hk
    exact ⟨.pair (fun t => .str k t) x, by rw [pairsI, List.getElem?_map, hx]; rfl, T', t, rfl, hT⟩
  · rintro i h ⟨⟨ok, ov, he⟩, _⟩
    have e1 : ∃ o : Obj, h.get? s.heap.objs.size = some o ∧ o.cls = .type "dict_itemiterator" := ⟨_, he, rfl⟩
    obtain ⟨oi, g, c⟩ := e1
    exact ⟨[(s.heap.objs.size, oi)], ⟨⟨rfl, c⟩, trivial⟩, fun p hp => by rw [List.mem_singleton.mp hp]; exact g⟩
  · intro b hb
    have hb' : b = s.heap.objs.size := by simpa using hb
    rw [hb']
    exact ⟨List.mem_cons_self .., next_is_new F⟩
  · intro b hb
    simpa using hb
  · intro b hb
    have hb' : b = s.heap.objs.size ∨ b = d := by simpa using hb
    rcases hb' with e | e
    · exact .inl (by simp [e])
    · exact .inr ⟨od, by simp [e]⟩
  · intro hI
    have hb' : env.locals = s.heap.objs.size ∨ env.locals = d := by simpa using hI
    rcases hb' with e | e
    · exact absurd F.ns.lt (e ▸ Nat.lt_irrefl _)
    · exact hax.2.1 e.symm
  · intro p hp hI
    exact absurd (Heap.lt_size (N p hp).1) ((List.mem_singleton.mp hI) ▸ Nat.lt_irrefl _)
  · exact ⟨⟨.none, .none, Heap.get?_push_size _ rfl⟩, hat.push _⟩
end
end Mine
end
section
open PySem PySem.W PySem.Spec PySem.Calls PyProof.Rows PyProof.V
namespace Mine
open Builtin
theorem encode_tree2 (x : Str) (t u : Tok) : «str.encode» ⟨[.str x t, .str (PySem.Str.ofString "utf-8") u], []⟩ = (do ret (← _codecs.encodeRoad "str.encode" (.str x t) x (Str.ofString "utf-8") none)) := by
  first | rfl | kernel_rfl
theorem encode_tree3 (x : Str) (t u : Tok) : «str.encode» ⟨[.str x t, .str (PySem.Str.ofString "utf8") u], []⟩ = (do ret (← _codecs.encodeRoad "str.encode" (.str x t) x (Str.ofString "utf-8") none)) := by
  first | rfl | kernel_rfl
theorem decode_tree2 (t u : Tok) (c : UInt8) (cs : List UInt8) : «bytes.decode» ⟨[.bytes (c :: cs).toArray t, .str (PySem.Str.ofString "utf-8") u], []⟩ = (mkStr (PySem.Str.ofString "utf-8") >>= fun _ => mkStr (PySem.Str.ofString "utf-8") >>= fun e => mkStr (PySem.Str.ofString "bytes.decode") >>= fun d =>
    call (.builtin "_codecs.decode.text") [.bytes (c :: cs).toArray t, e, .none, d] >>= fun v => ret v) := by
  first | rfl | kernel_rfl
def u8 (x : Str) : Array UInt8 := x.cps.foldl (fun acc c => acc ++ (Str.utf8Of c).toArray) #[]
theorem forIn_two {β γ : Type} (n : Nat) (b c : β) (f : Nat → β → Sem (ForInStep β)) (g : β → Sem γ) (h0 : 0 < n → f 0 b = pure (.yield c)) (h1 : ∀ i, f i c = pure (.done c)) (hb : n = 0 → b = c) : (forIn (List.range' 0 n 1) b f >>= g) = g c := by
  cases n with
  | zero => rw [hb rfl]; rfl
  | succ k =>
    rw [List.range'_succ, List.forIn_cons, h0 (Nat.succ_pos _)]
    cases k with
    | zero => rfl
    | succ j =>
      show (forIn (List.range' 1 (j+1) 1) c f >>= g) = g c
      rw [List.range'_succ, List.forIn_cons, h1]
      rfl
theorem encodeNarrow_good {id : String} {self : Value} {x : Str} (hg : ∀ c ∈ x.cps, Str.isSurrogate c = false) (hz : (u8 x).size ≤ sizeLine) : _codecs.encodeNarrow id _codecs.utf8Codec none self x = pure (u8 x) := by
  show (forIn (m := Sem) [:x.length] ((0 : Nat), (#[] : Array UInt8), ({} : _codecs.Faults)) _ >>= _) = _
  rw [KPc.range_list]
  refine forIn_two (β := Nat × Array UInt8 × _codecs.Faults) x.length (0, #[], {}) (x.cps.size, u8 x, {}) _ _ ?_ ?_ ?_
  · intro hl
    have hl' : 0 < x.cps.size := hl
    have hf : x.cps.findIdx? Str.isSurrogate = none := by
      rw [Array.findIdx?_eq_none_iff]
      exact fun c hc => by simpa using hg c hc
    have hx : x.cps[0]? = some (x.cps[0]'hl') := Array.getElem?_eq_getElem hl'
    have hs : Str.isSurrogate (x.cps[0]'hl') = false := hg _ (Array.getElem_mem _)
    have he : x.cps.extract 0 x.cps.size = x.cps := Array.extract_size
    show (match x.cps[0]? with | some x_2 => _ | _ => _) = _
    rw [hx]
    show (if (!Str.isSurrogate (x.cps[0]'hl')) = true then _ else _) = _
    rw [hs, if_pos (show (!false) = true from rfl)]
    show pure (ForInStep.yield (0 + ((x.cps.extract 0 x.cps.size).findIdx? Str.isSurrogate).getD (x.cps.extract 0 x.cps.size).size, ((x.cps.extract 0 x.cps.size).extract 0 (((x.cps.extract 0 x.cps.size).findIdx? Str.isSurrogate).getD (x.cps.extract 0 x.cps.size).size)).foldl (fun acc y => acc ++ (Str.utf8Of y).toArray) #[], _)) = _
    rw [he, hf]
    show pure (ForInStep.yield (0 + x.cps.size, (x.cps.extract 0 x.cps.size).foldl (fun acc y => acc ++ (Str.utf8Of y).toArray) #[], _)) = _
    rw [he, Nat.zero_add]
    rfl
  · intro i
    show (if (u8 x).size > sizeLine then _ else _) = _
    rw [if_neg (by omega)]
    show (match x.cps[x.cps.size]? with | some x_2 => _ | _ => _) = _
    rw [Array.getElem?_eq_none (Nat.le_refl _)]
  · intro h
    have h' : x.cps = #[] := Array.eq_empty_of_size_eq_zero h
    unfold u8
    rw [h']
    rfl
def noSur (x : Str) : Bool := x.cps.all fun c => !Str.isSurrogate c
theorem noSur_at {x : Str} (h : noSur x = true) : ∀ c ∈ x.cps, Str.isSurrogate c = false := fun c hc => by
  have := Array.all_eq_true'.mp h c hc
  simpa using this
theorem meets_encode {x : Str} {t u : Tok} {e : Str} (he : e = PySem.Str.ofString "utf-8" ∨ e = PySem.Str.ofString "utf8") (hg : noSur x = true) :
    Meets («str.encode» ⟨[.str x t, .str e u], []⟩) (fun _ R s => (u8 x).size ≤ sizeLine ∧ R (.ok (.ret (.bytes (u8 x) s.toks))) { s with toks := s.toks + 1 }) := by
  refine .of_wp fun prog w A R s hS => ?_
  obtain ⟨hsz, h⟩ := hS
  have e2 : «str.encode» ⟨[.str x t, .str e u], []⟩ = (do ret (← _codecs.encodeRoad "str.encode" (.str x t) x (Str.ofString "utf-8") none)) := by
    rcases he with rfl | rfl
    · exact encode_tree2 x t u
    · exact encode_tree3 x t u
  rw [e2, encodeRoad_utf8, encodeNarrow_good (noSur_at hg) hsz]
  exact wpAny_bind (wpAny_bind (wpAny_pure (wpAny_mkBytes (wpAny_pure ⟨_, rfl, h⟩) (by simpa using hsz))))
section
variable {prog : Program} {w : World} {A : Around} {E : Value → Shared → Prop} {s : Shared}
theorem method_encode {pl : Sem Bool} {x : PySem.Str} {t : Tok} {Q : Value × List Value → Shared → Prop} {M : Model} (h : Q (.builtin "str.encode", [.str x t]) s) : wpAny M A (getMethod (.str x t) "encode" pl) Q E s := by
  with_reducible exact GM.of (.str x t) (typeIs_str _ _ _) F.slot_str_encode F.type_str_encode GM.noRef h
theorem str_encode {x e : Str} {t u : Tok} {b : Array UInt8} {Q : Value → Shared → Prop} (he : e = PySem.Str.ofString "utf-8" ∨ e = PySem.Str.ofString "utf8") (hg : noSur x = true) (hb : u8 x = b) (hz : b.size ≤ 16777216) (h : ∀ t' k, Q (.bytes b t') { s with toks := k }) :
    wpAny (model prog w) A (call (.builtin "str.encode") [.str x t, .str e u]) Q E s := by
  subst hb
  exact call_meets F.slot_str_encode (typeIs_str _ _ _) F.entry_str_encode (F.args_str_encode_2 _ _) (meets_encode he hg) ⟨by rw [sizeLine_eq]; exact hz, h _ _⟩
theorem args_bytes_decode_2 (a b : Value) : argsOk "bytes.decode" ⟨[a, b], []⟩ := by unfold argsOk; kernel_rfl
theorem meets_decode2 {c : UInt8} {cs : List UInt8} {t u : Tok} {x : Str} {n : Nat} (hd : ∀ id, _codecs.runDecoder id _codecs.utf8Decoder none true (c :: cs).toArray 0 [] = pure (x.cps, n)) :
    Meets («bytes.decode» ⟨[.bytes (c :: cs).toArray t, .str (PySem.Str.ofString "utf-8") u], []⟩) (fun _ R s => x.length ≤ sizeLine ∧ ∀ t' k, R (.ok (.ret (.str x t'))) { s with toks := k }) := by
  refine .of_wp fun prog w A R s hS => ?_
  obtain ⟨hsz, h⟩ := hS
  rw [decode_tree2]
  refine wpAny_bind (wpAny_mkStr ?_ (by decide))
  refine wpAny_bind (wpAny_mkStr ?_ (by decide))
  refine wpAny_bind (wpAny_mkStr ?_ (by decide))
  exact wpAny_bind (call_function_meets KBd.kind_text KBd.plain_text KBd.entry_text (KBd.args_text _ _ _ _) (KBd.meets_text hd) ⟨hsz, wpAny_pure ⟨_, rfl, h _ _⟩⟩)
theorem bytes_decode2 {c : UInt8} {cs : List UInt8} {b : Array UInt8} {t u : Tok} {x : Str} {n : Nat} {Q : Value → Shared → Prop} (hb : b = (c :: cs).toArray) (hd : ∀ id, _codecs.runDecoder id _codecs.utf8Decoder none true (c :: cs).toArray 0 [] = pure (x.cps, n)) (hsz : x.length ≤ 16777216) (h : ∀ t' k, Q (.str x t') { s with toks := k }) :
    wpAny (model prog w) A (call (.builtin "bytes.decode") [.bytes b t, .str (PySem.Str.ofString "utf-8") u]) Q E s := by
  subst hb
  exact call_meets FB.slot_bytes_decode (typeIs_bytes _ _ _) FB.entry_bytes_decode (args_bytes_decode_2 _ _) (meets_decode2 hd) ⟨by rw [sizeLine_eq]; exact hsz, h⟩
end
section
variable {prog : Program} {w : World} {A : Around} {E : Value → Shared → Prop} {s : Shared}
theorem in_strV {x y : Str} {t u : Tok} {v : Bool} {Q : Value → Shared → Prop} (he : (!(Builtin.Str.occurrences x y 0 x.length 1).isEmpty) = v) (h : Q (.bool v) s) : wpAny (model prog w) A (compareOp .In (.str y u) (.str x t)) Q E s :=
  PyProof.Rows.in_str (by rw [he]; exact h)
end
structure NameOk (k : Str) (kb : List UInt8) : Prop where
  sur : noSur k = true
  nul : (!(Builtin.Str.occurrences k (PySem.Str.ofString "\x00") 0 k.length 1).isEmpty) = false
  enc : u8 k = kb.toArray
  len : kb.length ≤ 65536
  klen : k.length ≤ 65536
theorem NameOk.asz {k : Str} {kb : List UInt8} (h : NameOk k kb) : kb.toArray.size ≤ 16777216 := by have := h.len; simp; omega
theorem len_strV {prog : Program} {w : World} {A : Around} {E : Value → Shared → Prop} {s : Shared} {x : Str} {t : Tok} {Q : Value → Shared → Prop} (hz : x.length ≤ 16777216) (h : ∀ t' tk', Q (.int x.length t') { s with toks := tk' }) : wpAny (model prog w) A (call (.builtin "len") [.str x t]) Q E s :=
  PySem.P.len_str (by omega) (h _ _)
end Mine
end
section
open PySem PySem.W PySem.Spec PySem.Calls PyProof.Rows PyProof.V
namespace Mine
open Builtin
theorem slot_bytes_join : Slot "bytes" "join" "bytes.join" :=
  .of (owner := "bytes") (n := "join") (by rw [typeLookup_type, builtinLookup_eq_fast]; kernel_rfl) (by decide +kernel) (by decide +kernel) (by decide +kernel)
    (by first | exact .inl (by decide +kernel) | exact .inr (by decide +kernel)) (by rw [isSubtype_type]; kernel_rfl)
theorem type_bytes_join : typeOf (.builtin "bytes.join") = pure (.type "method_descriptor") := by show builtinType _ = _; rw [builtinType_eq_fast]; kernel_rfl
theorem entry_bytes_join : entryFor table "bytes.join" = some Builtin.«bytes.join» := entryFor_of_tree (by kernel_rfl)
theorem args_bytes_join (a b : Value) : argsOk "bytes.join" ⟨[a, b], []⟩ := by unfold argsOk; kernel_rfl
def catB (parts : List (Array UInt8)) : Array UInt8 := (parts.flatMap (·.toList)).toArray
theorem joined_nil : ∀ (parts : List (Array UInt8)) (i : Nat) (acc : Array UInt8), (parts.zipIdx i).foldl (fun out (x : Array UInt8 × Nat) => (if x.2 > 0 then out ++ #[] else out) ++ x.1) acc = acc ++ catB parts
  | [], _, acc => by simp [catB]
  | p :: r, i, acc => by
    rw [List.zipIdx_cons, List.foldl_cons, joined_nil r]
    simp only [catB, List.flatMap_cons]
    have e : acc ++ (p ++ (List.flatMap (fun x : Array UInt8 => x.toList) r).toArray) = acc ++ (p.toList ++ List.flatMap (fun x : Array UInt8 => x.toList) r).toArray := by rw [← List.append_toArray]
    split <;> simpa using e
theorem joined_eq (parts : List (Array UInt8)) : Bytes.joined #[] parts = catB parts := by
  show (parts.zipIdx).foldl _ #[] = _
  have := joined_nil parts 0 #[]
  simpa using this
theorem buffer_full {id : String} {b : Array UInt8} {t : Tok} {f : Bool} : Bytes.buffer? id (.bytes b t) f = pure (some b) := by
  unfold Bytes.buffer?
  rw [KBy.special_eq KBy.look_buffer, KBy.own_buffer, KBy.own_release]
  cases f <;> kernel_rfl
theorem take_eq {id : String} {b : Array UInt8} {t : Tok} {k : Int} : Bytes.takeBuffer? id (.bytes b t) k = pure (some (b, none)) := by
  unfold Bytes.takeBuffer?
  rw [KBy.special_eq KBy.look_buffer, KBy.own_buffer]
  show (Bytes.buffer? id (.bytes b t) _ >>= fun r => _) = _
  rw [buffer_full]
  rfl
theorem takeQuiet_eq {id : String} {b : Array UInt8} {t : Tok} {k : Int} : Bytes.takeBufferQuiet? id (.bytes b t) k = pure (some (b, none)) := by
  unfold Bytes.takeBufferQuiet?
  rw [take_eq]
  rfl
theorem sum_cat (l : List (Array UInt8)) : ∀ a, Array.foldl (fun (x1 : Nat) (x2 : Array UInt8) => x1 + x2.size) a l.toArray = a + (catB l).size := by
  simp only [List.foldl_toArray]
  induction l with
  | nil => intro a; simp [catB]
  | cons p r ih =>
    intro a
    rw [List.foldl_cons, ih]
    simp [catB]
    omega
def bvals (xs : List (Array UInt8 × Tok)) : List Value := xs.map fun p => .bytes p.1 p.2
section
variable {M : Model} {A : Around} {E : Value → Shared → Prop} {s : Shared}
theorem letGo_bytes : ∀ (xs : List (Array UInt8 × Tok)) (keep : List Value) {Q : Unit → Shared → Prop}, Q () s → wpAny M A (Bytes.joinLetGo ((bvals xs).map fun x => (x, none)) keep) Q E s
  | [], _, _, h => wpAny_pure h
  | (b, t) :: r, keep, Q, h => by
    show wpAny M A (letGo [.bytes b t] _ >>= fun _ => Bytes.joinLetGo ((bvals r).map fun x => (x, none)) keep) Q E s
    exact wpAny_bind (wpAny_letGo (letGo_bytes r keep h))
theorem loop_join {β : Type} {f : Nat → β → Sem (ForInStep β)} {st : Nat → β} {n : Nat} (hf : ∀ j, j < n → ∀ Q : ForInStep β → Shared → Prop, Q (.yield (st (j + 1))) s → wpAny M A (f j (st j)) Q E s) {Q : β → Shared → Prop} (h : Q (st n) s) :
    ∀ k j, j + k = n → wpAny M A (forIn (List.range' j k 1) (st j) f) Q E s := by
  intro k
  induction k with
  | zero => intro j hj; have : j = n := by omega
            subst this; exact wpAny_pure h
  | succ k ih =>
    intro j hj
    rw [List.range'_succ]
    exact KPc.turn (hf j (by omega) _ (ih (j + 1) (by omega)))
theorem any_heap (xs : List (Array UInt8 × Tok)) : (((bvals xs).map fun x => (x, (none : Option Value))).any (·.1.onHeap)) = false := by
  rw [List.any_eq_false]
  intro p hp
  obtain ⟨x, hx, rfl⟩ := List.mem_map.mp hp
  obtain ⟨y, _, rfl⟩ := List.mem_map.mp hx
  exact Bool.false_ne_true
theorem seqItems_list {l : Addr} {xs : List Value} {Q : Option (Array Value) → Shared → Prop} (hl : s.heap.IsList l xs.toArray) (h : Q (some xs.toArray) s) : wpAny M A (seqItems? (.ref l)) Q E s := by
  obtain ⟨o, ho, hc, n, hd⟩ := hl
  show wpAny M A (load l >>= fun o => _) Q E s
  refine wpAny_bind (wpAny_load ho ?_)
  rw [hd]
  exact wpAny_pure h
theorem tree_join {prog : Program} {w : World} {sp : Tok} {l : Addr} {xs : List (Array UInt8 × Tok)} {P : Fin → Shared → Prop} (hl : s.heap.IsList l (bvals xs).toArray) (hz : (catB (xs.map (·.1))).size ≤ 16777216)
    (h : ∀ t' tk', P (.done (.ret (.bytes (catB (xs.map (·.1))) t'))) { s with toks := tk' }) :
    wpAny (model prog w) A («bytes.join» ⟨[.bytes #[] sp, .ref l], []⟩) P E s := by
  have hT : s.TypeIs (.ref l) "list" := hl.typeIs
  show wpAny _ _ (Bytes.joinItems (.ref l) >>= fun seq => _) _ _ s
  refine wpAny_bind ?_
  refine wpAny_bind (wpAny_typeOf hT ?_)
  refine wpAny_ite (KPc.ite_yes (by decide) ?_)
  refine wpAny_pure ?_
  refine wpAny_bind (seqItems_list hl ?_)
  show wpAny _ _ (if (Bytes.Kind.bytes == Bytes.Kind.bytes) = true then _ else _) _ _ _
  refine wpAny_ite (KPc.ite_yes (by decide) ?_)
  have hlen : (bvals xs).toArray.size = xs.length := by simp [bvals]
  have jp : ∀ (f : Nat → Array (Array UInt8) × List (Value × Option Value) → Sem (ForInStep (Array (Array UInt8) × List (Value × Option Value)))) (g : Array (Array UInt8) × List (Value × Option Value) → Sem PySem.Fin),
      (∀ j, j < xs.length → ∀ Q : ForInStep (Array (Array UInt8) × List (Value × Option Value)) → Shared → Prop, Q (.yield (((xs.take (j+1)).map (·.1)).toArray, (bvals (xs.take (j+1))).map fun x => (x, none))) s → wpAny (model prog w) A (f j (((xs.take j).map (·.1)).toArray, (bvals (xs.take j)).map fun x => (x, none))) Q E s) →
      wpAny (model prog w) A (g ((xs.map (·.1)).toArray, (bvals xs).map fun x => (x, none))) P E s →
      wpAny (model prog w) A (forIn [:(bvals xs).toArray.size] ((#[] : Array (Array UInt8)), ([] : List (Value × Option Value))) f >>= g) P E s := by
    intro f g hf hg
    rw [hlen, KPc.range_list]
    refine wpAny_bind (loop_join (st := fun j => (((xs.take j).map (·.1)).toArray, (bvals (xs.take j)).map fun x => (x, none))) hf ?_ xs.length 0 (by omega))
    rw [List.take_length]
    exact hg
  have key : ∀ (ys : List (Array UInt8 × Tok)) (j : Nat) (hj : j < ys.length), (bvals ys).toArray.getD j Value.none = .bytes (ys[j]'hj).1 (ys[j]'hj).2 := by
    intro ys j hj
    simp [bvals, Array.getD, hj]
  have e1 : ∀ (ys : List (Array UInt8 × Tok)) (j : Nat) (hj : j < ys.length), ys.take (j + 1) = ys.take j ++ [ys[j]'hj] := by
    intro ys j hj
    simp
  have e2 : ∀ (ys : List (Array UInt8 × Tok)) z, ((ys ++ [z]).map (fun x : Array UInt8 × Tok => x.1)).toArray = (ys.map (fun x : Array UInt8 × Tok => x.1)).toArray.push z.1 := by
    intro ys z
    simp
  have e3 : ∀ (ys : List (Array UInt8 × Tok)) z, (bvals (ys ++ [z])).map (fun x => (x, (none : Option Value))) = (bvals ys).map (fun x => (x, none)) ++ [(.bytes z.1 z.2, none)] := by
    intro ys z
    simp [bvals]
  rcases xs with _ | ⟨p, _ | ⟨q, r⟩⟩
  case cons.nil =>
    obtain ⟨b, u⟩ := p
    show wpAny _ _ (typeOf (.bytes b u) >>= fun ty => _) _ _ _
    refine wpAny_bind (wpAny_typeOf (typeIs_bytes s b u) ?_)
    refine wpAny_ite (KPc.ite_yes (by decide) ?_)
    refine wpAny_bind (wpAny_rule (wpAny_pure ?_))
    have := h u s.toks
    have e : catB (List.map (fun x => x.1) [(b, u)]) = b := by simp [catB]
    rw [e] at this
    exact this
  all_goals
   (refine jp _ _ ?_ ?_
    · intro j hj Q hQ
      show wpAny _ _ (seqItems? (.ref l) >>= fun r => _) _ _ _
      refine wpAny_bind (seqItems_list hl ?_)
      rw [e1 _ j hj] at hQ
      show wpAny _ _ (if (Bytes.Kind.bytes == Bytes.Kind.bytearray || (((bvals (List.take j _)).map fun x => (x, (none : Option Value))).any (·.1.onHeap))) = true then _ else _) _ _ _
      rw [any_heap]
      refine wpAny_ite (KPc.ite_no (by decide) ?_)
      simp only [key _ j hj]
      refine wpAny_bind (wpAny_holding ?_)
      rw [takeQuiet_eq]
      refine wpAny_pure ?_
      show wpAny _ _ (seqItems? (.ref l) >>= fun r => _) _ _ _
      refine wpAny_bind (seqItems_list hl ?_)
      refine wpAny_ite (KPc.ite_no (by simp) ?_)
      refine wpAny_pure ?_
      rw [e2, e3] at hQ
      exact hQ
    · show wpAny _ _ (Bytes.payload (.bytes #[] sp) >>= fun r => _) _ _ _
      refine wpAny_bind (wpAny_of_eq (a := #[]) rfl ?_)
      show wpAny _ _ (if Bytes.tooLong (Array.foldl (fun (x1 : Nat) (x2 : Array UInt8) => x1 + x2.size) (0 * _) _) = true then _ else _) _ _ _
      rw [sum_cat, Nat.zero_mul, Nat.zero_add, KBy.tooLong_not hz]
      refine wpAny_ite (KPc.ite_no Bool.false_ne_true ?_)
      show wpAny _ _ (mkBytes (Bytes.joined #[] _) >>= fun r => _) _ _ _
      rw [joined_eq]
      refine wpAny_bind (wpAny_mkBytes ?_ (by rw [sizeLine_eq]; simpa [catB] using hz))
      refine wpAny_bind (wpAny_holding (wpAny_point ?_))
      refine wpAny_bind (letGo_bytes _ _ ?_)
      exact wpAny_pure (h _ _))
end
section
variable {prog : Program} {w : World} {A : Around} {E : Value → Shared → Prop} {s : Shared}
theorem method_join {M : Model} {b : Array UInt8} {t : Tok} {pl : Sem Bool} {Q : Value × List Value → Shared → Prop} (h : Q (.builtin "bytes.join", [.bytes b t]) s) : wpAny M A (getMethod (.bytes b t) "join" pl) Q E s := by
  with_reducible exact KBd.method_of (.bytes b t) (typeIs_bytes _ _ _) slot_bytes_join type_bytes_join KBd.noRef h
theorem bytes_join {l : Addr} {sp : Tok} {xs : List (Array UInt8 × Tok)} {b : Array UInt8} {Q : Value → Shared → Prop} (hl : s.heap.IsList l (bvals xs).toArray) (hb : catB (xs.map (·.1)) = b) (hz : b.size ≤ 16777216) (h : ∀ t' tk', Q (.bytes b t') { s with toks := tk' }) :
    wpAny (model prog w) A (call (.builtin "bytes.join") [.bytes #[] sp, .ref l]) Q E s := by
  subst hb
  exact wpAny_call_entry slot_bytes_join (typeIs_bytes s #[] sp) entry_bytes_join (tree_join hl hz fun t' tk' => ⟨_, rfl, h t' tk'⟩) (args_bytes_join _ _)
theorem bytes_join1 {l : Addr} {sp t : Tok} {b : Array UInt8} {Q : Value → Shared → Prop} (hl : s.heap.IsList l #[.bytes b t]) (hz : b.size ≤ 16777216) (h : ∀ t' tk', Q (.bytes b t') { s with toks := tk' }) :
    wpAny (model prog w) A (call (.builtin "bytes.join") [.bytes #[] sp, .ref l]) Q E s :=
  bytes_join (xs := [(b, t)]) hl (by simp [catB]) hz h
end
theorem unr_end {h₀ : Heap} {L I : Addr} {o : Obj} {s₁ : Shared} {rest : (Str → Option Value) → List (Addr × Obj) → Prop} {h' : Heap} {tk : Nat} {m' : Str → Option Value} {news' : List (Addr × Obj)}
    (N : News h₀ L h' ((I, o) :: news')) (F : Fr h₀ L h' m') (off : ∀ p ∈ news', p.1 ≠ I) (r : rest m' news') : UnrEndW h₀ L s₁ [(I, o)] rest { s₁ with heap := h', toks := tk } :=
  ⟨h', tk, m', news', rfl, F, N, fun p hp q hq => by rw [List.mem_singleton.mp hq]; exact off p hp, r⟩
theorem forall_cons {α : Type} {p : α → Prop} {a : α} {l : List α} (h1 : p a) (h2 : ∀ x ∈ l, p x) : ∀ x ∈ a :: l, p x := List.forall_mem_cons.mpr ⟨h1, h2⟩
theorem leb4_small {v : Int} (h0 : 0 ≤ v) (h : v < 256) : leb 4 v = [v.toNat.toUInt8, 0, 0, 0] := by
  unfold leb
  simp only [List.range, List.range.loop, List.map_cons, List.map_nil, List.cons.injEq, and_true]
  have e0 : v / 256 ^ 0 % 256 = v := by rw [Int.pow_zero, Int.ediv_one]; omega
  have e1 : v / 256 ^ 1 % 256 = 0 := by rw [show (256 : Int) ^ 1 = 256 by decide]; omega
  have e2 : v / 256 ^ 2 % 256 = 0 := by rw [show (256 : Int) ^ 2 = 65536 by decide]; omega
  have e3 : v / 256 ^ 3 % 256 = 0 := by rw [show (256 : Int) ^ 3 = 16777216 by decide]; omega
  rw [e0, e1, e2, e3]
  exact ⟨rfl, rfl, rfl, rfl⟩
def at8 (d : Array UInt8) (i : Int) : Int := ((d.toList.getD i.toNat 0).toNat : Int)
theorem at8_range (d : Array UInt8) (i : Int) : 0 ≤ at8 d i ∧ at8 d i < 256 := by
  unfold at8
  have := (d.toList.getD i.toNat 0).toNat_lt
  omega
section
variable {prog : Program} {w : World} {A : Around} {E : Value → Shared → Prop} {s : Shared} {value slice : PySem.Expr} {t u : Tok} {Q : Value → Shared → Prop}
theorem item_at {b : Array UInt8} {i : Int} (h0 : 0 ≤ i) (h1 : i < (b.size : Int)) (hz : b.size ≤ 16777216) (h : ∀ t' tk', Q (.int (at8 b i) t') { s with toks := tk' })
    (hs : subscripted slice false (.bytes b t) (.int i u) = operate [.bytes b t, .int i u] (getItem (.bytes b t) (.int i u)) := by with_unfolding_all rfl)
    (ht : ∀ r, letTemporaryGo value (.bytes b t) r = pure () := by intro _; with_unfolding_all rfl) :
    wpAny (model prog w) A (subscriptTail value slice (.bytes b t) (.int i u)) Q E s := by
  have hl : b.toList.length = b.size := Array.length_toList
  refine tail_any (typeIs_bytes _ _ _) FB.slot_bytes_getitem.lookup (getItem_bytes (by omega) h0 (by omega) ?_) hs
  exact h _ _
end
structure Nul (d : Array UInt8) (P e : Int) : Prop where
  sz : d.size ≤ 1000000
  p0 : 0 ≤ P
  pe : P ≤ e
  ed : e < (d.size : Int)
  z : at8 d e = 0
  nz : ∀ i : Int, P ≤ i → i < e → at8 d i ≠ 0
theorem Nul.st {d : Array UInt8} {P e k : Int} {pre : List Int} (h : Nul d P e) (ha : at8 d k ≠ 0) (hk : k = P + (pre.length : Int)) (hi : P + (pre.length : Int) ≤ e) : P + ((pre ++ [k]).length : Int) ≤ e := by
  have : k ≠ e := fun x => ha (by rw [x]; exact h.z)
  simp only [List.length_append, List.length_cons, List.length_nil]
  omega
theorem Nul.eq {d : Array UInt8} {P e k : Int} {pre : List Int} (h : Nul d P e) (ha : at8 d k = 0) (hk : k = P + (pre.length : Int)) (hi : P + (pre.length : Int) ≤ e) : k = e := by
  rcases Int.lt_or_le k e with hl | hl
  · exact absurd ha (h.nz k (by omega) hl)
  · omega
theorem Nul.no {d : Array UInt8} {P e : Int} (h : Nul d P e) (hi : P + ((rangeKs P ((d.size : Int) - P).toNat).length : Int) ≤ e) : False := by
  rw [rangeKs_length] at hi
  have := h.ed
  have := h.pe
  omega
structure TextAt (d : Array UInt8) (P e : Int) (k : Str) : Prop where
  nul : Nul d P e
  dec : ∃ (c : UInt8) (cs : List UInt8) (n : Nat), KBy.picked d (some P) (some e) = (c :: cs).toArray ∧ ∀ id, Builtin._codecs.runDecoder id Builtin._codecs.utf8Decoder none true (c :: cs).toArray 0 [] = pure (k.cps, n)
  len : k.length ≤ 65536
section
variable {prog : Program} {w : World} {A : Around} {E : Value → Shared → Prop} {s : Shared} {K : Frag}
theorem in_KI {tp : Addr} {dd : Option Addr} {its : List Value} {n : Nat} {sl : Array (Option Value)} {ns : List Int} {x : Int} {u : Tok} {v : Bool} {Q : Value → Shared → Prop} (X : K.In s.heap) (hl : K.lookup tp = some ⟨.type "tuple", dd, .seq its.toArray n, sl⟩) (hi : IntsAre its ns) (he : ns.any (· == x) = v) (h : Q (.bool v) s) :
    wpAny (model prog w) A (compareOp .In (.int x u) (.ref tp)) Q E s :=
  in_tuple_ints ⟨_, kitTp_K X hl, rfl, _, rfl⟩ (by simpa using hi) (by rw [he]; exact h)
end
theorem lt_of {d : Addr} : ∀ {l : List (Addr × Obj)}, AllLt d l → ∀ p ∈ l, p.1 < d
  | [], _ => List.forall_mem_nil _
  | _ :: _, h => List.forall_mem_cons.mpr ⟨h.1, lt_of h.2⟩
theorem lt_of2 {a b : Addr} {l : List (Addr × Obj)} (h : AllLt a l) (h2 : a < b) : ∀ p ∈ l, p.1 < b := fun p hp => Nat.lt_trans (lt_of h p hp) h2
theorem picked_nat {l : List UInt8} {a b : Int} {x y : Nat} (ha : a = x) (hb : b = y) (hy : y ≤ l.length) : KBy.picked l.toArray (some a) (some b) = ((l.drop x).take (y - x)).toArray := by
  subst ha hb
  rw [KBc.picked_eq]
  simp only [Option.elim, clipAt_nat, List.size_toArray]
  rw [Nat.min_eq_left hy]
  rcases Nat.le_total x l.length with h | h
  · rw [Nat.min_eq_left h]
  · rw [Nat.min_eq_right h, List.drop_eq_nil_of_le (Nat.le_refl _), List.drop_eq_nil_of_le h]; simp
theorem sle4_small {k : Nat} (h : k < 128) : sle true [k.toUInt8, 0, 0, 0] = (k : Int) := by
  have e : (k.toUInt8).toNat = k := by
    show (UInt8.ofNat k).toNat = k
    rw [UInt8.toNat_ofNat']
    exact Nat.mod_eq_of_lt (by simp; omega)
  unfold sle
  simp [unle, e]
open PySem.SeqAt in
theorem ea_str_same {A : Around} {s : Shared} (a : Str) (t u : Tok) : EqAt A s (.str a t) (.str a u) true := by
  have := ea_str (A := A) (s := s) a a t u
  rwa [beq_self_eq_true] at this
open PySem.SeqAt in
theorem ea_int_same {A : Around} {s : Shared} (a : Int) (t u : Tok) : EqAt A s (.int a t) (.int a u) true := by
  have := ea_int (A := A) (s := s) a a t u
  rwa [beq_self_eq_true] at this
open PySem.SeqAt in
theorem ea_bytes_same {A : Around} {s : Shared} (a : Array UInt8) (t u : Tok) : EqAt A s (.bytes a t) (.bytes a u) true := by
  have := ea_bytes (A := A) (s := s) a a t u
  rwa [decide_eq_true rfl] at this
open PySem.SeqAt in
def AllSame (A : Around) (s : Shared) : List Value → List Value → Prop
  | [], [] => True
  | x :: xs, y :: ys => EqAt A s x y true ∧ AllSame A s xs ys
  | _, _ => False
theorem AllSame.all {A : Around} {s : Shared} : ∀ {xs ys : List Value}, AllSame A s xs ys → EqAll A s xs ys (List.replicate xs.length true)
  | [], [], _ => .nil
  | _ :: _, _ :: _, h => .cons h.1 h.2.all
  | [], _ :: _, h => (show False from h).elim
  | _ :: _, [], h => (show False from h).elim
theorem all_rep (n : Nat) : (List.replicate n true).all id = true := by simp
section
variable {prog : Program} {w : World} {A : Around} {E : Value → Shared → Prop} {s : Shared} {Q : Value → Shared → Prop} {l b : Addr} {xs ys : List Value}
theorem ne_sameL (hl : s.heap.IsList l xs.toArray) (hb : s.heap.IsList b ys.toArray) (hu : A.units < cLine) (h : AllSame A.in1 s xs ys) (hq : Q (.bool false) s) : wpAny (model prog w) A (compareOp .NotEq (.ref l) (.ref b)) Q E s :=
  ne_listsL hl hb hu h.all (by rw [all_rep]; exact hq)
theorem ne_sameT (hl : s.heap.IsTuple l xs.toArray) (hb : s.heap.IsTuple b ys.toArray) (hu : A.units < cLine) (h : AllSame A.in1 s xs ys) (hq : Q (.bool false) s) : wpAny (model prog w) A (compareOp .NotEq (.ref l) (.ref b)) Q E s :=
  ne_tupsL hl hb hu h.all (by rw [all_rep]; exact hq)
theorem eq_sameT (hl : s.heap.IsTuple l xs.toArray) (hb : s.heap.IsTuple b ys.toArray) (hu : A.units < cLine) (h : AllSame A.in1 s xs ys) (hq : Q (.bool true) s) : wpAny (model prog w) A (compareOp .Eq (.ref l) (.ref b)) Q E s :=
  eq_tupsL hl hb hu h.all (by rw [all_rep]; exact hq)
end
open PySem.SeqAt in
theorem ea_ints {A : Around} {s : Shared} {l z : Addr} {xs zs : List Value} {ms : List Int} (h1 : s.heap.IsList l xs.toArray) (h2 : s.heap.IsList z zs.toArray) (i1 : IntsAre xs ms) (i2 : IntsAre zs ms) (hu : A.units + 64 < cLine) : EqAt A s (.ref l) (.ref z) true := by
  by_cases h : l = z
  · subst h; exact EqAt.same _
  · exact EqAt.of_refs h fun prog w E Q hq => eq_intsK h1 i1 h2 i2 hu (by rw [decide_eq_true rfl]; exact hq)
end Mine
end
section
namespace Mine
theorem wdC3p0 : True := by
  k_with_none
  (k_with "!eval Call" => first | (k_here; (with_reducible show wpAny _ _ (eval (Expr.Call _ _ [] _) _) _ _ _); k_dflt (refine Call_ ?_)))
  (k_with "!exec Raise some none" => first | (k_here; (with_reducible show wpAny _ _ (exec (Stmt.Raise (some (Expr.Call (Expr.Name (PySem.Str.ofString "ValueError") _) _ _ _)) none _) _) _ _ _); k_dflt (refine Raise_new rfl ?_)) | (k_here; (with_reducible show wpAny _ _ (exec (Stmt.Raise (some (Expr.Call (Expr.Name (PySem.Str.ofString "TypeError") _) _ _ _)) none _) _) _ _ _); k_dflt (refine Raise_new rfl ?_)))
  (k_with "!leaving ref" => first | (k_here; (with_reducible rename KtsDicts _ _ => kdX); k_dflt (first | (refine' leave_raiseS ?zqk1 ?zqk0 ?zqk2 ?zqk3 ?_; (case zqk0 => first | assumption | exact Heap.MadeExc.of (by assumption)); (case zqk2 => assumption); (case zqk1 => assumption); (case zqk3 => k_asm); k_whole; intro h' t' S' R' U'; (try dsimp only at S' R' U' ⊢)) | (refine' leave_onS ?zqk1 ?zqk2 ?zqk3 ?zqk4 ?_; (case zqk3 => assumption); (case zqk2 => assumption); (case zqk1 => assumption); (case zqk4 => assumption); k_whole; intro h' S' R' U'; (try dsimp only at S' R' U' ⊢)) | (refine' leave_newS ?zqk1 ?zqk0 ?zqk2 ?zqk3 ?_; (case zqk0 => assumption); (case zqk2 => assumption); (case zqk1 => assumption); (case zqk3 => k_asm); k_whole; intro h' S' R' U'; (try dsimp only at S' R' U' ⊢)) | (refine' leave_onSN ?zqk1 ?zqk2 ?zqk3 ?zqk4 ?_; (case zqk3 => assumption); (case zqk2 => assumption); (case zqk1 => assumption); (case zqk4 => assumption); k_whole; intro h' S' R' U'; (try dsimp only at S' R' U' ⊢)))))
  (k_with "!eval Name" => first | (k_here; (first | (with_reducible show wpAny _ _ (eval (Expr.Name _ _) (envOf _ _ _ _ _)) _ _ _) | (with_reducible show wpAny _ _ (eval (Expr.Name _ _) (envOfC _ _ _ _ _)) _ _ _)); k_dflt (first | (refine' nameX_L ?zqF ?zqv ?_ ?zqa ?zqb; (case zqF => k_asm); (case zqv => rfl); (case zqa => rfl); (case zqb => kernel_rfl); k_whole) | (refine' nameX_K ?zqF ?zqX ?zqT ?zqe ?_ ?zqa ?zqb; (case zqT => k_asm); (case zqX => k_asm); (case zqF => k_asm); (case zqe => k_is); (case zqa => rfl); (case zqb => kernel_rfl); k_whole) | (refine' nameX_B ?zqF ?zqX ?zqT ?zqe ?zqv ?zqn ?_ ?zqa ?zqb; (case zqT => k_asm); (case zqX => k_asm); (case zqF => k_asm); (case zqe => k_is); (case zqv => boot_fast); (case zqn => decide); (case zqa => rfl); (case zqb => kernel_rfl); k_whole))))
  (k_with "k_mem" => (assumption))
  (k_with "k_room" => (ktr_room))
  (k_with "k_units" => (ktr_units))
  (k_with "ktr_rel" => (first | k_asm | (refine' cb_drop ?zqcbN ?zqcbS; (case zqcbN => k_asm); (case zqcbS => (repeat (first | (intro p hp; (repeat (first | exact hp | exact List.mem_append_left _ hp | apply List.mem_cons_of_mem)); done) | (refine' sub_cons ?_ ?_; focus k_mem)))))))
  (k_with "k_lt?" => skip)
  (k_with "k_all" => (first | (refine all_ne_of ?_; assumption) | exact fun p hp => Nat.ne_of_lt ((by assumption : ∀ p ∈ _, p.1 < _) p hp)))
  (k_with "!call type:bytes" => first | (k_here; (with_reducible show wpAny _ _ (call (Value.type "bytes") [Value.bytes _ _]) _ _ _); refine bytes_id ?_) | (k_here; (with_reducible show wpAny _ _ (call (Value.type "bytes") [Value.ref _]) _ _ _); k_dflt (refine' bytes_L ?zqbF ?zqbN ?zqbh ?zqbl ?zqbi ?zqbr ?zqbz ?_; (case zqbF => k_asm); (case zqbN => k_asm); (case zqbh => rfl); (case zqbl => is_list); (case zqbi => assumption); (case zqbr => (first | (subst_vars; rw [List.map_id']; exact in_255 (by assumption)) | exact in_map256 | (subst_vars; exact in_map256) | exact in_255 (by assumption) | assumption)); (case zqbz => (simp_all; omega))); intro _ _ _ F' N'))
  (k_with "!binaryOp Add bytes bytes" => first | (k_here; (with_reducible show wpAny _ _ (binaryOp Operator.Add (Value.bytes _ _) (Value.bytes _ _)) _ _ _); (refine KBy.add_bytes (by (try simp only [Array.size_append, List.size_toArray, byteArr_size, octs_size, leb_length, List.length_append, List.length_cons, List.length_nil, List.length_map]); omega) ?_); intro _ _) | (k_here; (with_reducible show wpAny _ _ (binaryOp Operator.Add (Value.bytes _ _) (Value.bytes _ _)) _ _ _); (refine KBy.add_bytes (by (try simp only [Array.size_append, List.size_toArray, byteArr_size, octs_size, List.length_cons, List.length_nil, List.length_map]); omega) ?_); intro _ _))
  (k_with "cell_enter" => (refine' code_def ?zqk1 ?zqk2 ?zqk3 ?zqk4 ?zqk5 ?zqkA ?zqkF ?zqkK ?zqk6 ?zqk7 ?zqk8 ?zqk9 ?zqkB ?_ ?zqc2 ?zqc3 ?zqc4 ?zqc5; (case zqkA => exact rfl); (case zqkF => exact rfl); (case zqkK => assumption); (case zqk1 => k_asm); (case zqk2 => k_asm); (case zqk3 => k_asm); (case zqk4 => k_asm); (case zqk5 => k_asm); (case zqk6 => k_is); (case zqk7 => k_is); (case zqk8 => ktr_room); (case zqk9 => first | exact BindsTo.of_eq rfl | exact binds_K (by k_in) rfl (by k_is) rfl rfl rfl); (case zqc5 => decide); (case zqkB => exact locs rfl); (case zqc2 => exact rfl); (case zqc3 => exact rfl); (case zqc4 => exact rfl); k_whole; intro g' L' h' FG' F' N' B' X' T'; (try dsimp only); (try k_lift B'); (try k_fold)))
  (k_with "!compareOp NotIn" => first | (k_here; (with_reducible show wpAny _ _ (compareOp CmpOp.NotIn (Value.int _ _) (Value.ref _)) _ _ _); k_dflt (refine' notin_int_bytes ?zqt ?zqh ?_; (case zqt => exact isTup_of (by k_asm) (by k_mem)); (case zqh => rfl))) | (k_here; (with_reducible show wpAny _ _ (compareOp CmpOp.NotIn (Value.bytes _ _) (Value.ref _)) _ _ _); k_dflt (refine' notin_bytes ?zqt ?zqh ?zqe ?_; (case zqt => exact isTup_of (by k_asm) (by k_mem)); (case zqh => rfl); (case zqe => first | exact (rfl : _ = false) | exact (rfl : _ = true)))))
  (k_with "!binaryOp BitAnd int int" => (k_here; (with_reducible refine and_lowT (by omega) ?_); intro _ _ _ vE))
  (k_with "!subscriptTail" => first | (k_here; (with_reducible show wpAny _ _ (subscriptTail _ (Expr.Slice _ _ none _) (Value.bytes _ _) (Value.ref _)) _ _ _); (with_reducible rename Fr _ _ _ _ => F'); (with_reducible rename News _ _ _ _ => N'); (refine slice_BV (s := ⟨_, _, _, _, _⟩) F' N' (by constructor) (by constructor) (by (try simp only [Array.size_append, List.size_toArray, octs_size, List.length_cons, List.length_nil, List.length_append]); omega) (by first | assumption | exact rfl) ?_); intro _ _ _ _ _) | (k_here; (with_reducible show wpAny _ _ (subscriptTail _ _ (Value.bytes _ _) (Value.int _ _)) _ _ _); (refine item_at (by omega) (by omega) (by omega) ?_); intro _ _) | (k_here; (with_reducible show wpAny _ _ (subscriptTail _ _ (Value.bytes (List.toArray _) _) (Value.int _ _)) _ _ _); (refine item_octet (by decide) rfl (by (try simp only [List.length_cons, List.length_nil, List.length_append]); omega) ?_); intro _ _) | (k_here; (with_reducible show wpAny _ _ (subscriptTail _ (Expr.Slice _ _ none _) (Value.bytes _ _) (Value.ref _)) _ _ _); (with_reducible rename Fr _ _ _ _ => F'); (with_reducible rename News _ _ _ _ => N'); (refine slice_BV (s := ⟨_, _, _, _, _⟩) F' N' (by constructor) (by constructor) (by (try simp only [Array.size_append, List.size_toArray, octs_size, List.length_cons, List.length_nil, List.length_append]); omega) (by first | exact picked_drop2 _ _ _ | exact picked_01 _ _ _) ?_); intro _ _ _ _ _) | (k_here; (with_reducible show wpAny _ _ (subscriptTail _ _ (Value.bytes _ _) (Value.int (-1) _)) _ _ _); (refine last_octet (by (try simp only [octs_size]); omega) (by (try simp only [octs_size]); omega) ?_); intro _ _ _ lO _ _))
  (k_with "!ite" => first | (k_closed; k_dflt (first | refine PySem.W.ite_pos (by decide) ?_ | refine PySem.W.ite_neg (by decide) ?_)) | (first | refine PySem.W.ite_neg (by (try simp only [bne_iff_ne, ne_eq, beq_iff_eq, decide_eq_true_eq, Bool.not_eq_true', bne_eq_false_iff_eq, beq_eq_false_iff_ne]); omega) ?_ | refine PySem.W.ite_pos (by (try simp only [bne_iff_ne, ne_eq, beq_iff_eq, decide_eq_true_eq]); omega) ?_))
  (k_with "!execs cons" => (k_here; dsimp only))
  (k_with "!execs nil" => (k_here; dsimp only))
  (k_with "!truthy bytes" => (k_here; (refine truthy_bytesV (v := true) (by (try simp only [Array.size_append, List.size_toArray, octs_size, List.length_cons, List.length_nil]); omega) rfl ?_)))
  (k_with "!call builtin:len" => first | (k_here; (with_reducible show wpAny _ _ (call (Value.builtin "len") [Value.bytes _ _]) _ _ _); (refine len_bytesV (by (try simp only [Array.size_append, List.size_toArray, octs_size, List.length_cons, List.length_nil, List.length_append]); omega) rfl ?_); intro _ _) | (k_here; (with_reducible show wpAny _ _ (call (Value.builtin "len") [Value.bytes (List.toArray _) _]) _ _ _); (refine len_bytesV (by first | assumption | omega) rfl ?_); intro _ _) | (k_here; (with_reducible show wpAny _ _ (call (Value.builtin "len") [Value.bytes _ _]) _ _ _); (refine len_bytesV (by (try simp only [Array.size_append, List.size_toArray, octs_size, leb_length, List.length_cons, List.length_nil, List.length_append]); omega) (by simp only [Array.size_append, List.size_toArray, octs_size, leb_length, List.length_cons, List.length_nil, List.length_append]; rfl) ?_); intro _ _) | (k_here; (with_reducible show wpAny _ _ (call (Value.builtin "len") [Value.bytes _ _]) _ _ _); (refine len_bytesV (by (try simp only [Array.size_append, List.size_toArray, octs_size, List.length_cons, List.length_nil, List.length_append]); omega) (by simp only [Array.size_append, List.size_toArray, octs_size, List.length_cons, List.length_nil, List.length_append]; rfl) ?_); intro _ _))
  (k_with "!exec For Name Subscript cons nil" => (k_here; (rename Fr _ _ _ _ => lF'); (with_unfolding_all refine' For_invVF lF' ?zqk1 ?zqk2 ?_; (case zqk1 => exact rfl); (case zqk2 => exact rfl); k_whole)))
  (k_with "!callWith builtin:int.to_bytes" => (k_here; refine callWith_kwM ?_))
  (k_with "!callWith ref" => (k_here; (with_reducible show wpAny _ _ (callWith _ (Value.ref _) _ (backTo _ (starEach (_ :: _) _)) (backToKw _ (keywordEach (_ :: _) _))) _ _ _); kfb_any; k_dflt (refine callWith_fbKw ?_)))
  (k_with "!call builtin:int.to_bytes" => (k_here; (try dsimp only [backToKw, keywordEach, List.filterMap, List.map, List.zip, List.zipWith]); k_dflt (first | ((with_reducible show wpAny _ _ (call _ _ (_ :: _)) _ _ _); first | (refine' to_bytes_s (k := 3) ?zqz ?zqa ?zqb ?_; (case zqz => decide); (case zqa => omega); (case zqb => omega); intro _ _) | (refine' to_bytes_s (k := 7) ?zqz ?zqa ?zqb ?_; (case zqz => decide); (case zqa => omega); (case zqb => omega); intro _ _)) | (refine' to_bytes_u (k := 8) ?zqz ?zqa ?zqb ?_; (case zqz => decide); (case zqa => omega); (case zqb => omega); intro _ _) | (refine' to_bytes_u (k := 16) ?zqz ?zqa ?zqb ?_; (case zqz => decide); (case zqa => omega); (case zqb => omega); intro _ _) | (refine' to_bytes_u (k := 4) ?zqz ?zqa ?zqb ?_; (case zqz => decide); (case zqa => omega); (case zqb => omega); intro _ _))))
  (k_with "!call ref" => first | (k_here; (try dsimp only [backToKw, keywordEach, List.filterMap, List.map, List.zip, List.zipWith]); (with_reducible show wpAny _ _ (call (Value.ref _) [Value.bytes _ _, Value.str _ _] _) _ _ _); kfb_any; k_dflt (first | (refine' from_bytes (sg := none) ?zqo ?zql ?zqk ?_; (case zqo => first | exact KFB.at_of (by k_asm) (by k_mem)); (case zql => first | omega | (refine Nat.le_trans (KBc.size_picked_le _ _ _) ?_; omega)); (case zqk => rfl); intro _ _) | (refine' from_bytes (sg := some _) ?zqo ?zql ?zqk ?_; (case zqo => first | exact KFB.at_of (by k_asm) (by k_mem)); (case zql => first | omega | (refine Nat.le_trans (KBc.size_picked_le _ _ _) ?_; omega)); (case zqk => rfl); intro _ _))) | (k_here; (with_reducible show wpAny _ _ (call (Value.ref _) [Value.bytes _ _, Value.str _ _] _) _ _ _); kfb_any; k_dflt (first | (refine' from_bytes (sg := none) ?zqo ?zql ?zqk ?_; (case zqo => first | exact KFB.at_of (by k_asm) (by k_mem)); (case zql => omega); (case zqk => rfl); intro _ _) | (refine' from_bytes (sg := some _) ?zqo ?zql ?zqk ?_; (case zqo => first | exact KFB.at_of (by k_asm) (by k_mem)); (case zql => omega); (case zqk => rfl); intro _ _))))
  (k_with "!call builtin:bytes.decode" => (k_here; (with_reducible show wpAny _ _ (call (Value.builtin "bytes.decode") [Value.bytes _ _, Value.str _ _]) _ _ _); (refine bytes_decode2 rfl (by assumption) (by omega) ?_); intro _ _))
  trivial
section
variable {w : World} {dp un : Nat} {gd : Option (List Code)} {cn : Str} {cs : Scope} {a : Addr} {ccd : Value} {cl : List (Str × Addr)} {outer : List Env} {A₀ : Around} {base h₀ : Heap} {L : Addr} {m : Str → Option Value} {s : Shared} {R : Result → Shared → Prop}
  {loose : List Str} {mean : ExcName → Option Value} {mg mb : Str → Option Value} {news : List (Addr × Obj)} {d : Array UInt8} {P e : Int}
  (B : Below A₀ base outer h₀) (F : Fr h₀ L s.heap m) (X : (K0 w.params).In h₀) (N : News h₀ L s.heap news) (T : Top q1 loose mean mg mb h₀) (hk : cs.kind = .function)
  (h1 : dp + 6 < recursionLimit) (h2 : un + 60 < cLine)
include B F X N T hk h1 h2
theorem c_inul {t u : Tok} (hN : Nul d P e)
  (ret : ∀ (t' : Tok) (h' : Heap) (tk' : Nat), Fr h₀ L h' m → News h₀ L h' news → R (.ok (.ret (Value.int e t'))) { s with heap := h', toks := tk' }) :
  codeAny (model P1 w) (ktrTop dp un gd cn cs L a ccd cl outer) (.call (.ref 1148) ⟨[.bytes d t, .int P u], []⟩) R s := by
  k_with "pyIter ref" => k_search (fun pre => P + (pre.length : Int) ≤ e)
  k_with "state" => first | exact Nul.st (by assumption) (by assumption) (by assumption) (by assumption) | omega | (simp only [List.length_nil]; omega) | (simp; omega)
  have hs := hN.sz
  have hP : 0 ≤ P ∧ P ≤ e ∧ e < (d.size : Int) := ⟨hN.p0, hN.pe, hN.ed⟩
  have D0 : KtsDicts [] h₀ := ktsDicts_nil
  k_dflt cell_enter
  conv in (bdy _) => whnf
  k_steps
  · have hk9 := hN.eq (by assumption) (by assumption) (by assumption)
    subst hk9
    refine ret _ _ _ ?_ ?_
    · k_asm
    · ktr_rel
  · exact (hN.no (by assumption)).elim
end
theorem wdC3p1 : True := by
  (k_with "!call ref" => first | (k_here; (try dsimp only [List.cons_append, List.nil_append]); (with_reducible show wpAny _ _ (call (Value.ref 1148) [Value.bytes _ _, Value.int _ _] _) _ _ _); k_dflt ((refine wpAny_call ?_); (refine' c_inul ?zqcB ?zqcF ?zqcX ?zqcN ?zqcT ?zqck ?zqcd ?zqcu ?zqhN ?_); (case zqcN => k_asm); (case zqcB => k_asm); (case zqcF => k_asm); (case zqcX => k_asm); (case zqcT => k_asm); (case zqck => first | exact rfl | assumption); (case zqcd => ktr_room); (case zqcu => ktr_units); (case zqhN => assumption); intro t' h' tk' F' N'; (try dsimp only); (try k_sweep); (try k_fold))) | (k_here; (try dsimp only [backToKw, keywordEach, List.filterMap, List.map, List.zip, List.zipWith]); (with_reducible show wpAny _ _ (call (Value.ref _) [Value.bytes _ _, Value.str _ _] _) _ _ _); kfb_any; k_dflt (first | (refine' from_bytes (sg := none) ?zqo ?zql ?zqk ?_; (case zqo => first | exact KFB.at_of (by k_asm) (by k_mem)); (case zql => first | omega | (refine Nat.le_trans (KBc.size_picked_le _ _ _) ?_; omega)); (case zqk => rfl); intro _ _) | (refine' from_bytes (sg := some _) ?zqo ?zql ?zqk ?_; (case zqo => first | exact KFB.at_of (by k_asm) (by k_mem)); (case zql => first | omega | (refine Nat.le_trans (KBc.size_picked_le _ _ _) ?_; omega)); (case zqk => rfl); intro _ _))) | (k_here; (with_reducible show wpAny _ _ (call (Value.ref _) [Value.bytes _ _, Value.str _ _] _) _ _ _); kfb_any; k_dflt (first | (refine' from_bytes (sg := none) ?zqo ?zql ?zqk ?_; (case zqo => first | exact KFB.at_of (by k_asm) (by k_mem)); (case zql => omega); (case zqk => rfl); intro _ _) | (refine' from_bytes (sg := some _) ?zqo ?zql ?zqk ?_; (case zqo => first | exact KFB.at_of (by k_asm) (by k_mem)); (case zql => omega); (case zqk => rfl); intro _ _))))
  trivial
section
variable {w : World} {dp un : Nat} {gd : Option (List Code)} {cn : Str} {cs : Scope} {a : Addr} {ccd : Value} {cl : List (Str × Addr)} {outer : List Env} {A₀ : Around} {base h₀ : Heap} {L : Addr} {m : Str → Option Value} {s : Shared} {R : Result → Shared → Prop}
  {loose : List Str} {mean : ExcName → Option Value} {mg mb : Str → Option Value} {news : List (Addr × Obj)} {d : Array UInt8} {P v : Int}
  (B : Below A₀ base outer h₀) (F : Fr h₀ L s.heap m) (X : (K0 w.params).In h₀) (N : News h₀ L s.heap news) (T : Top q1 loose mean mg mb h₀) (hk : cs.kind = .function)
  (h1 : dp + 8 < recursionLimit) (h2 : un + 80 < cLine)
include B F X N T hk h1 h2
theorem c_unpI {t u : Tok} (hs : d.size ≤ 1000000) (hP : 0 ≤ P ∧ P + 4 ≤ (d.size : Int)) (hv : sle true (KBy.picked d (some P) (some (P + 4))).toList = v)
  (ret : ∀ (T : Addr) (tA : Tok) (h' : Heap) (tk' : Nat), Fr h₀ L h' m → News h₀ L h' ((T, { cls := .type "tuple", data := .seq #[.int v tA] }) :: news) → R (.ok (.ret (.ref T))) { s with heap := h', toks := tk' }) :
  codeAny (model P1 w) (ktrTop dp un gd cn cs L a ccd cl outer) (.call (.ref 1106) ⟨[.bytes d t, .int P u], []⟩) R s := by
  subst hv
  have D0 : KtsDicts [] h₀ := ktsDicts_nil
  k_dflt cell_enter
  conv in (bdy _) => whnf
  k_steps
  all_goals (refine' ret _ _ _ _ ?kf ?kn; (case kf => k_asm); (case kn => ktr_rel))
end
section
variable {w : World} {dp un : Nat} {gd : Option (List Code)} {cn : Str} {cs : Scope} {a : Addr} {ccd : Value} {cl : List (Str × Addr)} {outer : List Env} {A₀ : Around} {base h₀ : Heap} {L : Addr} {m : Str → Option Value} {s : Shared} {R : Result → Shared → Prop}
  {loose : List Str} {mean : ExcName → Option Value} {mg mb : Str → Option Value} {news : List (Addr × Obj)} {d : Array UInt8} {P e : Int} {k : Str}
  (B : Below A₀ base outer h₀) (F : Fr h₀ L s.heap m) (X : (K0 w.params).In h₀) (N : News h₀ L s.heap news) (T : Top q1 loose mean mg mb h₀) (hk : cs.kind = .function)
  (h1 : dp + 10 < recursionLimit) (h2 : un + 100 < cLine)
include B F X N T hk h1 h2
theorem c_cstr {t u u2 : Tok} (hT : TextAt d P e k)
  (ret : ∀ (T : Addr) (tA tB : Tok) (h' : Heap) (tk' : Nat), Fr h₀ L h' m → News h₀ L h' ((T, { cls := .type "tuple", data := .seq #[.str k tA, .int (e + 1) tB] }) :: news) → R (.ok (.ret (.ref T))) { s with heap := h', toks := tk' }) :
  codeAny (model P1 w) (ktrTop dp un gd cn cs L a ccd cl outer) (.call (.ref 1176) ⟨[.bytes d t, .bytes d u2, .int P u, .ref 333], []⟩) R s := by
  obtain ⟨hN, ⟨c, cs, n, hp, hdec⟩, hlen⟩ := hT
  have hN2 := hN
  obtain ⟨hs, hP, hPe, hed, _, _⟩ := hN2
  have hcs : (c :: cs).toArray.size ≤ 16777216 := by rw [← hp]; exact Nat.le_trans (KBc.size_picked_le _ _ _) (by omega)
  have D0 : KtsDicts [] h₀ := ktsDicts_nil
  k_dflt cell_enter
  conv in (bdy _) => whnf
  k_steps
  all_goals (refine' ret _ _ _ _ _ ?kf ?kn; (case kf => k_asm); (case kn => ktr_rel))
end
end Mine
end
section
namespace Mine
theorem wdC3q0 : True := by
  k_with_none
  (k_with "!eval Call" => first | (k_here; (with_reducible show wpAny _ _ (eval (Expr.Call _ _ [] _) _) _ _ _); k_dflt (refine Call_ ?_)))
  (k_with "!exec Raise some none" => first | (k_here; (with_reducible show wpAny _ _ (exec (Stmt.Raise (some (Expr.Call (Expr.Name (PySem.Str.ofString "ValueError") _) _ _ _)) none _) _) _ _ _); k_dflt (refine Raise_new rfl ?_)) | (k_here; (with_reducible show wpAny _ _ (exec (Stmt.Raise (some (Expr.Call (Expr.Name (PySem.Str.ofString "TypeError") _) _ _ _)) none _) _) _ _ _); k_dflt (refine Raise_new rfl ?_)))
  (k_with "!leaving ref" => first | (k_here; (with_reducible rename KtsDicts _ _ => kdX); k_dflt (first | (refine' leave_raiseS ?zqk1 ?zqk0 ?zqk2 ?zqk3 ?_; (case zqk0 => first | assumption | exact Heap.MadeExc.of (by assumption)); (case zqk2 => assumption); (case zqk1 => assumption); (case zqk3 => k_asm); k_whole; intro h' t' S' R' U'; (try dsimp only at S' R' U' ⊢)) | (refine' leave_onS ?zqk1 ?zqk2 ?zqk3 ?zqk4 ?_; (case zqk3 => assumption); (case zqk2 => assumption); (case zqk1 => assumption); (case zqk4 => assumption); k_whole; intro h' S' R' U'; (try dsimp only at S' R' U' ⊢)) | (refine' leave_newS ?zqk1 ?zqk0 ?zqk2 ?zqk3 ?_; (case zqk0 => assumption); (case zqk2 => assumption); (case zqk1 => assumption); (case zqk3 => k_asm); k_whole; intro h' S' R' U'; (try dsimp only at S' R' U' ⊢)) | (refine' leave_onSN ?zqk1 ?zqk2 ?zqk3 ?zqk4 ?_; (case zqk3 => assumption); (case zqk2 => assumption); (case zqk1 => assumption); (case zqk4 => assumption); k_whole; intro h' S' R' U'; (try dsimp only at S' R' U' ⊢)))))
  (k_with "!eval Name" => first | (k_here; (first | (with_reducible show wpAny _ _ (eval (Expr.Name _ _) (envOf _ _ _ _ _)) _ _ _) | (with_reducible show wpAny _ _ (eval (Expr.Name _ _) (envOfC _ _ _ _ _)) _ _ _)); k_dflt (first | (refine' nameX_L ?zqF ?zqv ?_ ?zqa ?zqb; (case zqF => k_asm); (case zqv => rfl); (case zqa => rfl); (case zqb => kernel_rfl); k_whole) | (refine' nameX_K ?zqF ?zqX ?zqT ?zqe ?_ ?zqa ?zqb; (case zqT => k_asm); (case zqX => k_asm); (case zqF => k_asm); (case zqe => k_is); (case zqa => rfl); (case zqb => kernel_rfl); k_whole) | (refine' nameX_B ?zqF ?zqX ?zqT ?zqe ?zqv ?zqn ?_ ?zqa ?zqb; (case zqT => k_asm); (case zqX => k_asm); (case zqF => k_asm); (case zqe => k_is); (case zqv => boot_fast); (case zqn => decide); (case zqa => rfl); (case zqb => kernel_rfl); k_whole))))
  (k_with "k_mem" => (assumption))
  (k_with "k_room" => (ktr_room))
  (k_with "k_units" => (ktr_units))
  (k_with "ktr_rel" => (first | k_asm | (refine' cb_drop ?zqcbN ?zqcbS; (case zqcbN => k_asm); (case zqcbS => (repeat (first | (intro p hp; (repeat (first | exact hp | exact List.mem_append_left _ hp | apply List.mem_cons_of_mem)); done) | (refine' sub_cons ?_ ?_; focus k_mem)))))))
  (k_with "k_lt?" => skip)
  (k_with "k_all" => (first | (refine all_ne_of ?_; assumption) | exact fun p hp => Nat.ne_of_lt ((by assumption : ∀ p ∈ _, p.1 < _) p hp)))
  (k_with "!call type:bytes" => first | (k_here; (with_reducible show wpAny _ _ (call (Value.type "bytes") [Value.bytes _ _]) _ _ _); refine bytes_id ?_) | (k_here; (with_reducible show wpAny _ _ (call (Value.type "bytes") [Value.ref _]) _ _ _); k_dflt (refine' bytes_L ?zqbF ?zqbN ?zqbh ?zqbl ?zqbi ?zqbr ?zqbz ?_; (case zqbF => k_asm); (case zqbN => k_asm); (case zqbh => rfl); (case zqbl => is_list); (case zqbi => assumption); (case zqbr => (first | (subst_vars; rw [List.map_id']; exact in_255 (by assumption)) | exact in_map256 | (subst_vars; exact in_map256) | exact in_255 (by assumption) | assumption)); (case zqbz => (simp_all; omega))); intro _ _ _ F' N'))
  (k_with "!binaryOp Add bytes bytes" => first | (k_here; (with_reducible show wpAny _ _ (binaryOp Operator.Add (Value.bytes _ _) (Value.bytes _ _)) _ _ _); (refine KBy.add_bytes (by (try simp only [Array.size_append, List.size_toArray, byteArr_size, octs_size, leb_length, List.length_append, List.length_cons, List.length_nil, List.length_map]); omega) ?_); intro _ _) | (k_here; (with_reducible show wpAny _ _ (binaryOp Operator.Add (Value.bytes _ _) (Value.bytes _ _)) _ _ _); (refine KBy.add_bytes (by (try simp only [Array.size_append, List.size_toArray, byteArr_size, octs_size, List.length_cons, List.length_nil, List.length_map]); omega) ?_); intro _ _))
  (k_with "cell_enter" => (refine' code_def ?zqk1 ?zqk2 ?zqk3 ?zqk4 ?zqk5 ?zqkA ?zqkF ?zqkK ?zqk6 ?zqk7 ?zqk8 ?zqk9 ?zqkB ?_ ?zqc2 ?zqc3 ?zqc4 ?zqc5; (case zqkA => exact rfl); (case zqkF => exact rfl); (case zqkK => assumption); (case zqk1 => k_asm); (case zqk2 => k_asm); (case zqk3 => k_asm); (case zqk4 => k_asm); (case zqk5 => k_asm); (case zqk6 => k_is); (case zqk7 => k_is); (case zqk8 => ktr_room); (case zqk9 => first | exact BindsTo.of_eq rfl | exact binds_K (by k_in) rfl (by k_is) rfl rfl rfl); (case zqc5 => decide); (case zqkB => exact locs rfl); (case zqc2 => exact rfl); (case zqc3 => exact rfl); (case zqc4 => exact rfl); k_whole; intro g' L' h' FG' F' N' B' X' T'; (try dsimp only); (try k_lift B'); (try k_fold)))
  (k_with "!compareOp NotIn" => first | (k_here; (with_reducible show wpAny _ _ (compareOp CmpOp.NotIn (Value.int _ _) (Value.ref _)) _ _ _); k_dflt (refine' notin_int_bytes ?zqt ?zqh ?_; (case zqt => exact isTup_of (by k_asm) (by k_mem)); (case zqh => rfl))) | (k_here; (with_reducible show wpAny _ _ (compareOp CmpOp.NotIn (Value.bytes _ _) (Value.ref _)) _ _ _); k_dflt (refine' notin_bytes ?zqt ?zqh ?zqe ?_; (case zqt => exact isTup_of (by k_asm) (by k_mem)); (case zqh => rfl); (case zqe => first | exact (rfl : _ = false) | exact (rfl : _ = true)))))
  (k_with "!binaryOp BitAnd int int" => (k_here; (with_reducible refine and_lowT (by omega) ?_); intro _ _ _ vE))
  (k_with "!subscriptTail" => first | (k_here; (with_reducible show wpAny _ _ (subscriptTail _ (Expr.Slice _ _ none _) (Value.bytes _ _) (Value.ref _)) _ _ _); (with_reducible rename Fr _ _ _ _ => F'); (with_reducible rename News _ _ _ _ => N'); (refine slice_BV (s := ⟨_, _, _, _, _⟩) F' N' (by constructor) (by constructor) (by (try simp only [Array.size_append, List.size_toArray, octs_size, List.length_cons, List.length_nil, List.length_append]); omega) (by first | assumption | exact rfl) ?_); intro _ _ _ _ _) | (k_here; (with_reducible show wpAny _ _ (subscriptTail _ _ (Value.bytes _ _) (Value.int _ _)) _ _ _); (refine item_at (by omega) (by omega) (by omega) ?_); intro _ _) | (k_here; (with_reducible show wpAny _ _ (subscriptTail _ _ (Value.bytes (List.toArray _) _) (Value.int _ _)) _ _ _); (refine item_octet (by decide) rfl (by (try simp only [List.length_cons, List.length_nil, List.length_append]); omega) ?_); intro _ _) | (k_here; (with_reducible show wpAny _ _ (subscriptTail _ (Expr.Slice _ _ none _) (Value.bytes _ _) (Value.ref _)) _ _ _); (with_reducible rename Fr _ _ _ _ => F'); (with_reducible rename News _ _ _ _ => N'); (refine slice_BV (s := ⟨_, _, _, _, _⟩) F' N' (by constructor) (by constructor) (by (try simp only [Array.size_append, List.size_toArray, octs_size, List.length_cons, List.length_nil, List.length_append]); omega) (by first | exact picked_drop2 _ _ _ | exact picked_01 _ _ _) ?_); intro _ _ _ _ _) | (k_here; (with_reducible show wpAny _ _ (subscriptTail _ _ (Value.bytes _ _) (Value.int (-1) _)) _ _ _); (refine last_octet (by (try simp only [octs_size]); omega) (by (try simp only [octs_size]); omega) ?_); intro _ _ _ lO _ _))
  (k_with "!ite" => first | (k_closed; k_dflt (first | refine PySem.W.ite_pos (by decide) ?_ | refine PySem.W.ite_neg (by decide) ?_)) | (first | refine PySem.W.ite_neg (by (try simp only [bne_iff_ne, ne_eq, beq_iff_eq, decide_eq_true_eq, Bool.not_eq_true', bne_eq_false_iff_eq, beq_eq_false_iff_ne]); omega) ?_ | refine PySem.W.ite_pos (by (try simp only [bne_iff_ne, ne_eq, beq_iff_eq, decide_eq_true_eq]); omega) ?_))
  (k_with "!execs cons" => (k_here; dsimp only))
  (k_with "!execs nil" => (k_here; dsimp only))
  (k_with "!truthy bytes" => (k_here; (refine truthy_bytesV (v := true) (by (try simp only [Array.size_append, List.size_toArray, octs_size, List.length_cons, List.length_nil]); omega) rfl ?_)))
  (k_with "!call builtin:len" => first | (k_here; (with_reducible show wpAny _ _ (call (Value.builtin "len") [Value.bytes _ _]) _ _ _); (refine len_bytesV (by (try simp only [Array.size_append, List.size_toArray, octs_size, List.length_cons, List.length_nil, List.length_append]); omega) rfl ?_); intro _ _) | (k_here; (with_reducible show wpAny _ _ (call (Value.builtin "len") [Value.bytes (List.toArray _) _]) _ _ _); (refine len_bytesV (by first | assumption | omega) rfl ?_); intro _ _) | (k_here; (with_reducible show wpAny _ _ (call (Value.builtin "len") [Value.bytes _ _]) _ _ _); (refine len_bytesV (by (try simp only [Array.size_append, List.size_toArray, octs_size, leb_length, List.length_cons, List.length_nil, List.length_append]); omega) (by simp only [Array.size_append, List.size_toArray, octs_size, leb_length, List.length_cons, List.length_nil, List.length_append]; rfl) ?_); intro _ _) | (k_here; (with_reducible show wpAny _ _ (call (Value.builtin "len") [Value.bytes _ _]) _ _ _); (refine len_bytesV (by (try simp only [Array.size_append, List.size_toArray, octs_size, List.length_cons, List.length_nil, List.length_append]); omega) (by simp only [Array.size_append, List.size_toArray, octs_size, List.length_cons, List.length_nil, List.length_append]; rfl) ?_); intro _ _))
  (k_with "!exec For Name Subscript cons nil" => (k_here; (rename Fr _ _ _ _ => lF'); (with_unfolding_all refine' For_invVF lF' ?zqk1 ?zqk2 ?_; (case zqk1 => exact rfl); (case zqk2 => exact rfl); k_whole)))
  (k_with "!callWith builtin:int.to_bytes" => (k_here; refine callWith_kwM ?_))
  (k_with "!callWith ref" => (k_here; (with_reducible show wpAny _ _ (callWith _ (Value.ref _) _ (backTo _ (starEach (_ :: _) _)) (backToKw _ (keywordEach (_ :: _) _))) _ _ _); kfb_any; k_dflt (refine callWith_fbKw ?_)))
  (k_with "!call builtin:int.to_bytes" => (k_here; (try dsimp only [backToKw, keywordEach, List.filterMap, List.map, List.zip, List.zipWith]); k_dflt (first | ((with_reducible show wpAny _ _ (call _ _ (_ :: _)) _ _ _); first | (refine' to_bytes_s (k := 3) ?zqz ?zqa ?zqb ?_; (case zqz => decide); (case zqa => omega); (case zqb => omega); intro _ _) | (refine' to_bytes_s (k := 7) ?zqz ?zqa ?zqb ?_; (case zqz => decide); (case zqa => omega); (case zqb => omega); intro _ _)) | (refine' to_bytes_u (k := 8) ?zqz ?zqa ?zqb ?_; (case zqz => decide); (case zqa => omega); (case zqb => omega); intro _ _) | (refine' to_bytes_u (k := 16) ?zqz ?zqa ?zqb ?_; (case zqz => decide); (case zqa => omega); (case zqb => omega); intro _ _) | (refine' to_bytes_u (k := 4) ?zqz ?zqa ?zqb ?_; (case zqz => decide); (case zqa => omega); (case zqb => omega); intro _ _))))
  (k_with "!call ref" => first | (k_here; (try dsimp only [List.cons_append, List.nil_append]); (with_reducible show wpAny _ _ (call (Value.ref 1106) [Value.bytes _ _, Value.int _ _] _) _ _ _); k_dflt ((refine wpAny_call ?_); (refine' c_unpI ?zqcB ?zqcF ?zqcX ?zqcN ?zqcT ?zqck ?zqcd ?zqcu ?zqhs ?zqhP ?zqhv ?_); (case zqcN => k_asm); (case zqcB => k_asm); (case zqcF => k_asm); (case zqcX => k_asm); (case zqcT => k_asm); (case zqck => first | exact rfl | assumption); (case zqcd => ktr_room); (case zqcu => ktr_units); (case zqhs => omega); (case zqhP => omega); (case zqhv => assumption); intro T' tA' h' tk' F' N'; (try dsimp only); (try k_sweep); (try k_fold))) | (k_here; (try dsimp only [backToKw, keywordEach, List.filterMap, List.map, List.zip, List.zipWith]); (with_reducible show wpAny _ _ (call (Value.ref _) [Value.bytes _ _, Value.str _ _] _) _ _ _); kfb_any; k_dflt (first | (refine' from_bytes (sg := none) ?zqo ?zql ?zqk ?_; (case zqo => first | exact KFB.at_of (by k_asm) (by k_mem)); (case zql => first | omega | (refine Nat.le_trans (KBc.size_picked_le _ _ _) ?_; omega)); (case zqk => rfl); intro _ _) | (refine' from_bytes (sg := some _) ?zqo ?zql ?zqk ?_; (case zqo => first | exact KFB.at_of (by k_asm) (by k_mem)); (case zql => first | omega | (refine Nat.le_trans (KBc.size_picked_le _ _ _) ?_; omega)); (case zqk => rfl); intro _ _))) | (k_here; (with_reducible show wpAny _ _ (call (Value.ref _) [Value.bytes _ _, Value.str _ _] _) _ _ _); kfb_any; k_dflt (first | (refine' from_bytes (sg := none) ?zqo ?zql ?zqk ?_; (case zqo => first | exact KFB.at_of (by k_asm) (by k_mem)); (case zql => omega); (case zqk => rfl); intro _ _) | (refine' from_bytes (sg := some _) ?zqo ?zql ?zqk ?_; (case zqo => first | exact KFB.at_of (by k_asm) (by k_mem)); (case zql => omega); (case zqk => rfl); intro _ _))))
  (k_with "!call builtin:bytes.decode" => (k_here; (with_reducible show wpAny _ _ (call (Value.builtin "bytes.decode") [Value.bytes _ _, Value.str _ _]) _ _ _); (refine bytes_decode2 rfl (by assumption) (by omega) ?_); intro _ _))
  (k_with "!compareOp In int ref" => (k_here; (with_reducible show wpAny _ _ (compareOp CmpOp.In (Value.int _ _) (Value.ref _)) _ _ _); k_dflt (first | (refine' in_KI (v := false) ?zqX ?zql ?zqi ?zqe ?_; (case zqX => k_in); (case zql => k_is); (case zqi => (repeat constructor)); (case zqe => (simp only [List.any_cons, List.any_nil, Bool.or_false, Bool.or_eq_false_iff, beq_eq_false_iff_ne, ne_eq]; omega))) | (refine' in_KI (v := true) ?zqX ?zql ?zqi ?zqe ?_; (case zqX => k_in); (case zql => k_is); (case zqi => (repeat constructor)); (case zqe => (simp only [List.any_cons, List.any_nil, Bool.or_false, Bool.or_eq_true, beq_iff_eq]; omega))))))
  trivial
section
variable {w : World} {dp un : Nat} {gd : Option (List Code)} {cn : Str} {cs : Scope} {a : Addr} {ccd : Value} {cl : List (Str × Addr)} {outer : List Env} {A₀ : Around} {base h₀ : Heap} {L : Addr} {m : Str → Option Value} {s : Shared} {R : Result → Shared → Prop}
  {loose : List Str} {mean : ExcName → Option Value} {mg mb : Str → Option Value} {news : List (Addr × Obj)} {d : Array UInt8} {P v b : Int}
  (B : Below A₀ base outer h₀) (F : Fr h₀ L s.heap m) (X : (K0 w.params).In h₀) (N : News h₀ L s.heap news) (T : Top q1 loose mean mg mb h₀) (hk : cs.kind = .function)
  (h1 : dp + 8 < recursionLimit) (h2 : un + 80 < cLine)
include B F X N T hk h1 h2
theorem c_unpLS {t u : Tok} (hs : d.size ≤ 1000000) (hP : 0 ≤ P ∧ P + 5 ≤ (d.size : Int)) (hv : sle true (KBy.picked d (some P) (some (P + 4))).toList = v) (hb : at8 d (P + 4) = b)
  (ret : ∀ (T : Addr) (tA tB : Tok) (h' : Heap) (tk' : Nat), Fr h₀ L h' m → News h₀ L h' ((T, { cls := .type "tuple", data := .seq #[.int v tA, .int b tB] }) :: news) → R (.ok (.ret (.ref T))) { s with heap := h', toks := tk' }) :
  codeAny (model P1 w) (ktrTop dp un gd cn cs L a ccd cl outer) (.call (.ref 1113) ⟨[.bytes d t, .int P u], []⟩) R s := by
  subst hv
  subst hb
  have D0 : KtsDicts [] h₀ := ktsDicts_nil
  k_dflt cell_enter
  conv in (bdy _) => whnf
  k_steps
  all_goals (refine' ret _ _ _ _ _ ?kf ?kn; (case kf => k_asm); (case kn => ktr_rel))
end
theorem wdC3q1 : True := by
  (k_with "!call ref" => first | (k_here; (try dsimp only [List.cons_append, List.nil_append]); (with_reducible show wpAny _ _ (call (Value.ref 1113) [Value.bytes _ _, Value.int _ _] _) _ _ _); k_dflt ((refine wpAny_call ?_); (refine' c_unpLS ?zqcB ?zqcF ?zqcX ?zqcN ?zqcT ?zqck ?zqcd ?zqcu ?zqhs ?zqhP ?zqhv ?zqhb ?_); (case zqcN => k_asm); (case zqcB => k_asm); (case zqcF => k_asm); (case zqcX => k_asm); (case zqcT => k_asm); (case zqck => first | exact rfl | assumption); (case zqcd => ktr_room); (case zqcu => ktr_units); (case zqhs => omega); (case zqhP => omega); (case zqhv => assumption); (case zqhb => assumption); intro T' tA' tB' h' tk' F' N'; (try dsimp only); (try k_sweep); (try k_fold))) | (k_here; (try dsimp only [List.cons_append, List.nil_append]); (with_reducible show wpAny _ _ (call (Value.ref 1106) [Value.bytes _ _, Value.int _ _] _) _ _ _); k_dflt ((refine wpAny_call ?_); (refine' c_unpI ?zqcB ?zqcF ?zqcX ?zqcN ?zqcT ?zqck ?zqcd ?zqcu ?zqhs ?zqhP ?zqhv ?_); (case zqcN => k_asm); (case zqcB => k_asm); (case zqcF => k_asm); (case zqcX => k_asm); (case zqcT => k_asm); (case zqck => first | exact rfl | assumption); (case zqcd => ktr_room); (case zqcu => ktr_units); (case zqhs => omega); (case zqhP => omega); (case zqhv => assumption); intro T' tA' h' tk' F' N'; (try dsimp only); (try k_sweep); (try k_fold))) | (k_here; (try dsimp only [backToKw, keywordEach, List.filterMap, List.map, List.zip, List.zipWith]); (with_reducible show wpAny _ _ (call (Value.ref _) [Value.bytes _ _, Value.str _ _] _) _ _ _); kfb_any; k_dflt (first | (refine' from_bytes (sg := none) ?zqo ?zql ?zqk ?_; (case zqo => first | exact KFB.at_of (by k_asm) (by k_mem)); (case zql => first | omega | (refine Nat.le_trans (KBc.size_picked_le _ _ _) ?_; omega)); (case zqk => rfl); intro _ _) | (refine' from_bytes (sg := some _) ?zqo ?zql ?zqk ?_; (case zqo => first | exact KFB.at_of (by k_asm) (by k_mem)); (case zql => first | omega | (refine Nat.le_trans (KBc.size_picked_le _ _ _) ?_; omega)); (case zqk => rfl); intro _ _))) | (k_here; (with_reducible show wpAny _ _ (call (Value.ref _) [Value.bytes _ _, Value.str _ _] _) _ _ _); kfb_any; k_dflt (first | (refine' from_bytes (sg := none) ?zqo ?zql ?zqk ?_; (case zqo => first | exact KFB.at_of (by k_asm) (by k_mem)); (case zql => omega); (case zqk => rfl); intro _ _) | (refine' from_bytes (sg := some _) ?zqo ?zql ?zqk ?_; (case zqo => first | exact KFB.at_of (by k_asm) (by k_mem)); (case zql => omega); (case zqk => rfl); intro _ _))))
  trivial
section
variable {w : World} {dp un : Nat} {gd : Option (List Code)} {cn : Str} {cs : Scope} {a : Addr} {ccd : Value} {cl : List (Str × Addr)} {outer : List Env} {A₀ : Around} {base h₀ : Heap} {L : Addr} {m : Str → Option Value} {s : Shared} {R : Result → Shared → Prop}
  {loose : List Str} {mean : ExcName → Option Value} {mg mb : Str → Option Value} {news : List (Addr × Obj)} {d : Array UInt8} {P v oe : Int}
  (B : Below A₀ base outer h₀) (F : Fr h₀ L s.heap m) (X : (K0 w.params).In h₀) (N : News h₀ L s.heap news) (T : Top q1 loose mean mg mb h₀) (hk : cs.kind = .function)
  (h1 : dp + 12 < recursionLimit) (h2 : un + 120 < cLine)
include B F X N T hk h1 h2
theorem c_gsize {t u u2 : Tok} (hs : d.size ≤ 1000000) (hP : 0 ≤ P ∧ P + 4 ≤ (d.size : Int)) (hv : sle true (KBy.picked d (some P) (some (P + 4))).toList = v) (hvb : 5 ≤ v ∧ P + v ≤ (d.size : Int)) (hoe : P + v - 1 < oe ∧ oe ≤ (d.size : Int)) (h0 : P = 0 → v = oe) (hz : at8 d (P + v - 1) = 0)
  (ret : ∀ (T : Addr) (tA tB : Tok) (h' : Heap) (tk' : Nat), Fr h₀ L h' m → News h₀ L h' ((T, { cls := .type "tuple", data := .seq #[.int v tA, .int (P + v - 1) tB] }) :: news) → R (.ok (.ret (.ref T))) { s with heap := h', toks := tk' }) :
  codeAny (model P1 w) (ktrTop dp un gd cn cs L a ccd cl outer) (.call (.ref 1190) ⟨[.bytes d t, .int P u, .int oe u2], []⟩) R s := by
  have D0 : KtsDicts [] h₀ := ktsDicts_nil
  k_dflt cell_enter
  conv in (bdy _) => whnf
  k_steps
  all_goals first | (exfalso; omega) | skip
  all_goals (refine' ret _ _ _ _ _ ?kf ?kn; (case kf => k_asm); (case kn => ktr_rel))
end
section
variable {w : World} {dp un : Nat} {gd : Option (List Code)} {cn : Str} {cs : Scope} {a : Addr} {ccd : Value} {cl : List (Str × Addr)} {outer : List Env} {A₀ : Around} {base h₀ : Heap} {L : Addr} {m : Str → Option Value} {s : Shared} {R : Result → Shared → Prop}
  {loose : List Str} {mean : ExcName → Option Value} {mg mb : Str → Option Value} {news : List (Addr × Obj)} {d : Array UInt8} {P v b oe : Int} {k : Str}
  (B : Below A₀ base outer h₀) (F : Fr h₀ L s.heap m) (X : (K0 w.params).In h₀) (N : News h₀ L s.heap news) (T : Top q1 loose mean mg mb h₀) (hk : cs.kind = .function)
  (h1 : dp + 16 < recursionLimit) (h2 : un + 160 < cLine)
include B F X N T hk h1 h2
theorem c_getbin {t t2 u u2 u3 : Tok} (hs : d.size ≤ 1000000) (hP : 0 ≤ P ∧ P + 5 ≤ (d.size : Int)) (hv : sle true (KBy.picked d (some P) (some (P + 4))).toList = v) (hb : at8 d (P + 4) = b) (hbb : 5 ≤ b ∧ b < 256) (hvb : 0 ≤ v ∧ P + 5 + v ≤ oe ∧ oe ≤ (d.size : Int))
  (ret : ∀ (T xB dB : Addr) (tA ta tb tc td : Tok) (h' : Heap) (tk' : Nat), (∀ p ∈ news, p.1 < T) → (∀ p ∈ news, p.1 < xB) → (∀ p ∈ news, p.1 < dB) → Fr h₀ L h' m → News h₀ L h' ((T, { cls := .type "tuple", data := .seq #[.ref xB, .int (P + 5 + v) tA] }) :: (xB, instObj 223 dB) :: (dB, dictOf [⟨PyData.keyHash w.params "data", .str "data" ta, .bytes (KBy.picked d (some (P + 5)) (some (P + 5 + v))) tb⟩, ⟨PyData.keyHash w.params "_subtype", .str "_subtype" tc, .int b td⟩] 2) :: news) → R (.ok (.ret (.ref T))) { s with heap := h', toks := tk' }) :
  codeAny (model P1 w) (ktrTop dp un gd cn cs L a ccd cl outer) (.call (.ref 1211) ⟨[.bytes d t, .bytes d t2, .int P u, .int oe u2, .ref 333, .str k u3], []⟩) R s := by
  have D0 : KtsDicts [] h₀ := ktsDicts_nil
  k_dflt cell_enter
  conv in (bdy _) => whnf
  k_steps
  all_goals first | (exfalso; omega) | skip
  all_goals (refine' ret _ _ _ _ _ _ _ _ _ _ ?l1 ?l2 ?l3 ?kf ?kn; (case kn => ktr_rel); (case l1 => first | exact lt_of (by assumption) | (refine' lt_of2 ?zA ?zB; (case zB => assumption); (case zA => assumption))); (case l2 => first | exact lt_of (by assumption) | (refine' lt_of2 ?zA ?zB; (case zB => assumption); (case zA => assumption))); (case l3 => first | exact lt_of (by assumption) | (refine' lt_of2 ?zA ?zB; (case zB => assumption); (case zA => assumption))); (case kf => k_asm))
end
end Mine
end
section
namespace Mine
theorem wdC3n0 : True := by
  k_with_none
  (k_with "!eval Call" => first | (k_here; (with_reducible show wpAny _ _ (eval (Expr.Call _ _ [] _) _) _ _ _); k_dflt (refine Call_ ?_)))
  (k_with "!exec Raise some none" => first | (k_here; (with_reducible show wpAny _ _ (exec (Stmt.Raise (some (Expr.Call (Expr.Name (PySem.Str.ofString "ValueError") _) _ _ _)) none _) _) _ _ _); k_dflt (refine Raise_new rfl ?_)) | (k_here; (with_reducible show wpAny _ _ (exec (Stmt.Raise (some (Expr.Call (Expr.Name (PySem.Str.ofString "TypeError") _) _ _ _)) none _) _) _ _ _); k_dflt (refine Raise_new rfl ?_)))
  (k_with "!leaving ref" => first | (k_here; (with_reducible rename KtsDicts _ _ => kdX); k_dflt (first | (refine' leave_raiseS ?zqk1 ?zqk0 ?zqk2 ?zqk3 ?_; (case zqk0 => first | assumption | exact Heap.MadeExc.of (by assumption)); (case zqk2 => assumption); (case zqk1 => assumption); (case zqk3 => k_asm); k_whole; intro h' t' S' R' U'; (try dsimp only at S' R' U' ⊢)) | (refine' leave_onS ?zqk1 ?zqk2 ?zqk3 ?zqk4 ?_; (case zqk3 => assumption); (case zqk2 => assumption); (case zqk1 => assumption); (case zqk4 => assumption); k_whole; intro h' S' R' U'; (try dsimp only at S' R' U' ⊢)) | (refine' leave_newS ?zqk1 ?zqk0 ?zqk2 ?zqk3 ?_; (case zqk0 => assumption); (case zqk2 => assumption); (case zqk1 => assumption); (case zqk3 => k_asm); k_whole; intro h' S' R' U'; (try dsimp only at S' R' U' ⊢)) | (refine' leave_onSN ?zqk1 ?zqk2 ?zqk3 ?zqk4 ?_; (case zqk3 => assumption); (case zqk2 => assumption); (case zqk1 => assumption); (case zqk4 => assumption); k_whole; intro h' S' R' U'; (try dsimp only at S' R' U' ⊢)))))
  (k_with "!eval Name" => first | (k_here; (first | (with_reducible show wpAny _ _ (eval (Expr.Name _ _) (envOf _ _ _ _ _)) _ _ _) | (with_reducible show wpAny _ _ (eval (Expr.Name _ _) (envOfC _ _ _ _ _)) _ _ _)); k_dflt (first | (refine' nameX_L ?zqF ?zqv ?_ ?zqa ?zqb; (case zqF => k_asm); (case zqv => rfl); (case zqa => rfl); (case zqb => kernel_rfl); k_whole) | (refine' nameX_K ?zqF ?zqX ?zqT ?zqe ?_ ?zqa ?zqb; (case zqT => k_asm); (case zqX => k_asm); (case zqF => k_asm); (case zqe => k_is); (case zqa => rfl); (case zqb => kernel_rfl); k_whole) | (refine' nameX_B ?zqF ?zqX ?zqT ?zqe ?zqv ?zqn ?_ ?zqa ?zqb; (case zqT => k_asm); (case zqX => k_asm); (case zqF => k_asm); (case zqe => k_is); (case zqv => boot_fast); (case zqn => decide); (case zqa => rfl); (case zqb => kernel_rfl); k_whole))))
  (k_with "k_mem" => (assumption))
  (k_with "k_room" => (ktr_room))
  (k_with "k_units" => (ktr_units))
  (k_with "ktr_rel" => (first | k_asm | (refine' cb_drop ?zqcbN ?zqcbS; (case zqcbN => k_asm); (case zqcbS => (repeat (first | (intro p hp; (repeat (first | exact hp | exact List.mem_append_left _ hp | apply List.mem_cons_of_mem)); done) | (refine' sub_cons ?_ ?_; focus k_mem)))))))
  (k_with "k_lt?" => skip)
  (k_with "k_all" => (first | (refine all_ne_of ?_; assumption) | exact fun p hp => Nat.ne_of_lt ((by assumption : ∀ p ∈ _, p.1 < _) p hp)))
  (k_with "!call type:bytes" => first | (k_here; (with_reducible show wpAny _ _ (call (Value.type "bytes") [Value.bytes _ _]) _ _ _); refine bytes_id ?_) | (k_here; (with_reducible show wpAny _ _ (call (Value.type "bytes") [Value.ref _]) _ _ _); k_dflt (refine' bytes_L ?zqbF ?zqbN ?zqbh ?zqbl ?zqbi ?zqbr ?zqbz ?_; (case zqbF => k_asm); (case zqbN => k_asm); (case zqbh => rfl); (case zqbl => is_list); (case zqbi => assumption); (case zqbr => (first | (subst_vars; rw [List.map_id']; exact in_255 (by assumption)) | exact in_map256 | (subst_vars; exact in_map256) | exact in_255 (by assumption) | assumption)); (case zqbz => (simp_all; omega))); intro _ _ _ F' N'))
  (k_with "!binaryOp Add bytes bytes" => first | (k_here; (with_reducible show wpAny _ _ (binaryOp Operator.Add (Value.bytes _ _) (Value.bytes _ _)) _ _ _); (refine KBy.add_bytes (by (try simp only [Array.size_append, List.size_toArray, byteArr_size, octs_size, leb_length, List.length_append, List.length_cons, List.length_nil, List.length_map]); omega) ?_); intro _ _) | (k_here; (with_reducible show wpAny _ _ (binaryOp Operator.Add (Value.bytes _ _) (Value.bytes _ _)) _ _ _); (refine KBy.add_bytes (by (try simp only [Array.size_append, List.size_toArray, byteArr_size, octs_size, List.length_cons, List.length_nil, List.length_map]); omega) ?_); intro _ _))
  (k_with "cell_enter" => (refine' code_def ?zqk1 ?zqk2 ?zqk3 ?zqk4 ?zqk5 ?zqkA ?zqkF ?zqkK ?zqk6 ?zqk7 ?zqk8 ?zqk9 ?zqkB ?_ ?zqc2 ?zqc3 ?zqc4 ?zqc5; (case zqkA => exact rfl); (case zqkF => exact rfl); (case zqkK => assumption); (case zqk1 => k_asm); (case zqk2 => k_asm); (case zqk3 => k_asm); (case zqk4 => k_asm); (case zqk5 => k_asm); (case zqk6 => k_is); (case zqk7 => k_is); (case zqk8 => ktr_room); (case zqk9 => first | exact BindsTo.of_eq rfl | exact binds_K (by k_in) rfl (by k_is) rfl rfl rfl); (case zqc5 => decide); (case zqkB => exact locs rfl); (case zqc2 => exact rfl); (case zqc3 => exact rfl); (case zqc4 => exact rfl); k_whole; intro g' L' h' FG' F' N' B' X' T'; (try dsimp only); (try k_lift B'); (try k_fold)))
  (k_with "!compareOp NotIn" => first | (k_here; (with_reducible show wpAny _ _ (compareOp CmpOp.NotIn (Value.int _ _) (Value.ref _)) _ _ _); k_dflt (refine' notin_int_bytes ?zqt ?zqh ?_; (case zqt => exact isTup_of (by k_asm) (by k_mem)); (case zqh => rfl))) | (k_here; (with_reducible show wpAny _ _ (compareOp CmpOp.NotIn (Value.bytes _ _) (Value.ref _)) _ _ _); k_dflt (refine' notin_bytes ?zqt ?zqh ?zqe ?_; (case zqt => exact isTup_of (by k_asm) (by k_mem)); (case zqh => rfl); (case zqe => first | exact (rfl : _ = false) | exact (rfl : _ = true)))))
  (k_with "!binaryOp BitAnd int int" => (k_here; (with_reducible refine and_lowT (by omega) ?_); intro _ _ _ vE))
  (k_with "!subscriptTail" => first | (k_here; (with_reducible show wpAny _ _ (subscriptTail _ _ (Value.bytes (List.toArray _) _) (Value.int _ _)) _ _ _); (refine item_octet (by decide) rfl (by (try simp only [List.length_cons, List.length_nil, List.length_append]); omega) ?_); intro _ _) | (k_here; (with_reducible show wpAny _ _ (subscriptTail _ (Expr.Slice _ _ none _) (Value.bytes _ _) (Value.ref _)) _ _ _); (with_reducible rename Fr _ _ _ _ => F'); (with_reducible rename News _ _ _ _ => N'); (refine slice_BV (s := ⟨_, _, _, _, _⟩) F' N' (by constructor) (by constructor) (by (try simp only [Array.size_append, List.size_toArray, octs_size, List.length_cons, List.length_nil, List.length_append]); omega) (by first | exact picked_drop2 _ _ _ | exact picked_01 _ _ _) ?_); intro _ _ _ _ _) | (k_here; (with_reducible show wpAny _ _ (subscriptTail _ _ (Value.bytes _ _) (Value.int (-1) _)) _ _ _); (refine last_octet (by (try simp only [octs_size]); omega) (by (try simp only [octs_size]); omega) ?_); intro _ _ _ lO _ _))
  (k_with "!ite" => first | (k_closed; k_dflt (first | refine PySem.W.ite_pos (by decide) ?_ | refine PySem.W.ite_neg (by decide) ?_)) | (first | refine PySem.W.ite_neg (by (try simp only [bne_iff_ne, ne_eq, beq_iff_eq, decide_eq_true_eq, Bool.not_eq_true', bne_eq_false_iff_eq, beq_eq_false_iff_ne]); omega) ?_ | refine PySem.W.ite_pos (by (try simp only [bne_iff_ne, ne_eq, beq_iff_eq, decide_eq_true_eq]); omega) ?_))
  (k_with "!execs cons" => (k_here; dsimp only))
  (k_with "!execs nil" => (k_here; dsimp only))
  (k_with "!truthy bytes" => (k_here; (refine truthy_bytesV (v := true) (by (try simp only [Array.size_append, List.size_toArray, octs_size, List.length_cons, List.length_nil]); omega) rfl ?_)))
  (k_with "!call builtin:len" => first | (k_here; (with_reducible show wpAny _ _ (call (Value.builtin "len") [Value.str _ _]) _ _ _); (refine len_strV (by omega) ?_); intro _ _) | (k_here; (with_reducible show wpAny _ _ (call (Value.builtin "len") [Value.bytes _ _]) _ _ _); (refine len_bytesV (by (try simp only [Array.size_append, List.size_toArray, octs_size, List.length_cons, List.length_nil, List.length_append]); omega) (by simp only [Array.size_append, List.size_toArray, octs_size, List.length_cons, List.length_nil, List.length_append]; rfl) ?_); intro _ _))
  (k_with "!exec For Name Subscript cons nil" => (k_here; (rename Fr _ _ _ _ => lF'); (with_unfolding_all refine' For_invVF lF' ?zqk1 ?zqk2 ?_; (case zqk1 => exact rfl); (case zqk2 => exact rfl); k_whole)))
  (k_with "!getMethod str" => (k_here; with_reducible refine method_encode ?_))
  (k_with "!call builtin:str.encode" => (k_here; (with_reducible show wpAny _ _ (call (Value.builtin "str.encode") [Value.str _ _, Value.str _ _]) _ _ _); (refine str_encode (by first | exact Or.inl rfl | exact Or.inr rfl) (by assumption) (by assumption) (by assumption) ?_); intro _ _))
  (k_with "!compareOp In str str" => (k_here; (with_reducible show wpAny _ _ (compareOp CmpOp.In (Value.str _ _) (Value.str _ _)) _ _ _); (refine in_strV (v := false) (by assumption) ?_)))
  (k_with "!callWith builtin:int.to_bytes" => (k_here; refine callWith_kwM ?_))
  (k_with "!callWith ref" => (k_here; (with_reducible show wpAny _ _ (callWith _ (Value.ref _) _ (backTo _ (starEach (_ :: _) _)) (backToKw _ (keywordEach (_ :: _) _))) _ _ _); kfb_any; k_dflt (refine callWith_fbKw ?_)))
  (k_with "!call builtin:int.to_bytes" => (k_here; (try dsimp only [backToKw, keywordEach, List.filterMap, List.map, List.zip, List.zipWith]); k_dflt (first | ((with_reducible show wpAny _ _ (call _ _ (_ :: _)) _ _ _); first | (refine' to_bytes_s (k := 3) ?zqz ?zqa ?zqb ?_; (case zqz => decide); (case zqa => omega); (case zqb => omega); intro _ _) | (refine' to_bytes_s (k := 7) ?zqz ?zqa ?zqb ?_; (case zqz => decide); (case zqa => omega); (case zqb => omega); intro _ _)) | (refine' to_bytes_u (k := 8) ?zqz ?zqa ?zqb ?_; (case zqz => decide); (case zqa => omega); (case zqb => omega); intro _ _) | (refine' to_bytes_u (k := 16) ?zqz ?zqa ?zqb ?_; (case zqz => decide); (case zqa => omega); (case zqb => omega); intro _ _) | (refine' to_bytes_u (k := 4) ?zqz ?zqa ?zqb ?_; (case zqz => decide); (case zqa => omega); (case zqb => omega); intro _ _))))
  (k_with "!call ref" => (k_here; (with_reducible show wpAny _ _ (call (Value.ref _) [Value.bytes _ _, Value.str _ _] _) _ _ _); kfb_any; k_dflt (first | (refine' from_bytes (sg := none) ?zqo ?zql ?zqk ?_; (case zqo => first | exact KFB.at_of (by k_asm) (by k_mem)); (case zql => omega); (case zqk => rfl); intro _ _) | (refine' from_bytes (sg := some _) ?zqo ?zql ?zqk ?_; (case zqo => first | exact KFB.at_of (by k_asm) (by k_mem)); (case zql => omega); (case zqk => rfl); intro _ _))))
  trivial
section
variable {w : World} {dp un : Nat} {gd : Option (List Code)} {cn : Str} {cs : Scope} {a : Addr} {ccd : Value} {cl : List (Str × Addr)} {outer : List Env} {A₀ : Around} {base h₀ : Heap} {L : Addr} {m : Str → Option Value} {s : Shared} {R : Result → Shared → Prop}
  {loose : List Str} {mean : ExcName → Option Value} {mg mb : Str → Option Value} {news : List (Addr × Obj)} {k : Str} {kb : List UInt8}
  (B : Below A₀ base outer h₀) (F : Fr h₀ L s.heap m) (X : (K0 w.params).In h₀) (N : News h₀ L s.heap news) (T : Top q1 loose mean mg mb h₀) (hk : cs.kind = .function)
  (h1 : dp + 6 < recursionLimit) (h2 : un + 60 < cLine)
include B F X N T hk h1 h2
theorem c_name {t : Tok} (hk0 : NameOk k kb)
  (ret : ∀ (t' : Tok) (h' : Heap) (tk' : Nat), Fr h₀ L h' m → News h₀ L h' news → R (.ok (.ret (.bytes (kb ++ [0]).toArray t'))) { s with heap := h', toks := tk' }) :
  codeAny (model P1 w) (ktrTop dp un gd cn cs L a ccd cl outer) (.call (.ref 1358) ⟨[.str k t], []⟩) R s := by
  obtain ⟨n1, n2, n3, n4, n5⟩ := hk0
  have n6 : kb.toArray.size ≤ 16777216 := by simp; omega
  have D0 : KtsDicts [] h₀ := ktsDicts_nil
  k_dflt cell_enter
  conv in (bdy _) => whnf
  k_steps
  rw [show kb.toArray ++ #[0] = (kb ++ [0]).toArray from List.append_toArray ..]
  all_goals (refine' ret _ _ _ ?kf ?kn; (case kf => k_asm); (case kn => ktr_rel))
end
section
variable {w : World} {dp un : Nat} {gd : Option (List Code)} {cn : Str} {cs : Scope} {a : Addr} {ccd : Value} {cl : List (Str × Addr)} {outer : List Env} {A₀ : Around} {base h₀ : Heap} {L : Addr} {m : Str → Option Value} {s : Shared} {R : Result → Shared → Prop}
  {loose : List Str} {mean : ExcName → Option Value} {mg mb : Str → Option Value} {news : List (Addr × Obj)} {xB dB : Addr} {ta tb tc td : Tok} {d nb : Array UInt8} {sbt : Int}
  (B : Below A₀ base outer h₀) (F : Fr h₀ L s.heap m) (X : (K0 w.params).In h₀) (N : News h₀ L s.heap news) (T : Top q1 loose mean mg mb h₀) (hk : cs.kind = .function)
  (h1 : dp + 12 < recursionLimit) (h2 : un + 120 < cLine)
  (M1 : (xB, instObj 223 dB) ∈ news) (M2 : (dB, dictOf [⟨PyData.keyHash w.params "data", .str "data" ta, .bytes d tb⟩, ⟨PyData.keyHash w.params "_subtype", .str "_subtype" tc, .int sbt td⟩] 2) ∈ news)
include M1 M2 B F X N T hk h1 h2
theorem c_nvB {t : Tok} (hd : d.size ≤ 1000000) (hn : nb.size ≤ 1000000) (hs : 0 ≤ sbt ∧ sbt < 256 ∧ sbt ≠ 2)
  (ret : ∀ (t' : Tok) (h' : Heap) (tk' : Nat), Fr h₀ L h' m → News h₀ L h' news → R (.ok (.ret (.bytes (#[5] ++ nb ++ (leb 4 d.size ++ [sbt.toNat.toUInt8]).toArray ++ d) t'))) { s with heap := h', toks := tk' }) :
  codeAny (model P1 w) (ktrTop dp un gd cn cs L a ccd cl outer) (.call (.ref 1495) ⟨[.bytes nb t, .ref xB, .bool false, .ref 333], []⟩) R s := by
  have D0 : KtsDicts [] h₀ := ktsDicts_nil
  k_dflt cell_enter
  conv in (bdy _) => whnf
  k_steps
  all_goals (refine' ret _ _ _ ?kf ?kn; (case kf => k_asm); (case kn => ktr_rel))
end
end Mine
end
section
namespace Mine
theorem wdC3o0 : True := by
  k_with_none
  (k_with "!eval Call" => first | (k_here; (with_reducible show wpAny _ _ (eval (Expr.Call _ _ [] _) _) _ _ _); k_dflt (refine Call_ ?_)))
  (k_with "!exec Raise some none" => first | (k_here; (with_reducible show wpAny _ _ (exec (Stmt.Raise (some (Expr.Call (Expr.Name (PySem.Str.ofString "ValueError") _) _ _ _)) none _) _) _ _ _); k_dflt (refine Raise_new rfl ?_)) | (k_here; (with_reducible show wpAny _ _ (exec (Stmt.Raise (some (Expr.Call (Expr.Name (PySem.Str.ofString "TypeError") _) _ _ _)) none _) _) _ _ _); k_dflt (refine Raise_new rfl ?_)))
  (k_with "!leaving ref" => first | (k_here; (with_reducible rename KtsDicts _ _ => kdX); k_dflt (first | (refine' leave_raiseS ?zqk1 ?zqk0 ?zqk2 ?zqk3 ?_; (case zqk0 => first | assumption | exact Heap.MadeExc.of (by assumption)); (case zqk2 => assumption); (case zqk1 => assumption); (case zqk3 => k_asm); k_whole; intro h' t' S' R' U'; (try dsimp only at S' R' U' ⊢)) | (refine' leave_onS ?zqk1 ?zqk2 ?zqk3 ?zqk4 ?_; (case zqk3 => assumption); (case zqk2 => assumption); (case zqk1 => assumption); (case zqk4 => assumption); k_whole; intro h' S' R' U'; (try dsimp only at S' R' U' ⊢)) | (refine' leave_newS ?zqk1 ?zqk0 ?zqk2 ?zqk3 ?_; (case zqk0 => assumption); (case zqk2 => assumption); (case zqk1 => assumption); (case zqk3 => k_asm); k_whole; intro h' S' R' U'; (try dsimp only at S' R' U' ⊢)) | (refine' leave_onSN ?zqk1 ?zqk2 ?zqk3 ?zqk4 ?_; (case zqk3 => assumption); (case zqk2 => assumption); (case zqk1 => assumption); (case zqk4 => assumption); k_whole; intro h' S' R' U'; (try dsimp only at S' R' U' ⊢)))))
  (k_with "!eval Name" => first | (k_here; (first | (with_reducible show wpAny _ _ (eval (Expr.Name _ _) (envOf _ _ _ _ _)) _ _ _) | (with_reducible show wpAny _ _ (eval (Expr.Name _ _) (envOfC _ _ _ _ _)) _ _ _)); k_dflt (first | (refine' nameX_L ?zqF ?zqv ?_ ?zqa ?zqb; (case zqF => k_asm); (case zqv => rfl); (case zqa => rfl); (case zqb => kernel_rfl); k_whole) | (refine' nameX_K ?zqF ?zqX ?zqT ?zqe ?_ ?zqa ?zqb; (case zqT => k_asm); (case zqX => k_asm); (case zqF => k_asm); (case zqe => k_is); (case zqa => rfl); (case zqb => kernel_rfl); k_whole) | (refine' nameX_B ?zqF ?zqX ?zqT ?zqe ?zqv ?zqn ?_ ?zqa ?zqb; (case zqT => k_asm); (case zqX => k_asm); (case zqF => k_asm); (case zqe => k_is); (case zqv => boot_fast); (case zqn => decide); (case zqa => rfl); (case zqb => kernel_rfl); k_whole))))
  (k_with "k_mem" => (assumption))
  (k_with "k_room" => (ktr_room))
  (k_with "k_units" => (ktr_units))
  (k_with "ktr_rel" => (first | k_asm | (refine' cb_drop ?zqcbN ?zqcbS; (case zqcbN => k_asm); (case zqcbS => (repeat (first | (intro p hp; (repeat (first | exact hp | exact List.mem_append_left _ hp | apply List.mem_cons_of_mem)); done) | (refine' sub_cons ?_ ?_; focus k_mem)))))))
  (k_with "k_lt?" => skip)
  (k_with "k_all" => (first | (refine all_ne_of ?_; assumption) | exact fun p hp => Nat.ne_of_lt ((by assumption : ∀ p ∈ _, p.1 < _) p hp)))
  (k_with "!call type:bytes" => first | (k_here; (with_reducible show wpAny _ _ (call (Value.type "bytes") [Value.bytes _ _]) _ _ _); refine bytes_id ?_) | (k_here; (with_reducible show wpAny _ _ (call (Value.type "bytes") [Value.ref _]) _ _ _); k_dflt (refine' bytes_L ?zqbF ?zqbN ?zqbh ?zqbl ?zqbi ?zqbr ?zqbz ?_; (case zqbF => k_asm); (case zqbN => k_asm); (case zqbh => rfl); (case zqbl => is_list); (case zqbi => assumption); (case zqbr => (first | (subst_vars; rw [List.map_id']; exact in_255 (by assumption)) | exact in_map256 | (subst_vars; exact in_map256) | exact in_255 (by assumption) | assumption)); (case zqbz => (simp_all; omega))); intro _ _ _ F' N'))
  (k_with "!binaryOp Add bytes bytes" => first | (k_here; (with_reducible show wpAny _ _ (binaryOp Operator.Add (Value.bytes _ _) (Value.bytes _ _)) _ _ _); (refine KBy.add_bytes (by (try simp only [Array.size_append, List.size_toArray, byteArr_size, octs_size, leb_length, List.length_append, List.length_cons, List.length_nil, List.length_map]); omega) ?_); intro _ _) | (k_here; (with_reducible show wpAny _ _ (binaryOp Operator.Add (Value.bytes _ _) (Value.bytes _ _)) _ _ _); (refine KBy.add_bytes (by (try simp only [Array.size_append, List.size_toArray, byteArr_size, octs_size, List.length_cons, List.length_nil, List.length_map]); omega) ?_); intro _ _))
  (k_with "cell_enter" => (refine' code_def ?zqk1 ?zqk2 ?zqk3 ?zqk4 ?zqk5 ?zqkA ?zqkF ?zqkK ?zqk6 ?zqk7 ?zqk8 ?zqk9 ?zqkB ?_ ?zqc2 ?zqc3 ?zqc4 ?zqc5; (case zqkA => exact rfl); (case zqkF => exact rfl); (case zqkK => assumption); (case zqk1 => k_asm); (case zqk2 => k_asm); (case zqk3 => k_asm); (case zqk4 => k_asm); (case zqk5 => k_asm); (case zqk6 => k_is); (case zqk7 => k_is); (case zqk8 => ktr_room); (case zqk9 => first | exact BindsTo.of_eq rfl | exact binds_K (by k_in) rfl (by k_is) rfl rfl rfl); (case zqc5 => decide); (case zqkB => exact locs rfl); (case zqc2 => exact rfl); (case zqc3 => exact rfl); (case zqc4 => exact rfl); k_whole; intro g' L' h' FG' F' N' B' X' T'; (try dsimp only); (try k_lift B'); (try k_fold)))
  (k_with "!compareOp NotIn" => first | (k_here; (with_reducible show wpAny _ _ (compareOp CmpOp.NotIn (Value.int _ _) (Value.ref _)) _ _ _); k_dflt (refine' notin_int_bytes ?zqt ?zqh ?_; (case zqt => exact isTup_of (by k_asm) (by k_mem)); (case zqh => rfl))) | (k_here; (with_reducible show wpAny _ _ (compareOp CmpOp.NotIn (Value.bytes _ _) (Value.ref _)) _ _ _); k_dflt (refine' notin_bytes ?zqt ?zqh ?zqe ?_; (case zqt => exact isTup_of (by k_asm) (by k_mem)); (case zqh => rfl); (case zqe => first | exact (rfl : _ = false) | exact (rfl : _ = true)))))
  (k_with "!binaryOp BitAnd int int" => (k_here; (with_reducible refine and_lowT (by omega) ?_); intro _ _ _ vE))
  (k_with "!subscriptTail" => first | (k_here; (with_reducible show wpAny _ _ (subscriptTail _ _ (Value.bytes (List.toArray _) _) (Value.int _ _)) _ _ _); (refine item_octet (by decide) rfl (by (try simp only [List.length_cons, List.length_nil, List.length_append]); omega) ?_); intro _ _) | (k_here; (with_reducible show wpAny _ _ (subscriptTail _ (Expr.Slice _ _ none _) (Value.bytes _ _) (Value.ref _)) _ _ _); (with_reducible rename Fr _ _ _ _ => F'); (with_reducible rename News _ _ _ _ => N'); (refine slice_BV (s := ⟨_, _, _, _, _⟩) F' N' (by constructor) (by constructor) (by (try simp only [Array.size_append, List.size_toArray, octs_size, List.length_cons, List.length_nil, List.length_append]); omega) (by first | exact picked_drop2 _ _ _ | exact picked_01 _ _ _) ?_); intro _ _ _ _ _) | (k_here; (with_reducible show wpAny _ _ (subscriptTail _ _ (Value.bytes _ _) (Value.int (-1) _)) _ _ _); (refine last_octet (by (try simp only [octs_size]); omega) (by (try simp only [octs_size]); omega) ?_); intro _ _ _ lO _ _))
  (k_with "!ite" => first | (k_closed; k_dflt (first | refine PySem.W.ite_pos (by decide) ?_ | refine PySem.W.ite_neg (by decide) ?_)) | (first | refine PySem.W.ite_neg (by (try simp only [bne_iff_ne, ne_eq, beq_iff_eq, decide_eq_true_eq, Bool.not_eq_true', bne_eq_false_iff_eq, beq_eq_false_iff_ne]); omega) ?_ | refine PySem.W.ite_pos (by (try simp only [bne_iff_ne, ne_eq, beq_iff_eq, decide_eq_true_eq]); omega) ?_))
  (k_with "!execs cons" => (k_here; dsimp only))
  (k_with "!execs nil" => (k_here; dsimp only))
  (k_with "!truthy bytes" => (k_here; (refine truthy_bytesV (v := true) (by (try simp only [Array.size_append, List.size_toArray, octs_size, List.length_cons, List.length_nil]); omega) rfl ?_)))
  (k_with "!call builtin:len" => first | (k_here; (with_reducible show wpAny _ _ (call (Value.builtin "len") [Value.bytes _ _]) _ _ _); (refine len_bytesV (by (try simp only [Array.size_append, List.size_toArray, octs_size, leb_length, List.length_cons, List.length_nil, List.length_append]); omega) (by simp only [Array.size_append, List.size_toArray, octs_size, leb_length, List.length_cons, List.length_nil, List.length_append]; rfl) ?_); intro _ _) | (k_here; (with_reducible show wpAny _ _ (call (Value.builtin "len") [Value.bytes _ _]) _ _ _); (refine len_bytesV (by (try simp only [Array.size_append, List.size_toArray, octs_size, List.length_cons, List.length_nil, List.length_append]); omega) (by simp only [Array.size_append, List.size_toArray, octs_size, List.length_cons, List.length_nil, List.length_append]; rfl) ?_); intro _ _))
  (k_with "!exec For Name Subscript cons nil" => (k_here; (rename Fr _ _ _ _ => lF'); (with_unfolding_all refine' For_invVF lF' ?zqk1 ?zqk2 ?_; (case zqk1 => exact rfl); (case zqk2 => exact rfl); k_whole)))
  (k_with "!callWith builtin:int.to_bytes" => (k_here; refine callWith_kwM ?_))
  (k_with "!callWith ref" => (k_here; (with_reducible show wpAny _ _ (callWith _ (Value.ref _) _ (backTo _ (starEach (_ :: _) _)) (backToKw _ (keywordEach (_ :: _) _))) _ _ _); kfb_any; k_dflt (refine callWith_fbKw ?_)))
  (k_with "!call builtin:int.to_bytes" => (k_here; (try dsimp only [backToKw, keywordEach, List.filterMap, List.map, List.zip, List.zipWith]); k_dflt (first | ((with_reducible show wpAny _ _ (call _ _ (_ :: _)) _ _ _); first | (refine' to_bytes_s (k := 3) ?zqz ?zqa ?zqb ?_; (case zqz => decide); (case zqa => omega); (case zqb => omega); intro _ _) | (refine' to_bytes_s (k := 7) ?zqz ?zqa ?zqb ?_; (case zqz => decide); (case zqa => omega); (case zqb => omega); intro _ _)) | (refine' to_bytes_u (k := 8) ?zqz ?zqa ?zqb ?_; (case zqz => decide); (case zqa => omega); (case zqb => omega); intro _ _) | (refine' to_bytes_u (k := 16) ?zqz ?zqa ?zqb ?_; (case zqz => decide); (case zqa => omega); (case zqb => omega); intro _ _) | (refine' to_bytes_u (k := 4) ?zqz ?zqa ?zqb ?_; (case zqz => decide); (case zqa => omega); (case zqb => omega); intro _ _))))
  (k_with "!call ref" => first | (k_here; (try dsimp only [List.cons_append, List.nil_append]); (with_reducible show wpAny _ _ (call (Value.ref 1495) [Value.bytes _ _, Value.ref _, Value.bool _, Value.ref _] _) _ _ _); k_dflt ((refine wpAny_call ?_); (refine' c_nvB ?zqcB ?zqcF ?zqcX ?zqcN ?zqcT ?zqck ?zqcd ?zqcu ?zqm1 ?zqm2 ?zqcd2 ?zqcn2 ?zqcs ?_); (case zqcN => k_asm); (case zqcB => k_asm); (case zqcF => k_asm); (case zqcX => k_asm); (case zqcT => k_asm); (case zqck => first | exact rfl | assumption); (case zqcd => ktr_room); (case zqcu => ktr_units); (case zqm1 => k_mem); (case zqm2 => k_mem); (case zqcd2 => (try simp only [Array.size_append, List.size_toArray, byteArr_size, octs_size, leb_length, List.length_append, List.length_cons, List.length_nil, List.length_map]); omega); (case zqcn2 => (try simp only [Array.size_append, List.size_toArray, byteArr_size, octs_size, leb_length, List.length_append, List.length_cons, List.length_nil, List.length_map]); omega); (case zqcs => decide); intro t' h' tk' F' N'; (try dsimp only); (try k_sweep); (try k_fold))) | (k_here; (try dsimp only [List.cons_append, List.nil_append]); (with_reducible show wpAny _ _ (call (Value.ref 1358) [Value.str _ _] _) _ _ _); k_dflt ((refine wpAny_call ?_); (refine' c_name ?zqcB ?zqcF ?zqcX ?zqcN ?zqcT ?zqck ?zqcd ?zqcu ?zqcn ?_); (case zqcN => k_asm); (case zqcB => k_asm); (case zqcF => k_asm); (case zqcX => k_asm); (case zqcT => k_asm); (case zqck => first | exact rfl | assumption); (case zqcd => ktr_room); (case zqcu => ktr_units); (case zqcn => assumption); intro t' h' tk' F' N'; (try dsimp only); (try k_sweep); (try k_fold))) | (k_here; (with_reducible show wpAny _ _ (call (Value.ref _) [Value.bytes _ _, Value.str _ _] _) _ _ _); kfb_any; k_dflt (first | (refine' from_bytes (sg := none) ?zqo ?zql ?zqk ?_; (case zqo => first | exact KFB.at_of (by k_asm) (by k_mem)); (case zql => omega); (case zqk => rfl); intro _ _) | (refine' from_bytes (sg := some _) ?zqo ?zql ?zqk ?_; (case zqo => first | exact KFB.at_of (by k_asm) (by k_mem)); (case zql => omega); (case zqk => rfl); intro _ _))))
  (k_with "kit_dict" => (refine' kitAt_N ?zqN ?zqm ?zqc; (case zqN => k_asm); (case zqm => k_mem); (case zqc => exact isDict_cls (by k_asm))))
  (k_with "!exec For Tuple Call cons nil" => (k_here; (rename Fr _ _ _ _ => lF'); (rename News _ _ _ _ => lN'); with_unfolding_all ((refine' For_turns lF' ?_); k_whole; (refine MethodCall_ ?_); (refine ld lF' (by rfl) ?_); (refine getMethod_dictL PySem.F.slot_dict_items PySem.F.type_dict_items lN' (by k_mem) (by k_asm) ?_); (refine callWith_method0 ?_); (refine call_items_dictL (by k_asm) (by k_mem) (by k_asm) lF' lN' ?_); intro h' o' vw' hv' F' N'; (replace N' := kti_tail N'); (refine items_any (by rfl) (by rfl) F' N' hv' (by k_asm) (by k_mem) ?_)); clear lF' lN'; intro i' l1; (try k_lt l1); (dsimp only [pairsI, List.map])))
  (k_with "!UnrEndW" => (k_here; refine' unr_end ?zqN ?zqF ?zqoff ⟨And.intro ?zqmm trivial, ?_⟩; (case zqN => k_asm); (case zqF => k_asm); (case zqoff => (repeat (refine forall_cons (Nat.ne_of_lt (by assumption)) ?_)); k_all); (case zqmm => k_mem)))
  (k_with "!getMethod bytes" => (k_here; (with_reducible refine method_join ?_)))
  (k_with "!call builtin:bytes.join" => (k_here; (with_reducible show wpAny _ _ (call (Value.builtin "bytes.join") [Value.bytes _ _, Value.ref _]) _ _ _); (first | refine bytes_join1 (by is_list) (by (try simp only [Array.size_append, List.size_toArray, byteArr_size, octs_size, leb_length, List.length_append, List.length_cons, List.length_nil, List.length_map]); omega) ?_ ); intro _ _))
  trivial
theorem nameV : NameOk "v" [118] := by constructor <;> decide +kernel
def encV (l : List UInt8) : List UInt8 := (l.length + 13).toUInt8 :: 0 :: 0 :: 0 :: 5 :: 118 :: 0 :: l.length.toUInt8 :: 0 :: 0 :: 0 :: 9 :: (l ++ [0])
theorem enc_eq {x : Array UInt8} (h : x.size ≤ 100) : (leb (3 + 1) ((↑(0 + 1 + (0 + 1 + 1) + (4 + (0 + 1)) + x.size) : Int) + 5)).toArray ++ (#[5] ++ #[118, 0] ++ (leb 4 ↑x.size ++ [(Int.toNat 9).toUInt8]).toArray ++ x) ++ #[0] = (encV x.toList).toArray := by
  rw [leb4_small (v := (x.size : Int)) (by omega) (by omega), show leb (3 + 1) ((↑(0 + 1 + (0 + 1 + 1) + (4 + (0 + 1)) + x.size) : Int) + 5) = _ from leb4_small (by omega) (by omega)]
  have e : ((↑(0 + 1 + (0 + 1 + 1) + (4 + (0 + 1)) + x.size) : Int) + 5).toNat = x.size + 13 := by omega
  rw [e]
  apply Array.toList_inj.mp
  simp [encV]
section
variable {w : World} {dp un : Nat} {gd : Option (List Code)} {cn : Str} {cs : Scope} {a : Addr} {ccd : Value} {cl : List (Str × Addr)} {outer : List Env} {A₀ : Around} {base h₀ : Heap} {L : Addr} {m : Str → Option Value} {s : Shared} {R : Result → Shared → Prop}
  {loose : List Str} {mean : ExcName → Option Value} {mg mb : Str → Option Value} {news : List (Addr × Obj)} {xB dB d : Addr} {oD : Obj} {ta tb tc td : Tok} {x : Array UInt8}
  (B : Below A₀ base outer h₀) (F : Fr h₀ L s.heap m) (X : (K0 w.params).In h₀) (N : News h₀ L s.heap ((d, oD) :: (xB, instObj 223 dB) :: (dB, dictOf [⟨PyData.keyHash w.params "data", .str "data" ta, .bytes x tb⟩, ⟨PyData.keyHash w.params "_subtype", .str "_subtype" tc, .int 9 td⟩] 2) :: news)) (T : Top q1 loose mean mg mb h₀) (hk : cs.kind = .function)
  (h1 : dp + 24 < recursionLimit) (h2 : un + 240 < cLine)
include B F X N T hk h1 h2
theorem c_enc (hx : x.size ≤ 100) (hd : oD.IsDictOf (PySem.strKind P1 w) [("v", .ref xB)]) (lo : (d == sysModules) = false)
  (ret : ∀ (t' : Tok) (h' : Heap) (tk' : Nat), Fr h₀ L h' m → News h₀ L h' ((d, oD) :: (xB, instObj 223 dB) :: (dB, dictOf [⟨PyData.keyHash w.params "data", .str "data" ta, .bytes x tb⟩, ⟨PyData.keyHash w.params "_subtype", .str "_subtype" tc, .int 9 td⟩] 2) :: news) → R (.ok (.ret (.bytes (encV x.toList).toArray t'))) { s with heap := h', toks := tk' }) :
  codeAny (model P1 w) (ktrTop dp un gd cn cs L a ccd cl outer) (.call (.ref 1518) ⟨[.ref d], []⟩) R s := by
  have hV := nameV
  have D0 : KtsDicts [] h₀ := ktsDicts_nil
  k_dflt cell_enter
  conv in (bdy _) => whnf
  k_steps
  rw [enc_eq hx]
  all_goals (refine' ret _ _ _ ?kf ?kn; (case kf => k_asm); (case kn => ktr_rel))
end
end Mine
end
section
namespace Mine
theorem wdC3r0 : True := by
  k_with_none
  (k_with "!eval Call" => first | (k_here; (with_reducible show wpAny _ _ (eval (Expr.Call _ _ [] _) _) _ _ _); k_dflt (refine Call_ ?_)))
  (k_with "!exec Raise some none" => first | (k_here; (with_reducible show wpAny _ _ (exec (Stmt.Raise (some (Expr.Call (Expr.Name (PySem.Str.ofString "ValueError") _) _ _ _)) none _) _) _ _ _); k_dflt (refine Raise_new rfl ?_)) | (k_here; (with_reducible show wpAny _ _ (exec (Stmt.Raise (some (Expr.Call (Expr.Name (PySem.Str.ofString "TypeError") _) _ _ _)) none _) _) _ _ _); k_dflt (refine Raise_new rfl ?_)))
  (k_with "!leaving ref" => first | (k_here; (with_reducible rename KtsDicts _ _ => kdX); k_dflt (first | (refine' leave_raiseS ?zqk1 ?zqk0 ?zqk2 ?zqk3 ?_; (case zqk0 => first | assumption | exact Heap.MadeExc.of (by assumption)); (case zqk2 => assumption); (case zqk1 => assumption); (case zqk3 => k_asm); k_whole; intro h' t' S' R' U'; (try dsimp only at S' R' U' ⊢)) | (refine' leave_onS ?zqk1 ?zqk2 ?zqk3 ?zqk4 ?_; (case zqk3 => assumption); (case zqk2 => assumption); (case zqk1 => assumption); (case zqk4 => assumption); k_whole; intro h' S' R' U'; (try dsimp only at S' R' U' ⊢)) | (refine' leave_newS ?zqk1 ?zqk0 ?zqk2 ?zqk3 ?_; (case zqk0 => assumption); (case zqk2 => assumption); (case zqk1 => assumption); (case zqk3 => k_asm); k_whole; intro h' S' R' U'; (try dsimp only at S' R' U' ⊢)) | (refine' leave_onSN ?zqk1 ?zqk2 ?zqk3 ?zqk4 ?_; (case zqk3 => assumption); (case zqk2 => assumption); (case zqk1 => assumption); (case zqk4 => assumption); k_whole; intro h' S' R' U'; (try dsimp only at S' R' U' ⊢)))))
  (k_with "!eval Name" => first | (k_here; (first | (with_reducible show wpAny _ _ (eval (Expr.Name _ _) (envOf _ _ _ _ _)) _ _ _) | (with_reducible show wpAny _ _ (eval (Expr.Name _ _) (envOfC _ _ _ _ _)) _ _ _)); k_dflt (first | (refine' nameX_L ?zqF ?zqv ?_ ?zqa ?zqb; (case zqF => k_asm); (case zqv => rfl); (case zqa => rfl); (case zqb => kernel_rfl); k_whole) | (refine' nameX_K ?zqF ?zqX ?zqT ?zqe ?_ ?zqa ?zqb; (case zqT => k_asm); (case zqX => k_asm); (case zqF => k_asm); (case zqe => k_is); (case zqa => rfl); (case zqb => kernel_rfl); k_whole) | (refine' nameX_B ?zqF ?zqX ?zqT ?zqe ?zqv ?zqn ?_ ?zqa ?zqb; (case zqT => k_asm); (case zqX => k_asm); (case zqF => k_asm); (case zqe => k_is); (case zqv => boot_fast); (case zqn => decide); (case zqa => rfl); (case zqb => kernel_rfl); k_whole))))
  (k_with "k_mem" => (assumption))
  (k_with "k_room" => (ktr_room))
  (k_with "k_units" => (ktr_units))
  (k_with "ktr_rel" => (first | k_asm | (refine' cb_drop ?zqcbN ?zqcbS; (case zqcbN => k_asm); (case zqcbS => (repeat (first | (intro p hp; (repeat (first | exact hp | exact List.mem_append_left _ hp | apply List.mem_cons_of_mem)); done) | (refine' sub_cons ?_ ?_; focus k_mem)))))))
  (k_with "k_lt?" => skip)
  (k_with "k_all" => (first | (refine all_ne_of ?_; assumption) | exact fun p hp => Nat.ne_of_lt ((by assumption : ∀ p ∈ _, p.1 < _) p hp)))
  (k_with "!call type:bytes" => first | (k_here; (with_reducible show wpAny _ _ (call (Value.type "bytes") [Value.bytes _ _]) _ _ _); refine bytes_id ?_) | (k_here; (with_reducible show wpAny _ _ (call (Value.type "bytes") [Value.ref _]) _ _ _); k_dflt (refine' bytes_L ?zqbF ?zqbN ?zqbh ?zqbl ?zqbi ?zqbr ?zqbz ?_; (case zqbF => k_asm); (case zqbN => k_asm); (case zqbh => rfl); (case zqbl => is_list); (case zqbi => assumption); (case zqbr => (first | (subst_vars; rw [List.map_id']; exact in_255 (by assumption)) | exact in_map256 | (subst_vars; exact in_map256) | exact in_255 (by assumption) | assumption)); (case zqbz => (simp_all; omega))); intro _ _ _ F' N'))
  (k_with "!binaryOp Add bytes bytes" => first | (k_here; (with_reducible show wpAny _ _ (binaryOp Operator.Add (Value.bytes _ _) (Value.bytes _ _)) _ _ _); (refine KBy.add_bytes (by (try simp only [Array.size_append, List.size_toArray, byteArr_size, octs_size, leb_length, List.length_append, List.length_cons, List.length_nil, List.length_map]); omega) ?_); intro _ _) | (k_here; (with_reducible show wpAny _ _ (binaryOp Operator.Add (Value.bytes _ _) (Value.bytes _ _)) _ _ _); (refine KBy.add_bytes (by (try simp only [Array.size_append, List.size_toArray, byteArr_size, octs_size, List.length_cons, List.length_nil, List.length_map]); omega) ?_); intro _ _))
  (k_with "cell_enter" => (refine' code_def ?zqk1 ?zqk2 ?zqk3 ?zqk4 ?zqk5 ?zqkA ?zqkF ?zqkK ?zqk6 ?zqk7 ?zqk8 ?zqk9 ?zqkB ?_ ?zqc2 ?zqc3 ?zqc4 ?zqc5; (case zqkA => exact rfl); (case zqkF => exact rfl); (case zqkK => assumption); (case zqk1 => k_asm); (case zqk2 => k_asm); (case zqk3 => k_asm); (case zqk4 => k_asm); (case zqk5 => k_asm); (case zqk6 => k_is); (case zqk7 => k_is); (case zqk8 => ktr_room); (case zqk9 => first | exact BindsTo.of_eq rfl | exact binds_K (by k_in) rfl (by k_is) rfl rfl rfl); (case zqc5 => decide); (case zqkB => exact locs rfl); (case zqc2 => exact rfl); (case zqc3 => exact rfl); (case zqc4 => exact rfl); k_whole; intro g' L' h' FG' F' N' B' X' T'; (try dsimp only); (try k_lift B'); (try k_fold)))
  (k_with "!compareOp NotIn" => first | (k_here; (with_reducible show wpAny _ _ (compareOp CmpOp.NotIn (Value.int _ _) (Value.ref _)) _ _ _); k_dflt (refine' notin_int_bytes ?zqt ?zqh ?_; (case zqt => exact isTup_of (by k_asm) (by k_mem)); (case zqh => rfl))) | (k_here; (with_reducible show wpAny _ _ (compareOp CmpOp.NotIn (Value.bytes _ _) (Value.ref _)) _ _ _); k_dflt (refine' notin_bytes ?zqt ?zqh ?zqe ?_; (case zqt => exact isTup_of (by k_asm) (by k_mem)); (case zqh => rfl); (case zqe => first | exact (rfl : _ = false) | exact (rfl : _ = true)))))
  (k_with "!binaryOp BitAnd int int" => (k_here; (with_reducible refine and_lowT (by omega) ?_); intro _ _ _ vE))
  (k_with "!subscriptTail" => first | (k_here; (with_reducible show wpAny _ _ (subscriptTail _ (Expr.Slice _ _ none _) (Value.bytes _ _) (Value.ref _)) _ _ _); (with_reducible rename Fr _ _ _ _ => F'); (with_reducible rename News _ _ _ _ => N'); (refine slice_BV (s := ⟨_, _, _, _, _⟩) F' N' (by constructor) (by constructor) (by (try simp only [Array.size_append, List.size_toArray, octs_size, List.length_cons, List.length_nil, List.length_append]); omega) (by first | assumption | exact rfl) ?_); intro _ _ _ _ _) | (k_here; (with_reducible show wpAny _ _ (subscriptTail _ _ (Value.bytes _ _) (Value.int _ _)) _ _ _); (refine item_at (by omega) (by omega) (by omega) ?_); intro _ _) | (k_here; (with_reducible show wpAny _ _ (subscriptTail _ _ (Value.bytes (List.toArray _) _) (Value.int _ _)) _ _ _); (refine item_octet (by decide) rfl (by (try simp only [List.length_cons, List.length_nil, List.length_append]); omega) ?_); intro _ _) | (k_here; (with_reducible show wpAny _ _ (subscriptTail _ (Expr.Slice _ _ none _) (Value.bytes _ _) (Value.ref _)) _ _ _); (with_reducible rename Fr _ _ _ _ => F'); (with_reducible rename News _ _ _ _ => N'); (refine slice_BV (s := ⟨_, _, _, _, _⟩) F' N' (by constructor) (by constructor) (by (try simp only [Array.size_append, List.size_toArray, octs_size, List.length_cons, List.length_nil, List.length_append]); omega) (by first | exact picked_drop2 _ _ _ | exact picked_01 _ _ _) ?_); intro _ _ _ _ _) | (k_here; (with_reducible show wpAny _ _ (subscriptTail _ _ (Value.bytes _ _) (Value.int (-1) _)) _ _ _); (refine last_octet (by (try simp only [octs_size]); omega) (by (try simp only [octs_size]); omega) ?_); intro _ _ _ lO _ _))
  (k_with "!ite" => first | (k_closed; k_dflt (first | refine PySem.W.ite_pos (by decide) ?_ | refine PySem.W.ite_neg (by decide) ?_)) | (first | refine PySem.W.ite_neg (by (try simp only [bne_iff_ne, ne_eq, beq_iff_eq, decide_eq_true_eq, Bool.not_eq_true', bne_eq_false_iff_eq, beq_eq_false_iff_ne]); omega) ?_ | refine PySem.W.ite_pos (by (try simp only [bne_iff_ne, ne_eq, beq_iff_eq, decide_eq_true_eq]); omega) ?_))
  (k_with "!execs cons" => (k_here; dsimp only))
  (k_with "!execs nil" => (k_here; dsimp only))
  (k_with "!truthy bytes" => (k_here; (refine truthy_bytesV (v := true) (by (try simp only [Array.size_append, List.size_toArray, octs_size, List.length_cons, List.length_nil]); omega) rfl ?_)))
  (k_with "!call builtin:len" => first | (k_here; (with_reducible show wpAny _ _ (call (Value.builtin "len") [Value.bytes _ _]) _ _ _); (refine len_bytesV (by (try simp only [Array.size_append, List.size_toArray, octs_size, List.length_cons, List.length_nil, List.length_append]); omega) rfl ?_); intro _ _) | (k_here; (with_reducible show wpAny _ _ (call (Value.builtin "len") [Value.bytes (List.toArray _) _]) _ _ _); (refine len_bytesV (by first | assumption | omega) rfl ?_); intro _ _) | (k_here; (with_reducible show wpAny _ _ (call (Value.builtin "len") [Value.bytes _ _]) _ _ _); (refine len_bytesV (by (try simp only [Array.size_append, List.size_toArray, octs_size, leb_length, List.length_cons, List.length_nil, List.length_append]); omega) (by simp only [Array.size_append, List.size_toArray, octs_size, leb_length, List.length_cons, List.length_nil, List.length_append]; rfl) ?_); intro _ _) | (k_here; (with_reducible show wpAny _ _ (call (Value.builtin "len") [Value.bytes _ _]) _ _ _); (refine len_bytesV (by (try simp only [Array.size_append, List.size_toArray, octs_size, List.length_cons, List.length_nil, List.length_append]); omega) (by simp only [Array.size_append, List.size_toArray, octs_size, List.length_cons, List.length_nil, List.length_append]; rfl) ?_); intro _ _))
  (k_with "!exec For Name Subscript cons nil" => (k_here; (rename Fr _ _ _ _ => lF'); (with_unfolding_all refine' For_invVF lF' ?zqk1 ?zqk2 ?_; (case zqk1 => exact rfl); (case zqk2 => exact rfl); k_whole)))
  (k_with "!callWith builtin:int.to_bytes" => (k_here; refine callWith_kwM ?_))
  (k_with "!callWith ref" => (k_here; (with_reducible show wpAny _ _ (callWith _ (Value.ref _) _ (backTo _ (starEach (_ :: _) _)) (backToKw _ (keywordEach (_ :: _) _))) _ _ _); kfb_any; k_dflt (refine callWith_fbKw ?_)))
  (k_with "!call builtin:int.to_bytes" => (k_here; (try dsimp only [backToKw, keywordEach, List.filterMap, List.map, List.zip, List.zipWith]); k_dflt (first | ((with_reducible show wpAny _ _ (call _ _ (_ :: _)) _ _ _); first | (refine' to_bytes_s (k := 3) ?zqz ?zqa ?zqb ?_; (case zqz => decide); (case zqa => omega); (case zqb => omega); intro _ _) | (refine' to_bytes_s (k := 7) ?zqz ?zqa ?zqb ?_; (case zqz => decide); (case zqa => omega); (case zqb => omega); intro _ _)) | (refine' to_bytes_u (k := 8) ?zqz ?zqa ?zqb ?_; (case zqz => decide); (case zqa => omega); (case zqb => omega); intro _ _) | (refine' to_bytes_u (k := 16) ?zqz ?zqa ?zqb ?_; (case zqz => decide); (case zqa => omega); (case zqb => omega); intro _ _) | (refine' to_bytes_u (k := 4) ?zqz ?zqa ?zqb ?_; (case zqz => decide); (case zqa => omega); (case zqb => omega); intro _ _))))
  (k_with "!call ref" => first | (k_here; (try dsimp only [List.cons_append, List.nil_append]); (with_reducible show wpAny _ _ (call (Value.ref 1176) [Value.bytes _ _, Value.bytes _ _, Value.int _ _, Value.ref _] _) _ _ _); k_dflt ((refine wpAny_call ?_); (refine' c_cstr ?zqcB ?zqcF ?zqcX ?zqcN ?zqcT ?zqck ?zqcd ?zqcu ?zqhT ?_); (case zqcN => k_asm); (case zqcB => k_asm); (case zqcF => k_asm); (case zqcX => k_asm); (case zqcT => k_asm); (case zqck => first | exact rfl | assumption); (case zqcd => ktr_room); (case zqcu => ktr_units); (case zqhT => assumption); intro T' tA' tB' h' tk' F' N'; (try dsimp only); (try k_sweep); (try k_fold))) | (k_here; (try dsimp only [List.cons_append, List.nil_append]); (with_reducible show wpAny _ _ (call (Value.ref 1211) [Value.bytes _ _, Value.bytes _ _, Value.int _ _, Value.int _ _, Value.ref _, Value.str _ _] _) _ _ _); k_dflt ((refine wpAny_call ?_); (refine' c_getbin ?zqcB ?zqcF ?zqcX ?zqcN ?zqcT ?zqck ?zqcd ?zqcu ?zqhs ?zqhP ?zqhv ?zqhb ?zqhbb ?zqhvb ?_); (case zqcN => k_asm); (case zqcB => k_asm); (case zqcF => k_asm); (case zqcX => k_asm); (case zqcT => k_asm); (case zqck => first | exact rfl | assumption); (case zqcd => ktr_room); (case zqcu => ktr_units); (case zqhv => assumption); (case zqhb => assumption); (case zqhs => omega); (case zqhP => omega); (case zqhbb => omega); (case zqhvb => omega); intro T' xB' dB' tA' ta' tb' tc' td' h' tk' l1' l2' l3' F' N'; (try k_lt l1'); (try k_lt l2'); (try k_lt l3'); (try dsimp only); (try k_sweep); (try k_fold))) | (k_here; (try dsimp only [backToKw, keywordEach, List.filterMap, List.map, List.zip, List.zipWith]); (with_reducible show wpAny _ _ (call (Value.ref _) [Value.bytes _ _, Value.str _ _] _) _ _ _); kfb_any; k_dflt (first | (refine' from_bytes (sg := none) ?zqo ?zql ?zqk ?_; (case zqo => first | exact KFB.at_of (by k_asm) (by k_mem)); (case zql => first | omega | (refine Nat.le_trans (KBc.size_picked_le _ _ _) ?_; omega)); (case zqk => rfl); intro _ _) | (refine' from_bytes (sg := some _) ?zqo ?zql ?zqk ?_; (case zqo => first | exact KFB.at_of (by k_asm) (by k_mem)); (case zql => first | omega | (refine Nat.le_trans (KBc.size_picked_le _ _ _) ?_; omega)); (case zqk => rfl); intro _ _))) | (k_here; (with_reducible show wpAny _ _ (call (Value.ref _) [Value.bytes _ _, Value.str _ _] _) _ _ _); kfb_any; k_dflt (first | (refine' from_bytes (sg := none) ?zqo ?zql ?zqk ?_; (case zqo => first | exact KFB.at_of (by k_asm) (by k_mem)); (case zql => omega); (case zqk => rfl); intro _ _) | (refine' from_bytes (sg := some _) ?zqo ?zql ?zqk ?_; (case zqo => first | exact KFB.at_of (by k_asm) (by k_mem)); (case zql => omega); (case zqk => rfl); intro _ _))))
  (k_with "!call builtin:bytes.decode" => (k_here; (with_reducible show wpAny _ _ (call (Value.builtin "bytes.decode") [Value.bytes _ _, Value.str _ _]) _ _ _); (refine bytes_decode2 rfl (by assumption) (by omega) ?_); intro _ _))
  (k_with "!compareOp In int ref" => (k_here; (with_reducible show wpAny _ _ (compareOp CmpOp.In (Value.int _ _) (Value.ref _)) _ _ _); k_dflt (first | (refine' in_KI (v := false) ?zqX ?zql ?zqi ?zqe ?_; (case zqX => k_in); (case zql => k_is); (case zqi => (repeat constructor)); (case zqe => (simp only [List.any_cons, List.any_nil, Bool.or_false, Bool.or_eq_false_iff, beq_eq_false_iff_ne, ne_eq]; omega))) | (refine' in_KI (v := true) ?zqX ?zql ?zqi ?zqe ?_; (case zqX => k_in); (case zql => k_is); (case zqi => (repeat constructor)); (case zqe => (simp only [List.any_cons, List.any_nil, Bool.or_false, Bool.or_eq_true, beq_iff_eq]; omega))))))
  trivial
section
variable {w : World} {dp un : Nat} {gd : Option (List Code)} {cn : Str} {cs : Scope} {a : Addr} {ccd : Value} {cl : List (Str × Addr)} {outer : List Env} {A₀ : Around} {base h₀ : Heap} {L : Addr} {m : Str → Option Value} {s : Shared} {R : Result → Shared → Prop}
  {loose : List Str} {mean : ExcName → Option Value} {mg mb : Str → Option Value} {news : List (Addr × Obj)} {d : Array UInt8} {P e v b oe : Int} {k : Str}
  (B : Below A₀ base outer h₀) (F : Fr h₀ L s.heap m) (X : (K0 w.params).In h₀) (N : News h₀ L s.heap news) (T : Top q1 loose mean mg mb h₀) (hk : cs.kind = .function)
  (h1 : dp + 24 < recursionLimit) (h2 : un + 240 < cLine)
include B F X N T hk h1 h2
theorem c_elt {t t2 u u2 : Tok} (hs : d.size ≤ 1000000) (h0 : 0 ≤ P ∧ P + 1 ≤ e ∧ e + 6 ≤ (d.size : Int)) (h5 : at8 d P = 5) (hT : TextAt d (P + 1) e k) (hv : sle true (KBy.picked d (some (e + 1)) (some (e + 1 + 4))).toList = v) (hb : at8 d (e + 1 + 4) = b) (hbb : 5 ≤ b ∧ b < 256) (hvb : 0 ≤ v ∧ e + 6 + v ≤ oe ∧ oe ≤ (d.size : Int))
  (ret : ∀ (T xB dB : Addr) (tA tB ta tb tc td : Tok) (h' : Heap) (tk' : Nat), (∀ p ∈ news, p.1 < T) → (∀ p ∈ news, p.1 < xB) → (∀ p ∈ news, p.1 < dB) → Fr h₀ L h' m → News h₀ L h' ((T, { cls := .type "tuple", data := .seq #[.str k tB, .ref xB, .int (e + 1 + 5 + v) tA] }) :: (xB, instObj 223 dB) :: (dB, dictOf [⟨PyData.keyHash w.params "data", .str "data" ta, .bytes (KBy.picked d (some (e + 1 + 5)) (some (e + 1 + 5 + v))) tb⟩, ⟨PyData.keyHash w.params "_subtype", .str "_subtype" tc, .int b td⟩] 2) :: news) → R (.ok (.ret (.ref T))) { s with heap := h', toks := tk' }) :
  codeAny (model P1 w) (ktrTop dp un gd cn cs L a ccd cl outer) (.call (.ref 1295) ⟨[.bytes d t, .bytes d t2, .int P u, .int oe u2, .ref 333], []⟩) R s := by
  have D0 : KtsDicts [] h₀ := ktsDicts_nil
  k_dflt cell_enter
  conv in (bdy _) => whnf
  k_steps
  all_goals first | (exfalso; omega) | skip
  all_goals (refine' ret _ _ _ _ _ _ _ _ _ _ _ ?l1 ?l2 ?l3 ?kf ?kn; (case kn => ktr_rel); (case l1 => first | exact lt_of (by assumption) | (refine' lt_of2 ?zA ?zB; (case zB => assumption); (case zA => assumption))); (case l2 => first | exact lt_of (by assumption) | (refine' lt_of2 ?zA ?zB; (case zB => assumption); (case zA => assumption))); (case l3 => first | exact lt_of (by assumption) | (refine' lt_of2 ?zA ?zB; (case zB => assumption); (case zA => assumption))); (case kf => k_asm))
end
theorem wdC3r1 : True := by
  (k_with "!call ref" => first | (k_here; (try dsimp only [List.cons_append, List.nil_append]); (with_reducible show wpAny _ _ (call (Value.ref 1295) [Value.bytes _ _, Value.bytes _ _, Value.int _ _, Value.int _ _, Value.ref _] _) _ _ _); k_dflt ((refine wpAny_call ?_); (refine' c_elt ?zqcB ?zqcF ?zqcX ?zqcN ?zqcT ?zqck ?zqcd ?zqcu ?zqhs ?zqh0 ?zqh5 ?zqhT ?zqhv ?zqhb ?zqhbb ?zqhvb ?_); (case zqcN => k_asm); (case zqcB => k_asm); (case zqcF => k_asm); (case zqcX => k_asm); (case zqcT => k_asm); (case zqck => first | exact rfl | assumption); (case zqcd => ktr_room); (case zqcu => ktr_units); (case zqh5 => assumption); (case zqhT => assumption); (case zqhv => assumption); (case zqhb => assumption); (case zqhs => omega); (case zqh0 => omega); (case zqhbb => omega); (case zqhvb => omega); intro T' xB' dB' tA' tB' ta' tb' tc' td' h' tk' l1' l2' l3' F' N'; (try k_lt l1'); (try k_lt l2'); (try k_lt l3'); (try dsimp only); (try k_sweep); (try k_fold))) | (k_here; (try dsimp only [List.cons_append, List.nil_append]); (with_reducible show wpAny _ _ (call (Value.ref 1176) [Value.bytes _ _, Value.bytes _ _, Value.int _ _, Value.ref _] _) _ _ _); k_dflt ((refine wpAny_call ?_); (refine' c_cstr ?zqcB ?zqcF ?zqcX ?zqcN ?zqcT ?zqck ?zqcd ?zqcu ?zqhT ?_); (case zqcN => k_asm); (case zqcB => k_asm); (case zqcF => k_asm); (case zqcX => k_asm); (case zqcT => k_asm); (case zqck => first | exact rfl | assumption); (case zqcd => ktr_room); (case zqcu => ktr_units); (case zqhT => assumption); intro T' tA' tB' h' tk' F' N'; (try dsimp only); (try k_sweep); (try k_fold))) | (k_here; (try dsimp only [List.cons_append, List.nil_append]); (with_reducible show wpAny _ _ (call (Value.ref 1211) [Value.bytes _ _, Value.bytes _ _, Value.int _ _, Value.int _ _, Value.ref _, Value.str _ _] _) _ _ _); k_dflt ((refine wpAny_call ?_); (refine' c_getbin ?zqcB ?zqcF ?zqcX ?zqcN ?zqcT ?zqck ?zqcd ?zqcu ?zqhs ?zqhP ?zqhv ?zqhb ?zqhbb ?zqhvb ?_); (case zqcN => k_asm); (case zqcB => k_asm); (case zqcF => k_asm); (case zqcX => k_asm); (case zqcT => k_asm); (case zqck => first | exact rfl | assumption); (case zqcd => ktr_room); (case zqcu => ktr_units); (case zqhv => assumption); (case zqhb => assumption); (case zqhs => omega); (case zqhP => omega); (case zqhbb => omega); (case zqhvb => omega); intro T' xB' dB' tA' ta' tb' tc' td' h' tk' l1' l2' l3' F' N'; (try k_lt l1'); (try k_lt l2'); (try k_lt l3'); (try dsimp only); (try k_sweep); (try k_fold))) | (k_here; (try dsimp only [backToKw, keywordEach, List.filterMap, List.map, List.zip, List.zipWith]); (with_reducible show wpAny _ _ (call (Value.ref _) [Value.bytes _ _, Value.str _ _] _) _ _ _); kfb_any; k_dflt (first | (refine' from_bytes (sg := none) ?zqo ?zql ?zqk ?_; (case zqo => first | exact KFB.at_of (by k_asm) (by k_mem)); (case zql => first | omega | (refine Nat.le_trans (KBc.size_picked_le _ _ _) ?_; omega)); (case zqk => rfl); intro _ _) | (refine' from_bytes (sg := some _) ?zqo ?zql ?zqk ?_; (case zqo => first | exact KFB.at_of (by k_asm) (by k_mem)); (case zql => first | omega | (refine Nat.le_trans (KBc.size_picked_le _ _ _) ?_; omega)); (case zqk => rfl); intro _ _))) | (k_here; (with_reducible show wpAny _ _ (call (Value.ref _) [Value.bytes _ _, Value.str _ _] _) _ _ _); kfb_any; k_dflt (first | (refine' from_bytes (sg := none) ?zqo ?zql ?zqk ?_; (case zqo => first | exact KFB.at_of (by k_asm) (by k_mem)); (case zql => omega); (case zqk => rfl); intro _ _) | (refine' from_bytes (sg := some _) ?zqo ?zql ?zqk ?_; (case zqo => first | exact KFB.at_of (by k_asm) (by k_mem)); (case zql => omega); (case zqk => rfl); intro _ _))))
  (k_with "!exec While Compare cons nil" => (k_here; k_dflt (refine whl_start 100 ?_)))
  (k_with "!WhlIf" => (first | (refine WhlIf.yes (by (try simp only [decide_eq_true_eq]); omega) ?_) | (refine WhlIf.no (by (try simp only [decide_eq_false_iff_not]); omega) ?_)))
  (k_with "!setItem ref str" => (k_here; k_dflt (refine' kda_set (knd := PySem.strKind _ _) ?zqF ?zqN ?zqU ?zqd (strKind_is _ _ _ _) ?zqz ?_; (case zqF => k_asm); (case zqN => k_asm); (case zqU => k_updF); (case zqd => k_asm); (case zqz => rw [sizeLine_eq]; exact Nat.le_of_ble_eq_true (by with_unfolding_all rfl))); intro h' o' F' N' hd'; (try dsimp only at N')))
  trivial
section
variable {w : World} {dp un : Nat} {gd : Option (List Code)} {cn : Str} {cs : Scope} {a : Addr} {ccd : Value} {cl : List (Str × Addr)} {outer : List Env} {A₀ : Around} {base h₀ : Heap} {L : Addr} {m : Str → Option Value} {s : Shared} {R : Result → Shared → Prop}
  {loose : List Str} {mean : ExcName → Option Value} {mg mb : Str → Option Value} {news : List (Addr × Obj)} {d : Array UInt8} {P e v b oe : Int}
  (B : Below A₀ base outer h₀) (F : Fr h₀ L s.heap m) (X : (K0 w.params).In h₀) (N : News h₀ L s.heap news) (T : Top q1 loose mean mg mb h₀) (hk : cs.kind = .function)
  (h1 : dp + 28 < recursionLimit) (h2 : un + 280 < cLine)
include B F X N T hk h1 h2
theorem c_elts {t t2 u u2 : Tok} (hs : d.size ≤ 1000000) (h0 : 0 ≤ P ∧ P + 1 ≤ e ∧ e + 6 ≤ (d.size : Int)) (h5 : at8 d P = 5) (hT : TextAt d (P + 1) e (Str.ofString "v")) (hv : sle true (KBy.picked d (some (e + 1)) (some (e + 1 + 4))).toList = v) (hb : at8 d (e + 1 + 4) = b) (hbb : 5 ≤ b ∧ b < 256) (hvb : 0 ≤ v ∧ e + 6 + v = oe ∧ oe + 1 = (d.size : Int))
  (ret : ∀ (D xB dB : Addr) (oD : Obj) (ta tb tc td : Tok) (h' : Heap) (tk' : Nat), oD.IsDictOf (PySem.strKind P1 w) [(Str.ofString "v", .ref xB)] → (D == sysModules) = false → Fr h₀ L h' m → News h₀ L h' ((D, oD) :: (xB, instObj 223 dB) :: (dB, dictOf [⟨PyData.keyHash w.params "data", .str "data" ta, .bytes (KBy.picked d (some (e + 1 + 5)) (some (e + 1 + 5 + v))) tb⟩, ⟨PyData.keyHash w.params "_subtype", .str "_subtype" tc, .int b td⟩] 2) :: news) → R (.ok (.ret (.ref D))) { s with heap := h', toks := tk' }) :
  codeAny (model P1 w) (ktrTop dp un gd cn cs L a ccd cl outer) (.call (.ref 1302) ⟨[.bytes d t, .bytes d t2, .int P u, .int oe u2, .ref 333], []⟩) R s := by
  have D0 : KtsDicts [] h₀ := ktsDicts_nil
  k_dflt cell_enter
  conv in (bdy _) => whnf
  k_steps
  all_goals (refine' ret _ _ _ _ _ _ _ _ _ _ ?dd ?lo ?kf ?kn; (case kn => ktr_rel); (case dd => assumption); (case lo => assumption); (case kf => k_asm))
end
theorem wdC3r2 : True := by
  (k_with "!call ref" => first | (k_here; (try dsimp only [List.cons_append, List.nil_append]); (with_reducible show wpAny _ _ (call (Value.ref 1302) [Value.bytes _ _, Value.bytes _ _, Value.int _ _, Value.int _ _, Value.ref _] _) _ _ _); k_dflt ((refine wpAny_call ?_); (refine' c_elts ?zqcB ?zqcF ?zqcX ?zqcN ?zqcT ?zqck ?zqcd ?zqcu ?zqhs ?zqh0 ?zqh5 ?zqhT ?zqhv ?zqhb ?zqhbb ?zqhvb ?_); (case zqcN => k_asm); (case zqcB => k_asm); (case zqcF => k_asm); (case zqcX => k_asm); (case zqcT => k_asm); (case zqck => first | exact rfl | assumption); (case zqcd => ktr_room); (case zqcu => ktr_units); (case zqh5 => assumption); (case zqhT => assumption); (case zqhv => assumption); (case zqhb => assumption); (case zqhs => omega); (case zqh0 => omega); (case zqhbb => omega); (case zqhvb => omega); intro D' xB' dB' oD' ta' tb' tc' td' h' tk' hd' lo' F' N'; (try dsimp only); (try k_sweep); (try k_fold))) | (k_here; (try dsimp only [List.cons_append, List.nil_append]); (with_reducible show wpAny _ _ (call (Value.ref 1190) [Value.bytes _ _, Value.int _ _, Value.int _ _] _) _ _ _); k_dflt ((refine wpAny_call ?_); (refine' c_gsize ?zqcB ?zqcF ?zqcX ?zqcN ?zqcT ?zqck ?zqcd ?zqcu ?zqhs ?zqhP ?zqhv ?zqhvb ?zqhoe ?zqh0 ?zqhz ?_); (case zqcN => k_asm); (case zqcB => k_asm); (case zqcF => k_asm); (case zqcX => k_asm); (case zqcT => k_asm); (case zqck => first | exact rfl | assumption); (case zqcd => ktr_room); (case zqcu => ktr_units); (case zqhv => assumption); (case zqhs => omega); (case zqhP => omega); (case zqhvb => omega); (case zqhoe => omega); (case zqh0 => omega); (case zqhz => first | assumption | omega); intro T' tA' tB' h' tk' F' N'; (try dsimp only); (try k_sweep); (try k_fold))) | (k_here; (try dsimp only [List.cons_append, List.nil_append]); (with_reducible show wpAny _ _ (call (Value.ref 1295) [Value.bytes _ _, Value.bytes _ _, Value.int _ _, Value.int _ _, Value.ref _] _) _ _ _); k_dflt ((refine wpAny_call ?_); (refine' c_elt ?zqcB ?zqcF ?zqcX ?zqcN ?zqcT ?zqck ?zqcd ?zqcu ?zqhs ?zqh0 ?zqh5 ?zqhT ?zqhv ?zqhb ?zqhbb ?zqhvb ?_); (case zqcN => k_asm); (case zqcB => k_asm); (case zqcF => k_asm); (case zqcX => k_asm); (case zqcT => k_asm); (case zqck => first | exact rfl | assumption); (case zqcd => ktr_room); (case zqcu => ktr_units); (case zqh5 => assumption); (case zqhT => assumption); (case zqhv => assumption); (case zqhb => assumption); (case zqhs => omega); (case zqh0 => omega); (case zqhbb => omega); (case zqhvb => omega); intro T' xB' dB' tA' tB' ta' tb' tc' td' h' tk' l1' l2' l3' F' N'; (try k_lt l1'); (try k_lt l2'); (try k_lt l3'); (try dsimp only); (try k_sweep); (try k_fold))) | (k_here; (try dsimp only [List.cons_append, List.nil_append]); (with_reducible show wpAny _ _ (call (Value.ref 1176) [Value.bytes _ _, Value.bytes _ _, Value.int _ _, Value.ref _] _) _ _ _); k_dflt ((refine wpAny_call ?_); (refine' c_cstr ?zqcB ?zqcF ?zqcX ?zqcN ?zqcT ?zqck ?zqcd ?zqcu ?zqhT ?_); (case zqcN => k_asm); (case zqcB => k_asm); (case zqcF => k_asm); (case zqcX => k_asm); (case zqcT => k_asm); (case zqck => first | exact rfl | assumption); (case zqcd => ktr_room); (case zqcu => ktr_units); (case zqhT => assumption); intro T' tA' tB' h' tk' F' N'; (try dsimp only); (try k_sweep); (try k_fold))) | (k_here; (try dsimp only [List.cons_append, List.nil_append]); (with_reducible show wpAny _ _ (call (Value.ref 1211) [Value.bytes _ _, Value.bytes _ _, Value.int _ _, Value.int _ _, Value.ref _, Value.str _ _] _) _ _ _); k_dflt ((refine wpAny_call ?_); (refine' c_getbin ?zqcB ?zqcF ?zqcX ?zqcN ?zqcT ?zqck ?zqcd ?zqcu ?zqhs ?zqhP ?zqhv ?zqhb ?zqhbb ?zqhvb ?_); (case zqcN => k_asm); (case zqcB => k_asm); (case zqcF => k_asm); (case zqcX => k_asm); (case zqcT => k_asm); (case zqck => first | exact rfl | assumption); (case zqcd => ktr_room); (case zqcu => ktr_units); (case zqhv => assumption); (case zqhb => assumption); (case zqhs => omega); (case zqhP => omega); (case zqhbb => omega); (case zqhvb => omega); intro T' xB' dB' tA' ta' tb' tc' td' h' tk' l1' l2' l3' F' N'; (try k_lt l1'); (try k_lt l2'); (try k_lt l3'); (try dsimp only); (try k_sweep); (try k_fold))) | (k_here; (try dsimp only [backToKw, keywordEach, List.filterMap, List.map, List.zip, List.zipWith]); (with_reducible show wpAny _ _ (call (Value.ref _) [Value.bytes _ _, Value.str _ _] _) _ _ _); kfb_any; k_dflt (first | (refine' from_bytes (sg := none) ?zqo ?zql ?zqk ?_; (case zqo => first | exact KFB.at_of (by k_asm) (by k_mem)); (case zql => first | omega | (refine Nat.le_trans (KBc.size_picked_le _ _ _) ?_; omega)); (case zqk => rfl); intro _ _) | (refine' from_bytes (sg := some _) ?zqo ?zql ?zqk ?_; (case zqo => first | exact KFB.at_of (by k_asm) (by k_mem)); (case zql => first | omega | (refine Nat.le_trans (KBc.size_picked_le _ _ _) ?_; omega)); (case zqk => rfl); intro _ _))) | (k_here; (with_reducible show wpAny _ _ (call (Value.ref _) [Value.bytes _ _, Value.str _ _] _) _ _ _); kfb_any; k_dflt (first | (refine' from_bytes (sg := none) ?zqo ?zql ?zqk ?_; (case zqo => first | exact KFB.at_of (by k_asm) (by k_mem)); (case zql => omega); (case zqk => rfl); intro _ _) | (refine' from_bytes (sg := some _) ?zqo ?zql ?zqk ?_; (case zqo => first | exact KFB.at_of (by k_asm) (by k_mem)); (case zql => omega); (case zqk => rfl); intro _ _))))
  trivial
section
variable {w : World} {dp un : Nat} {gd : Option (List Code)} {cn : Str} {cs : Scope} {a : Addr} {ccd : Value} {cl : List (Str × Addr)} {outer : List Env} {A₀ : Around} {base h₀ : Heap} {L : Addr} {m : Str → Option Value} {s : Shared} {R : Result → Shared → Prop}
  {loose : List Str} {mean : ExcName → Option Value} {mg mb : Str → Option Value} {news : List (Addr × Obj)} {d : Array UInt8} {e v b : Int}
  (B : Below A₀ base outer h₀) (F : Fr h₀ L s.heap m) (X : (K0 w.params).In h₀) (N : News h₀ L s.heap news) (T : Top q1 loose mean mg mb h₀) (hk : cs.kind = .function)
  (h1 : dp + 36 < recursionLimit) (h2 : un + 360 < cLine)
include B F X N T hk h1 h2
theorem c_dec {t : Tok} (hs : d.size ≤ 1000000) (h0 : 0 ≤ 4 ∧ 4 + 1 ≤ e ∧ e + 6 ≤ (d.size : Int)) (h5 : at8 d 4 = 5) (hT : TextAt d (4 + 1) e (Str.ofString "v")) (hv : sle true (KBy.picked d (some (e + 1)) (some (e + 1 + 4))).toList = v) (hb : at8 d (e + 1 + 4) = b) (hbb : 5 ≤ b ∧ b < 256) (hvb : 0 ≤ v ∧ e + 7 + v = (d.size : Int)) (hv0 : sle true (KBy.picked d (some 0) (some (0 + 4))).toList = (d.size : Int)) (hz : at8 d (0 + (d.size : Int) - 1) = 0)
  (ret : ∀ (D xB dB : Addr) (oD : Obj) (ta tb tc td : Tok) (h' : Heap) (tk' : Nat), oD.IsDictOf (PySem.strKind P1 w) [(Str.ofString "v", .ref xB)] → (D == sysModules) = false → Fr h₀ L h' m → News h₀ L h' ((D, oD) :: (xB, instObj 223 dB) :: (dB, dictOf [⟨PyData.keyHash w.params "data", .str "data" ta, .bytes (KBy.picked d (some (e + 1 + 5)) (some (e + 1 + 5 + v))) tb⟩, ⟨PyData.keyHash w.params "_subtype", .str "_subtype" tc, .int b td⟩] 2) :: news) → R (.ok (.ret (.ref D))) { s with heap := h', toks := tk' }) :
  codeAny (model P1 w) (ktrTop dp un gd cn cs L a ccd cl outer) (.call (.ref 1526) ⟨[.bytes d t], []⟩) R s := by
  have D0 : KtsDicts [] h₀ := ktsDicts_nil
  k_dflt cell_enter
  conv in (bdy _) => whnf
  k_steps
  all_goals (refine' ret _ _ _ _ _ _ _ _ _ _ ?dd ?lo ?kf ?kn; (case kn => ktr_rel); (case dd => assumption); (case lo => assumption); (case kf => k_asm))
end
theorem encV_len (l : List UInt8) : (encV l).length = l.length + 13 := by simp [encV]
structure EncV (d : Array UInt8) (l : List UInt8) : Prop where
  hs : d.size ≤ 1000000
  h0 : (0 : Int) ≤ 4 ∧ (4 : Int) + 1 ≤ 6 ∧ (6 : Int) + 6 ≤ (d.size : Int)
  h5 : at8 d 4 = 5
  hT : TextAt d (4 + 1) 6 (Str.ofString "v")
  hv : sle true (KBy.picked d (some (6 + 1)) (some (6 + 1 + 4))).toList = (l.length : Int)
  hb : at8 d (6 + 1 + 4) = 9
  hvb : 0 ≤ (l.length : Int) ∧ 6 + 7 + (l.length : Int) = (d.size : Int)
  hv0 : sle true (KBy.picked d (some 0) (some (0 + 4))).toList = (d.size : Int)
  hz : at8 d (0 + (d.size : Int) - 1) = 0
  hd : KBy.picked d (some (6 + 1 + 5)) (some (6 + 1 + 5 + (l.length : Int))) = l.toArray
theorem encV_facts {l : List UInt8} (hl : l.length ≤ 100) : EncV (encV l).toArray l := by
  have hL := encV_len l
  have hS : ((encV l).toArray.size : Int) = (l.length : Int) + 13 := by rw [List.size_toArray, hL]; omega
  constructor
  · omega
  · omega
  · rfl
  · refine ⟨⟨by omega, by omega, by omega, by omega, rfl, fun i h1 h2 => ?_⟩, ⟨118, [], 1, ?_, fun id => by kernel_rfl⟩, by decide⟩
    · have : i = 5 := by omega
      subst this
      show ((118 : UInt8).toNat : Int) ≠ 0
      decide
    · rw [picked_nat (x := 5) (y := 6) (by omega) (by omega) (by omega)]
      rfl
  · rw [picked_nat (x := 7) (y := 11) (by omega) (by omega) (by omega)]
    exact sle4_small (by omega)
  · rfl
  · omega
  · rw [picked_nat (x := 0) (y := 4) (by omega) (by omega) (by omega), hS]
    exact sle4_small (k := l.length + 13) (by omega)
  · unfold at8
    rw [show (0 + ((encV l).toArray.size : Int) - 1).toNat = l.length + 12 by omega]
    show ((((encV l).getD (l.length + 12) 0)).toNat : Int) = 0
    unfold encV
    rw [show l.length + 12 = (((((((((((l.length + 1) + 1) + 1) + 1) + 1) + 1) + 1) + 1) + 1) + 1) + 1) + 1 by omega]
    simp only [List.getD_cons_succ]
    simp
  · rw [picked_nat (x := 12) (y := 12 + l.length) (by omega) (by omega) (by omega)]
    unfold encV
    simp
section
variable {w : World} {dp un : Nat} {gd : Option (List Code)} {cn : Str} {cs : Scope} {a : Addr} {ccd : Value} {cl : List (Str × Addr)} {outer : List Env} {A₀ : Around} {base h₀ : Heap} {L : Addr} {m : Str → Option Value} {s : Shared} {R : Result → Shared → Prop}
  {loose : List Str} {mean : ExcName → Option Value} {mg mb : Str → Option Value} {news : List (Addr × Obj)} {l : List UInt8}
  (B : Below A₀ base outer h₀) (F : Fr h₀ L s.heap m) (X : (K0 w.params).In h₀) (N : News h₀ L s.heap news) (T : Top q1 loose mean mg mb h₀) (hk : cs.kind = .function)
  (h1 : dp + 36 < recursionLimit) (h2 : un + 360 < cLine)
include B F X N T hk h1 h2
theorem c_decV {t : Tok} (hl : l.length ≤ 100)
  (ret : ∀ (D xB dB : Addr) (oD : Obj) (ta tb tc td : Tok) (h' : Heap) (tk' : Nat), oD.IsDictOf (PySem.strKind P1 w) [(Str.ofString "v", .ref xB)] → (D == sysModules) = false → Fr h₀ L h' m → News h₀ L h' ((D, oD) :: (xB, instObj 223 dB) :: (dB, dictOf [⟨PyData.keyHash w.params "data", .str "data" ta, .bytes l.toArray tb⟩, ⟨PyData.keyHash w.params "_subtype", .str "_subtype" tc, .int 9 td⟩] 2) :: news) → R (.ok (.ret (.ref D))) { s with heap := h', toks := tk' }) :
  codeAny (model P1 w) (ktrTop dp un gd cn cs L a ccd cl outer) (.call (.ref 1526) ⟨[.bytes (encV l).toArray t], []⟩) R s := by
  have K := encV_facts hl
  refine c_dec B F X N T hk h1 h2 (e := 6) (v := l.length) (b := 9) K.hs (by have := K.h0; omega) K.h5 K.hT K.hv K.hb (by decide) (by have := K.hvb; omega) K.hv0 K.hz ?_
  rw [K.hd]
  exact ret
end
section
variable {w : World} {dp un : Nat} {gd : Option (List Code)} {cn : Str} {cs : Scope} {a : Addr} {ccd : Value} {cl : List (Str × Addr)} {outer : List Env} {A₀ : Around} {base h₀ : Heap} {L : Addr} {m : Str → Option Value} {s : Shared} {R : Result → Shared → Prop}
  {loose : List Str} {mean : ExcName → Option Value} {mg mb : Str → Option Value} {news : List (Addr × Obj)} {xB dB d : Addr} {oD : Obj} {ta tb tc td : Tok} {x : Array UInt8}
  (B : Below A₀ base outer h₀) (F : Fr h₀ L s.heap m) (X : (K0 w.params).In h₀) (N : News h₀ L s.heap news) (T : Top q1 loose mean mg mb h₀) (hk : cs.kind = .function)
  (h1 : dp + 24 < recursionLimit) (h2 : un + 240 < cLine)
  (MC : (d, oD) ∈ news) (MA : (xB, instObj 223 dB) ∈ news) (MB : (dB, dictOf [⟨PyData.keyHash w.params "data", .str "data" ta, .bytes x tb⟩, ⟨PyData.keyHash w.params "_subtype", .str "_subtype" tc, .int 9 td⟩] 2) ∈ news)
include MC MA MB B F X N T hk h1 h2
theorem m_enc (hx : x.size ≤ 100) (hd : oD.IsDictOf (PySem.strKind P1 w) [("v", .ref xB)]) (lo : (d == sysModules) = false)
  (ret : ∀ (t' : Tok) (h' : Heap) (tk' : Nat), Fr h₀ L h' m → News h₀ L h' news → R (.ok (.ret (.bytes (encV x.toList).toArray t'))) { s with heap := h', toks := tk' }) :
  codeAny (model P1 w) (ktrTop dp un gd cn cs L a ccd cl outer) (.call (.ref 1518) ⟨[.ref d], []⟩) R s := by
  refine c_enc (news := news) B F X (news_dup3 N MC MA MB) T hk h1 h2 hx hd lo fun t' h' tk' F' N' => ret t' h' tk' F' (cb_drop N' (by (repeat (first | (intro p hp; (repeat (first | exact hp | exact List.mem_append_left _ hp | apply List.mem_cons_of_mem)); done) | (refine' sub_cons ?_ ?_; focus k_mem)))))
end
end Mine
end
section
namespace Mine
theorem wdC3w0 : True := by
  k_with_none
  (k_with "!eval Call" => first | (k_here; (with_reducible show wpAny _ _ (eval (Expr.Call _ _ [] _) _) _ _ _); k_dflt (refine Call_ ?_)))
  (k_with "!exec Raise some none" => first | (k_here; (with_reducible show wpAny _ _ (exec (Stmt.Raise (some (Expr.Call (Expr.Name (PySem.Str.ofString "ValueError") _) _ _ _)) none _) _) _ _ _); k_dflt (refine Raise_new rfl ?_)) | (k_here; (with_reducible show wpAny _ _ (exec (Stmt.Raise (some (Expr.Call (Expr.Name (PySem.Str.ofString "TypeError") _) _ _ _)) none _) _) _ _ _); k_dflt (refine Raise_new rfl ?_)))
  (k_with "!leaving ref" => first | (k_here; (with_reducible rename KtsDicts _ _ => kdX); k_dflt (first | (refine' leave_raiseS ?zqk1 ?zqk0 ?zqk2 ?zqk3 ?_; (case zqk0 => first | assumption | exact Heap.MadeExc.of (by assumption)); (case zqk2 => assumption); (case zqk1 => assumption); (case zqk3 => k_asm); k_whole; intro h' t' S' R' U'; (try dsimp only at S' R' U' ⊢)) | (refine' leave_onS ?zqk1 ?zqk2 ?zqk3 ?zqk4 ?_; (case zqk3 => assumption); (case zqk2 => assumption); (case zqk1 => assumption); (case zqk4 => assumption); k_whole; intro h' S' R' U'; (try dsimp only at S' R' U' ⊢)) | (refine' leave_newS ?zqk1 ?zqk0 ?zqk2 ?zqk3 ?_; (case zqk0 => assumption); (case zqk2 => assumption); (case zqk1 => assumption); (case zqk3 => k_asm); k_whole; intro h' S' R' U'; (try dsimp only at S' R' U' ⊢)) | (refine' leave_onSN ?zqk1 ?zqk2 ?zqk3 ?zqk4 ?_; (case zqk3 => assumption); (case zqk2 => assumption); (case zqk1 => assumption); (case zqk4 => assumption); k_whole; intro h' S' R' U'; (try dsimp only at S' R' U' ⊢)))))
  (k_with "!eval Name" => first | (k_here; (first | (with_reducible show wpAny _ _ (eval (Expr.Name _ _) (envOf _ _ _ _ _)) _ _ _) | (with_reducible show wpAny _ _ (eval (Expr.Name _ _) (envOfC _ _ _ _ _)) _ _ _)); k_dflt (first | (refine' nameX_L ?zqF ?zqv ?_ ?zqa ?zqb; (case zqF => k_asm); (case zqv => rfl); (case zqa => rfl); (case zqb => kernel_rfl); k_whole) | (refine' nameX_K ?zqF ?zqX ?zqT ?zqe ?_ ?zqa ?zqb; (case zqT => k_asm); (case zqX => k_asm); (case zqF => k_asm); (case zqe => k_is); (case zqa => rfl); (case zqb => kernel_rfl); k_whole) | (refine' nameX_B ?zqF ?zqX ?zqT ?zqe ?zqv ?zqn ?_ ?zqa ?zqb; (case zqT => k_asm); (case zqX => k_asm); (case zqF => k_asm); (case zqe => k_is); (case zqv => boot_fast); (case zqn => decide); (case zqa => rfl); (case zqb => kernel_rfl); k_whole))))
  (k_with "k_mem" => (assumption))
  (k_with "k_room" => (ktr_room))
  (k_with "k_units" => (ktr_units))
  (k_with "ktr_rel" => (first | k_asm | (refine' cb_drop ?zqcbN ?zqcbS; (case zqcbN => k_asm); (case zqcbS => (repeat (first | (intro p hp; (repeat (first | exact hp | exact List.mem_append_left _ hp | apply List.mem_cons_of_mem)); done) | (refine' sub_cons ?_ ?_; focus k_mem)))))))
  (k_with "k_lt?" => skip)
  (k_with "k_all" => (first | (refine all_ne_of ?_; assumption) | exact fun p hp => Nat.ne_of_lt ((by assumption : ∀ p ∈ _, p.1 < _) p hp)))
  (k_with "!call type:bytes" => first | (k_here; (with_reducible show wpAny _ _ (call (Value.type "bytes") [Value.bytes _ _]) _ _ _); refine bytes_id ?_) | (k_here; (with_reducible show wpAny _ _ (call (Value.type "bytes") [Value.ref _]) _ _ _); k_dflt (refine' bytes_L ?zqbF ?zqbN ?zqbh ?zqbl ?zqbi ?zqbr ?zqbz ?_; (case zqbF => k_asm); (case zqbN => k_asm); (case zqbh => rfl); (case zqbl => is_list); (case zqbi => assumption); (case zqbr => (first | (subst_vars; rw [List.map_id']; exact in_255 (by assumption)) | exact in_map256 | (subst_vars; exact in_map256) | exact in_255 (by assumption) | assumption)); (case zqbz => (simp_all; omega))); intro _ _ _ F' N'))
  (k_with "!binaryOp Add bytes bytes" => (k_here; (with_reducible show wpAny _ _ (binaryOp Operator.Add (Value.bytes _ _) (Value.bytes _ _)) _ _ _); (refine KBy.add_bytes (by (try simp only [Array.size_append, List.size_toArray, byteArr_size, octs_size, List.length_cons, List.length_nil, List.length_map]); omega) ?_); intro _ _))
  (k_with "cell_enter" => (refine' code_def ?zqk1 ?zqk2 ?zqk3 ?zqk4 ?zqk5 ?zqkA ?zqkF ?zqkK ?zqk6 ?zqk7 ?zqk8 ?zqk9 ?zqkB ?_ ?zqc2 ?zqc3 ?zqc4 ?zqc5; (case zqkA => exact rfl); (case zqkF => exact rfl); (case zqkK => assumption); (case zqk1 => k_asm); (case zqk2 => k_asm); (case zqk3 => k_asm); (case zqk4 => k_asm); (case zqk5 => k_asm); (case zqk6 => k_is); (case zqk7 => k_is); (case zqk8 => ktr_room); (case zqk9 => first | exact BindsTo.of_eq rfl | exact binds_K (by k_in) rfl (by k_is) rfl rfl rfl); (case zqc5 => decide); (case zqkB => exact locs rfl); (case zqc2 => exact rfl); (case zqc3 => exact rfl); (case zqc4 => exact rfl); k_whole; intro g' L' h' FG' F' N' B' X' T'; (try dsimp only); (try k_lift B'); (try k_fold)))
  (k_with "!compareOp NotIn" => first | (k_here; (with_reducible show wpAny _ _ (compareOp CmpOp.NotIn (Value.int _ _) (Value.ref _)) _ _ _); k_dflt (refine' notin_int_bytes ?zqt ?zqh ?_; (case zqt => exact isTup_of (by k_asm) (by k_mem)); (case zqh => rfl))) | (k_here; (with_reducible show wpAny _ _ (compareOp CmpOp.NotIn (Value.bytes _ _) (Value.ref _)) _ _ _); k_dflt (refine' notin_bytes ?zqt ?zqh ?zqe ?_; (case zqt => exact isTup_of (by k_asm) (by k_mem)); (case zqh => rfl); (case zqe => first | exact (rfl : _ = false) | exact (rfl : _ = true)))))
  (k_with "!binaryOp BitAnd int int" => (k_here; (with_reducible refine and_lowT (by omega) ?_); intro _ _ _ vE))
  (k_with "!subscriptTail" => (k_here; (with_reducible show wpAny _ _ (subscriptTail _ _ (Value.bytes _ _) (Value.int (-1) _)) _ _ _); (refine last_octet (by (try simp only [octs_size]); omega) (by (try simp only [octs_size]); omega) ?_); intro _ _ _ lO _ _))
  (k_with "!ite" => first | (k_closed; k_dflt (first | refine PySem.W.ite_pos (by decide) ?_ | refine PySem.W.ite_neg (by decide) ?_)) | (first | refine PySem.W.ite_neg (by (try simp only [bne_iff_ne, ne_eq, beq_iff_eq, decide_eq_true_eq, Bool.not_eq_true', bne_eq_false_iff_eq, beq_eq_false_iff_ne]); omega) ?_ | refine PySem.W.ite_pos (by (try simp only [bne_iff_ne, ne_eq, beq_iff_eq, decide_eq_true_eq]); omega) ?_))
  (k_with "!execs cons" => (k_here; dsimp only))
  (k_with "!execs nil" => (k_here; dsimp only))
  (k_with "!truthy bytes" => (k_here; (refine truthy_bytesV (v := true) (by (try simp only [Array.size_append, List.size_toArray, octs_size, List.length_cons, List.length_nil]); omega) rfl ?_)))
  trivial
section
variable {w : World} {dp un : Nat} {gd : Option (List Code)} {cn : Str} {cs : Scope} {a : Addr} {ccd : Value} {cl : List (Str × Addr)}  {A₀ : Around} {base h₀ : Heap} {L : Addr} {m : Str → Option Value} {s : Shared} {R : Result → Shared → Prop}
  {loose : List Str} {mean : ExcName → Option Value} {mg mb : Str → Option Value} {news : List (Addr × Obj)} {D V dV : Addr} {ys : List Value} {ms : List Int} {p : Int} {va vb vc vd ve : Tok} {b : Bool} {kd : Array UInt8}
  (XB : (K0 w.params).In base) (TB : Top q1 loose mean mg mb base) (B : Below A₀ base [] h₀) (F : Fr h₀ L s.heap m) (X : (K0 w.params).In h₀) (N : News h₀ L s.heap news) (T : Top q1 loose mean mg mb h₀) (hk : cs.kind = .function)
  (h1 : dp + 24 < recursionLimit) (h2 : un + 240 < cLine)
  (MD : (D, LCg.lst ys) ∈ news)
include MD XB TB B F X N T hk h1 h2
theorem m_madeG {t t2 : Tok} (hK : KD b kd) (hY : IntsAre ys ms) (hm : ms.length ≤ 8) (hp : 0 ≤ p ∧ p ≤ 255) (hG : Good b p ms)
  (ret : ∀ (z : Addr) (ta tb : Tok) (h' : Heap) (tk' : Nat), Fr h₀ L h' m → News h₀ L h' ((z, { cls := .type "tuple", data := .seq #[.int 9 ta, .bytes (vec kd p ms) tb] }) :: news) → R (.ok (.ret (.ref z))) { s with heap := h', toks := tk' }) :
  codeAny (model P1 w) (ktrTop dp un gd cn cs L a ccd cl []) (.call (.ref 1533) ⟨[.ref D, .bytes kd t, .int p t2], []⟩) R s := by
  refine g_made (news := news) XB TB B F X (news_dup N MD) T hk h1 h2 hK hY hm hp (fun hg z ta tb h' tk' F' N' => ret z ta tb h' tk' F' (cb_drop N' (by (repeat (first | (intro p hp; (repeat (first | exact hp | exact List.mem_append_left _ hp | apply List.mem_cons_of_mem)); done) | (refine' sub_cons ?_ ?_; focus k_mem)))))) (fun hg => absurd hG hg)
theorem m_madeB {t t2 : Tok} (hK : KD b kd) (hY : IntsAre ys ms) (hm : ms.length ≤ 8) (hp : 0 ≤ p ∧ p ≤ 255) (hG : ¬ Good b p ms)
  (ret : ∀ (t' : Tok) (h' : Heap) (tk' : Nat), Fr h₀ L h' m → News h₀ L h' news → R (.ok (.ret (.str "value" t'))) { s with heap := h', toks := tk' }) :
  codeAny (model P1 w) (ktrTop dp un gd cn cs L a ccd cl []) (.call (.ref 1533) ⟨[.ref D, .bytes kd t, .int p t2], []⟩) R s := by
  refine g_made (news := news) XB TB B F X (news_dup N MD) T hk h1 h2 hK hY hm hp (fun hg => absurd hg hG) (fun hg t' h' tk' F' N' => ret t' h' tk' F' (cb_drop N' (by (repeat (first | (intro p hp; (repeat (first | exact hp | exact List.mem_append_left _ hp | apply List.mem_cons_of_mem)); done) | (refine' sub_cons ?_ ?_; focus k_mem))))))
theorem m_K5 {t t2 : Tok} (hp : 0 ≤ p ∧ p ≤ 255)
  (ret : ∀ (t' : Tok) (h' : Heap) (tk' : Nat), Fr h₀ L h' m → News h₀ L h' news → R (.ok (.ret (.str "kind" t'))) { s with heap := h', toks := tk' }) :
  codeAny (model P1 w) (ktrTop dp un gd cn cs L a ccd cl []) (.call (.ref 1533) ⟨[.ref D, .bytes #[5] t, .int p t2], []⟩) R s := by
  refine c_madeK5 (news := news) XB TB B F X (news_dup N MD) T hk h1 h2 hp (fun t' h' tk' F' N' => ret t' h' tk' F' (cb_drop N' (by (repeat (first | (intro p hp; (repeat (first | exact hp | exact List.mem_append_left _ hp | apply List.mem_cons_of_mem)); done) | (refine' sub_cons ?_ ?_; focus k_mem))))))
theorem m_K3 {t t2 : Tok} (hp : 0 ≤ p ∧ p ≤ 255)
  (ret : ∀ (t' : Tok) (h' : Heap) (tk' : Nat), Fr h₀ L h' m → News h₀ L h' news → R (.ok (.ret (.str "kind" t'))) { s with heap := h', toks := tk' }) :
  codeAny (model P1 w) (ktrTop dp un gd cn cs L a ccd cl []) (.call (.ref 1533) ⟨[.ref D, .int 3 t, .int p t2], []⟩) R s := by
  refine c_madeK3 (news := news) XB TB B F X (news_dup N MD) T hk h1 h2 hp (fun t' h' tk' F' N' => ret t' h' tk' F' (cb_drop N' (by (repeat (first | (intro p hp; (repeat (first | exact hp | exact List.mem_append_left _ hp | apply List.mem_cons_of_mem)); done) | (refine' sub_cons ?_ ?_; focus k_mem))))))
end
section
variable {w : World} {dp un : Nat} {gd : Option (List Code)} {cn : Str} {cs : Scope} {a : Addr} {ccd : Value} {cl : List (Str × Addr)}  {A₀ : Around} {base h₀ : Heap} {L : Addr} {m : Str → Option Value} {s : Shared} {R : Result → Shared → Prop}
  {loose : List Str} {mean : ExcName → Option Value} {mg mb : Str → Option Value} {news : List (Addr × Obj)} {D V dV : Addr} {ys : List Value} {ms : List Int} {p : Int} {va vb vc vd ve : Tok} {b : Bool} {kd : Array UInt8}
  (XB : (K0 w.params).In base) (TB : Top q1 loose mean mg mb base) (B : Below A₀ base [] h₀) (F : Fr h₀ L s.heap m) (X : (K0 w.params).In h₀) (N : News h₀ L s.heap news) (T : Top q1 loose mean mg mb h₀) (hk : cs.kind = .function)
  (h1 : dp + 24 < recursionLimit) (h2 : un + 240 < cLine)
  (MV : (V, instObj 141 dV) ∈ news) (MW : (dV, dictOf [⟨PyData.keyHash w.params "data", .str "data" va, .ref D⟩, ⟨PyData.keyHash w.params "dtype", .str "dtype" vb, .bytes kd vc⟩, ⟨PyData.keyHash w.params "padding", .str "padding" vd, .int p ve⟩] 3) ∈ news) (MD : (D, LCg.lst ys) ∈ news)
include MV MW MD XB TB B F X N T hk h1 h2
theorem m_packedG (hK : KD b kd) (hY : IntsAre ys ms) (hm : ms.length ≤ 8) (hp : 0 ≤ p ∧ p ≤ 255) (hG : Good b p ms)
  (ret : ∀ (z : Addr) (ta tb : Tok) (h' : Heap) (tk' : Nat), Fr h₀ L h' m → News h₀ L h' ((z, { cls := .type "tuple", data := .seq #[.int 9 ta, .bytes (vec kd p ms) tb] }) :: news) → R (.ok (.ret (.ref z))) { s with heap := h', toks := tk' }) :
  codeAny (model P1 w) (ktrTop dp un gd cn cs L a ccd cl []) (.call (.ref 1540) ⟨[.ref V], []⟩) R s := by
  refine g_packed (news := news) XB TB B F X (news_dup3 N MV MW MD) T hk h1 h2 hK hY hm hp (fun hg z ta tb h' tk' F' N' => ret z ta tb h' tk' F' (cb_drop N' (by (repeat (first | (intro p hp; (repeat (first | exact hp | exact List.mem_append_left _ hp | apply List.mem_cons_of_mem)); done) | (refine' sub_cons ?_ ?_; focus k_mem)))))) (fun hg => absurd hG hg)
theorem m_packedB (hK : KD b kd) (hY : IntsAre ys ms) (hm : ms.length ≤ 8) (hp : 0 ≤ p ∧ p ≤ 255) (hG : ¬ Good b p ms)
  (ret : ∀ (t' : Tok) (h' : Heap) (tk' : Nat), Fr h₀ L h' m → News h₀ L h' news → R (.ok (.ret (.str "value" t'))) { s with heap := h', toks := tk' }) :
  codeAny (model P1 w) (ktrTop dp un gd cn cs L a ccd cl []) (.call (.ref 1540) ⟨[.ref V], []⟩) R s := by
  refine g_packed (news := news) XB TB B F X (news_dup3 N MV MW MD) T hk h1 h2 hK hY hm hp (fun hg => absurd hg hG) (fun hg t' h' tk' F' N' => ret t' h' tk' F' (cb_drop N' (by (repeat (first | (intro p hp; (repeat (first | exact hp | exact List.mem_append_left _ hp | apply List.mem_cons_of_mem)); done) | (refine' sub_cons ?_ ?_; focus k_mem))))))
theorem m_madeV {t t2 : Tok} (hK : KD b kd)
  (ret : ∀ (t' : Tok) (h' : Heap) (tk' : Nat), Fr h₀ L h' m → News h₀ L h' news → R (.ok (.ret (.str "value" t'))) { s with heap := h', toks := tk' }) :
  codeAny (model P1 w) (ktrTop dp un gd cn cs L a ccd cl []) (.call (.ref 1533) ⟨[.ref V, .bytes kd t, .int 0 t2], []⟩) R s := by
  refine g_madeV (news := news) XB TB B F X (news_dup3 N MV MW MD) T hk h1 h2 hK (fun t' h' tk' F' N' => ret t' h' tk' F' (cb_drop N' (by (repeat (first | (intro p hp; (repeat (first | exact hp | exact List.mem_append_left _ hp | apply List.mem_cons_of_mem)); done) | (refine' sub_cons ?_ ?_; focus k_mem))))))
theorem m_madeVn {q : Int} {t2 : Tok} (hK : KD b kd) (hq : q ≠ 0)
  (ret : ∀ (t' : Tok) (h' : Heap) (tk' : Nat), Fr h₀ L h' m → News h₀ L h' news → R (.ok (.ret (.str "value" t'))) { s with heap := h', toks := tk' }) :
  codeAny (model P1 w) (ktrTop dp un gd cn cs L a ccd cl []) (.call (.ref 1533) ⟨[.ref V, .none, .int q t2], []⟩) R s := by
  refine g_madeVn (news := news) XB TB B F X (news_dup3 N MV MW MD) T hk h1 h2 hK hq (fun t' h' tk' F' N' => ret t' h' tk' F' (cb_drop N' (by (repeat (first | (intro p hp; (repeat (first | exact hp | exact List.mem_append_left _ hp | apply List.mem_cons_of_mem)); done) | (refine' sub_cons ?_ ?_; focus k_mem))))))
theorem m_madeVzG {q : Int} {t2 : Tok} (hK : KD b kd) (hq : q = 0) (hY : IntsAre ys ms) (hm : ms.length ≤ 8) (hp : 0 ≤ p ∧ p ≤ 255) (hG : Good b p ms)
  (ret : ∀ (z : Addr) (ta tb : Tok) (h' : Heap) (tk' : Nat), Fr h₀ L h' m → News h₀ L h' ((z, { cls := .type "tuple", data := .seq #[.int 9 ta, .bytes (vec kd p ms) tb] }) :: news) → R (.ok (.ret (.ref z))) { s with heap := h', toks := tk' }) :
  codeAny (model P1 w) (ktrTop dp un gd cn cs L a ccd cl []) (.call (.ref 1533) ⟨[.ref V, .none, .int q t2], []⟩) R s := by
  refine g_madeVz (news := news) XB TB B F X (news_dup3 N MV MW MD) T hk h1 h2 hK hq hY hm hp (fun hg z ta tb h' tk' F' N' => ret z ta tb h' tk' F' (cb_drop N' (by (repeat (first | (intro p hp; (repeat (first | exact hp | exact List.mem_append_left _ hp | apply List.mem_cons_of_mem)); done) | (refine' sub_cons ?_ ?_; focus k_mem)))))) (fun hg => absurd hG hg)
theorem m_madeVzB {q : Int} {t2 : Tok} (hK : KD b kd) (hq : q = 0) (hY : IntsAre ys ms) (hm : ms.length ≤ 8) (hp : 0 ≤ p ∧ p ≤ 255) (hG : ¬ Good b p ms)
  (ret : ∀ (t' : Tok) (h' : Heap) (tk' : Nat), Fr h₀ L h' m → News h₀ L h' news → R (.ok (.ret (.str "value" t'))) { s with heap := h', toks := tk' }) :
  codeAny (model P1 w) (ktrTop dp un gd cn cs L a ccd cl []) (.call (.ref 1533) ⟨[.ref V, .none, .int q t2], []⟩) R s := by
  refine g_madeVz (news := news) XB TB B F X (news_dup3 N MV MW MD) T hk h1 h2 hK hq hY hm hp (fun hg => absurd hg hG) (fun hg t' h' tk' F' N' => ret t' h' tk' F' (cb_drop N' (by (repeat (first | (intro p hp; (repeat (first | exact hp | exact List.mem_append_left _ hp | apply List.mem_cons_of_mem)); done) | (refine' sub_cons ?_ ?_; focus k_mem))))))
end
end Mine
end
section
namespace Mine
theorem wdC3e20 : True := by
  k_with_none
  (k_with "!eval Call" => first | (k_here; (with_reducible show wpAny _ _ (eval (Expr.Call _ _ [] _) _) _ _ _); k_dflt (refine Call_ ?_)))
  (k_with "!exec Raise some none" => first | (k_here; (with_reducible show wpAny _ _ (exec (Stmt.Raise (some (Expr.Call (Expr.Name (PySem.Str.ofString "ValueError") _) _ _ _)) none _) _) _ _ _); k_dflt (refine Raise_new rfl ?_)) | (k_here; (with_reducible show wpAny _ _ (exec (Stmt.Raise (some (Expr.Call (Expr.Name (PySem.Str.ofString "TypeError") _) _ _ _)) none _) _) _ _ _); k_dflt (refine Raise_new rfl ?_)))
  (k_with "!leaving ref" => first | (k_here; (with_reducible rename KtsDicts _ _ => kdX); k_dflt (first | (refine' leave_raiseS ?zqk1 ?zqk0 ?zqk2 ?zqk3 ?_; (case zqk0 => first | assumption | exact Heap.MadeExc.of (by assumption)); (case zqk2 => assumption); (case zqk1 => assumption); (case zqk3 => k_asm); k_whole; intro h' t' S' R' U'; (try dsimp only at S' R' U' ⊢)) | (refine' leave_onS ?zqk1 ?zqk2 ?zqk3 ?zqk4 ?_; (case zqk3 => assumption); (case zqk2 => assumption); (case zqk1 => assumption); (case zqk4 => assumption); k_whole; intro h' S' R' U'; (try dsimp only at S' R' U' ⊢)) | (refine' leave_newS ?zqk1 ?zqk0 ?zqk2 ?zqk3 ?_; (case zqk0 => assumption); (case zqk2 => assumption); (case zqk1 => assumption); (case zqk3 => k_asm); k_whole; intro h' S' R' U'; (try dsimp only at S' R' U' ⊢)) | (refine' leave_onSN ?zqk1 ?zqk2 ?zqk3 ?zqk4 ?_; (case zqk3 => assumption); (case zqk2 => assumption); (case zqk1 => assumption); (case zqk4 => assumption); k_whole; intro h' S' R' U'; (try dsimp only at S' R' U' ⊢)))))
  (k_with "!eval Name" => first | (k_here; (first | (with_reducible show wpAny _ _ (eval (Expr.Name _ _) (envOf _ _ _ _ _)) _ _ _) | (with_reducible show wpAny _ _ (eval (Expr.Name _ _) (envOfC _ _ _ _ _)) _ _ _)); k_dflt (first | (refine' nameX_L ?zqF ?zqv ?_ ?zqa ?zqb; (case zqF => k_asm); (case zqv => rfl); (case zqa => rfl); (case zqb => kernel_rfl); k_whole) | (refine' nameX_K ?zqF ?zqX ?zqT ?zqe ?_ ?zqa ?zqb; (case zqT => k_asm); (case zqX => k_asm); (case zqF => k_asm); (case zqe => k_is); (case zqa => rfl); (case zqb => kernel_rfl); k_whole) | (refine' nameX_B ?zqF ?zqX ?zqT ?zqe ?zqv ?zqn ?_ ?zqa ?zqb; (case zqT => k_asm); (case zqX => k_asm); (case zqF => k_asm); (case zqe => k_is); (case zqv => boot_fast); (case zqn => decide); (case zqa => rfl); (case zqb => kernel_rfl); k_whole))))
  (k_with "k_mem" => (assumption))
  (k_with "k_room" => (ktr_room))
  (k_with "k_units" => (ktr_units))
  (k_with "ktr_rel" => (first | k_asm | (refine' cb_drop ?zqcbN ?zqcbS; (case zqcbN => k_asm); (case zqcbS => (repeat (first | (intro p hp; (repeat (first | exact hp | exact List.mem_append_left _ hp | apply List.mem_cons_of_mem)); done) | (refine' sub_cons ?_ ?_; focus k_mem)))))))
  (k_with "k_lt?" => skip)
  (k_with "k_all" => (first | (refine all_ne_of ?_; assumption) | exact fun p hp => Nat.ne_of_lt ((by assumption : ∀ p ∈ _, p.1 < _) p hp)))
  (k_with "!call type:bytes" => first | (k_here; (with_reducible show wpAny _ _ (call (Value.type "bytes") [Value.bytes _ _]) _ _ _); refine bytes_id ?_) | (k_here; (with_reducible show wpAny _ _ (call (Value.type "bytes") [Value.ref _]) _ _ _); k_dflt (refine' bytes_L ?zqbF ?zqbN ?zqbh ?zqbl ?zqbi ?zqbr ?zqbz ?_; (case zqbF => k_asm); (case zqbN => k_asm); (case zqbh => rfl); (case zqbl => is_list); (case zqbi => assumption); (case zqbr => (first | (subst_vars; rw [List.map_id']; exact in_255 (by assumption)) | exact in_map256 | (subst_vars; exact in_map256) | exact in_255 (by assumption) | assumption)); (case zqbz => (simp_all; omega))); intro _ _ _ F' N'))
  (k_with "!binaryOp Add bytes bytes" => (k_here; (with_reducible show wpAny _ _ (binaryOp Operator.Add (Value.bytes _ _) (Value.bytes _ _)) _ _ _); (refine KBy.add_bytes (by (try simp only [Array.size_append, List.size_toArray, byteArr_size, octs_size, List.length_cons, List.length_nil, List.length_map]); omega) ?_); intro _ _))
  (k_with "cell_enter" => (refine' code_def ?zqk1 ?zqk2 ?zqk3 ?zqk4 ?zqk5 ?zqkA ?zqkF ?zqkK ?zqk6 ?zqk7 ?zqk8 ?zqk9 ?zqkB ?_ ?zqc2 ?zqc3 ?zqc4 ?zqc5; (case zqkA => exact rfl); (case zqkF => exact rfl); (case zqkK => assumption); (case zqk1 => k_asm); (case zqk2 => k_asm); (case zqk3 => k_asm); (case zqk4 => k_asm); (case zqk5 => k_asm); (case zqk6 => k_is); (case zqk7 => k_is); (case zqk8 => ktr_room); (case zqk9 => first | exact BindsTo.of_eq rfl | exact binds_K (by k_in) rfl (by k_is) rfl rfl rfl); (case zqc5 => decide); (case zqkB => exact locs rfl); (case zqc2 => exact rfl); (case zqc3 => exact rfl); (case zqc4 => exact rfl); k_whole; intro g' L' h' FG' F' N' B' X' T'; (try dsimp only); (try k_lift B'); (try k_fold)))
  (k_with "!compareOp NotIn" => first | (k_here; (with_reducible show wpAny _ _ (compareOp CmpOp.NotIn (Value.int _ _) (Value.ref _)) _ _ _); k_dflt (refine' notin_int_bytes ?zqt ?zqh ?_; (case zqt => exact isTup_of (by k_asm) (by k_mem)); (case zqh => rfl))) | (k_here; (with_reducible show wpAny _ _ (compareOp CmpOp.NotIn (Value.bytes _ _) (Value.ref _)) _ _ _); k_dflt (refine' notin_bytes ?zqt ?zqh ?zqe ?_; (case zqt => exact isTup_of (by k_asm) (by k_mem)); (case zqh => rfl); (case zqe => first | exact (rfl : _ = false) | exact (rfl : _ = true)))))
  (k_with "!binaryOp BitAnd int int" => (k_here; (with_reducible refine and_lowT (by omega) ?_); intro _ _ _ vE))
  (k_with "!subscriptTail" => (k_here; (with_reducible show wpAny _ _ (subscriptTail _ _ (Value.bytes _ _) (Value.int (-1) _)) _ _ _); (refine last_octet (by (try simp only [octs_size]); omega) (by (try simp only [octs_size]); omega) ?_); intro _ _ _ lO _ _))
  (k_with "!ite" => first | (k_closed; k_dflt (first | refine PySem.W.ite_pos (by decide) ?_ | refine PySem.W.ite_neg (by decide) ?_)) | (first | refine PySem.W.ite_neg (by (try simp only [bne_iff_ne, ne_eq, beq_iff_eq, decide_eq_true_eq, Bool.not_eq_true', bne_eq_false_iff_eq, beq_eq_false_iff_ne]); omega) ?_ | refine PySem.W.ite_pos (by (try simp only [bne_iff_ne, ne_eq, beq_iff_eq, decide_eq_true_eq]); omega) ?_))
  (k_with "!execs cons" => (k_here; dsimp only))
  (k_with "!execs nil" => (k_here; dsimp only))
  (k_with "!truthy bytes" => (k_here; (refine truthy_bytesV (v := true) (by (try simp only [Array.size_append, List.size_toArray, octs_size, List.length_cons, List.length_nil]); omega) rfl ?_)))
  trivial
section
variable {w : World} {dp un : Nat} {gd : Option (List Code)} {cn : Str} {cs : Scope} {a : Addr} {ccd : Value} {cl : List (Str × Addr)} {outer : List Env} {A₀ : Around} {base h₀ : Heap} {L : Addr} {m : Str → Option Value} {s : Shared} {R : Result → Shared → Prop}
  {loose : List Str} {mean : ExcName → Option Value} {mg mb : Str → Option Value} {news : List (Addr × Obj)} {D : Addr} {ys : List Value} {ms : List Int}
  (B : Below A₀ base outer h₀) (F : Fr h₀ L s.heap m) (X : (K0 w.params).In h₀) (N : News h₀ L s.heap ((D, LCg.lst ys) :: news)) (T : Top q1 loose mean mg mb h₀) (hk : cs.kind = .function)
  (h1 : dp + 18 < recursionLimit) (h2 : un + 180 < cLine)
include B F X N T hk h1 h2
theorem c_fvd16 {t : Tok} (hY : IntsAre ys ms) (hm : ms.length ≤ 8)
  (ret : Good true 0 ms → ∀ (x dx : Addr) (ta tb tc td : Tok) (h' : Heap) (tk' : Nat), Fr h₀ L h' m → News h₀ L h' ((x, instObj 223 dx) :: (dx, dictOf [⟨PyData.keyHash w.params "data", .str "data" ta, .bytes (vecB 16 0 ms) tb⟩, ⟨PyData.keyHash w.params "_subtype", .str "_subtype" tc, .int 9 td⟩] 2) :: ((D, LCg.lst ys) :: news)) → R (.ok (.ret (.ref x))) { s with heap := h', toks := tk' })
  (exc : ¬ Good true 0 ms → ∀ (e : Addr) (g h' : Heap) (tk' : Nat), Fr h₀ L g m → g.UpToSlots h' → RaisedSN base g (envX cn cs L a ccd cl :: outer) e (.type "ValueError") ((D, LCg.lst ys) :: news) h' → R (.error (.ref e)) { s with heap := h', toks := tk' }) :
  codeAny (model P1 w) (ktrTop dp un gd cn cs L a ccd cl outer) (.call (.ref 187) ⟨[.ref 223, .ref D, .bytes #[16] t], []⟩) R s := by
  have hp : (0 : Int) ≤ 0 ∧ (0 : Int) ≤ 255 := by decide
  k_dflt cell_enter
  refine execs_hold (l1 := (bdy (fn2 18 4)).take 2) (l2 := (bdy (fn2 18 4)).drop 2) ?_
  rw [fvH.2]; dsimp only [fvH, fvS, List.take]
  k_steps
  all_goals (refine' t_fv16 ?a1 ?a2 ?a3 ?a4 ?a5 ?a6 hk (by omega) (by omega) ?n1 ?n2 ?n3 ?n4 hY hm hp ?r ?e; (case a1 => k_asm); (case a2 => k_asm); (case a3 => k_asm); (case a4 => k_asm); (case a5 => k_asm); (case a6 => exact news_dup (by k_asm) (by k_mem)); (case n1 => exact rfl); (case n2 => exact rfl); (case n3 => exact rfl); (case n4 => exact rfl))
  case r => intro hG x dx ta tb tc td h' tk' F' N'; exact ret hG x dx ta tb tc td h' tk' F' (cb_drop N' (by (repeat (first | (intro p hp; (repeat (first | exact hp | exact List.mem_append_left _ hp | apply List.mem_cons_of_mem)); done) | (refine' sub_cons ?_ ?_; focus k_mem)))))
  case e => intro hG e g h' tk' Fg U R'; exact exc hG e g h' tk' Fg U (raisedSN_sub R' (by (repeat (first | (intro p hp; (repeat (first | exact hp | exact List.mem_append_left _ hp | apply List.mem_cons_of_mem)); done) | (refine' sub_cons ?_ ?_; focus k_mem)))))
theorem c_fvd3 {t : Tok} (hY : IntsAre ys ms) (hm : ms.length ≤ 8)
  (ret : Good false 0 ms → ∀ (x dx : Addr) (ta tb tc td : Tok) (h' : Heap) (tk' : Nat), Fr h₀ L h' m → News h₀ L h' ((x, instObj 223 dx) :: (dx, dictOf [⟨PyData.keyHash w.params "data", .str "data" ta, .bytes (vecB 3 0 ms) tb⟩, ⟨PyData.keyHash w.params "_subtype", .str "_subtype" tc, .int 9 td⟩] 2) :: ((D, LCg.lst ys) :: news)) → R (.ok (.ret (.ref x))) { s with heap := h', toks := tk' })
  (exc : ¬ Good false 0 ms → ∀ (e : Addr) (g h' : Heap) (tk' : Nat), Fr h₀ L g m → g.UpToSlots h' → RaisedSN base g (envX cn cs L a ccd cl :: outer) e (.type "ValueError") ((D, LCg.lst ys) :: news) h' → R (.error (.ref e)) { s with heap := h', toks := tk' }) :
  codeAny (model P1 w) (ktrTop dp un gd cn cs L a ccd cl outer) (.call (.ref 187) ⟨[.ref 223, .ref D, .bytes #[3] t], []⟩) R s := by
  have hp : (0 : Int) ≤ 0 ∧ (0 : Int) ≤ 255 := by decide
  k_dflt cell_enter
  refine execs_hold (l1 := (bdy (fn2 18 4)).take 2) (l2 := (bdy (fn2 18 4)).drop 2) ?_
  rw [fvH.2]; dsimp only [fvH, fvS, List.take]
  k_steps
  all_goals (refine' t_fv3 ?a1 ?a2 ?a3 ?a4 ?a5 ?a6 hk (by omega) (by omega) ?n1 ?n2 ?n3 ?n4 hY hm hp ?r ?e; (case a1 => k_asm); (case a2 => k_asm); (case a3 => k_asm); (case a4 => k_asm); (case a5 => k_asm); (case a6 => exact news_dup (by k_asm) (by k_mem)); (case n1 => exact rfl); (case n2 => exact rfl); (case n3 => exact rfl); (case n4 => exact rfl))
  case r => intro hG x dx ta tb tc td h' tk' F' N'; exact ret hG x dx ta tb tc td h' tk' F' (cb_drop N' (by (repeat (first | (intro p hp; (repeat (first | exact hp | exact List.mem_append_left _ hp | apply List.mem_cons_of_mem)); done) | (refine' sub_cons ?_ ?_; focus k_mem)))))
  case e => intro hG e g h' tk' Fg U R'; exact exc hG e g h' tk' Fg U (raisedSN_sub R' (by (repeat (first | (intro p hp; (repeat (first | exact hp | exact List.mem_append_left _ hp | apply List.mem_cons_of_mem)); done) | (refine' sub_cons ?_ ?_; focus k_mem)))))
end
end Mine
end
section
namespace Mine
theorem wdC3w20 : True := by
  k_with_none
  (k_with "!eval Call" => first | (k_here; (with_reducible show wpAny _ _ (eval (Expr.Call _ _ [] _) _) _ _ _); k_dflt (refine Call_ ?_)))
  (k_with "!exec Raise some none" => first | (k_here; (with_reducible show wpAny _ _ (exec (Stmt.Raise (some (Expr.Call (Expr.Name (PySem.Str.ofString "ValueError") _) _ _ _)) none _) _) _ _ _); k_dflt (refine Raise_new rfl ?_)) | (k_here; (with_reducible show wpAny _ _ (exec (Stmt.Raise (some (Expr.Call (Expr.Name (PySem.Str.ofString "TypeError") _) _ _ _)) none _) _) _ _ _); k_dflt (refine Raise_new rfl ?_)))
  (k_with "!leaving ref" => first | (k_here; (with_reducible rename KtsDicts _ _ => kdX); k_dflt (first | (refine' leave_raiseS ?zqk1 ?zqk0 ?zqk2 ?zqk3 ?_; (case zqk0 => first | assumption | exact Heap.MadeExc.of (by assumption)); (case zqk2 => assumption); (case zqk1 => assumption); (case zqk3 => k_asm); k_whole; intro h' t' S' R' U'; (try dsimp only at S' R' U' ⊢)) | (refine' leave_onS ?zqk1 ?zqk2 ?zqk3 ?zqk4 ?_; (case zqk3 => assumption); (case zqk2 => assumption); (case zqk1 => assumption); (case zqk4 => assumption); k_whole; intro h' S' R' U'; (try dsimp only at S' R' U' ⊢)) | (refine' leave_newS ?zqk1 ?zqk0 ?zqk2 ?zqk3 ?_; (case zqk0 => assumption); (case zqk2 => assumption); (case zqk1 => assumption); (case zqk3 => k_asm); k_whole; intro h' S' R' U'; (try dsimp only at S' R' U' ⊢)) | (refine' leave_onSN ?zqk1 ?zqk2 ?zqk3 ?zqk4 ?_; (case zqk3 => assumption); (case zqk2 => assumption); (case zqk1 => assumption); (case zqk4 => assumption); k_whole; intro h' S' R' U'; (try dsimp only at S' R' U' ⊢)))))
  (k_with "!eval Name" => first | (k_here; (first | (with_reducible show wpAny _ _ (eval (Expr.Name _ _) (envOf _ _ _ _ _)) _ _ _) | (with_reducible show wpAny _ _ (eval (Expr.Name _ _) (envOfC _ _ _ _ _)) _ _ _)); k_dflt (first | (refine' nameX_L ?zqF ?zqv ?_ ?zqa ?zqb; (case zqF => k_asm); (case zqv => rfl); (case zqa => rfl); (case zqb => kernel_rfl); k_whole) | (refine' nameX_K ?zqF ?zqX ?zqT ?zqe ?_ ?zqa ?zqb; (case zqT => k_asm); (case zqX => k_asm); (case zqF => k_asm); (case zqe => k_is); (case zqa => rfl); (case zqb => kernel_rfl); k_whole) | (refine' nameX_B ?zqF ?zqX ?zqT ?zqe ?zqv ?zqn ?_ ?zqa ?zqb; (case zqT => k_asm); (case zqX => k_asm); (case zqF => k_asm); (case zqe => k_is); (case zqv => boot_fast); (case zqn => decide); (case zqa => rfl); (case zqb => kernel_rfl); k_whole))))
  (k_with "k_mem" => (assumption))
  (k_with "k_room" => (ktr_room))
  (k_with "k_units" => (ktr_units))
  (k_with "ktr_rel" => (first | k_asm | (refine' cb_drop ?zqcbN ?zqcbS; (case zqcbN => k_asm); (case zqcbS => (repeat (first | (intro p hp; (repeat (first | exact hp | exact List.mem_append_left _ hp | apply List.mem_cons_of_mem)); done) | (refine' sub_cons ?_ ?_; focus k_mem)))))))
  (k_with "k_lt?" => skip)
  (k_with "k_all" => (first | (refine all_ne_of ?_; assumption) | exact fun p hp => Nat.ne_of_lt ((by assumption : ∀ p ∈ _, p.1 < _) p hp)))
  (k_with "!call type:bytes" => first | (k_here; (with_reducible show wpAny _ _ (call (Value.type "bytes") [Value.bytes _ _]) _ _ _); refine bytes_id ?_) | (k_here; (with_reducible show wpAny _ _ (call (Value.type "bytes") [Value.ref _]) _ _ _); k_dflt (refine' bytes_L ?zqbF ?zqbN ?zqbh ?zqbl ?zqbi ?zqbr ?zqbz ?_; (case zqbF => k_asm); (case zqbN => k_asm); (case zqbh => rfl); (case zqbl => is_list); (case zqbi => assumption); (case zqbr => (first | (subst_vars; rw [List.map_id']; exact in_255 (by assumption)) | exact in_map256 | (subst_vars; exact in_map256) | exact in_255 (by assumption) | assumption)); (case zqbz => (simp_all; omega))); intro _ _ _ F' N'))
  (k_with "!binaryOp Add bytes bytes" => (k_here; (with_reducible show wpAny _ _ (binaryOp Operator.Add (Value.bytes _ _) (Value.bytes _ _)) _ _ _); (refine KBy.add_bytes (by (try simp only [Array.size_append, List.size_toArray, byteArr_size, octs_size, List.length_cons, List.length_nil, List.length_map]); omega) ?_); intro _ _))
  (k_with "cell_enter" => (refine' code_def ?zqk1 ?zqk2 ?zqk3 ?zqk4 ?zqk5 ?zqkA ?zqkF ?zqkK ?zqk6 ?zqk7 ?zqk8 ?zqk9 ?zqkB ?_ ?zqc2 ?zqc3 ?zqc4 ?zqc5; (case zqkA => exact rfl); (case zqkF => exact rfl); (case zqkK => assumption); (case zqk1 => k_asm); (case zqk2 => k_asm); (case zqk3 => k_asm); (case zqk4 => k_asm); (case zqk5 => k_asm); (case zqk6 => k_is); (case zqk7 => k_is); (case zqk8 => ktr_room); (case zqk9 => first | exact BindsTo.of_eq rfl | exact binds_K (by k_in) rfl (by k_is) rfl rfl rfl); (case zqc5 => decide); (case zqkB => exact locs rfl); (case zqc2 => exact rfl); (case zqc3 => exact rfl); (case zqc4 => exact rfl); k_whole; intro g' L' h' FG' F' N' B' X' T'; (try dsimp only); (try k_lift B'); (try k_fold)))
  (k_with "!compareOp NotIn" => first | (k_here; (with_reducible show wpAny _ _ (compareOp CmpOp.NotIn (Value.int _ _) (Value.ref _)) _ _ _); k_dflt (refine' notin_int_bytes ?zqt ?zqh ?_; (case zqt => exact isTup_of (by k_asm) (by k_mem)); (case zqh => rfl))) | (k_here; (with_reducible show wpAny _ _ (compareOp CmpOp.NotIn (Value.bytes _ _) (Value.ref _)) _ _ _); k_dflt (refine' notin_bytes ?zqt ?zqh ?zqe ?_; (case zqt => exact isTup_of (by k_asm) (by k_mem)); (case zqh => rfl); (case zqe => first | exact (rfl : _ = false) | exact (rfl : _ = true)))))
  (k_with "!binaryOp BitAnd int int" => (k_here; (with_reducible refine and_lowT (by omega) ?_); intro _ _ _ vE))
  (k_with "!subscriptTail" => (k_here; (with_reducible show wpAny _ _ (subscriptTail _ _ (Value.bytes _ _) (Value.int (-1) _)) _ _ _); (refine last_octet (by (try simp only [octs_size]); omega) (by (try simp only [octs_size]); omega) ?_); intro _ _ _ lO _ _))
  (k_with "!ite" => first | (k_closed; k_dflt (first | refine PySem.W.ite_pos (by decide) ?_ | refine PySem.W.ite_neg (by decide) ?_)) | (first | refine PySem.W.ite_neg (by (try simp only [bne_iff_ne, ne_eq, beq_iff_eq, decide_eq_true_eq, Bool.not_eq_true', bne_eq_false_iff_eq, beq_eq_false_iff_ne]); omega) ?_ | refine PySem.W.ite_pos (by (try simp only [bne_iff_ne, ne_eq, beq_iff_eq, decide_eq_true_eq]); omega) ?_))
  (k_with "!execs cons" => (k_here; dsimp only))
  (k_with "!execs nil" => (k_here; dsimp only))
  (k_with "!truthy bytes" => (k_here; (refine truthy_bytesV (v := true) (by (try simp only [Array.size_append, List.size_toArray, octs_size, List.length_cons, List.length_nil]); omega) rfl ?_)))
  trivial
section
variable {w : World} {dp un : Nat} {gd : Option (List Code)} {cn : Str} {cs : Scope} {a : Addr} {ccd : Value} {cl : List (Str × Addr)}  {A₀ : Around} {base h₀ : Heap} {L : Addr} {m : Str → Option Value} {s : Shared} {R : Result → Shared → Prop}
  {loose : List Str} {mean : ExcName → Option Value} {mg mb : Str → Option Value} {news : List (Addr × Obj)} {D V dV : Addr} {ys : List Value} {ms : List Int} {p : Int} {va vb vc vd ve : Tok} {b : Bool} {kd : Array UInt8}
  (XB : (K0 w.params).In base) (TB : Top q1 loose mean mg mb base) (B : Below A₀ base [] h₀) (F : Fr h₀ L s.heap m) (X : (K0 w.params).In h₀) (N : News h₀ L s.heap news) (T : Top q1 loose mean mg mb h₀) (hk : cs.kind = .function)
  (h1 : dp + 24 < recursionLimit) (h2 : un + 240 < cLine)
  (MD : (D, LCg.lst ys) ∈ news)
include MD XB TB B F X N T hk h1 h2
theorem m_fvdG {t : Tok} (hK : KD b kd) (hY : IntsAre ys ms) (hm : ms.length ≤ 8) (hG : Good b 0 ms)
  (ret : ∀ (x dx : Addr) (ta tb tc td : Tok) (h' : Heap) (tk' : Nat), Fr h₀ L h' m → News h₀ L h' ((x, instObj 223 dx) :: (dx, dictOf [⟨PyData.keyHash w.params "data", .str "data" ta, .bytes (vec kd 0 ms) tb⟩, ⟨PyData.keyHash w.params "_subtype", .str "_subtype" tc, .int 9 td⟩] 2) :: news) → R (.ok (.ret (.ref x))) { s with heap := h', toks := tk' }) :
  codeAny (model P1 w) (ktrTop dp un gd cn cs L a ccd cl []) (.call (.ref 187) ⟨[.ref 223, .ref D, .bytes kd t], []⟩) R s := by
  rcases hK with ⟨rfl, rfl⟩ | ⟨rfl, rfl⟩
  · exact c_fvd16 (news := news) B F X (news_dup N MD) T hk (by omega) (by omega) hY hm (fun hg x dx ta tb tc td h' tk' F' N' => ret x dx ta tb tc td h' tk' F' (cb_drop N' (by (repeat (first | (intro p hp; (repeat (first | exact hp | exact List.mem_append_left _ hp | apply List.mem_cons_of_mem)); done) | (refine' sub_cons ?_ ?_; focus k_mem)))))) (fun hg => absurd hG hg)
  · exact c_fvd3 (news := news) B F X (news_dup N MD) T hk (by omega) (by omega) hY hm (fun hg x dx ta tb tc td h' tk' F' N' => ret x dx ta tb tc td h' tk' F' (cb_drop N' (by (repeat (first | (intro p hp; (repeat (first | exact hp | exact List.mem_append_left _ hp | apply List.mem_cons_of_mem)); done) | (refine' sub_cons ?_ ?_; focus k_mem)))))) (fun hg => absurd hG hg)
theorem m_fvdB {t : Tok} (hK : KD b kd) (hY : IntsAre ys ms) (hm : ms.length ≤ 8) (hG : ¬ Good b 0 ms)
  (exc : ∀ (e : Addr) (g h' : Heap) (tk' : Nat), Fr h₀ L g m → g.UpToSlots h' → RaisedSN base g (envX cn cs L a ccd cl :: []) e (.type "ValueError") news h' → R (.error (.ref e)) { s with heap := h', toks := tk' }) :
  codeAny (model P1 w) (ktrTop dp un gd cn cs L a ccd cl []) (.call (.ref 187) ⟨[.ref 223, .ref D, .bytes kd t], []⟩) R s := by
  rcases hK with ⟨rfl, rfl⟩ | ⟨rfl, rfl⟩
  · exact c_fvd16 (news := news) B F X (news_dup N MD) T hk (by omega) (by omega) hY hm (fun hg => absurd hg hG) (fun hg e g h' tk' Fg U R' => exc e g h' tk' Fg U (raisedSN_sub R' fun p hp => .tail _ hp))
  · exact c_fvd3 (news := news) B F X (news_dup N MD) T hk (by omega) (by omega) hY hm (fun hg => absurd hg hG) (fun hg e g h' tk' Fg U R' => exc e g h' tk' Fg U (raisedSN_sub R' fun p hp => .tail _ hp))
end
section
variable {w : World} {dp un : Nat} {gd : Option (List Code)} {cn : Str} {cs : Scope} {a : Addr} {ccd : Value} {cl : List (Str × Addr)}  {A₀ : Around} {base h₀ : Heap} {L : Addr} {m : Str → Option Value} {s : Shared} {R : Result → Shared → Prop}
  {loose : List Str} {mean : ExcName → Option Value} {mg mb : Str → Option Value} {news : List (Addr × Obj)} {D V dV : Addr} {ys : List Value} {ms : List Int} {p : Int} {va vb vc vd ve : Tok} {b : Bool} {kd : Array UInt8}
  (XB : (K0 w.params).In base) (TB : Top q1 loose mean mg mb base) (B : Below A₀ base [] h₀) (F : Fr h₀ L s.heap m) (X : (K0 w.params).In h₀) (N : News h₀ L s.heap news) (T : Top q1 loose mean mg mb h₀) (hk : cs.kind = .function)
  (h1 : dp + 24 < recursionLimit) (h2 : un + 240 < cLine)
  (MV : (V, instObj 141 dV) ∈ news) (MW : (dV, dictOf [⟨PyData.keyHash w.params "data", .str "data" va, .ref D⟩, ⟨PyData.keyHash w.params "dtype", .str "dtype" vb, .bytes kd vc⟩, ⟨PyData.keyHash w.params "padding", .str "padding" vd, .int p ve⟩] 3) ∈ news) (MD : (D, LCg.lst ys) ∈ news)
include MV MW MD XB TB B F X N T hk h1 h2
theorem m_fvvG (hK : KD b kd) (hY : IntsAre ys ms) (hm : ms.length ≤ 8) (hp : 0 ≤ p ∧ p ≤ 255) (hG : Good b p ms)
  (ret : ∀ (x dx : Addr) (ta tb tc td : Tok) (h' : Heap) (tk' : Nat), Fr h₀ L h' m → News h₀ L h' ((x, instObj 223 dx) :: (dx, dictOf [⟨PyData.keyHash w.params "data", .str "data" ta, .bytes (vec kd p ms) tb⟩, ⟨PyData.keyHash w.params "_subtype", .str "_subtype" tc, .int 9 td⟩] 2) :: news) → R (.ok (.ret (.ref x))) { s with heap := h', toks := tk' }) :
  codeAny (model P1 w) (ktrTop dp un gd cn cs L a ccd cl []) (.call (.ref 187) ⟨[.ref 223, .ref V], []⟩) R s := by
  rcases hK with ⟨rfl, rfl⟩ | ⟨rfl, rfl⟩
  · exact c_fvv16 (news := news) B F X (news_dup3 N MV MW MD) T hk (by omega) (by omega) hY hm hp (fun hg x dx ta tb tc td h' tk' F' N' => ret x dx ta tb tc td h' tk' F' (cb_drop N' (by (repeat (first | (intro p hp; (repeat (first | exact hp | exact List.mem_append_left _ hp | apply List.mem_cons_of_mem)); done) | (refine' sub_cons ?_ ?_; focus k_mem)))))) (fun hg => absurd hG hg)
  · exact c_fvv3 (news := news) B F X (news_dup3 N MV MW MD) T hk (by omega) (by omega) hY hm hp (fun hg x dx ta tb tc td h' tk' F' N' => ret x dx ta tb tc td h' tk' F' (cb_drop N' (by (repeat (first | (intro p hp; (repeat (first | exact hp | exact List.mem_append_left _ hp | apply List.mem_cons_of_mem)); done) | (refine' sub_cons ?_ ?_; focus k_mem)))))) (fun hg => absurd hG hg)
end
end Mine
end
section
namespace Mine
theorem wdC3x0 : True := by
  k_with_none
  (k_with "!eval Call" => first | (k_here; (with_reducible show wpAny _ _ (eval (Expr.Call _ _ [] _) _) _ _ _); k_dflt (refine Call_ ?_)))
  (k_with "!exec Raise some none" => first | (k_here; (with_reducible show wpAny _ _ (exec (Stmt.Raise (some (Expr.Call (Expr.Name (PySem.Str.ofString "ValueError") _) _ _ _)) none _) _) _ _ _); k_dflt (refine Raise_new rfl ?_)) | (k_here; (with_reducible show wpAny _ _ (exec (Stmt.Raise (some (Expr.Call (Expr.Name (PySem.Str.ofString "TypeError") _) _ _ _)) none _) _) _ _ _); k_dflt (refine Raise_new rfl ?_)))
  (k_with "!leaving ref" => first | (k_here; (with_reducible rename KtsDicts _ _ => kdX); k_dflt (first | (refine' leave_raiseS ?zqk1 ?zqk0 ?zqk2 ?zqk3 ?_; (case zqk0 => first | assumption | exact Heap.MadeExc.of (by assumption)); (case zqk2 => assumption); (case zqk1 => assumption); (case zqk3 => k_asm); k_whole; intro h' t' S' R' U'; (try dsimp only at S' R' U' ⊢)) | (refine' leave_onS ?zqk1 ?zqk2 ?zqk3 ?zqk4 ?_; (case zqk3 => assumption); (case zqk2 => assumption); (case zqk1 => assumption); (case zqk4 => assumption); k_whole; intro h' S' R' U'; (try dsimp only at S' R' U' ⊢)) | (refine' leave_newS ?zqk1 ?zqk0 ?zqk2 ?zqk3 ?_; (case zqk0 => assumption); (case zqk2 => assumption); (case zqk1 => assumption); (case zqk3 => k_asm); k_whole; intro h' S' R' U'; (try dsimp only at S' R' U' ⊢)) | (refine' leave_onSN ?zqk1 ?zqk2 ?zqk3 ?zqk4 ?_; (case zqk3 => assumption); (case zqk2 => assumption); (case zqk1 => assumption); (case zqk4 => assumption); k_whole; intro h' S' R' U'; (try dsimp only at S' R' U' ⊢)))))
  (k_with "!eval Name" => first | (k_here; (first | (with_reducible show wpAny _ _ (eval (Expr.Name _ _) (envOf _ _ _ _ _)) _ _ _) | (with_reducible show wpAny _ _ (eval (Expr.Name _ _) (envOfC _ _ _ _ _)) _ _ _)); k_dflt (first | (refine' nameX_L ?zqF ?zqv ?_ ?zqa ?zqb; (case zqF => k_asm); (case zqv => rfl); (case zqa => rfl); (case zqb => kernel_rfl); k_whole) | (refine' nameX_K ?zqF ?zqX ?zqT ?zqe ?_ ?zqa ?zqb; (case zqT => k_asm); (case zqX => k_asm); (case zqF => k_asm); (case zqe => k_is); (case zqa => rfl); (case zqb => kernel_rfl); k_whole) | (refine' nameX_B ?zqF ?zqX ?zqT ?zqe ?zqv ?zqn ?_ ?zqa ?zqb; (case zqT => k_asm); (case zqX => k_asm); (case zqF => k_asm); (case zqe => k_is); (case zqv => boot_fast); (case zqn => decide); (case zqa => rfl); (case zqb => kernel_rfl); k_whole))))
  (k_with "k_mem" => (assumption))
  (k_with "k_room" => (ktr_room))
  (k_with "k_units" => (ktr_units))
  (k_with "ktr_rel" => (first | k_asm | (refine' cb_drop ?zqcbN ?zqcbS; (case zqcbN => k_asm); (case zqcbS => (repeat (first | (intro p hp; (repeat (first | exact hp | exact List.mem_append_left _ hp | apply List.mem_cons_of_mem)); done) | (refine' sub_cons ?_ ?_; focus k_mem)))))))
  (k_with "k_lt?" => skip)
  (k_with "k_all" => (first | (refine all_ne_of ?_; assumption) | exact fun p hp => Nat.ne_of_lt ((by assumption : ∀ p ∈ _, p.1 < _) p hp)))
  (k_with "!call type:bytes" => first | (k_here; (with_reducible show wpAny _ _ (call (Value.type "bytes") [Value.bytes _ _]) _ _ _); refine bytes_id ?_) | (k_here; (with_reducible show wpAny _ _ (call (Value.type "bytes") [Value.ref _]) _ _ _); k_dflt (refine' bytes_L ?zqbF ?zqbN ?zqbh ?zqbl ?zqbi ?zqbr ?zqbz ?_; (case zqbF => k_asm); (case zqbN => k_asm); (case zqbh => rfl); (case zqbl => is_list); (case zqbi => assumption); (case zqbr => (first | (subst_vars; rw [List.map_id']; exact in_255 (by assumption)) | exact in_map256 | (subst_vars; exact in_map256) | exact in_255 (by assumption) | assumption)); (case zqbz => (simp_all; omega))); intro _ _ _ F' N'))
  (k_with "!binaryOp Add bytes bytes" => (k_here; (with_reducible show wpAny _ _ (binaryOp Operator.Add (Value.bytes _ _) (Value.bytes _ _)) _ _ _); (refine KBy.add_bytes (by (try simp only [Array.size_append, List.size_toArray, byteArr_size, octs_size, List.length_cons, List.length_nil, List.length_map]); omega) ?_); intro _ _))
  (k_with "cell_enter" => (refine' code_def ?zqk1 ?zqk2 ?zqk3 ?zqk4 ?zqk5 ?zqkA ?zqkF ?zqkK ?zqk6 ?zqk7 ?zqk8 ?zqk9 ?zqkB ?_ ?zqc2 ?zqc3 ?zqc4 ?zqc5; (case zqkA => exact rfl); (case zqkF => exact rfl); (case zqkK => assumption); (case zqk1 => k_asm); (case zqk2 => k_asm); (case zqk3 => k_asm); (case zqk4 => k_asm); (case zqk5 => k_asm); (case zqk6 => k_is); (case zqk7 => k_is); (case zqk8 => ktr_room); (case zqk9 => first | exact BindsTo.of_eq rfl | exact binds_K (by k_in) rfl (by k_is) rfl rfl rfl); (case zqc5 => decide); (case zqkB => exact locs rfl); (case zqc2 => exact rfl); (case zqc3 => exact rfl); (case zqc4 => exact rfl); k_whole; intro g' L' h' FG' F' N' B' X' T'; (try dsimp only); (try k_lift B'); (try k_fold)))
  (k_with "!compareOp NotIn" => first | (k_here; (with_reducible show wpAny _ _ (compareOp CmpOp.NotIn (Value.int _ _) (Value.ref _)) _ _ _); k_dflt (refine' notin_int_bytes ?zqt ?zqh ?_; (case zqt => exact isTup_of (by k_asm) (by k_mem)); (case zqh => rfl))) | (k_here; (with_reducible show wpAny _ _ (compareOp CmpOp.NotIn (Value.bytes _ _) (Value.ref _)) _ _ _); k_dflt (refine' notin_bytes ?zqt ?zqh ?zqe ?_; (case zqt => exact isTup_of (by k_asm) (by k_mem)); (case zqh => rfl); (case zqe => first | exact (rfl : _ = false) | exact (rfl : _ = true)))))
  (k_with "!binaryOp BitAnd int int" => (k_here; (with_reducible refine and_lowT (by omega) ?_); intro _ _ _ vE))
  (k_with "!subscriptTail" => (k_here; (with_reducible show wpAny _ _ (subscriptTail _ _ (Value.bytes _ _) (Value.int (-1) _)) _ _ _); (refine last_octet (by (try simp only [octs_size]); omega) (by (try simp only [octs_size]); omega) ?_); intro _ _ _ lO _ _))
  (k_with "!ite" => first | (k_closed; k_dflt (first | refine PySem.W.ite_pos (by decide) ?_ | refine PySem.W.ite_neg (by decide) ?_)) | (first | refine PySem.W.ite_neg (by (try simp only [bne_iff_ne, ne_eq, beq_iff_eq, decide_eq_true_eq, Bool.not_eq_true', bne_eq_false_iff_eq, beq_eq_false_iff_ne]); omega) ?_ | refine PySem.W.ite_pos (by (try simp only [bne_iff_ne, ne_eq, beq_iff_eq, decide_eq_true_eq]); omega) ?_))
  (k_with "!execs cons" => (k_here; dsimp only))
  (k_with "!execs nil" => (k_here; dsimp only))
  (k_with "!truthy bytes" => (k_here; (refine truthy_bytesV (v := true) (by (try simp only [Array.size_append, List.size_toArray, octs_size, List.length_cons, List.length_nil]); omega) rfl ?_)))
  (k_with "!compareOp Eq ref ref" => (k_here; (with_reducible show wpAny _ _ (compareOp CmpOp.Eq (Value.ref _) (Value.ref _)) _ _ _); k_dflt (refine' eq_intsK ?zql1 ?zqi1 ?zql2 ?zqi2 ?zqu ?_; (case zql1 => exact News.isList (by k_asm) (by k_mem)); (case zql2 => exact News.isList (by k_asm) (by k_mem)); (case zqi1 => assumption); (case zqi2 => assumption); (case zqu => ktr_units))))
  trivial
theorem bv1 {k1 k2 : Array UInt8} {p1 p2 : Int} {m1 m2 : List Int} (h : (k1.toList == k2.toList) = true) (hp : p1 = p2) : decide (m1 = m2) = true ↔ k1 = k2 ∧ p1 = p2 ∧ m1 = m2 := by
  have hk : k1 = k2 := Array.toList_inj.mp (by simpa using h)
  rw [decide_eq_true_iff]
  exact ⟨fun h => ⟨hk, hp, h⟩, fun h => h.2.2⟩
theorem bv2 {k1 k2 : Array UInt8} {p1 p2 : Int} {m1 m2 : List Int} (hp : p1 ≠ p2) : (p1 == p2) = true ↔ k1 = k2 ∧ p1 = p2 ∧ m1 = m2 := by
  rw [beq_iff_eq]
  exact ⟨fun h => absurd h hp, fun h => h.2.1⟩
theorem bv3 {k1 k2 : Array UInt8} {p1 p2 : Int} {m1 m2 : List Int} (h : (k1.toList == k2.toList) = false) : (k1.toList == k2.toList) = true ↔ k1 = k2 ∧ p1 = p2 ∧ m1 = m2 := by
  constructor
  · intro h2; rw [h] at h2; cases h2
  · rintro ⟨rfl, _⟩; exact beq_self_eq_true _
section
variable {w : World} {dp un : Nat} {gd : Option (List Code)} {cn : Str} {cs : Scope} {a : Addr} {ccd : Value} {cl : List (Str × Addr)} {outer : List Env} {A₀ : Around} {base h₀ : Heap} {L : Addr} {m : Str → Option Value} {s : Shared} {R : Result → Shared → Prop}
  {loose : List Str} {mean : ExcName → Option Value} {mg mb : Str → Option Value} {news : List (Addr × Obj)} {V1 dV1 D1 V2 dV2 D2 : Addr} {k1 k2 : Array UInt8} {p1 p2 : Int} {a1 b1 c1 d1 e1 a2 b2 c2 d2 e2 : Tok} {y1 y2 : List Value} {m1 m2 : List Int} {n1 n2 : Nat}
  (B : Below A₀ base outer h₀) (F : Fr h₀ L s.heap m) (X : (K0 w.params).In h₀) (N : News h₀ L s.heap news) (T : Top q1 loose mean mg mb h₀) (hk : cs.kind = .function)
  (h1 : dp + 8 < recursionLimit) (h2 : un + 180 < cLine)
  (MA : (V1, instObj 141 dV1) ∈ news) (MB : (dV1, dictOf [⟨PyData.keyHash w.params "data", .str "data" a1, .ref D1⟩, ⟨PyData.keyHash w.params "dtype", .str "dtype" b1, .bytes k1 c1⟩, ⟨PyData.keyHash w.params "padding", .str "padding" d1, .int p1 e1⟩] 3) ∈ news) (MC : (V2, instObj 141 dV2) ∈ news) (MD : (dV2, dictOf [⟨PyData.keyHash w.params "data", .str "data" a2, .ref D2⟩, ⟨PyData.keyHash w.params "dtype", .str "dtype" b2, .bytes k2 c2⟩, ⟨PyData.keyHash w.params "padding", .str "padding" d2, .int p2 e2⟩] 3) ∈ news) (ME : (D1, W.listOf y1.toArray n1) ∈ news) (MF : (D2, W.listOf y2.toArray n2) ∈ news)
include MA MB MC MD ME MF B F X N T hk h1 h2
theorem c_bveq (hY1 : IntsAre y1 m1) (hY2 : IntsAre y2 m2) (hm1 : m1.length ≤ 64) (hm2 : m2.length ≤ 64)
  (ret : ∀ (v : Bool) (h' : Heap) (tk' : Nat), (v = true ↔ k1 = k2 ∧ p1 = p2 ∧ m1 = m2) → Fr h₀ L h' m → News h₀ L h' news → R (.ok (.ret (.bool v))) { s with heap := h', toks := tk' }) :
  codeAny (model P1 w) (ktrTop dp un gd cn cs L a ccd cl outer) (.call (.ref 131) ⟨[.ref V1, .ref V2], []⟩) R s := by
  have D0 : KtsDicts [] h₀ := ktsDicts_nil
  k_dflt cell_enter
  conv in (bdy _) => whnf
  k_steps
  all_goals (refine' ret _ _ _ ?kv ?kf ?kn; (case kf => k_asm); (case kn => ktr_rel); (case kv => first | exact bv1 (by assumption) (by assumption) | exact bv2 (by assumption) | exact bv3 (by assumption)))
end
section
variable {w : World} {dp un : Nat} {gd : Option (List Code)} {cn : Str} {cs : Scope} {a : Addr} {ccd : Value} {cl : List (Str × Addr)} {outer : List Env} {A₀ : Around} {base h₀ : Heap} {L : Addr} {m : Str → Option Value} {s : Shared} {R : Result → Shared → Prop}
  {loose : List Str} {mean : ExcName → Option Value} {mg mb : Str → Option Value} {news : List (Addr × Obj)} {V1 dV1 D1 D2 : Addr} {k1 : Array UInt8} {p1 : Int} {a1 b1 c1 d1 e1 : Tok} {y2 : List Value} {n2 : Nat}
  (B : Below A₀ base outer h₀) (F : Fr h₀ L s.heap m) (X : (K0 w.params).In h₀) (N : News h₀ L s.heap news) (T : Top q1 loose mean mg mb h₀) (hk : cs.kind = .function)
  (h1 : dp + 8 < recursionLimit) (h2 : un + 180 < cLine)
  (MA : (V1, instObj 141 dV1) ∈ news) (MB : (dV1, dictOf [⟨PyData.keyHash w.params "data", .str "data" a1, .ref D1⟩, ⟨PyData.keyHash w.params "dtype", .str "dtype" b1, .bytes k1 c1⟩, ⟨PyData.keyHash w.params "padding", .str "padding" d1, .int p1 e1⟩] 3) ∈ news) (MF : (D2, W.listOf y2.toArray n2) ∈ news)
include MA MB MF B F X N T hk h1 h2
theorem c_bveqL
  (ret : ∀ (h' : Heap) (tk' : Nat), Fr h₀ L h' m → News h₀ L h' news → R (.ok (.ret (.bool false))) { s with heap := h', toks := tk' }) :
  codeAny (model P1 w) (ktrTop dp un gd cn cs L a ccd cl outer) (.call (.ref 131) ⟨[.ref V1, .ref D2], []⟩) R s := by
  have D0 : KtsDicts [] h₀ := ktsDicts_nil
  k_dflt cell_enter
  conv in (bdy _) => whnf
  k_steps
  all_goals (refine' ret _ _ ?kf ?kn; (case kf => k_asm); (case kn => ktr_rel))
end
end Mine
end
section
namespace Mine
theorem wdC3y0 : True := by
  k_with_none
  (k_with "!eval Call" => first | (k_here; (with_reducible show wpAny _ _ (eval (Expr.Call _ _ [] _) _) _ _ _); k_dflt (refine Call_ ?_)))
  (k_with "!exec Raise some none" => first | (k_here; (with_reducible show wpAny _ _ (exec (Stmt.Raise (some (Expr.Call (Expr.Name (PySem.Str.ofString "ValueError") _) _ _ _)) none _) _) _ _ _); k_dflt (refine Raise_new rfl ?_)) | (k_here; (with_reducible show wpAny _ _ (exec (Stmt.Raise (some (Expr.Call (Expr.Name (PySem.Str.ofString "TypeError") _) _ _ _)) none _) _) _ _ _); k_dflt (refine Raise_new rfl ?_)))
  (k_with "!leaving ref" => first | (k_here; (with_reducible rename KtsDicts _ _ => kdX); k_dflt (first | (refine' leave_raiseS ?zqk1 ?zqk0 ?zqk2 ?zqk3 ?_; (case zqk0 => first | assumption | exact Heap.MadeExc.of (by assumption)); (case zqk2 => assumption); (case zqk1 => assumption); (case zqk3 => k_asm); k_whole; intro h' t' S' R' U'; (try dsimp only at S' R' U' ⊢)) | (refine' leave_onS ?zqk1 ?zqk2 ?zqk3 ?zqk4 ?_; (case zqk3 => assumption); (case zqk2 => assumption); (case zqk1 => assumption); (case zqk4 => assumption); k_whole; intro h' S' R' U'; (try dsimp only at S' R' U' ⊢)) | (refine' leave_newS ?zqk1 ?zqk0 ?zqk2 ?zqk3 ?_; (case zqk0 => assumption); (case zqk2 => assumption); (case zqk1 => assumption); (case zqk3 => k_asm); k_whole; intro h' S' R' U'; (try dsimp only at S' R' U' ⊢)) | (refine' leave_onSN ?zqk1 ?zqk2 ?zqk3 ?zqk4 ?_; (case zqk3 => assumption); (case zqk2 => assumption); (case zqk1 => assumption); (case zqk4 => assumption); k_whole; intro h' S' R' U'; (try dsimp only at S' R' U' ⊢)))))
  (k_with "!eval Name" => first | (k_here; (first | (with_reducible show wpAny _ _ (eval (Expr.Name _ _) (envOf _ _ _ _ _)) _ _ _) | (with_reducible show wpAny _ _ (eval (Expr.Name _ _) (envOfC _ _ _ _ _)) _ _ _)); k_dflt (first | (refine' nameX_L ?zqF ?zqv ?_ ?zqa ?zqb; (case zqF => k_asm); (case zqv => rfl); (case zqa => rfl); (case zqb => kernel_rfl); k_whole) | (refine' nameX_K ?zqF ?zqX ?zqT ?zqe ?_ ?zqa ?zqb; (case zqT => k_asm); (case zqX => k_asm); (case zqF => k_asm); (case zqe => k_is); (case zqa => rfl); (case zqb => kernel_rfl); k_whole) | (refine' nameX_B ?zqF ?zqX ?zqT ?zqe ?zqv ?zqn ?_ ?zqa ?zqb; (case zqT => k_asm); (case zqX => k_asm); (case zqF => k_asm); (case zqe => k_is); (case zqv => boot_fast); (case zqn => decide); (case zqa => rfl); (case zqb => kernel_rfl); k_whole))))
  (k_with "k_mem" => (assumption))
  (k_with "k_room" => (ktr_room))
  (k_with "k_units" => (ktr_units))
  (k_with "ktr_rel" => (first | k_asm | (refine' cb_drop ?zqcbN ?zqcbS; (case zqcbN => k_asm); (case zqcbS => (repeat (first | (intro p hp; (repeat (first | exact hp | exact List.mem_append_left _ hp | apply List.mem_cons_of_mem)); done) | (refine' sub_cons ?_ ?_; focus k_mem)))))))
  (k_with "k_lt?" => skip)
  (k_with "k_all" => (first | (refine all_ne_of ?_; assumption) | exact fun p hp => Nat.ne_of_lt ((by assumption : ∀ p ∈ _, p.1 < _) p hp)))
  (k_with "!call type:bytes" => first | (k_here; (with_reducible show wpAny _ _ (call (Value.type "bytes") [Value.bytes _ _]) _ _ _); refine bytes_id ?_) | (k_here; (with_reducible show wpAny _ _ (call (Value.type "bytes") [Value.ref _]) _ _ _); k_dflt (refine' bytes_L ?zqbF ?zqbN ?zqbh ?zqbl ?zqbi ?zqbr ?zqbz ?_; (case zqbF => k_asm); (case zqbN => k_asm); (case zqbh => rfl); (case zqbl => is_list); (case zqbi => assumption); (case zqbr => (first | (subst_vars; rw [List.map_id']; exact in_255 (by assumption)) | exact in_map256 | (subst_vars; exact in_map256) | exact in_255 (by assumption) | assumption)); (case zqbz => (simp_all; omega))); intro _ _ _ F' N'))
  (k_with "!binaryOp Add bytes bytes" => (k_here; (with_reducible show wpAny _ _ (binaryOp Operator.Add (Value.bytes _ _) (Value.bytes _ _)) _ _ _); (refine KBy.add_bytes (by (try simp only [Array.size_append, List.size_toArray, byteArr_size, octs_size, List.length_cons, List.length_nil, List.length_map]); omega) ?_); intro _ _))
  (k_with "cell_enter" => (refine' code_def ?zqk1 ?zqk2 ?zqk3 ?zqk4 ?zqk5 ?zqkA ?zqkF ?zqkK ?zqk6 ?zqk7 ?zqk8 ?zqk9 ?zqkB ?_ ?zqc2 ?zqc3 ?zqc4 ?zqc5; (case zqkA => exact rfl); (case zqkF => exact rfl); (case zqkK => assumption); (case zqk1 => k_asm); (case zqk2 => k_asm); (case zqk3 => k_asm); (case zqk4 => k_asm); (case zqk5 => k_asm); (case zqk6 => k_is); (case zqk7 => k_is); (case zqk8 => ktr_room); (case zqk9 => first | exact BindsTo.of_eq rfl | exact binds_K (by k_in) rfl (by k_is) rfl rfl rfl); (case zqc5 => decide); (case zqkB => exact locs rfl); (case zqc2 => exact rfl); (case zqc3 => exact rfl); (case zqc4 => exact rfl); k_whole; intro g' L' h' FG' F' N' B' X' T'; (try dsimp only); (try k_lift B'); (try k_fold)))
  (k_with "!compareOp NotIn" => first | (k_here; (with_reducible show wpAny _ _ (compareOp CmpOp.NotIn (Value.int _ _) (Value.ref _)) _ _ _); k_dflt (refine' notin_int_bytes ?zqt ?zqh ?_; (case zqt => exact isTup_of (by k_asm) (by k_mem)); (case zqh => rfl))) | (k_here; (with_reducible show wpAny _ _ (compareOp CmpOp.NotIn (Value.bytes _ _) (Value.ref _)) _ _ _); k_dflt (refine' notin_bytes ?zqt ?zqh ?zqe ?_; (case zqt => exact isTup_of (by k_asm) (by k_mem)); (case zqh => rfl); (case zqe => first | exact (rfl : _ = false) | exact (rfl : _ = true)))))
  (k_with "!binaryOp BitAnd int int" => (k_here; (with_reducible refine and_lowT (by omega) ?_); intro _ _ _ vE))
  (k_with "!subscriptTail" => (k_here; (with_reducible show wpAny _ _ (subscriptTail _ _ (Value.bytes _ _) (Value.int (-1) _)) _ _ _); (refine last_octet (by (try simp only [octs_size]); omega) (by (try simp only [octs_size]); omega) ?_); intro _ _ _ lO _ _))
  (k_with "!ite" => first | (k_closed; k_dflt (first | refine PySem.W.ite_pos (by decide) ?_ | refine PySem.W.ite_neg (by decide) ?_)) | (first | refine PySem.W.ite_neg (by (try simp only [bne_iff_ne, ne_eq, beq_iff_eq, decide_eq_true_eq, Bool.not_eq_true', bne_eq_false_iff_eq, beq_eq_false_iff_ne]); omega) ?_ | refine PySem.W.ite_pos (by (try simp only [bne_iff_ne, ne_eq, beq_iff_eq, decide_eq_true_eq]); omega) ?_))
  (k_with "!execs cons" => (k_here; dsimp only))
  (k_with "!execs nil" => (k_here; dsimp only))
  (k_with "!truthy bytes" => (k_here; (refine truthy_bytesV (v := true) (by (try simp only [Array.size_append, List.size_toArray, octs_size, List.length_cons, List.length_nil]); omega) rfl ?_)))
  (k_with "!compareOp Eq ref ref" => (k_here; (with_reducible show wpAny _ _ (compareOp CmpOp.Eq (Value.ref _) (Value.ref _)) _ _ _); k_dflt (refine' eq_sameT ?zql ?zqb ?zqu ?zqe ?_; (case zql => exact isTup_of (by k_asm) (by k_mem)); (case zqb => exact isTup_of (by k_asm) (by k_mem)); (case zqu => ktr_units); (case zqe => exact ⟨ea_int_same _ _ _, ea_bytes_same _ _ _, trivial⟩))))
  trivial
theorem octs_list {ms : List Int} : octs ms = (ms.map fun n => (n.fmod 256).toNat.toUInt8).toArray := by
  unfold octs byteArr
  simp
theorem vec_list {k : UInt8} {p : Int} {ms : List Int} : vec #[k] p ms = (k :: p.toNat.toUInt8 :: ms.map fun n => (n.fmod 256).toNat.toUInt8).toArray := by
  unfold vec
  rw [octs_list]
  apply Array.toList_inj.mp
  simp
theorem octet_nat {x : Int} (h0 : 0 ≤ x) (h1 : x < 256) : ((x.toNat.toUInt8).toNat : Int) = x := toU8 x h0 h1
theorem dec_octs {b : Bool} {k : UInt8} {p : Int} {ms : List Int} (hK : KD b #[k]) (hG : Good b p ms) : dec k (ms.map fun n => (n.fmod 256).toNat.toUInt8) = ms := by
  rcases hK with ⟨rfl, h⟩ | ⟨rfl, h⟩
  · have hk : k = 16 := by simpa using h
    subst hk
    have hr := (goodT.mp hG).1
    unfold dec
    rw [if_neg (by decide), List.map_map]
    conv => rhs; rw [← List.map_id ms]
    refine List.map_congr_left fun n hn => ?_
    have := hr n hn
    have e : n.fmod 256 = n := by rw [Int.fmod_eq_emod_of_nonneg n (by decide), Int.emod_eq_of_lt this.1 (by omega)]
    show (((n.fmod 256).toNat.toUInt8).toNat : Int) = n
    rw [e, octet_nat this.1 (by omega)]
  · have hk : k = 3 := by simpa using h
    subst hk
    have hr := (goodF.mp hG).1
    unfold dec
    rw [if_pos rfl, List.map_map, List.map_map]
    conv => rhs; rw [← List.map_id ms]
    refine List.map_congr_left fun n hn => ?_
    have := hr n hn
    have hf := fmod256 n
    show (if (((n.fmod 256).toNat.toUInt8).toNat : Int) > 127 then (((n.fmod 256).toNat.toUInt8).toNat : Int) - 256 else (((n.fmod 256).toNat.toUInt8).toNat : Int)) = n
    rw [octet_nat hf.1 hf.2, Int.fmod_eq_emod_of_nonneg n (by decide)]
    split <;> omega
theorem rdOk_octs {b : Bool} {k : UInt8} {p : Int} {ms : List Int} (hK : KD b #[k]) (hp : 0 ≤ p ∧ p ≤ 255) (hG : Good b p ms) : RdOk k p.toNat.toUInt8 (ms.map fun n => (n.fmod 256).toNat.toUInt8) := by
  have e : ((p.toNat.toUInt8).toNat : Int) = p := octet_nat hp.1 (by omega)
  rcases hK with ⟨rfl, h⟩ | ⟨rfl, h⟩
  · have hk : k = 16 := by simpa using h
    subst hk
    have hg := goodT.mp hG
    refine .inr ⟨rfl, by omega, ?_⟩
    by_cases h0 : p = 0
    · left; omega
    · right; rw [List.length_map]; exact List.length_pos_iff.mpr (hg.2.2 h0).1
  · have hk : k = 3 := by simpa using h
    subst hk
    exact .inl ⟨rfl, by have := (goodF.mp hG).2; omega⟩
theorem kd_one {b : Bool} {kd : Array UInt8} (h : KD b kd) : ∃ k, kd = #[k] := by rcases h with ⟨_, h⟩ | ⟨_, h⟩ <;> exact ⟨_, h⟩
section
variable {w : World} {dp un : Nat} {gd : Option (List Code)} {cn : Str} {cs : Scope} {a : Addr} {ccd : Value} {cl : List (Str × Addr)}  {A₀ : Around} {base h₀ : Heap} {L : Addr} {m : Str → Option Value} {s : Shared} {R : Result → Shared → Prop}
  {loose : List Str} {mean : ExcName → Option Value} {mg mb : Str → Option Value} {news : List (Addr × Obj)} {xB dB : Addr} {kd : Array UInt8} {p : Int} {a1 b1 c1 d1 : Tok} {ms : List Int} {b : Bool}
  (XB : (K0 w.params).In base) (TB : Top q1 loose mean mg mb base) (B : Below A₀ base [] h₀) (F : Fr h₀ L s.heap m) (X : (K0 w.params).In h₀) (N : News h₀ L s.heap news) (T : Top q1 loose mean mg mb h₀) (hk : cs.kind = .function)
  (h1 : dp + 32 < recursionLimit) (h2 : un + 320 < cLine)
  (MA : (xB, instObj 223 dB) ∈ news) (MB : (dB, dictOf [⟨PyData.keyHash w.params "data", .str "data" a1, .bytes (vec kd p ms) b1⟩, ⟨PyData.keyHash w.params "_subtype", .str "_subtype" c1, .int 9 d1⟩] 2) ∈ news)
include XB TB MA MB B F X N T hk h1 h2
theorem m_avG (hK : KD b kd) (hm : ms.length ≤ 8) (hp : 0 ≤ p ∧ p ≤ 255) (hG : Good b p ms)
  (ret : ∀ (V dV z : Addr) (zs : List Value) (zk : Nat) (va vb vc vd ve : Tok) (h' : Heap) (tk' : Nat), IntsAre zs ms → Fr h₀ L h' m → News h₀ L h' ((V, instObj 141 dV) :: (dV, dictOf [⟨PyData.keyHash w.params "data", .str "data" va, .ref z⟩, ⟨PyData.keyHash w.params "dtype", .str "dtype" vb, .bytes kd vc⟩, ⟨PyData.keyHash w.params "padding", .str "padding" vd, .int p ve⟩] 3) :: (z, W.listOf zs.toArray zk) :: news) → R (.ok (.ret (.ref V))) { s with heap := h', toks := tk' }) :
  codeAny (model P1 w) (ktrTop dp un gd cn cs L a ccd cl []) (.call (.ref 198) ⟨[.ref xB], []⟩) R s := by
  obtain ⟨k, rfl⟩ := kd_one hK
  have hd : (vec #[k] p ms).size ≤ 66 := by rw [vec_list]; simp; omega
  have h39 : ∀ x1 l, vec #[k] p ms ≠ (39 :: x1 :: l).toArray := by
    intro x1 l e
    rw [vec_list] at e
    have e2 : k = 39 := by simpa using congrArg (fun a => a.toList.head?) e
    subst e2
    rcases hK with ⟨_, h⟩ | ⟨_, h⟩ <;> exact absurd h (by decide)
  have N2 : News h₀ L s.heap ((xB, instObj 223 dB) :: (dB, dictOf [⟨PyData.keyHash w.params "data", .str "data" a1, .bytes (vec #[k] p ms) b1⟩, ⟨PyData.keyHash w.params "_subtype", .str "_subtype" c1, .int 9 d1⟩] 2) :: news) := news_dup (news_dup N MB) (.tail _ MA)
  have hR : Rd (vec #[k] p ms) 9 := ⟨_, _, _, vec_list, rfl, rdOk_octs hK hp hG⟩
  refine g_av B F X N2 T hk (by omega) (by omega) hd h39 (fun x0 x1 l hde _ _ V dV z zs zk va vb vc vd ve h' tk' zI F' N' => ?_) (fun hn => absurd hR hn)
  rw [vec_list] at hde
  have e2 : k = x0 ∧ p.toNat.toUInt8 = x1 ∧ (ms.map fun n => (n.fmod 256).toNat.toUInt8) = l := by simpa using hde
  obtain ⟨rfl, rfl, rfl⟩ := e2
  rw [dec_octs hK hG] at zI
  rw [octet_nat hp.1 (by omega)] at N'
  exact ret V dV z zs zk va vb vc vd ve h' tk' zI F' (cb_drop N' (by (repeat (first | (intro p hp; (repeat (first | exact hp | exact List.mem_append_left _ hp | apply List.mem_cons_of_mem)); done) | (refine' sub_cons ?_ ?_; focus k_mem)))))
theorem m_readG (hK : KD b kd) (hm : ms.length ≤ 8) (hp : 0 ≤ p ∧ p ≤ 255) (hG : Good b p ms)
  (ret : ∀ (z T : Addr) (zs : List Value) (zk : Nat) (vc ve : Tok) (h' : Heap) (tk' : Nat), IntsAre zs ms → Fr h₀ L h' m → News h₀ L h' ((T, { cls := .type "tuple", data := .seq #[.ref z, .bytes kd vc, .int p ve] }) :: (z, W.listOf zs.toArray zk) :: news) → R (.ok (.ret (.ref T))) { s with heap := h', toks := tk' }) :
  codeAny (model P1 w) (ktrTop dp un gd cn cs L a ccd cl []) (.call (.ref 1547) ⟨[.ref xB], []⟩) R s := by
  obtain ⟨k, rfl⟩ := kd_one hK
  have hd : (vec #[k] p ms).size ≤ 66 := by rw [vec_list]; simp; omega
  have h39 : ∀ x1 l, vec #[k] p ms ≠ (39 :: x1 :: l).toArray := by
    intro x1 l e
    rw [vec_list] at e
    have e2 : k = 39 := by simpa using congrArg (fun a => a.toList.head?) e
    subst e2
    rcases hK with ⟨_, h⟩ | ⟨_, h⟩ <;> exact absurd h (by decide)
  have N2 : News h₀ L s.heap ((xB, instObj 223 dB) :: (dB, dictOf [⟨PyData.keyHash w.params "data", .str "data" a1, .bytes (vec #[k] p ms) b1⟩, ⟨PyData.keyHash w.params "_subtype", .str "_subtype" c1, .int 9 d1⟩] 2) :: news) := news_dup (news_dup N MB) (.tail _ MA)
  have hR : Rd (vec #[k] p ms) 9 := ⟨_, _, _, vec_list, rfl, rdOk_octs hK hp hG⟩
  refine c_read XB TB B F X N2 T hk (by omega) (by omega) hd h39 (fun x0 x1 l hde _ _ z T zs zk vc ve h' tk' zI F' N' => ?_) (fun hn => absurd hR hn)
  rw [vec_list] at hde
  have e2 : k = x0 ∧ p.toNat.toUInt8 = x1 ∧ (ms.map fun n => (n.fmod 256).toNat.toUInt8) = l := by simpa using hde
  obtain ⟨rfl, rfl, rfl⟩ := e2
  rw [dec_octs hK hG] at zI
  rw [octet_nat hp.1 (by omega)] at N'
  exact ret z T zs zk vc ve h' tk' zI F' (cb_drop N' (by (repeat (first | (intro p hp; (repeat (first | exact hp | exact List.mem_append_left _ hp | apply List.mem_cons_of_mem)); done) | (refine' sub_cons ?_ ?_; focus k_mem)))))
end
section
variable {w : World} {dp un : Nat} {gd : Option (List Code)} {cn : Str} {cs : Scope} {a : Addr} {ccd : Value} {cl : List (Str × Addr)} {outer : List Env} {A₀ : Around} {base h₀ : Heap} {L : Addr} {m : Str → Option Value} {s : Shared} {R : Result → Shared → Prop}
  {loose : List Str} {mean : ExcName → Option Value} {mg mb : Str → Option Value} {news : List (Addr × Obj)} {x1 dx1 x2 dx2 : Addr} {k1 k2 : Array UInt8} {s1 s2 : Int} {a1 b1 c1 d1 a2 b2 c2 d2 : Tok}
  (B : Below A₀ base outer h₀) (F : Fr h₀ L s.heap m) (X : (K0 w.params).In h₀) (N : News h₀ L s.heap news) (T : Top q1 loose mean mg mb h₀) (hk : cs.kind = .function)
  (h1 : dp + 12 < recursionLimit) (h2 : un + 180 < cLine)
  (MA : (x1, instObj 223 dx1) ∈ news) (MB : (dx1, dictOf [⟨PyData.keyHash w.params "data", .str "data" a1, .bytes k1 b1⟩, ⟨PyData.keyHash w.params "_subtype", .str "_subtype" c1, .int s1 d1⟩] 2) ∈ news) (MC : (x2, instObj 223 dx2) ∈ news) (MD : (dx2, dictOf [⟨PyData.keyHash w.params "data", .str "data" a2, .bytes k2 b2⟩, ⟨PyData.keyHash w.params "_subtype", .str "_subtype" c2, .int s2 d2⟩] 2) ∈ news)
include MA MB MC MD B F X N T hk h1 h2
theorem c_bineq (he : k1 = k2 ∧ s1 = s2)
  (ret : ∀ (h' : Heap) (tk' : Nat), Fr h₀ L h' m → News h₀ L h' news → R (.ok (.ret (.bool false))) { s with heap := h', toks := tk' }) :
  codeAny (model P1 w) (ktrTop dp un gd cn cs L a ccd cl outer) (.call (.ref 220) ⟨[.ref x1, .ref x2], []⟩) R s := by
  obtain ⟨rfl, rfl⟩ := he
  have D0 : KtsDicts [] h₀ := ktsDicts_nil
  k_dflt cell_enter
  conv in (bdy _) => whnf
  k_steps
  all_goals (refine' ret _ _ ?kf ?kn; (case kf => k_asm); (case kn => ktr_rel))
end
end Mine
end
section
namespace Mine
theorem wdC3ldue30 : True := by
  k_with_none
  (k_with "!eval Call" => first | (k_here; (with_reducible show wpAny _ _ (eval (Expr.Call _ _ [] _) _) _ _ _); k_dflt (refine Call_ ?_)))
  (k_with "!exec Raise some none" => first | (k_here; (with_reducible show wpAny _ _ (exec (Stmt.Raise (some (Expr.Call (Expr.Name (PySem.Str.ofString "ValueError") _) _ _ _)) none _) _) _ _ _); k_dflt (refine Raise_new rfl ?_)) | (k_here; (with_reducible show wpAny _ _ (exec (Stmt.Raise (some (Expr.Call (Expr.Name (PySem.Str.ofString "TypeError") _) _ _ _)) none _) _) _ _ _); k_dflt (refine Raise_new rfl ?_)))
  (k_with "!leaving ref" => first | (k_here; (with_reducible rename KtsDicts _ _ => kdX); k_dflt (first | (refine' leave_raiseS ?zqk1 ?zqk0 ?zqk2 ?zqk3 ?_; (case zqk0 => first | assumption | exact Heap.MadeExc.of (by assumption)); (case zqk2 => assumption); (case zqk1 => assumption); (case zqk3 => k_asm); k_whole; intro h' t' S' R' U'; (try dsimp only at S' R' U' ⊢)) | (refine' leave_onS ?zqk1 ?zqk2 ?zqk3 ?zqk4 ?_; (case zqk3 => assumption); (case zqk2 => assumption); (case zqk1 => assumption); (case zqk4 => assumption); k_whole; intro h' S' R' U'; (try dsimp only at S' R' U' ⊢)) | (refine' leave_newS ?zqk1 ?zqk0 ?zqk2 ?zqk3 ?_; (case zqk0 => assumption); (case zqk2 => assumption); (case zqk1 => assumption); (case zqk3 => k_asm); k_whole; intro h' S' R' U'; (try dsimp only at S' R' U' ⊢)) | (refine' leave_onSN ?zqk1 ?zqk2 ?zqk3 ?zqk4 ?_; (case zqk3 => assumption); (case zqk2 => assumption); (case zqk1 => assumption); (case zqk4 => assumption); k_whole; intro h' S' R' U'; (try dsimp only at S' R' U' ⊢)))))
  (k_with "!eval Name" => first | (k_here; (first | (with_reducible show wpAny _ _ (eval (Expr.Name _ _) (envOf _ _ _ _ _)) _ _ _) | (with_reducible show wpAny _ _ (eval (Expr.Name _ _) (envOfC _ _ _ _ _)) _ _ _)); k_dflt (first | (refine' nameX_L ?zqF ?zqv ?_ ?zqa ?zqb; (case zqF => k_asm); (case zqv => rfl); (case zqa => rfl); (case zqb => kernel_rfl); k_whole) | (refine' nameX_K ?zqF ?zqX ?zqT ?zqe ?_ ?zqa ?zqb; (case zqT => k_asm); (case zqX => k_asm); (case zqF => k_asm); (case zqe => k_is); (case zqa => rfl); (case zqb => kernel_rfl); k_whole) | (refine' nameX_B ?zqF ?zqX ?zqT ?zqe ?zqv ?zqn ?_ ?zqa ?zqb; (case zqT => k_asm); (case zqX => k_asm); (case zqF => k_asm); (case zqe => k_is); (case zqv => boot_fast); (case zqn => decide); (case zqa => rfl); (case zqb => kernel_rfl); k_whole))))
  (k_with "k_mem" => (assumption))
  (k_with "k_room" => (ktr_room))
  (k_with "k_units" => (ktr_units))
  (k_with "ktr_rel" => (first | k_asm | (refine' cb_drop ?zqcbN ?zqcbS; (case zqcbN => k_asm); (case zqcbS => (repeat (first | (intro p hp; (repeat (first | exact hp | exact List.mem_append_left _ hp | apply List.mem_cons_of_mem)); done) | (refine' sub_cons ?_ ?_; focus k_mem)))))))
  (k_with "k_lt?" => skip)
  (k_with "k_all" => (first | (refine all_ne_of ?_; assumption) | exact fun p hp => Nat.ne_of_lt ((by assumption : ∀ p ∈ _, p.1 < _) p hp)))
  (k_with "!call type:bytes" => first | (k_here; (with_reducible show wpAny _ _ (call (Value.type "bytes") [Value.bytes _ _]) _ _ _); refine bytes_id ?_) | (k_here; (with_reducible show wpAny _ _ (call (Value.type "bytes") [Value.ref _]) _ _ _); k_dflt (refine' bytes_L ?zqbF ?zqbN ?zqbh ?zqbl ?zqbi ?zqbr ?zqbz ?_; (case zqbF => k_asm); (case zqbN => k_asm); (case zqbh => rfl); (case zqbl => is_list); (case zqbi => assumption); (case zqbr => (first | (subst_vars; rw [List.map_id']; exact in_255 (by assumption)) | exact in_map256 | (subst_vars; exact in_map256) | exact in_255 (by assumption) | assumption)); (case zqbz => (simp_all; omega))); intro _ _ _ F' N'))
  (k_with "!binaryOp Add bytes bytes" => (k_here; (with_reducible show wpAny _ _ (binaryOp Operator.Add (Value.bytes _ _) (Value.bytes _ _)) _ _ _); (refine KBy.add_bytes (by (try simp only [Array.size_append, List.size_toArray, byteArr_size, octs_size, List.length_cons, List.length_nil, List.length_map]); omega) ?_); intro _ _))
  (k_with "cell_enter" => first | (refine' code_defC ?zqk1 ?zqk2 ?zqk3 ?zqk4 ?zqk5 ?zqkA ?zqkF ?zqkK ?zqk6 ?zqk7 ?zqk8 ?zqk9 ?zqkB ?zqkD ?_ ?zqc2 ?zqc3 ?zqc4; (case zqkA => exact rfl); (case zqkF => exact rfl); (case zqkK => assumption); (case zqk1 => k_asm); (case zqk2 => k_asm); (case zqk3 => k_asm); (case zqk4 => k_asm); (case zqk5 => k_asm); (case zqk6 => k_is); (case zqk7 => k_is); (case zqk8 => ktr_room); (case zqk9 => first | exact BindsTo.of_eq rfl | exact binds_K (by k_in) rfl (by k_is) rfl rfl rfl); (case zqkB => exact rfl); (case zqkD => decide +kernel); (case zqc2 => exact rfl); (case zqc3 => exact rfl); (case zqc4 => exact rfl); k_whole; intro g' L' h' tk' cells' FG' F' N' Y' B' X' T' l1; (try k_lt l1); k_cells Y'; (try simp only [List.cons_append, List.nil_append] at N'); (try dsimp only); (try k_lift B'); (try k_fold)) | (refine' code_def ?zqk1 ?zqk2 ?zqk3 ?zqk4 ?zqk5 ?zqkA ?zqkF ?zqkK ?zqk6 ?zqk7 ?zqk8 ?zqk9 ?zqkB ?_ ?zqc2 ?zqc3 ?zqc4 ?zqc5; (case zqkA => exact rfl); (case zqkF => exact rfl); (case zqkK => assumption); (case zqk1 => k_asm); (case zqk2 => k_asm); (case zqk3 => k_asm); (case zqk4 => k_asm); (case zqk5 => k_asm); (case zqk6 => k_is); (case zqk7 => k_is); (case zqk8 => ktr_room); (case zqk9 => first | exact BindsTo.of_eq rfl | exact binds_K (by k_in) rfl (by k_is) rfl rfl rfl); (case zqc5 => decide); (case zqkB => exact locs rfl); (case zqc2 => exact rfl); (case zqc3 => exact rfl); (case zqc4 => exact rfl); k_whole; intro g' L' h' FG' F' N' B' X' T'; (try dsimp only); (try k_lift B'); (try k_fold)))
  (k_with "!compareOp NotIn" => first | (k_here; (with_reducible show wpAny _ _ (compareOp CmpOp.NotIn (Value.int _ _) (Value.ref _)) _ _ _); k_dflt (refine' notin_int_bytes ?zqt ?zqh ?_; (case zqt => exact isTup_of (by k_asm) (by k_mem)); (case zqh => rfl))) | (k_here; (with_reducible show wpAny _ _ (compareOp CmpOp.NotIn (Value.bytes _ _) (Value.ref _)) _ _ _); k_dflt (refine' notin_bytes ?zqt ?zqh ?zqe ?_; (case zqt => exact isTup_of (by k_asm) (by k_mem)); (case zqh => rfl); (case zqe => first | exact (rfl : _ = false) | exact (rfl : _ = true)))))
  (k_with "!binaryOp BitAnd int int" => (k_here; (with_reducible refine and_lowT (by omega) ?_); intro _ _ _ vE))
  (k_with "!subscriptTail" => first | (k_here; (with_reducible show wpAny _ _ (subscriptTail _ _ (Value.bytes (List.toArray _) _) (Value.int _ _)) _ _ _); (refine item_octet (by decide) rfl (by (try simp only [List.length_cons, List.length_nil, List.length_append]); omega) ?_); intro _ _) | (k_here; (with_reducible show wpAny _ _ (subscriptTail _ (Expr.Slice _ _ none _) (Value.bytes _ _) (Value.ref _)) _ _ _); (with_reducible rename Fr _ _ _ _ => F'); (with_reducible rename News _ _ _ _ => N'); (refine slice_BV (s := ⟨_, _, _, _, _⟩) F' N' (by constructor) (by constructor) (by (try simp only [Array.size_append, List.size_toArray, octs_size, List.length_cons, List.length_nil, List.length_append]); omega) (by first | exact picked_drop2 _ _ _ | exact picked_01 _ _ _) ?_); intro _ _ _ _ _) | (k_here; (with_reducible show wpAny _ _ (subscriptTail _ _ (Value.bytes _ _) (Value.int (-1) _)) _ _ _); (refine last_octet (by (try simp only [octs_size]); omega) (by (try simp only [octs_size]); omega) ?_); intro _ _ _ lO _ _))
  (k_with "!ite" => first | (k_closed; k_dflt (first | refine PySem.W.ite_pos (by decide) ?_ | refine PySem.W.ite_neg (by decide) ?_)) | (first | refine PySem.W.ite_neg (by (try simp only [bne_iff_ne, ne_eq, beq_iff_eq, decide_eq_true_eq, Bool.not_eq_true', bne_eq_false_iff_eq, beq_eq_false_iff_ne]); omega) ?_ | refine PySem.W.ite_pos (by (try simp only [bne_iff_ne, ne_eq, beq_iff_eq, decide_eq_true_eq]); omega) ?_))
  (k_with "!execs cons" => (k_here; dsimp only))
  (k_with "!execs nil" => (k_here; dsimp only))
  (k_with "!truthy bytes" => (k_here; (refine truthy_bytesV (v := true) (by (try simp only [Array.size_append, List.size_toArray, octs_size, List.length_cons, List.length_nil]); omega) rfl ?_)))
  (k_with "!call builtin:len" => (k_here; (with_reducible show wpAny _ _ (call (Value.builtin "len") [Value.bytes _ _]) _ _ _); (refine len_bytesV (by (try simp only [Array.size_append, List.size_toArray, octs_size, List.length_cons, List.length_nil, List.length_append]); omega) (by simp only [Array.size_append, List.size_toArray, octs_size, List.length_cons, List.length_nil, List.length_append]; rfl) ?_); intro _ _))
  (k_with "!exec For Name Subscript cons nil" => (k_here; (rename Fr _ _ _ _ => lF'); (with_unfolding_all refine' For_invVF lF' ?zqk1 ?zqk2 ?_; (case zqk1 => exact rfl); (case zqk2 => exact rfl); k_whole)))
  (k_with "!eval ListComp" => (k_here; k_dflt (refine listcomp_bytes (by k_asm) (by with_unfolding_all rfl) (by decide) (by rfl) (by decide) (by rfl) ?_)))
  trivial
section
variable {w : World} {dp un : Nat} {gd : Option (List Code)} {cn : Str} {cs : Scope} {a : Addr} {ccd : Value} {cl : List (Str × Addr)} {outer : List Env} {A₀ : Around} {base h₀ : Heap} {L : Addr} {m : Str → Option Value} {s : Shared} {R : Result → Shared → Prop}
  {loose : List Str} {mean : ExcName → Option Value} {mg mb : Str → Option Value} {news : List (Addr × Obj)} {x0 x1 : UInt8} {l : List UInt8}
  (B : Below A₀ base outer h₀) (F : Fr h₀ L s.heap m) (X : (K0 w.params).In h₀) (N : News h₀ L s.heap news) (T : Top q1 loose mean mg mb h₀) (hk : cs.kind = .function)
  (h1 : dp + 24 < recursionLimit) (h2 : un + 240 < cLine)
include B F X N T hk h1 h2
theorem c_due3 {t : Tok} (hl : l.length ≤ 64)
  (ret : x1.toNat = 0 → ∀ (z T : Addr) (zs : List Value) (zk : Nat) (vc ve : Tok) (h' : Heap) (tk' : Nat), IntsAre zs ((l.map fun c => (c.toNat : Int)).map fun n => if n > 127 then n - 256 else n) → Fr h₀ L h' m → News h₀ L h' ((T, { cls := .type "tuple", data := .seq #[.ref z, .bytes #[3] vc, .int (x1.toNat : Int) ve] }) :: (z, W.listOf zs.toArray zk) :: news) → R (.ok (.ret (.ref T))) { s with heap := h', toks := tk' })
  (retB : ¬ (x1.toNat = 0) → ∀ (t' : Tok) (h' : Heap) (tk' : Nat), Fr h₀ L h' m → News h₀ L h' news → R (.ok (.ret (.str "value" t'))) { s with heap := h', toks := tk' }) :
  codeAny (model P1 w) (ktrTop dp un gd cn cs L a ccd cl outer) (.call (.ref 1552) ⟨[.bytes (3 :: x1 :: l).toArray t], []⟩) R s := by
  k_dflt cell_enter
  conv in (bdy _) => whnf
  k_steps
  all_goals first
    | (refine' retB (by omega) _ _ _ ?kf ?kn; (case kf => k_asm); (case kn => ktr_rel))
    | (exfalso; omega)
    | (exfalso; simp at *; omega)
    | skip
  all_goals
   (have hg : x1.toNat = 0 := by omega
    rename Fr _ _ _ _ => F9
    rename News _ _ _ _ => N9
    refine srcB_of (fun n => if n > 127 then n - 256 else n) rfl F9 N9 (by omega) ?turn ?fin
    case turn => as_aux_lemma =>
      clear F9 N9
      intro k tt I oI C oC D m₂ ys h tk E' hk hC hx F' N' off ne mk
      (try k_fold)
      k_steps
    case fin => as_aux_lemma =>
      clear F9 N9
      intro ys D h tk hy F' N' o1
      (try k_fold)
      k_steps
      refine' ret hg _ _ _ _ _ _ _ _ hy ?kf ?kn
      case kf => k_asm
      case kn => ktr_rel)
end
end Mine
end
section
namespace Mine
theorem wdC3ldue160 : True := by
  k_with_none
  (k_with "!eval Call" => first | (k_here; (with_reducible show wpAny _ _ (eval (Expr.Call _ _ [] _) _) _ _ _); k_dflt (refine Call_ ?_)))
  (k_with "!exec Raise some none" => first | (k_here; (with_reducible show wpAny _ _ (exec (Stmt.Raise (some (Expr.Call (Expr.Name (PySem.Str.ofString "ValueError") _) _ _ _)) none _) _) _ _ _); k_dflt (refine Raise_new rfl ?_)) | (k_here; (with_reducible show wpAny _ _ (exec (Stmt.Raise (some (Expr.Call (Expr.Name (PySem.Str.ofString "TypeError") _) _ _ _)) none _) _) _ _ _); k_dflt (refine Raise_new rfl ?_)))
  (k_with "!leaving ref" => first | (k_here; (with_reducible rename KtsDicts _ _ => kdX); k_dflt (first | (refine' leave_raiseS ?zqk1 ?zqk0 ?zqk2 ?zqk3 ?_; (case zqk0 => first | assumption | exact Heap.MadeExc.of (by assumption)); (case zqk2 => assumption); (case zqk1 => assumption); (case zqk3 => k_asm); k_whole; intro h' t' S' R' U'; (try dsimp only at S' R' U' ⊢)) | (refine' leave_onS ?zqk1 ?zqk2 ?zqk3 ?zqk4 ?_; (case zqk3 => assumption); (case zqk2 => assumption); (case zqk1 => assumption); (case zqk4 => assumption); k_whole; intro h' S' R' U'; (try dsimp only at S' R' U' ⊢)) | (refine' leave_newS ?zqk1 ?zqk0 ?zqk2 ?zqk3 ?_; (case zqk0 => assumption); (case zqk2 => assumption); (case zqk1 => assumption); (case zqk3 => k_asm); k_whole; intro h' S' R' U'; (try dsimp only at S' R' U' ⊢)) | (refine' leave_onSN ?zqk1 ?zqk2 ?zqk3 ?zqk4 ?_; (case zqk3 => assumption); (case zqk2 => assumption); (case zqk1 => assumption); (case zqk4 => assumption); k_whole; intro h' S' R' U'; (try dsimp only at S' R' U' ⊢)))))
  (k_with "!eval Name" => first | (k_here; (first | (with_reducible show wpAny _ _ (eval (Expr.Name _ _) (envOf _ _ _ _ _)) _ _ _) | (with_reducible show wpAny _ _ (eval (Expr.Name _ _) (envOfC _ _ _ _ _)) _ _ _)); k_dflt (first | (refine' nameX_L ?zqF ?zqv ?_ ?zqa ?zqb; (case zqF => k_asm); (case zqv => rfl); (case zqa => rfl); (case zqb => kernel_rfl); k_whole) | (refine' nameX_K ?zqF ?zqX ?zqT ?zqe ?_ ?zqa ?zqb; (case zqT => k_asm); (case zqX => k_asm); (case zqF => k_asm); (case zqe => k_is); (case zqa => rfl); (case zqb => kernel_rfl); k_whole) | (refine' nameX_B ?zqF ?zqX ?zqT ?zqe ?zqv ?zqn ?_ ?zqa ?zqb; (case zqT => k_asm); (case zqX => k_asm); (case zqF => k_asm); (case zqe => k_is); (case zqv => boot_fast); (case zqn => decide); (case zqa => rfl); (case zqb => kernel_rfl); k_whole))))
  (k_with "k_mem" => (assumption))
  (k_with "k_room" => (ktr_room))
  (k_with "k_units" => (ktr_units))
  (k_with "ktr_rel" => (first | k_asm | (refine' cb_drop ?zqcbN ?zqcbS; (case zqcbN => k_asm); (case zqcbS => (repeat (first | (intro p hp; (repeat (first | exact hp | exact List.mem_append_left _ hp | apply List.mem_cons_of_mem)); done) | (refine' sub_cons ?_ ?_; focus k_mem)))))))
  (k_with "k_lt?" => skip)
  (k_with "k_all" => (first | (refine all_ne_of ?_; assumption) | exact fun p hp => Nat.ne_of_lt ((by assumption : ∀ p ∈ _, p.1 < _) p hp)))
  (k_with "!call type:bytes" => first | (k_here; (with_reducible show wpAny _ _ (call (Value.type "bytes") [Value.bytes _ _]) _ _ _); refine bytes_id ?_) | (k_here; (with_reducible show wpAny _ _ (call (Value.type "bytes") [Value.ref _]) _ _ _); k_dflt (refine' bytes_L ?zqbF ?zqbN ?zqbh ?zqbl ?zqbi ?zqbr ?zqbz ?_; (case zqbF => k_asm); (case zqbN => k_asm); (case zqbh => rfl); (case zqbl => is_list); (case zqbi => assumption); (case zqbr => (first | (subst_vars; rw [List.map_id']; exact in_255 (by assumption)) | exact in_map256 | (subst_vars; exact in_map256) | exact in_255 (by assumption) | assumption)); (case zqbz => (simp_all; omega))); intro _ _ _ F' N'))
  (k_with "!binaryOp Add bytes bytes" => (k_here; (with_reducible show wpAny _ _ (binaryOp Operator.Add (Value.bytes _ _) (Value.bytes _ _)) _ _ _); (refine KBy.add_bytes (by (try simp only [Array.size_append, List.size_toArray, byteArr_size, octs_size, List.length_cons, List.length_nil, List.length_map]); omega) ?_); intro _ _))
  (k_with "cell_enter" => first | (refine' code_defC ?zqk1 ?zqk2 ?zqk3 ?zqk4 ?zqk5 ?zqkA ?zqkF ?zqkK ?zqk6 ?zqk7 ?zqk8 ?zqk9 ?zqkB ?zqkD ?_ ?zqc2 ?zqc3 ?zqc4; (case zqkA => exact rfl); (case zqkF => exact rfl); (case zqkK => assumption); (case zqk1 => k_asm); (case zqk2 => k_asm); (case zqk3 => k_asm); (case zqk4 => k_asm); (case zqk5 => k_asm); (case zqk6 => k_is); (case zqk7 => k_is); (case zqk8 => ktr_room); (case zqk9 => first | exact BindsTo.of_eq rfl | exact binds_K (by k_in) rfl (by k_is) rfl rfl rfl); (case zqkB => exact rfl); (case zqkD => decide +kernel); (case zqc2 => exact rfl); (case zqc3 => exact rfl); (case zqc4 => exact rfl); k_whole; intro g' L' h' tk' cells' FG' F' N' Y' B' X' T' l1; (try k_lt l1); k_cells Y'; (try simp only [List.cons_append, List.nil_append] at N'); (try dsimp only); (try k_lift B'); (try k_fold)) | (refine' code_def ?zqk1 ?zqk2 ?zqk3 ?zqk4 ?zqk5 ?zqkA ?zqkF ?zqkK ?zqk6 ?zqk7 ?zqk8 ?zqk9 ?zqkB ?_ ?zqc2 ?zqc3 ?zqc4 ?zqc5; (case zqkA => exact rfl); (case zqkF => exact rfl); (case zqkK => assumption); (case zqk1 => k_asm); (case zqk2 => k_asm); (case zqk3 => k_asm); (case zqk4 => k_asm); (case zqk5 => k_asm); (case zqk6 => k_is); (case zqk7 => k_is); (case zqk8 => ktr_room); (case zqk9 => first | exact BindsTo.of_eq rfl | exact binds_K (by k_in) rfl (by k_is) rfl rfl rfl); (case zqc5 => decide); (case zqkB => exact locs rfl); (case zqc2 => exact rfl); (case zqc3 => exact rfl); (case zqc4 => exact rfl); k_whole; intro g' L' h' FG' F' N' B' X' T'; (try dsimp only); (try k_lift B'); (try k_fold)))
  (k_with "!compareOp NotIn" => first | (k_here; (with_reducible show wpAny _ _ (compareOp CmpOp.NotIn (Value.int _ _) (Value.ref _)) _ _ _); k_dflt (refine' notin_int_bytes ?zqt ?zqh ?_; (case zqt => exact isTup_of (by k_asm) (by k_mem)); (case zqh => rfl))) | (k_here; (with_reducible show wpAny _ _ (compareOp CmpOp.NotIn (Value.bytes _ _) (Value.ref _)) _ _ _); k_dflt (refine' notin_bytes ?zqt ?zqh ?zqe ?_; (case zqt => exact isTup_of (by k_asm) (by k_mem)); (case zqh => rfl); (case zqe => first | exact (rfl : _ = false) | exact (rfl : _ = true)))))
  (k_with "!binaryOp BitAnd int int" => (k_here; (with_reducible refine and_lowT (by omega) ?_); intro _ _ _ vE))
  (k_with "!subscriptTail" => first | (k_here; (with_reducible show wpAny _ _ (subscriptTail _ _ (Value.bytes (List.toArray _) _) (Value.int _ _)) _ _ _); (refine item_octet (by decide) rfl (by (try simp only [List.length_cons, List.length_nil, List.length_append]); omega) ?_); intro _ _) | (k_here; (with_reducible show wpAny _ _ (subscriptTail _ (Expr.Slice _ _ none _) (Value.bytes _ _) (Value.ref _)) _ _ _); (with_reducible rename Fr _ _ _ _ => F'); (with_reducible rename News _ _ _ _ => N'); (refine slice_BV (s := ⟨_, _, _, _, _⟩) F' N' (by constructor) (by constructor) (by (try simp only [Array.size_append, List.size_toArray, octs_size, List.length_cons, List.length_nil, List.length_append]); omega) (by first | exact picked_drop2 _ _ _ | exact picked_01 _ _ _) ?_); intro _ _ _ _ _) | (k_here; (with_reducible show wpAny _ _ (subscriptTail _ _ (Value.bytes _ _) (Value.int (-1) _)) _ _ _); (refine last_octet (by (try simp only [octs_size]); omega) (by (try simp only [octs_size]); omega) ?_); intro _ _ _ lO _ _))
  (k_with "!ite" => first | (k_closed; k_dflt (first | refine PySem.W.ite_pos (by decide) ?_ | refine PySem.W.ite_neg (by decide) ?_)) | (first | refine PySem.W.ite_neg (by (try simp only [bne_iff_ne, ne_eq, beq_iff_eq, decide_eq_true_eq, Bool.not_eq_true', bne_eq_false_iff_eq, beq_eq_false_iff_ne]); omega) ?_ | refine PySem.W.ite_pos (by (try simp only [bne_iff_ne, ne_eq, beq_iff_eq, decide_eq_true_eq]); omega) ?_))
  (k_with "!execs cons" => (k_here; dsimp only))
  (k_with "!execs nil" => (k_here; dsimp only))
  (k_with "!truthy bytes" => (k_here; (refine truthy_bytesV (v := true) (by (try simp only [Array.size_append, List.size_toArray, octs_size, List.length_cons, List.length_nil]); omega) rfl ?_)))
  (k_with "!call builtin:len" => (k_here; (with_reducible show wpAny _ _ (call (Value.builtin "len") [Value.bytes _ _]) _ _ _); (refine len_bytesV (by (try simp only [Array.size_append, List.size_toArray, octs_size, List.length_cons, List.length_nil, List.length_append]); omega) (by simp only [Array.size_append, List.size_toArray, octs_size, List.length_cons, List.length_nil, List.length_append]; rfl) ?_); intro _ _))
  (k_with "!exec For Name Subscript cons nil" => (k_here; (rename Fr _ _ _ _ => lF'); (with_unfolding_all refine' For_invVF lF' ?zqk1 ?zqk2 ?_; (case zqk1 => exact rfl); (case zqk2 => exact rfl); k_whole)))
  (k_with "!eval ListComp" => (k_here; k_dflt (refine listcomp_bytes (by k_asm) (by with_unfolding_all rfl) (by decide) (by rfl) (by decide) (by rfl) ?_)))
  trivial
section
variable {w : World} {dp un : Nat} {gd : Option (List Code)} {cn : Str} {cs : Scope} {a : Addr} {ccd : Value} {cl : List (Str × Addr)} {outer : List Env} {A₀ : Around} {base h₀ : Heap} {L : Addr} {m : Str → Option Value} {s : Shared} {R : Result → Shared → Prop}
  {loose : List Str} {mean : ExcName → Option Value} {mg mb : Str → Option Value} {news : List (Addr × Obj)} {x0 x1 : UInt8} {l : List UInt8}
  (B : Below A₀ base outer h₀) (F : Fr h₀ L s.heap m) (X : (K0 w.params).In h₀) (N : News h₀ L s.heap news) (T : Top q1 loose mean mg mb h₀) (hk : cs.kind = .function)
  (h1 : dp + 24 < recursionLimit) (h2 : un + 240 < cLine)
include B F X N T hk h1 h2
theorem c_due16 {t : Tok} (hl : l.length ≤ 64)
  (ret : x1.toNat ≤ 7 ∧ (x1.toNat = 0 ∨ 0 < l.length) → ∀ (z T : Addr) (zs : List Value) (zk : Nat) (vc ve : Tok) (h' : Heap) (tk' : Nat), IntsAre zs ((l.map fun c => (c.toNat : Int)).map fun n => n) → Fr h₀ L h' m → News h₀ L h' ((T, { cls := .type "tuple", data := .seq #[.ref z, .bytes #[16] vc, .int (x1.toNat : Int) ve] }) :: (z, W.listOf zs.toArray zk) :: news) → R (.ok (.ret (.ref T))) { s with heap := h', toks := tk' })
  (retB : ¬ (x1.toNat ≤ 7 ∧ (x1.toNat = 0 ∨ 0 < l.length)) → ∀ (t' : Tok) (h' : Heap) (tk' : Nat), Fr h₀ L h' m → News h₀ L h' news → R (.ok (.ret (.str "value" t'))) { s with heap := h', toks := tk' }) :
  codeAny (model P1 w) (ktrTop dp un gd cn cs L a ccd cl outer) (.call (.ref 1552) ⟨[.bytes (16 :: x1 :: l).toArray t], []⟩) R s := by
  k_dflt cell_enter
  conv in (bdy _) => whnf
  k_steps
  all_goals first
    | (refine' retB (by omega) _ _ _ ?kf ?kn; (case kf => k_asm); (case kn => ktr_rel))
    | (exfalso; omega)
    | (exfalso; simp at *; omega)
    | skip
  all_goals
   (rename Fr _ _ _ _ => F9
    rename News _ _ _ _ => N9
    refine srcB_of (fun n => n) rfl F9 N9 (by omega) ?turn ?fin
    case turn =>
      clear F9 N9
      intro k tt I oI C oC D m₂ ys h tk E' hk hC hx F' N' off ne mk
      (try k_fold)
      k_steps
    case fin =>
      clear F9 N9
      intro ys D h tk hy F' N' o1
      (try k_fold)
      k_steps
      refine' ret (by omega) _ _ _ _ _ _ _ _ hy ?kf ?kn
      case kf => k_asm
      case kn => ktr_rel)
end
end Mine
end
section
namespace Mine
theorem wdC3lduex0 : True := by
  k_with_none
  (k_with "!eval Call" => first | (k_here; (with_reducible show wpAny _ _ (eval (Expr.Call _ _ [] _) _) _ _ _); k_dflt (refine Call_ ?_)))
  (k_with "!exec Raise some none" => first | (k_here; (with_reducible show wpAny _ _ (exec (Stmt.Raise (some (Expr.Call (Expr.Name (PySem.Str.ofString "ValueError") _) _ _ _)) none _) _) _ _ _); k_dflt (refine Raise_new rfl ?_)) | (k_here; (with_reducible show wpAny _ _ (exec (Stmt.Raise (some (Expr.Call (Expr.Name (PySem.Str.ofString "TypeError") _) _ _ _)) none _) _) _ _ _); k_dflt (refine Raise_new rfl ?_)))
  (k_with "!leaving ref" => first | (k_here; (with_reducible rename KtsDicts _ _ => kdX); k_dflt (first | (refine' leave_raiseS ?zqk1 ?zqk0 ?zqk2 ?zqk3 ?_; (case zqk0 => first | assumption | exact Heap.MadeExc.of (by assumption)); (case zqk2 => assumption); (case zqk1 => assumption); (case zqk3 => k_asm); k_whole; intro h' t' S' R' U'; (try dsimp only at S' R' U' ⊢)) | (refine' leave_onS ?zqk1 ?zqk2 ?zqk3 ?zqk4 ?_; (case zqk3 => assumption); (case zqk2 => assumption); (case zqk1 => assumption); (case zqk4 => assumption); k_whole; intro h' S' R' U'; (try dsimp only at S' R' U' ⊢)) | (refine' leave_newS ?zqk1 ?zqk0 ?zqk2 ?zqk3 ?_; (case zqk0 => assumption); (case zqk2 => assumption); (case zqk1 => assumption); (case zqk3 => k_asm); k_whole; intro h' S' R' U'; (try dsimp only at S' R' U' ⊢)) | (refine' leave_onSN ?zqk1 ?zqk2 ?zqk3 ?zqk4 ?_; (case zqk3 => assumption); (case zqk2 => assumption); (case zqk1 => assumption); (case zqk4 => assumption); k_whole; intro h' S' R' U'; (try dsimp only at S' R' U' ⊢)))))
  (k_with "!eval Name" => first | (k_here; (first | (with_reducible show wpAny _ _ (eval (Expr.Name _ _) (envOf _ _ _ _ _)) _ _ _) | (with_reducible show wpAny _ _ (eval (Expr.Name _ _) (envOfC _ _ _ _ _)) _ _ _)); k_dflt (first | (refine' nameX_L ?zqF ?zqv ?_ ?zqa ?zqb; (case zqF => k_asm); (case zqv => rfl); (case zqa => rfl); (case zqb => kernel_rfl); k_whole) | (refine' nameX_K ?zqF ?zqX ?zqT ?zqe ?_ ?zqa ?zqb; (case zqT => k_asm); (case zqX => k_asm); (case zqF => k_asm); (case zqe => k_is); (case zqa => rfl); (case zqb => kernel_rfl); k_whole) | (refine' nameX_B ?zqF ?zqX ?zqT ?zqe ?zqv ?zqn ?_ ?zqa ?zqb; (case zqT => k_asm); (case zqX => k_asm); (case zqF => k_asm); (case zqe => k_is); (case zqv => boot_fast); (case zqn => decide); (case zqa => rfl); (case zqb => kernel_rfl); k_whole))))
  (k_with "k_mem" => (assumption))
  (k_with "k_room" => (ktr_room))
  (k_with "k_units" => (ktr_units))
  (k_with "ktr_rel" => (first | k_asm | (refine' cb_drop ?zqcbN ?zqcbS; (case zqcbN => k_asm); (case zqcbS => (repeat (first | (intro p hp; (repeat (first | exact hp | exact List.mem_append_left _ hp | apply List.mem_cons_of_mem)); done) | (refine' sub_cons ?_ ?_; focus k_mem)))))))
  (k_with "k_lt?" => skip)
  (k_with "k_all" => (first | (refine all_ne_of ?_; assumption) | exact fun p hp => Nat.ne_of_lt ((by assumption : ∀ p ∈ _, p.1 < _) p hp)))
  (k_with "!call type:bytes" => first | (k_here; (with_reducible show wpAny _ _ (call (Value.type "bytes") [Value.bytes _ _]) _ _ _); refine bytes_id ?_) | (k_here; (with_reducible show wpAny _ _ (call (Value.type "bytes") [Value.ref _]) _ _ _); k_dflt (refine' bytes_L ?zqbF ?zqbN ?zqbh ?zqbl ?zqbi ?zqbr ?zqbz ?_; (case zqbF => k_asm); (case zqbN => k_asm); (case zqbh => rfl); (case zqbl => is_list); (case zqbi => assumption); (case zqbr => (first | (subst_vars; rw [List.map_id']; exact in_255 (by assumption)) | exact in_map256 | (subst_vars; exact in_map256) | exact in_255 (by assumption) | assumption)); (case zqbz => (simp_all; omega))); intro _ _ _ F' N'))
  (k_with "!binaryOp Add bytes bytes" => (k_here; (with_reducible show wpAny _ _ (binaryOp Operator.Add (Value.bytes _ _) (Value.bytes _ _)) _ _ _); (refine KBy.add_bytes (by (try simp only [Array.size_append, List.size_toArray, byteArr_size, octs_size, List.length_cons, List.length_nil, List.length_map]); omega) ?_); intro _ _))
  (k_with "cell_enter" => first | (refine' code_defC ?zqk1 ?zqk2 ?zqk3 ?zqk4 ?zqk5 ?zqkA ?zqkF ?zqkK ?zqk6 ?zqk7 ?zqk8 ?zqk9 ?zqkB ?zqkD ?_ ?zqc2 ?zqc3 ?zqc4; (case zqkA => exact rfl); (case zqkF => exact rfl); (case zqkK => assumption); (case zqk1 => k_asm); (case zqk2 => k_asm); (case zqk3 => k_asm); (case zqk4 => k_asm); (case zqk5 => k_asm); (case zqk6 => k_is); (case zqk7 => k_is); (case zqk8 => ktr_room); (case zqk9 => first | exact BindsTo.of_eq rfl | exact binds_K (by k_in) rfl (by k_is) rfl rfl rfl); (case zqkB => exact rfl); (case zqkD => decide +kernel); (case zqc2 => exact rfl); (case zqc3 => exact rfl); (case zqc4 => exact rfl); k_whole; intro g' L' h' tk' cells' FG' F' N' Y' B' X' T' l1; (try k_lt l1); k_cells Y'; (try simp only [List.cons_append, List.nil_append] at N'); (try dsimp only); (try k_lift B'); (try k_fold)) | (refine' code_def ?zqk1 ?zqk2 ?zqk3 ?zqk4 ?zqk5 ?zqkA ?zqkF ?zqkK ?zqk6 ?zqk7 ?zqk8 ?zqk9 ?zqkB ?_ ?zqc2 ?zqc3 ?zqc4 ?zqc5; (case zqkA => exact rfl); (case zqkF => exact rfl); (case zqkK => assumption); (case zqk1 => k_asm); (case zqk2 => k_asm); (case zqk3 => k_asm); (case zqk4 => k_asm); (case zqk5 => k_asm); (case zqk6 => k_is); (case zqk7 => k_is); (case zqk8 => ktr_room); (case zqk9 => first | exact BindsTo.of_eq rfl | exact binds_K (by k_in) rfl (by k_is) rfl rfl rfl); (case zqc5 => decide); (case zqkB => exact locs rfl); (case zqc2 => exact rfl); (case zqc3 => exact rfl); (case zqc4 => exact rfl); k_whole; intro g' L' h' FG' F' N' B' X' T'; (try dsimp only); (try k_lift B'); (try k_fold)))
  (k_with "!compareOp NotIn" => first | (k_here; (with_reducible show wpAny _ _ (compareOp CmpOp.NotIn (Value.int _ _) (Value.ref _)) _ _ _); k_dflt (refine' notin_int_bytes ?zqt ?zqh ?_; (case zqt => exact isTup_of (by k_asm) (by k_mem)); (case zqh => rfl))) | (k_here; (with_reducible show wpAny _ _ (compareOp CmpOp.NotIn (Value.bytes _ _) (Value.ref _)) _ _ _); k_dflt (refine' notin_bytes ?zqt ?zqh ?zqe ?_; (case zqt => exact isTup_of (by k_asm) (by k_mem)); (case zqh => rfl); (case zqe => first | exact (rfl : _ = false) | exact (rfl : _ = true)))))
  (k_with "!binaryOp BitAnd int int" => (k_here; (with_reducible refine and_lowT (by omega) ?_); intro _ _ _ vE))
  (k_with "!subscriptTail" => first | (k_here; (with_reducible show wpAny _ _ (subscriptTail _ _ (Value.bytes (List.toArray _) _) (Value.int _ _)) _ _ _); (refine item_octet (by decide) rfl (by (try simp only [List.length_cons, List.length_nil, List.length_append]); omega) ?_); intro _ _) | (k_here; (with_reducible show wpAny _ _ (subscriptTail _ (Expr.Slice _ _ none _) (Value.bytes _ _) (Value.ref _)) _ _ _); (with_reducible rename Fr _ _ _ _ => F'); (with_reducible rename News _ _ _ _ => N'); (refine slice_BV (s := ⟨_, _, _, _, _⟩) F' N' (by constructor) (by constructor) (by (try simp only [Array.size_append, List.size_toArray, octs_size, List.length_cons, List.length_nil, List.length_append]); omega) (by first | exact picked_drop2 _ _ _ | exact picked_01 _ _ _) ?_); intro _ _ _ _ _) | (k_here; (with_reducible show wpAny _ _ (subscriptTail _ _ (Value.bytes _ _) (Value.int (-1) _)) _ _ _); (refine last_octet (by (try simp only [octs_size]); omega) (by (try simp only [octs_size]); omega) ?_); intro _ _ _ lO _ _))
  (k_with "!ite" => first | (k_closed; k_dflt (first | refine PySem.W.ite_pos (by decide) ?_ | refine PySem.W.ite_neg (by decide) ?_)) | (first | refine PySem.W.ite_neg (by (try simp only [bne_iff_ne, ne_eq, beq_iff_eq, decide_eq_true_eq, Bool.not_eq_true', bne_eq_false_iff_eq, beq_eq_false_iff_ne]); omega) ?_ | refine PySem.W.ite_pos (by (try simp only [bne_iff_ne, ne_eq, beq_iff_eq, decide_eq_true_eq]); omega) ?_))
  (k_with "!execs cons" => (k_here; dsimp only))
  (k_with "!execs nil" => (k_here; dsimp only))
  (k_with "!truthy bytes" => (k_here; (refine truthy_bytesV (v := true) (by (try simp only [Array.size_append, List.size_toArray, octs_size, List.length_cons, List.length_nil]); omega) rfl ?_)))
  (k_with "!call builtin:len" => (k_here; (with_reducible show wpAny _ _ (call (Value.builtin "len") [Value.bytes _ _]) _ _ _); (refine len_bytesV (by (try simp only [Array.size_append, List.size_toArray, octs_size, List.length_cons, List.length_nil, List.length_append]); omega) (by simp only [Array.size_append, List.size_toArray, octs_size, List.length_cons, List.length_nil, List.length_append]; rfl) ?_); intro _ _))
  (k_with "!exec For Name Subscript cons nil" => (k_here; (rename Fr _ _ _ _ => lF'); (with_unfolding_all refine' For_invVF lF' ?zqk1 ?zqk2 ?_; (case zqk1 => exact rfl); (case zqk2 => exact rfl); k_whole)))
  (k_with "!eval ListComp" => (k_here; k_dflt (refine listcomp_bytes (by k_asm) (by with_unfolding_all rfl) (by decide) (by rfl) (by decide) (by rfl) ?_)))
  trivial
section
variable {w : World} {dp un : Nat} {gd : Option (List Code)} {cn : Str} {cs : Scope} {a : Addr} {ccd : Value} {cl : List (Str × Addr)} {outer : List Env} {A₀ : Around} {base h₀ : Heap} {L : Addr} {m : Str → Option Value} {s : Shared} {R : Result → Shared → Prop}
  {loose : List Str} {mean : ExcName → Option Value} {mg mb : Str → Option Value} {news : List (Addr × Obj)} {x0 x1 : UInt8} {l : List UInt8}
  (B : Below A₀ base outer h₀) (F : Fr h₀ L s.heap m) (X : (K0 w.params).In h₀) (N : News h₀ L s.heap news) (T : Top q1 loose mean mg mb h₀) (hk : cs.kind = .function)
  (h1 : dp + 24 < recursionLimit) (h2 : un + 240 < cLine)
include B F X N T hk h1 h2
theorem c_duex {t : Tok} (hl : l.length ≤ 64) (n3 : x0.toNat ≠ 3) (n16 : x0.toNat ≠ 16)
  (retB : 0 = 0 → ∀ (t' : Tok) (h' : Heap) (tk' : Nat), Fr h₀ L h' m → News h₀ L h' news → R (.ok (.ret (.str "value" t'))) { s with heap := h', toks := tk' }) :
  codeAny (model P1 w) (ktrTop dp un gd cn cs L a ccd cl outer) (.call (.ref 1552) ⟨[.bytes (x0 :: x1 :: l).toArray t], []⟩) R s := by
  k_dflt cell_enter
  conv in (bdy _) => whnf
  k_steps
  all_goals first
    | (refine' retB (by omega) _ _ _ ?kf ?kn; (case kf => k_asm); (case kn => ktr_rel))
    | (exfalso; omega)
    | (exfalso; simp at *; omega)
    | skip
end
end Mine
end
section
namespace Mine
theorem wdC3ldues0 : True := by
  k_with_none
  (k_with "!eval Call" => first | (k_here; (with_reducible show wpAny _ _ (eval (Expr.Call _ _ [] _) _) _ _ _); k_dflt (refine Call_ ?_)))
  (k_with "!exec Raise some none" => first | (k_here; (with_reducible show wpAny _ _ (exec (Stmt.Raise (some (Expr.Call (Expr.Name (PySem.Str.ofString "ValueError") _) _ _ _)) none _) _) _ _ _); k_dflt (refine Raise_new rfl ?_)) | (k_here; (with_reducible show wpAny _ _ (exec (Stmt.Raise (some (Expr.Call (Expr.Name (PySem.Str.ofString "TypeError") _) _ _ _)) none _) _) _ _ _); k_dflt (refine Raise_new rfl ?_)))
  (k_with "!leaving ref" => first | (k_here; (with_reducible rename KtsDicts _ _ => kdX); k_dflt (first | (refine' leave_raiseS ?zqk1 ?zqk0 ?zqk2 ?zqk3 ?_; (case zqk0 => first | assumption | exact Heap.MadeExc.of (by assumption)); (case zqk2 => assumption); (case zqk1 => assumption); (case zqk3 => k_asm); k_whole; intro h' t' S' R' U'; (try dsimp only at S' R' U' ⊢)) | (refine' leave_onS ?zqk1 ?zqk2 ?zqk3 ?zqk4 ?_; (case zqk3 => assumption); (case zqk2 => assumption); (case zqk1 => assumption); (case zqk4 => assumption); k_whole; intro h' S' R' U'; (try dsimp only at S' R' U' ⊢)) | (refine' leave_newS ?zqk1 ?zqk0 ?zqk2 ?zqk3 ?_; (case zqk0 => assumption); (case zqk2 => assumption); (case zqk1 => assumption); (case zqk3 => k_asm); k_whole; intro h' S' R' U'; (try dsimp only at S' R' U' ⊢)) | (refine' leave_onSN ?zqk1 ?zqk2 ?zqk3 ?zqk4 ?_; (case zqk3 => assumption); (case zqk2 => assumption); (case zqk1 => assumption); (case zqk4 => assumption); k_whole; intro h' S' R' U'; (try dsimp only at S' R' U' ⊢)))))
  (k_with "!eval Name" => first | (k_here; (first | (with_reducible show wpAny _ _ (eval (Expr.Name _ _) (envOf _ _ _ _ _)) _ _ _) | (with_reducible show wpAny _ _ (eval (Expr.Name _ _) (envOfC _ _ _ _ _)) _ _ _)); k_dflt (first | (refine' nameX_L ?zqF ?zqv ?_ ?zqa ?zqb; (case zqF => k_asm); (case zqv => rfl); (case zqa => rfl); (case zqb => kernel_rfl); k_whole) | (refine' nameX_K ?zqF ?zqX ?zqT ?zqe ?_ ?zqa ?zqb; (case zqT => k_asm); (case zqX => k_asm); (case zqF => k_asm); (case zqe => k_is); (case zqa => rfl); (case zqb => kernel_rfl); k_whole) | (refine' nameX_B ?zqF ?zqX ?zqT ?zqe ?zqv ?zqn ?_ ?zqa ?zqb; (case zqT => k_asm); (case zqX => k_asm); (case zqF => k_asm); (case zqe => k_is); (case zqv => boot_fast); (case zqn => decide); (case zqa => rfl); (case zqb => kernel_rfl); k_whole))))
  (k_with "k_mem" => (assumption))
  (k_with "k_room" => (ktr_room))
  (k_with "k_units" => (ktr_units))
  (k_with "ktr_rel" => (first | k_asm | (refine' cb_drop ?zqcbN ?zqcbS; (case zqcbN => k_asm); (case zqcbS => (repeat (first | (intro p hp; (repeat (first | exact hp | exact List.mem_append_left _ hp | apply List.mem_cons_of_mem)); done) | (refine' sub_cons ?_ ?_; focus k_mem)))))))
  (k_with "k_lt?" => skip)
  (k_with "k_all" => (first | (refine all_ne_of ?_; assumption) | exact fun p hp => Nat.ne_of_lt ((by assumption : ∀ p ∈ _, p.1 < _) p hp)))
  (k_with "!call type:bytes" => first | (k_here; (with_reducible show wpAny _ _ (call (Value.type "bytes") [Value.bytes _ _]) _ _ _); refine bytes_id ?_) | (k_here; (with_reducible show wpAny _ _ (call (Value.type "bytes") [Value.ref _]) _ _ _); k_dflt (refine' bytes_L ?zqbF ?zqbN ?zqbh ?zqbl ?zqbi ?zqbr ?zqbz ?_; (case zqbF => k_asm); (case zqbN => k_asm); (case zqbh => rfl); (case zqbl => is_list); (case zqbi => assumption); (case zqbr => (first | (subst_vars; rw [List.map_id']; exact in_255 (by assumption)) | exact in_map256 | (subst_vars; exact in_map256) | exact in_255 (by assumption) | assumption)); (case zqbz => (simp_all; omega))); intro _ _ _ F' N'))
  (k_with "!binaryOp Add bytes bytes" => (k_here; (with_reducible show wpAny _ _ (binaryOp Operator.Add (Value.bytes _ _) (Value.bytes _ _)) _ _ _); (refine KBy.add_bytes (by (try simp only [Array.size_append, List.size_toArray, byteArr_size, octs_size, List.length_cons, List.length_nil, List.length_map]); omega) ?_); intro _ _))
  (k_with "cell_enter" => first | (refine' code_defC ?zqk1 ?zqk2 ?zqk3 ?zqk4 ?zqk5 ?zqkA ?zqkF ?zqkK ?zqk6 ?zqk7 ?zqk8 ?zqk9 ?zqkB ?zqkD ?_ ?zqc2 ?zqc3 ?zqc4; (case zqkA => exact rfl); (case zqkF => exact rfl); (case zqkK => assumption); (case zqk1 => k_asm); (case zqk2 => k_asm); (case zqk3 => k_asm); (case zqk4 => k_asm); (case zqk5 => k_asm); (case zqk6 => k_is); (case zqk7 => k_is); (case zqk8 => ktr_room); (case zqk9 => first | exact BindsTo.of_eq rfl | exact binds_K (by k_in) rfl (by k_is) rfl rfl rfl); (case zqkB => exact rfl); (case zqkD => decide +kernel); (case zqc2 => exact rfl); (case zqc3 => exact rfl); (case zqc4 => exact rfl); k_whole; intro g' L' h' tk' cells' FG' F' N' Y' B' X' T' l1; (try k_lt l1); k_cells Y'; (try simp only [List.cons_append, List.nil_append] at N'); (try dsimp only); (try k_lift B'); (try k_fold)) | (refine' code_def ?zqk1 ?zqk2 ?zqk3 ?zqk4 ?zqk5 ?zqkA ?zqkF ?zqkK ?zqk6 ?zqk7 ?zqk8 ?zqk9 ?zqkB ?_ ?zqc2 ?zqc3 ?zqc4 ?zqc5; (case zqkA => exact rfl); (case zqkF => exact rfl); (case zqkK => assumption); (case zqk1 => k_asm); (case zqk2 => k_asm); (case zqk3 => k_asm); (case zqk4 => k_asm); (case zqk5 => k_asm); (case zqk6 => k_is); (case zqk7 => k_is); (case zqk8 => ktr_room); (case zqk9 => first | exact BindsTo.of_eq rfl | exact binds_K (by k_in) rfl (by k_is) rfl rfl rfl); (case zqc5 => decide); (case zqkB => exact locs rfl); (case zqc2 => exact rfl); (case zqc3 => exact rfl); (case zqc4 => exact rfl); k_whole; intro g' L' h' FG' F' N' B' X' T'; (try dsimp only); (try k_lift B'); (try k_fold)))
  (k_with "!compareOp NotIn" => first | (k_here; (with_reducible show wpAny _ _ (compareOp CmpOp.NotIn (Value.int _ _) (Value.ref _)) _ _ _); k_dflt (refine' notin_int_bytes ?zqt ?zqh ?_; (case zqt => exact isTup_of (by k_asm) (by k_mem)); (case zqh => rfl))) | (k_here; (with_reducible show wpAny _ _ (compareOp CmpOp.NotIn (Value.bytes _ _) (Value.ref _)) _ _ _); k_dflt (refine' notin_bytes ?zqt ?zqh ?zqe ?_; (case zqt => exact isTup_of (by k_asm) (by k_mem)); (case zqh => rfl); (case zqe => first | exact (rfl : _ = false) | exact (rfl : _ = true)))))
  (k_with "!binaryOp BitAnd int int" => (k_here; (with_reducible refine and_lowT (by omega) ?_); intro _ _ _ vE))
  (k_with "!subscriptTail" => first | (k_here; (with_reducible show wpAny _ _ (subscriptTail _ _ (Value.bytes (List.toArray _) _) (Value.int _ _)) _ _ _); (refine item_octet (by decide) rfl (by (try simp only [List.length_cons, List.length_nil, List.length_append]); omega) ?_); intro _ _) | (k_here; (with_reducible show wpAny _ _ (subscriptTail _ (Expr.Slice _ _ none _) (Value.bytes _ _) (Value.ref _)) _ _ _); (with_reducible rename Fr _ _ _ _ => F'); (with_reducible rename News _ _ _ _ => N'); (refine slice_BV (s := ⟨_, _, _, _, _⟩) F' N' (by constructor) (by constructor) (by (try simp only [Array.size_append, List.size_toArray, octs_size, List.length_cons, List.length_nil, List.length_append]); omega) (by first | exact picked_drop2 _ _ _ | exact picked_01 _ _ _) ?_); intro _ _ _ _ _) | (k_here; (with_reducible show wpAny _ _ (subscriptTail _ _ (Value.bytes _ _) (Value.int (-1) _)) _ _ _); (refine last_octet (by (try simp only [octs_size]); omega) (by (try simp only [octs_size]); omega) ?_); intro _ _ _ lO _ _))
  (k_with "!ite" => first | (k_closed; k_dflt (first | refine PySem.W.ite_pos (by decide) ?_ | refine PySem.W.ite_neg (by decide) ?_)) | (first | refine PySem.W.ite_neg (by (try simp only [bne_iff_ne, ne_eq, beq_iff_eq, decide_eq_true_eq, Bool.not_eq_true', bne_eq_false_iff_eq, beq_eq_false_iff_ne]); omega) ?_ | refine PySem.W.ite_pos (by (try simp only [bne_iff_ne, ne_eq, beq_iff_eq, decide_eq_true_eq]); omega) ?_))
  (k_with "!execs cons" => (k_here; dsimp only))
  (k_with "!execs nil" => (k_here; dsimp only))
  (k_with "!truthy bytes" => (k_here; (refine truthy_bytesV (v := true) (by (try simp only [Array.size_append, List.size_toArray, octs_size, List.length_cons, List.length_nil]); omega) rfl ?_)))
  (k_with "!call builtin:len" => (k_here; (with_reducible show wpAny _ _ (call (Value.builtin "len") [Value.bytes _ _]) _ _ _); (refine len_bytesV (by (try simp only [Array.size_append, List.size_toArray, octs_size, List.length_cons, List.length_nil, List.length_append]); omega) (by simp only [Array.size_append, List.size_toArray, octs_size, List.length_cons, List.length_nil, List.length_append]; rfl) ?_); intro _ _))
  (k_with "!exec For Name Subscript cons nil" => (k_here; (rename Fr _ _ _ _ => lF'); (with_unfolding_all refine' For_invVF lF' ?zqk1 ?zqk2 ?_; (case zqk1 => exact rfl); (case zqk2 => exact rfl); k_whole)))
  (k_with "!eval ListComp" => (k_here; k_dflt (refine listcomp_bytes (by k_asm) (by with_unfolding_all rfl) (by decide) (by rfl) (by decide) (by rfl) ?_)))
  trivial
section
variable {w : World} {dp un : Nat} {gd : Option (List Code)} {cn : Str} {cs : Scope} {a : Addr} {ccd : Value} {cl : List (Str × Addr)} {outer : List Env} {A₀ : Around} {base h₀ : Heap} {L : Addr} {m : Str → Option Value} {s : Shared} {R : Result → Shared → Prop}
  {loose : List Str} {mean : ExcName → Option Value} {mg mb : Str → Option Value} {news : List (Addr × Obj)} {x0 x1 : UInt8} {l : List UInt8}
  (B : Below A₀ base outer h₀) (F : Fr h₀ L s.heap m) (X : (K0 w.params).In h₀) (N : News h₀ L s.heap news) (T : Top q1 loose mean mg mb h₀) (hk : cs.kind = .function)
  (h1 : dp + 24 < recursionLimit) (h2 : un + 240 < cLine)
include B F X N T hk h1 h2
theorem c_dues {t : Tok} (hl : l.length < 2)
  (retB : 0 = 0 → ∀ (t' : Tok) (h' : Heap) (tk' : Nat), Fr h₀ L h' m → News h₀ L h' news → R (.ok (.ret (.str "value" t'))) { s with heap := h', toks := tk' }) :
  codeAny (model P1 w) (ktrTop dp un gd cn cs L a ccd cl outer) (.call (.ref 1552) ⟨[.bytes l.toArray t], []⟩) R s := by
  k_dflt cell_enter
  conv in (bdy _) => whnf
  k_steps
  all_goals first
    | (exfalso; omega)
    | (refine' retB (by omega) _ _ _ ?kf ?kn; (case kf => k_asm); (case kn => ktr_rel))
    | skip
end
end Mine
end
section
namespace Mine
theorem wdC3m0 : True := by
  k_with_none
  (k_with "!eval Call" => first | (k_here; (with_reducible show wpAny _ _ (eval (Expr.Call _ _ [] _) _) _ _ _); k_dflt (refine Call_ ?_)))
  (k_with "!exec Raise some none" => first | (k_here; (with_reducible show wpAny _ _ (exec (Stmt.Raise (some (Expr.Call (Expr.Name (PySem.Str.ofString "ValueError") _) _ _ _)) none _) _) _ _ _); k_dflt (refine Raise_new rfl ?_)) | (k_here; (with_reducible show wpAny _ _ (exec (Stmt.Raise (some (Expr.Call (Expr.Name (PySem.Str.ofString "TypeError") _) _ _ _)) none _) _) _ _ _); k_dflt (refine Raise_new rfl ?_)))
  (k_with "!leaving ref" => first | (k_here; (with_reducible rename KtsDicts _ _ => kdX); k_dflt (first | (refine' leave_raiseS ?zqk1 ?zqk0 ?zqk2 ?zqk3 ?_; (case zqk0 => first | assumption | exact Heap.MadeExc.of (by assumption)); (case zqk2 => assumption); (case zqk1 => assumption); (case zqk3 => k_asm); k_whole; intro h' t' S' R' U'; (try dsimp only at S' R' U' ⊢)) | (refine' leave_onS ?zqk1 ?zqk2 ?zqk3 ?zqk4 ?_; (case zqk3 => assumption); (case zqk2 => assumption); (case zqk1 => assumption); (case zqk4 => assumption); k_whole; intro h' S' R' U'; (try dsimp only at S' R' U' ⊢)) | (refine' leave_newS ?zqk1 ?zqk0 ?zqk2 ?zqk3 ?_; (case zqk0 => assumption); (case zqk2 => assumption); (case zqk1 => assumption); (case zqk3 => k_asm); k_whole; intro h' S' R' U'; (try dsimp only at S' R' U' ⊢)) | (refine' leave_onSN ?zqk1 ?zqk2 ?zqk3 ?zqk4 ?_; (case zqk3 => assumption); (case zqk2 => assumption); (case zqk1 => assumption); (case zqk4 => assumption); k_whole; intro h' S' R' U'; (try dsimp only at S' R' U' ⊢)))))
  (k_with "!eval Name" => first | (k_here; (first | (with_reducible show wpAny _ _ (eval (Expr.Name _ _) (envOf _ _ _ _ _)) _ _ _) | (with_reducible show wpAny _ _ (eval (Expr.Name _ _) (envOfC _ _ _ _ _)) _ _ _)); k_dflt (first | (refine' nameX_L ?zqF ?zqv ?_ ?zqa ?zqb; (case zqF => k_asm); (case zqv => rfl); (case zqa => rfl); (case zqb => kernel_rfl); k_whole) | (refine' nameX_K ?zqF ?zqX ?zqT ?zqe ?_ ?zqa ?zqb; (case zqT => k_asm); (case zqX => k_asm); (case zqF => k_asm); (case zqe => k_is); (case zqa => rfl); (case zqb => kernel_rfl); k_whole) | (refine' nameX_B ?zqF ?zqX ?zqT ?zqe ?zqv ?zqn ?_ ?zqa ?zqb; (case zqT => k_asm); (case zqX => k_asm); (case zqF => k_asm); (case zqe => k_is); (case zqv => boot_fast); (case zqn => decide); (case zqa => rfl); (case zqb => kernel_rfl); k_whole))))
  (k_with "k_mem" => (assumption))
  (k_with "k_room" => (ktr_room))
  (k_with "k_units" => (ktr_units))
  (k_with "ktr_rel" => (first | k_asm | (refine' cb_drop ?zqcbN ?zqcbS; (case zqcbN => k_asm); (case zqcbS => (repeat (first | (intro p hp; (repeat (first | exact hp | exact List.mem_append_left _ hp | apply List.mem_cons_of_mem)); done) | (refine' sub_cons ?_ ?_; focus k_mem)))))))
  (k_with "k_lt?" => skip)
  (k_with "k_all" => (first | (refine all_ne_of ?_; assumption) | exact fun p hp => Nat.ne_of_lt ((by assumption : ∀ p ∈ _, p.1 < _) p hp)))
  (k_with "!call type:bytes" => first | (k_here; (with_reducible show wpAny _ _ (call (Value.type "bytes") [Value.bytes _ _]) _ _ _); refine bytes_id ?_) | (k_here; (with_reducible show wpAny _ _ (call (Value.type "bytes") [Value.ref _]) _ _ _); k_dflt (refine' bytes_L ?zqbF ?zqbN ?zqbh ?zqbl ?zqbi ?zqbr ?zqbz ?_; (case zqbF => k_asm); (case zqbN => k_asm); (case zqbh => rfl); (case zqbl => is_list); (case zqbi => assumption); (case zqbr => (first | (subst_vars; rw [List.map_id']; exact in_255 (by assumption)) | exact in_map256 | (subst_vars; exact in_map256) | exact in_255 (by assumption) | assumption)); (case zqbz => (simp_all; omega))); intro _ _ _ F' N'))
  (k_with "!binaryOp Add bytes bytes" => (k_here; (with_reducible show wpAny _ _ (binaryOp Operator.Add (Value.bytes _ _) (Value.bytes _ _)) _ _ _); (refine KBy.add_bytes (by (try simp only [Array.size_append, List.size_toArray, byteArr_size, octs_size, List.length_cons, List.length_nil, List.length_map]); omega) ?_); intro _ _))
  (k_with "cell_enter" => (refine' code_def ?zqk1 ?zqk2 ?zqk3 ?zqk4 ?zqk5 ?zqkA ?zqkF ?zqkK ?zqk6 ?zqk7 ?zqk8 ?zqk9 ?zqkB ?_ ?zqc2 ?zqc3 ?zqc4 ?zqc5; (case zqkA => exact rfl); (case zqkF => exact rfl); (case zqkK => assumption); (case zqk1 => k_asm); (case zqk2 => k_asm); (case zqk3 => k_asm); (case zqk4 => k_asm); (case zqk5 => k_asm); (case zqk6 => k_is); (case zqk7 => k_is); (case zqk8 => ktr_room); (case zqk9 => first | exact BindsTo.of_eq rfl | exact binds_K (by k_in) rfl (by k_is) rfl rfl rfl); (case zqc5 => decide); (case zqkB => exact locs rfl); (case zqc2 => exact rfl); (case zqc3 => exact rfl); (case zqc4 => exact rfl); k_whole; intro g' L' h' FG' F' N' B' X' T'; (try dsimp only); (try k_lift B'); (try k_fold)))
  (k_with "!compareOp NotIn" => first | (k_here; (with_reducible show wpAny _ _ (compareOp CmpOp.NotIn (Value.int _ _) (Value.ref _)) _ _ _); k_dflt (refine' notin_int_bytes ?zqt ?zqh ?_; (case zqt => exact isTup_of (by k_asm) (by k_mem)); (case zqh => rfl))) | (k_here; (with_reducible show wpAny _ _ (compareOp CmpOp.NotIn (Value.bytes _ _) (Value.ref _)) _ _ _); k_dflt (refine' notin_bytes ?zqt ?zqh ?zqe ?_; (case zqt => exact isTup_of (by k_asm) (by k_mem)); (case zqh => rfl); (case zqe => first | exact (rfl : _ = false) | exact (rfl : _ = true)))))
  (k_with "!binaryOp BitAnd int int" => (k_here; (with_reducible refine and_lowT (by omega) ?_); intro _ _ _ vE))
  (k_with "!subscriptTail" => (k_here; (with_reducible show wpAny _ _ (subscriptTail _ _ (Value.bytes _ _) (Value.int (-1) _)) _ _ _); (refine last_octet (by (try simp only [octs_size]); omega) (by (try simp only [octs_size]); omega) ?_); intro _ _ _ lO _ _))
  (k_with "!ite" => first | (k_closed; k_dflt (first | refine PySem.W.ite_pos (by decide) ?_ | refine PySem.W.ite_neg (by decide) ?_)) | (first | refine PySem.W.ite_neg (by (try simp only [bne_iff_ne, ne_eq, beq_iff_eq, decide_eq_true_eq, Bool.not_eq_true', bne_eq_false_iff_eq, beq_eq_false_iff_ne]); omega) ?_ | refine PySem.W.ite_pos (by (try simp only [bne_iff_ne, ne_eq, beq_iff_eq, decide_eq_true_eq]); omega) ?_))
  (k_with "!execs cons" => (k_here; dsimp only))
  (k_with "!execs nil" => (k_here; dsimp only))
  (k_with "!truthy bytes" => (k_here; (refine truthy_bytesV (v := true) (by (try simp only [Array.size_append, List.size_toArray, octs_size, List.length_cons, List.length_nil]); omega) rfl ?_)))
  trivial
section
variable {w : World} {dp un : Nat} {gd : Option (List Code)} {cn : Str} {cs : Scope} {a : Addr} {ccd : Value} {cl : List (Str × Addr)} {outer : List Env} {A₀ : Around} {base h₀ : Heap} {L : Addr} {m : Str → Option Value} {s : Shared} {R : Result → Shared → Prop}
  {loose : List Str} {mean : ExcName → Option Value} {mg mb : Str → Option Value} {news : List (Addr × Obj)} {d : Array UInt8}
  (B : Below A₀ base outer h₀) (F : Fr h₀ L s.heap m) (X : (K0 w.params).In h₀) (N : News h₀ L s.heap news) (T : Top q1 loose mean mg mb h₀) (hk : cs.kind = .function)
  (h1 : dp + 24 < recursionLimit) (h2 : un + 240 < cLine)
include B F X N T hk h1 h2
theorem g_due {t : Tok} (hd : d.size ≤ 66)
  (ret : ∀ x0 x1 l, d = (x0 :: x1 :: l).toArray → RdOk x0 x1 l → ∀ (z T : Addr) (zs : List Value) (zk : Nat) (vc ve : Tok) (h' : Heap) (tk' : Nat), IntsAre zs (dec x0 l) → Fr h₀ L h' m → News h₀ L h' ((T, { cls := .type "tuple", data := .seq #[.ref z, .bytes #[x0] vc, .int (x1.toNat : Int) ve] }) :: (z, W.listOf zs.toArray zk) :: news) → R (.ok (.ret (.ref T))) { s with heap := h', toks := tk' })
  (retB : ¬ Rd d 9 → ∀ (t' : Tok) (h' : Heap) (tk' : Nat), Fr h₀ L h' m → News h₀ L h' news → R (.ok (.ret (.str "value" t'))) { s with heap := h', toks := tk' }) :
  codeAny (model P1 w) (ktrTop dp un gd cn cs L a ccd cl outer) (.call (.ref 1552) ⟨[.bytes d t], []⟩) R s := by
  obtain ⟨l0, rfl⟩ : ∃ l0 : List UInt8, d = l0.toArray := ⟨d.toList, by simp⟩
  have hd' : l0.length ≤ 66 := by simpa using hd
  match l0, hd' with
  | [], _ => exact c_dues B F X N T hk h1 h2 (by simp) (fun _ => retB (by rintro ⟨a, b, c, e, _⟩; simp at e))
  | [y], _ => exact c_dues B F X N T hk h1 h2 (by simp) (fun _ => retB (by rintro ⟨a, b, c, e, _⟩; simp at e))
  | x0 :: x1 :: l, hd' =>
    have hl : l.length ≤ 64 := by simp at hd'; omega
    have bad : ¬ RdOk x0 x1 l → ¬ Rd (x0 :: x1 :: l).toArray 9 := by
      rintro hb ⟨a, b, c, e, _, hr⟩
      simp at e
      obtain ⟨rfl, rfl, rfl⟩ := e
      exact hb hr
    by_cases h3 : x0 = 3
    · subst h3
      refine c_due3 B F X N T hk h1 h2 hl (fun hg z T zs zk vc ve h' tk' hI F' N' => ?_) (fun hg => retB (bad ?_))
      · exact ret 3 x1 l rfl (.inl ⟨rfl, hg⟩) z T zs zk vc ve h' tk' (by unfold dec; rw [if_pos rfl]; exact hI) F' N'
      · rintro (⟨_, h⟩ | ⟨h, _⟩)
        · exact hg h
        · exact absurd h (by decide)
    · by_cases h16 : x0 = 16
      · subst h16
        refine c_due16 B F X N T hk h1 h2 hl (fun hg z T zs zk vc ve h' tk' hI F' N' => ?_) (fun hg => retB (bad ?_))
        · exact ret 16 x1 l rfl (.inr ⟨rfl, hg⟩) z T zs zk vc ve h' tk' (by unfold dec; rw [if_neg (by decide), ← List.map_id' (l.map _)]; exact hI) F' N'
        · rintro (⟨h, _⟩ | ⟨_, h⟩)
          · exact absurd h (by decide)
          · exact hg h
      · refine c_duex B F X N T hk h1 h2 hl (fun e => h3 (UInt8.toNat_inj.mp e)) (fun e => h16 (UInt8.toNat_inj.mp e)) (fun _ => retB (bad (by rintro (⟨h, _⟩ | ⟨h, _⟩); exact h3 h; exact h16 h)))
end
end Mine
end
section
namespace Mine
theorem wdC3z0 : True := by
  k_with_none
  (k_with "!eval Call" => first | (k_here; (with_reducible show wpAny _ _ (eval (Expr.Call _ _ [] _) _) _ _ _); k_dflt (refine Call_ ?_)))
  (k_with "!exec Raise some none" => first | (k_here; (with_reducible show wpAny _ _ (exec (Stmt.Raise (some (Expr.Call (Expr.Name (PySem.Str.ofString "ValueError") _) _ _ _)) none _) _) _ _ _); k_dflt (refine Raise_new rfl ?_)) | (k_here; (with_reducible show wpAny _ _ (exec (Stmt.Raise (some (Expr.Call (Expr.Name (PySem.Str.ofString "TypeError") _) _ _ _)) none _) _) _ _ _); k_dflt (refine Raise_new rfl ?_)))
  (k_with "!leaving ref" => first | (k_here; (with_reducible rename KtsDicts _ _ => kdX); k_dflt (first | (refine' leave_raiseS ?zqk1 ?zqk0 ?zqk2 ?zqk3 ?_; (case zqk0 => first | assumption | exact Heap.MadeExc.of (by assumption)); (case zqk2 => assumption); (case zqk1 => assumption); (case zqk3 => k_asm); k_whole; intro h' t' S' R' U'; (try dsimp only at S' R' U' ⊢)) | (refine' leave_onS ?zqk1 ?zqk2 ?zqk3 ?zqk4 ?_; (case zqk3 => assumption); (case zqk2 => assumption); (case zqk1 => assumption); (case zqk4 => assumption); k_whole; intro h' S' R' U'; (try dsimp only at S' R' U' ⊢)) | (refine' leave_newS ?zqk1 ?zqk0 ?zqk2 ?zqk3 ?_; (case zqk0 => assumption); (case zqk2 => assumption); (case zqk1 => assumption); (case zqk3 => k_asm); k_whole; intro h' S' R' U'; (try dsimp only at S' R' U' ⊢)) | (refine' leave_onSN ?zqk1 ?zqk2 ?zqk3 ?zqk4 ?_; (case zqk3 => assumption); (case zqk2 => assumption); (case zqk1 => assumption); (case zqk4 => assumption); k_whole; intro h' S' R' U'; (try dsimp only at S' R' U' ⊢)))))
  (k_with "!eval Name" => first | (k_here; (first | (with_reducible show wpAny _ _ (eval (Expr.Name _ _) (envOf _ _ _ _ _)) _ _ _) | (with_reducible show wpAny _ _ (eval (Expr.Name _ _) (envOfC _ _ _ _ _)) _ _ _)); k_dflt (first | (refine' nameX_L ?zqF ?zqv ?_ ?zqa ?zqb; (case zqF => k_asm); (case zqv => rfl); (case zqa => rfl); (case zqb => kernel_rfl); k_whole) | (refine' nameX_K ?zqF ?zqX ?zqT ?zqe ?_ ?zqa ?zqb; (case zqT => k_asm); (case zqX => k_asm); (case zqF => k_asm); (case zqe => k_is); (case zqa => rfl); (case zqb => kernel_rfl); k_whole) | (refine' nameX_B ?zqF ?zqX ?zqT ?zqe ?zqv ?zqn ?_ ?zqa ?zqb; (case zqT => k_asm); (case zqX => k_asm); (case zqF => k_asm); (case zqe => k_is); (case zqv => boot_fast); (case zqn => decide); (case zqa => rfl); (case zqb => kernel_rfl); k_whole))))
  (k_with "k_mem" => (assumption))
  (k_with "k_room" => (ktr_room))
  (k_with "k_units" => (ktr_units))
  (k_with "ktr_rel" => (first | k_asm | (refine' cb_drop ?zqcbN ?zqcbS; (case zqcbN => k_asm); (case zqcbS => (repeat (first | (intro p hp; (repeat (first | exact hp | exact List.mem_append_left _ hp | apply List.mem_cons_of_mem)); done) | (refine' sub_cons ?_ ?_; focus k_mem)))))))
  (k_with "k_lt?" => skip)
  (k_with "k_all" => (first | (refine all_ne_of ?_; assumption) | exact fun p hp => Nat.ne_of_lt ((by assumption : ∀ p ∈ _, p.1 < _) p hp)))
  (k_with "!call type:bytes" => first | (k_here; (with_reducible show wpAny _ _ (call (Value.type "bytes") [Value.bytes _ _]) _ _ _); refine bytes_id ?_) | (k_here; (with_reducible show wpAny _ _ (call (Value.type "bytes") [Value.ref _]) _ _ _); k_dflt (refine' bytes_L ?zqbF ?zqbN ?zqbh ?zqbl ?zqbi ?zqbr ?zqbz ?_; (case zqbF => k_asm); (case zqbN => k_asm); (case zqbh => rfl); (case zqbl => is_list); (case zqbi => assumption); (case zqbr => (first | (subst_vars; rw [List.map_id']; exact in_255 (by assumption)) | exact in_map256 | (subst_vars; exact in_map256) | exact in_255 (by assumption) | assumption)); (case zqbz => (simp_all; omega))); intro _ _ _ F' N'))
  (k_with "!binaryOp Add bytes bytes" => (k_here; (with_reducible show wpAny _ _ (binaryOp Operator.Add (Value.bytes _ _) (Value.bytes _ _)) _ _ _); (refine KBy.add_bytes (by (try simp only [Array.size_append, List.size_toArray, byteArr_size, octs_size, List.length_cons, List.length_nil, List.length_map]); omega) ?_); intro _ _))
  (k_with "cell_enter" => (refine' code_def ?zqk1 ?zqk2 ?zqk3 ?zqk4 ?zqk5 ?zqkA ?zqkF ?zqkK ?zqk6 ?zqk7 ?zqk8 ?zqk9 ?zqkB ?_ ?zqc2 ?zqc3 ?zqc4 ?zqc5; (case zqkA => exact rfl); (case zqkF => exact rfl); (case zqkK => assumption); (case zqk1 => k_asm); (case zqk2 => k_asm); (case zqk3 => k_asm); (case zqk4 => k_asm); (case zqk5 => k_asm); (case zqk6 => k_is); (case zqk7 => k_is); (case zqk8 => ktr_room); (case zqk9 => first | exact BindsTo.of_eq rfl | exact binds_K (by k_in) rfl (by k_is) rfl rfl rfl); (case zqc5 => decide); (case zqkB => exact locs rfl); (case zqc2 => exact rfl); (case zqc3 => exact rfl); (case zqc4 => exact rfl); k_whole; intro g' L' h' FG' F' N' B' X' T'; (try dsimp only); (try k_lift B'); (try k_fold)))
  (k_with "!compareOp NotIn" => first | (k_here; (with_reducible show wpAny _ _ (compareOp CmpOp.NotIn (Value.int _ _) (Value.ref _)) _ _ _); k_dflt (refine' notin_int_bytes ?zqt ?zqh ?_; (case zqt => exact isTup_of (by k_asm) (by k_mem)); (case zqh => rfl))) | (k_here; (with_reducible show wpAny _ _ (compareOp CmpOp.NotIn (Value.bytes _ _) (Value.ref _)) _ _ _); k_dflt (refine' notin_bytes ?zqt ?zqh ?zqe ?_; (case zqt => exact isTup_of (by k_asm) (by k_mem)); (case zqh => rfl); (case zqe => first | exact (rfl : _ = false) | exact (rfl : _ = true)))))
  (k_with "!binaryOp BitAnd int int" => (k_here; (with_reducible refine and_lowT (by omega) ?_); intro _ _ _ vE))
  (k_with "!subscriptTail" => (k_here; (with_reducible show wpAny _ _ (subscriptTail _ _ (Value.bytes _ _) (Value.int (-1) _)) _ _ _); (refine last_octet (by (try simp only [octs_size]); omega) (by (try simp only [octs_size]); omega) ?_); intro _ _ _ lO _ _))
  (k_with "!ite" => first | (k_closed; k_dflt (first | refine PySem.W.ite_pos (by decide) ?_ | refine PySem.W.ite_neg (by decide) ?_)) | (first | refine PySem.W.ite_neg (by (try simp only [bne_iff_ne, ne_eq, beq_iff_eq, decide_eq_true_eq, Bool.not_eq_true', bne_eq_false_iff_eq, beq_eq_false_iff_ne]); omega) ?_ | refine PySem.W.ite_pos (by (try simp only [bne_iff_ne, ne_eq, beq_iff_eq, decide_eq_true_eq]); omega) ?_))
  (k_with "!execs cons" => (k_here; dsimp only))
  (k_with "!execs nil" => (k_here; dsimp only))
  (k_with "!truthy bytes" => (k_here; (refine truthy_bytesV (v := true) (by (try simp only [Array.size_append, List.size_toArray, octs_size, List.length_cons, List.length_nil]); omega) rfl ?_)))
  trivial
section
variable {w : World} {dp un : Nat} {gd : Option (List Code)} {cn : Str} {cs : Scope} {a : Addr} {ccd : Value} {cl : List (Str × Addr)}  {A₀ : Around} {base h₀ : Heap} {L : Addr} {m : Str → Option Value} {s : Shared} {R : Result → Shared → Prop}
  {loose : List Str} {mean : ExcName → Option Value} {mg mb : Str → Option Value} {news : List (Addr × Obj)} {xB dB : Addr} {d : Array UInt8} {sbt : Int} {a1 b1 c1 d1 : Tok} {x0 x1 : UInt8} {l : List UInt8}
  (XB : (K0 w.params).In base) (TB : Top q1 loose mean mg mb base) (B : Below A₀ base [] h₀) (F : Fr h₀ L s.heap m) (X : (K0 w.params).In h₀) (N : News h₀ L s.heap news) (T : Top q1 loose mean mg mb h₀) (hk : cs.kind = .function)
  (h1 : dp + 32 < recursionLimit) (h2 : un + 320 < cLine)
  (MA : (xB, instObj 223 dB) ∈ news) (MB : (dB, dictOf [⟨PyData.keyHash w.params "data", .str "data" a1, .bytes d b1⟩, ⟨PyData.keyHash w.params "_subtype", .str "_subtype" c1, .int sbt d1⟩] 2) ∈ news)
include XB TB MA MB B F X N T hk h1 h2
theorem m_rdY (hd : d.size ≤ 66) (h39 : ∀ x1 l, d ≠ (39 :: x1 :: l).toArray) (hde : d = (x0 :: x1 :: l).toArray) (hs : sbt = 9) (hok : RdOk x0 x1 l)
  (ret : ∀ (z T : Addr) (zs : List Value) (zk : Nat) (vc ve : Tok) (h' : Heap) (tk' : Nat), IntsAre zs (dec x0 l) → Fr h₀ L h' m → News h₀ L h' ((T, { cls := .type "tuple", data := .seq #[.ref z, .bytes #[x0] vc, .int (x1.toNat : Int) ve] }) :: (z, W.listOf zs.toArray zk) :: news) → R (.ok (.ret (.ref T))) { s with heap := h', toks := tk' }) :
  codeAny (model P1 w) (ktrTop dp un gd cn cs L a ccd cl []) (.call (.ref 1547) ⟨[.ref xB], []⟩) R s := by
  have N2 : News h₀ L s.heap ((xB, instObj 223 dB) :: (dB, dictOf [⟨PyData.keyHash w.params "data", .str "data" a1, .bytes d b1⟩, ⟨PyData.keyHash w.params "_subtype", .str "_subtype" c1, .int sbt d1⟩] 2) :: news) := news_dup (news_dup N MB) (.tail _ MA)
  refine c_read XB TB B F X N2 T hk (by omega) (by omega) hd h39 (fun y0 y1 l2 hde2 _ _ z T zs zk vc ve h' tk' zI F' N' => ?_) (fun hn => absurd ⟨_, _, _, hde, hs, hok⟩ hn)
  rw [hde] at hde2
  have e2 : x0 = y0 ∧ x1 = y1 ∧ l = l2 := by simpa using hde2
  obtain ⟨rfl, rfl, rfl⟩ := e2
  exact ret z T zs zk vc ve h' tk' zI F' (cb_drop N' (by (repeat (first | (intro p hp; (repeat (first | exact hp | exact List.mem_append_left _ hp | apply List.mem_cons_of_mem)); done) | (refine' sub_cons ?_ ?_; focus k_mem)))))
theorem m_rdN (hd : d.size ≤ 66) (h39 : ∀ x1 l, d ≠ (39 :: x1 :: l).toArray) (hn : ¬ Rd d sbt)
  (ret : ∀ (t' : Tok) (h' : Heap) (tk' : Nat), Fr h₀ L h' m → News h₀ L h' news → R (.ok (.ret (.str "value" t'))) { s with heap := h', toks := tk' }) :
  codeAny (model P1 w) (ktrTop dp un gd cn cs L a ccd cl []) (.call (.ref 1547) ⟨[.ref xB], []⟩) R s := by
  have N2 : News h₀ L s.heap ((xB, instObj 223 dB) :: (dB, dictOf [⟨PyData.keyHash w.params "data", .str "data" a1, .bytes d b1⟩, ⟨PyData.keyHash w.params "_subtype", .str "_subtype" c1, .int sbt d1⟩] 2) :: news) := news_dup (news_dup N MB) (.tail _ MA)
  exact c_read XB TB B F X N2 T hk (by omega) (by omega) hd h39 (fun y0 y1 l2 hde2 hs2 hok2 z T zs zk vc ve h' tk' zI F' N' => absurd ⟨_, _, _, hde2, hs2, hok2⟩ hn) (fun _ t' h' tk' F' N' => ret t' h' tk' F' (cb_drop N' (by (repeat (first | (intro p hp; (repeat (first | exact hp | exact List.mem_append_left _ hp | apply List.mem_cons_of_mem)); done) | (refine' sub_cons ?_ ?_; focus k_mem))))))
end
section
variable {w : World} {dp un : Nat} {gd : Option (List Code)} {cn : Str} {cs : Scope} {a : Addr} {ccd : Value} {cl : List (Str × Addr)} {outer : List Env} {A₀ : Around} {base h₀ : Heap} {L : Addr} {m : Str → Option Value} {s : Shared} {R : Result → Shared → Prop}
  {loose : List Str} {mean : ExcName → Option Value} {mg mb : Str → Option Value} {news : List (Addr × Obj)} {d : Array UInt8} {x0 x1 : UInt8} {l : List UInt8}
  (B : Below A₀ base outer h₀) (F : Fr h₀ L s.heap m) (X : (K0 w.params).In h₀) (N : News h₀ L s.heap news) (T : Top q1 loose mean mg mb h₀) (hk : cs.kind = .function)
  (h1 : dp + 24 < recursionLimit) (h2 : un + 240 < cLine)
include B F X N T hk h1 h2
theorem m_dueY {t : Tok} (hd : d.size ≤ 66) (hde : d = (x0 :: x1 :: l).toArray) (hok : RdOk x0 x1 l)
  (ret : ∀ (z T : Addr) (zs : List Value) (zk : Nat) (vc ve : Tok) (h' : Heap) (tk' : Nat), IntsAre zs (dec x0 l) → Fr h₀ L h' m → News h₀ L h' ((T, { cls := .type "tuple", data := .seq #[.ref z, .bytes #[x0] vc, .int (x1.toNat : Int) ve] }) :: (z, W.listOf zs.toArray zk) :: news) → R (.ok (.ret (.ref T))) { s with heap := h', toks := tk' }) :
  codeAny (model P1 w) (ktrTop dp un gd cn cs L a ccd cl outer) (.call (.ref 1552) ⟨[.bytes d t], []⟩) R s := by
  refine g_due B F X N T hk h1 h2 hd (fun y0 y1 l2 hde2 _ z T zs zk vc ve h' tk' zI F' N' => ?_) (fun hn => absurd ⟨_, _, _, hde, rfl, hok⟩ hn)
  rw [hde] at hde2
  have e2 : x0 = y0 ∧ x1 = y1 ∧ l = l2 := by simpa using hde2
  obtain ⟨rfl, rfl, rfl⟩ := e2
  exact ret z T zs zk vc ve h' tk' zI F' N'
theorem m_dueN {t : Tok} (hd : d.size ≤ 66) (hn : ¬ Rd d 9)
  (ret : ∀ (t' : Tok) (h' : Heap) (tk' : Nat), Fr h₀ L h' m → News h₀ L h' news → R (.ok (.ret (.str "value" t'))) { s with heap := h', toks := tk' }) :
  codeAny (model P1 w) (ktrTop dp un gd cn cs L a ccd cl outer) (.call (.ref 1552) ⟨[.bytes d t], []⟩) R s := by
  exact g_due B F X N T hk h1 h2 hd (fun y0 y1 l2 hde2 hok2 z T zs zk vc ve h' tk' zI F' N' => absurd ⟨_, _, _, hde2, rfl, hok2⟩ hn) (fun _ t' h' tk' F' N' => ret t' h' tk' F' N')
end
end Mine
end
section
namespace Mine
noncomputable def lawS : { x : List Stmt // bdy (fn1 144) = x } := ⟨_, by conv => lhs; whnf⟩
noncomputable def restS (j : Nat) : List Stmt := lawS.1.drop j
theorem restS_eq (i n j : Nat) (h : i + n = j := by rfl) : restS i = (lawS.1.drop i).take n ++ restS j := by
  subst h
  unfold restS
  rw [← List.drop_drop, List.take_append_drop]
noncomputable abbrev envL (L : Addr) : Env := envOfC ("law" : Str) (scp (fn1 144)) L 1557 (.ref 1556)
noncomputable abbrev mScr (L l : Addr) : Str → Option Value := bindL (envL L).kindOf [("script", Value.ref l)] fun _ => none
theorem fm_rng (x k : Int) (hk : 0 < k) : 0 ≤ x.fmod k ∧ x.fmod k < k := by
  rw [Int.fmod_eq_emod_of_nonneg x (by omega)]
  exact ⟨Int.emod_nonneg x (by omega), Int.emod_lt_of_pos x hk⟩
theorem fm8 (x : Int) : 0 ≤ x.fmod 8 ∧ x.fmod 8 ≤ 255 := by have := fm_rng x 8 (by decide); omega
theorem fm256 (x : Int) : 0 ≤ x.fmod 256 ∧ x.fmod 256 ≤ 255 := by have := fm_rng x 256 (by decide); omega
theorem le255 : (0 : Int) ≤ 0 ∧ (0 : Int) ≤ 255 := by decide
theorem len_pos_of {ms : List Int} (h : decide (ms = []) = false) : 0 < ms.length := List.length_pos_iff.mpr (of_decide_eq_false h)
theorem mul_pow_ok {a p : Int} (h : p < 8) : IntMulOk a (2 ^ p.toNat) := IntMulOk.of_right (intBits_le_iff.mpr (by
  rw [Int.natAbs_pow]
  exact Nat.pow_lt_pow_right (by decide) (by omega)))
theorem lst_set {ys : List Value} {i : Nat} {v : Value} : W.listOf (ys.set i v).toArray ys.length = LCg.lst (ys.set i v) := by
  unfold LCg.lst
  rw [List.length_set]
def LH (b : Bool) (lo hi : Int) : Prop := (b = true ∧ lo = 0 ∧ hi = 255) ∨ (b = false ∧ lo = -128 ∧ hi = 127)
theorem KD.size {b : Bool} {kd : Array UInt8} (h : KD b kd) : kd.size = 1 := by rcases h with ⟨_, rfl⟩ | ⟨_, rfl⟩ <;> rfl
theorem good_iff {lo hi : Int} {ms : List Int} : (decide (List.map (fun a => a) (List.filter (fun a => if a < lo then true else if hi < a then true else false) ms) = []) = true) ↔ ∀ n ∈ ms, lo ≤ n ∧ n ≤ hi := by
  rw [decide_eq_true_iff, List.map_eq_nil_iff, List.filter_eq_nil_iff]
  refine ⟨fun h n hn => ?_, fun h n hn => ?_⟩
  · have := h n hn
    split at this
    · simp at this
    · split at this
      · simp at this
      · omega
  · have := h n hn
    rw [if_neg (by omega), if_neg (by omega)]
    simp
theorem fr_redo {h₀ h : Heap} {L : Addr} {k : Str} {A B : Option Value} {f : Str → Option Value} (F : Fr h₀ L h (fun y => if y = k then A else if y = k then B else f y)) : Fr h₀ L h (fun y => if y = k then A else f y) := by
  have e : (fun y => if y = k then A else if y = k then B else f y) = (fun y => if y = k then A else f y) := by
    funext y
    split <;> simp_all
  rwa [e] at F
theorem good_of {b : Bool} {lo hi p : Int} {ms : List Int} {g : Bool} (hg : g = true ↔ ∀ n ∈ ms, lo ≤ n ∧ n ≤ hi) (hl : LH b lo hi) (hp : ¬ 0 < p) (h0 : 0 ≤ p) : g = true ↔ Good b p ms := by
  have : p = 0 := by omega
  subst this
  rw [hg]
  rcases hl with ⟨rfl, rfl, rfl⟩ | ⟨rfl, rfl, rfl⟩
  · rw [goodT]; constructor
    · exact fun h => ⟨h, by decide, fun h => absurd rfl h⟩
    · exact fun h => h.1
  · rw [goodF]; constructor
    · exact fun h => ⟨h, rfl⟩
    · exact fun h => h.1
theorem good_not {b : Bool} {lo hi p : Int} {ms : List Int} {g g' : Bool} (hg : g = true ↔ ∀ n ∈ ms, lo ≤ n ∧ n ≤ hi) (hl : LH b lo hi) (h : g = false) (h' : g' = g) : g' = true ↔ Good b p ms := by
  subst h'
  constructor
  · intro h2; rw [h] at h2; cases h2
  · intro h2
    refine hg.mpr ?_
    rcases hl with ⟨rfl, rfl, rfl⟩ | ⟨rfl, rfl, rfl⟩
    · exact (goodT.mp h2).1
    · exact (goodF.mp h2).1
theorem good_b {b : Bool} {p : Int} {ms : List Int} {g' : Bool} (h : b = false) (hp : 0 < p) (h' : g' = b) : g' = true ↔ Good b p ms := by
  subst h
  subst h'
  rw [goodF]
  exact ⟨fun h => (by cases h), fun h => absurd h.2 (by omega)⟩
theorem good_8 {b : Bool} {p : Int} {ms : List Int} (hb : b = true) (hp : ¬ p < 8) : decide (p < 8) = true ↔ Good b p ms := by
  subst hb
  rw [goodT, decide_eq_true_iff]
  exact ⟨fun h => absurd h hp, fun h => by omega⟩
theorem good_e {b : Bool} {p : Int} {ms : List Int} (hb : b = true) (hp : 0 < p) (hm : decide (ms = []) = true) : (!decide (ms = [])) = true ↔ Good b p ms := by
  subst hb
  have hm' := of_decide_eq_true hm
  rw [goodT, hm]
  exact ⟨fun h => absurd h (by decide), fun h => absurd hm' (h.2.2 (by omega)).1⟩
theorem good_l {b : Bool} {lo hi p : Int} {ms : List Int} {g : Bool} (hg : g = true ↔ ∀ n ∈ ms, lo ≤ n ∧ n ≤ hi) (hl : LH b lo hi) (h1 : g = true) (hb : b = true) (hp : 0 < p) (h8 : p < 8) (hm : decide (ms = []) = false) :
    ((ms.getD ((ms.length : Int) - 1).toNat 0).fmod (2 ^ p.toNat) == 0) = true ↔ Good b p ms := by
  subst hb
  have hm' := of_decide_eq_false hm
  have hlen : 0 < ms.length := List.length_pos_iff.mpr hm'
  rcases hl with ⟨_, rfl, rfl⟩ | ⟨h, _⟩
  · rw [goodT, beq_iff_eq, Int.fmod_eq_emod_of_nonneg _ (Int.le_of_lt (Int.pow_pos (by decide))), show ((ms.length : Int) - 1).toNat = ms.length - 1 by omega]
    exact ⟨fun h => ⟨hg.mp h1, by omega, fun _ => ⟨hm', h⟩⟩, fun h => (h.2.2 (by omega)).2⟩
  · cases h
open PySem.SeqAt in
theorem ea_tup9 {A : Around} {s : Shared} {l z : Addr} {b : Array UInt8} {ta tb tc td : Tok} (h1 : s.heap.IsTuple l [.int 9 ta, .bytes b tb].toArray) (h2 : s.heap.IsTuple z [.int 9 tc, .bytes b td].toArray) (hu : A.units < cLine) : EqAt A s (.ref l) (.ref z) true := by
  by_cases h : l = z
  · subst h; exact EqAt.same _
  · have := ea_tups h h1 h2 hu (.cons (ea_int 9 9 ta tc) (.cons (ea_bytes b b tb td) .nil))
    simpa using this
theorem plain_iff {b : Bool} {lo hi : Int} {ms : List Int} {g : Bool} (hg : g = true ↔ ∀ n ∈ ms, lo ≤ n ∧ n ≤ hi) (hl : LH b lo hi) : g = true ↔ Good b 0 ms := good_of hg hl (by decide) (by decide)
theorem ko_t {b : Bool} (h : b = true) : KD (!b) #[3] := by subst h; exact Or.inr ⟨rfl, rfl⟩
theorem ko_f {b : Bool} (h : b = false) : KD (!b) #[16] := by subst h; exact Or.inl ⟨rfl, rfl⟩
theorem vec0_ne {kd : Array UInt8} {ms : List Int} (h : ((vec kd 0 ms).toList != (kd ++ (#[0] : Array UInt8) ++ byteArr (List.map (fun k' => k'.fmod 256) ms)).toList) = true) : False := by
  have e : vec kd 0 ms = kd ++ (#[0] : Array UInt8) ++ byteArr (List.map (fun k' => k'.fmod 256) ms) := rfl
  rw [e] at h
  exact absurd h (by rw [bne_self_eq_false]; decide)
theorem bv_t {v : Bool} {k : Array UInt8} {p : Int} {m : List Int} (h : v = true ↔ k = k ∧ p = p ∧ m = m) (hv : v = false) : False := by
  have := h.mpr ⟨rfl, rfl, rfl⟩
  rw [hv] at this; cases this
theorem bv_a {v : Bool} {k : Array UInt8} {p : Int} {m : List Int} (h : v = true ↔ k = k ∧ p = p ∧ m = m ++ [0]) (hv : v = true) : False := by
  have := congrArg List.length (h.mp hv).2.2
  simp at this
theorem bv_o {v b : Bool} {k k' : Array UInt8} {p q : Int} {m m' : List Int} (h : v = true ↔ k = k' ∧ p = q ∧ m = m') (hv : v = true) (h1 : KD b k) (h2 : KD (!b) k') : False := by
  have := (h.mp hv).1
  subst this
  rcases h1 with ⟨rfl, rfl⟩ | ⟨rfl, rfl⟩ <;> rcases h2 with ⟨h, h'⟩ | ⟨h, h'⟩ <;> simp at h h'
theorem bv_p {v : Bool} {k : Array UInt8} {p : Int} {m : List Int} (h : v = true ↔ k = k ∧ p = p + 1 ∧ m = m) (hv : v = true) : False := by
  have := (h.mp hv).2.1
  omega
theorem fr_none {h₀ h : Heap} {L : Addr} {k : Str} {f : Str → Option Value} (F : Fr h₀ L h f) (e : f k = none) : Fr h₀ L h (fun y => if y = k then none else f y) := by
  have e2 : (fun y => if y = k then none else f y) = f := by
    funext y
    split
    · rename_i h; rw [h, e]
    · rfl
  rwa [e2]
theorem vec_small {b : Bool} {kd : Array UInt8} {p : Int} {ms : List Int} (hK : KD b kd) (hm : ms.length ≤ 8) : (vec kd p ms).size ≤ 100 := by
  obtain ⟨k, rfl⟩ := kd_one hK
  rw [vec_list]; simp; omega
theorem picked_1 (b : Array UInt8) : KBy.picked b none (some 1) = (b.toList.take 1).toArray := by
  rw [KBc.picked_eq]
  have e1 : ∀ n, clipAt n 1 = min 1 n := fun n => clipAt_nat n 1
  simp only [Option.elim, e1, Nat.sub_zero, List.drop_zero]
  congr 1
  rcases Nat.lt_or_ge b.size 1 with h | h
  · have : b.toList = [] := by
      apply List.eq_nil_of_length_eq_zero
      rw [Array.length_toList]; omega
    rw [this]; simp
  · rw [Nat.min_eq_left h]
theorem not39 {b : Array UInt8} {l : List UInt8} (h : ((KBy.picked b none (some 1)).toList == (#[39] : Array UInt8).toList) = false) : b ≠ (39 :: l).toArray := by
  rintro rfl
  rw [picked_1] at h
  simp at h
theorem h39_a {a b : Array UInt8} (h2 : (a.toList == (#[] : Array UInt8).toList) = true) (h3 : ((KBy.picked b none (some 1)).toList == (#[39] : Array UInt8).toList) = false) : ∀ x1 l, a ++ b ≠ (39 :: x1 :: l).toArray := by
  intro x1 l e
  have ha : a = #[] := by simpa using h2
  subst ha
  exact not39 (l := x1 :: l) h3 (by simpa using e)
theorem h39_b {a b : Array UInt8} (h1 : ((KBy.picked a none (some 1)).toList == (#[39] : Array UInt8).toList) = false) (h2 : (a.toList == (#[] : Array UInt8).toList) = false) : ∀ x1 l, a ++ b ≠ (39 :: x1 :: l).toArray := by
  intro x1 l e
  obtain ⟨xs, rfl⟩ : ∃ xs : List UInt8, a = xs.toArray := ⟨a.toList, by simp⟩
  cases xs with
  | nil => simp at h2
  | cons y ys =>
    have : y = 39 := by simpa using congrArg (fun z => z.toList.head?) e
    subst this
    exact not39 h1 rfl
theorem rd_no {d : Array UInt8} {sbt : Int} (h : sbt ≠ 9) : ¬ Rd d sbt := fun ⟨_, _, _, _, e, _⟩ => h e
end Mine
end
section
namespace Mine
theorem wdSA0 : True := by
  k_with_none
  (k_with "!ite" => first | (k_closed; k_dflt (first | refine PySem.W.ite_pos (by decide) ?_ | refine PySem.W.ite_neg (by decide) ?_)))
  (k_with "!eval Call" => first | (k_here; (with_reducible show wpAny _ _ (eval (Expr.Call _ _ [] _) _) _ _ _); k_dflt (refine Call_ ?_)))
  (k_with "!exec Raise some none" => first | (k_here; (with_reducible show wpAny _ _ (exec (Stmt.Raise (some (Expr.Call (Expr.Name (PySem.Str.ofString "ValueError") _) _ _ _)) none _) _) _ _ _); k_dflt (refine Raise_new rfl ?_)) | (k_here; (with_reducible show wpAny _ _ (exec (Stmt.Raise (some (Expr.Call (Expr.Name (PySem.Str.ofString "TypeError") _) _ _ _)) none _) _) _ _ _); k_dflt (refine Raise_new rfl ?_)))
  (k_with "!leaving ref" => first | (k_here; (with_reducible rename KtsDicts _ _ => kdX); k_dflt (first | (refine' leave_raiseS ?zqk1 ?zqk0 ?zqk2 ?zqk3 ?_; (case zqk0 => first | assumption | exact Heap.MadeExc.of (by assumption)); (case zqk2 => assumption); (case zqk1 => assumption); (case zqk3 => k_asm); k_whole; intro h' t' S' R' U'; (try dsimp only at S' R' U' ⊢)) | (refine' leave_onS ?zqk1 ?zqk2 ?zqk3 ?zqk4 ?_; (case zqk3 => assumption); (case zqk2 => assumption); (case zqk1 => assumption); (case zqk4 => assumption); k_whole; intro h' S' R' U'; (try dsimp only at S' R' U' ⊢)) | (refine' leave_newS ?zqk1 ?zqk0 ?zqk2 ?zqk3 ?_; (case zqk0 => assumption); (case zqk2 => assumption); (case zqk1 => assumption); (case zqk3 => k_asm); k_whole; intro h' S' R' U'; (try dsimp only at S' R' U' ⊢)) | (refine' leave_onSN ?zqk1 ?zqk2 ?zqk3 ?zqk4 ?_; (case zqk3 => assumption); (case zqk2 => assumption); (case zqk1 => assumption); (case zqk4 => assumption); k_whole; intro h' S' R' U'; (try dsimp only at S' R' U' ⊢)))))
  (k_with "!eval Name" => first | (k_here; (first | (with_reducible show wpAny _ _ (eval (Expr.Name _ _) (envOf _ _ _ _ _)) _ _ _) | (with_reducible show wpAny _ _ (eval (Expr.Name _ _) (envOfC _ _ _ _ _)) _ _ _)); k_dflt (first | (refine' nameX_L ?zqF ?zqv ?_ ?zqa ?zqb; (case zqF => k_asm); (case zqv => rfl); (case zqa => rfl); (case zqb => kernel_rfl); k_whole) | (refine' nameX_K ?zqF ?zqX ?zqT ?zqe ?_ ?zqa ?zqb; (case zqT => k_asm); (case zqX => k_asm); (case zqF => k_asm); (case zqe => k_is); (case zqa => rfl); (case zqb => kernel_rfl); k_whole) | (refine' nameX_B ?zqF ?zqX ?zqT ?zqe ?zqv ?zqn ?_ ?zqa ?zqb; (case zqT => k_asm); (case zqX => k_asm); (case zqF => k_asm); (case zqe => k_is); (case zqv => boot_fast); (case zqn => decide); (case zqa => rfl); (case zqb => kernel_rfl); k_whole))))
  (k_with "k_mem" => (assumption))
  (k_with "!execs cons" => (k_here; dsimp only))
  (k_with "!execs nil" => (k_here; dsimp only))
  trivial
section
variable {w : World} {s₁ s : Shared} {loose : List Str} {mean : ExcName → Option Value} {mg mb : Str → Option Value} {l : Addr} {vs : List Value} {ns : List Int} {h₁ : Heap} {tk : Nat} {oS oB oL oH : Obj} {Q : Flow → Shared → Prop}
  (X : (K0 w.params).In s₁.heap) (T : Top q1 loose mean mg mb s₁.heap) (hL : s₁.heap.IsList l vs.toArray) (hI : IntsAre vs ns) (hlen : ns.length ≤ 63) (hg : s₁.gens = #[]) (B : Below callerA s₁.heap [] s₁.heap)
include X T hL hI hlen hg B
theorem segA
  (F' : Fr s₁.heap s₁.heap.objs.size h₁ (fun y => mScr s₁.heap.objs.size l y))
  (N' : News s₁.heap s₁.heap.objs.size h₁ [(s₁.heap.objs.size + 1 + 1 + 1 + 1, oH), (s₁.heap.objs.size + 1 + 1 + 1, oL), (s₁.heap.objs.size + 1 + 1, oB), (s₁.heap.objs.size + 1, oS)])
  (dS : oS.data = .cell none) (dB : oB.data = .cell none) (dL : oL.data = .cell none) (dH : oH.data = .cell none)
  (kont : ∀ (sd : Int) (b : Bool) (oS oB : Obj) (t₃ : Tok) (h' : Heap) (tk' : Nat), Fr s₁.heap s₁.heap.objs.size h' (fun y => mScr s₁.heap.objs.size l y) → News s₁.heap s₁.heap.objs.size h' [(s₁.heap.objs.size + 1 + 1 + 1 + 1, oH), (s₁.heap.objs.size + 1 + 1 + 1, oL), (s₁.heap.objs.size + 1 + 1, oB), (s₁.heap.objs.size + 1, oS)] → oS.data = .cell (some (.int sd t₃)) → oB.data = .cell (some (.bool b)) → wpAny (model P1 w) (callerA.deeper (envL s₁.heap.objs.size)) (execs (restS 2) (envL s₁.heap.objs.size)) Q (fun _ _ => False) { s₁ with heap := h', toks := tk' }) :
  wpAny (model P1 w) (callerA.deeper (envL s₁.heap.objs.size)) (execs (restS 0) (envL s₁.heap.objs.size)) Q (fun _ _ => False) { s₁ with heap := h₁, toks := tk } := by
  rw [restS_eq 0 2 2]
  refine execs_hold ?_
  dsimp only [lawS, List.drop, List.take]
  k_steps
  all_goals exact kont _ _ _ _ _ _ _ (by assumption) (by assumption) (by assumption) (by assumption)
end
end Mine
end
section
namespace Mine
theorem wdSB0 : True := by
  k_with_none
  (k_with "!ite" => first | (k_closed; k_dflt (first | refine PySem.W.ite_pos (by decide) ?_ | refine PySem.W.ite_neg (by decide) ?_)))
  (k_with "!eval Call" => first | (k_here; (with_reducible show wpAny _ _ (eval (Expr.Call _ _ [] _) _) _ _ _); k_dflt (refine Call_ ?_)))
  (k_with "!exec Raise some none" => first | (k_here; (with_reducible show wpAny _ _ (exec (Stmt.Raise (some (Expr.Call (Expr.Name (PySem.Str.ofString "ValueError") _) _ _ _)) none _) _) _ _ _); k_dflt (refine Raise_new rfl ?_)) | (k_here; (with_reducible show wpAny _ _ (exec (Stmt.Raise (some (Expr.Call (Expr.Name (PySem.Str.ofString "TypeError") _) _ _ _)) none _) _) _ _ _); k_dflt (refine Raise_new rfl ?_)))
  (k_with "!leaving ref" => first | (k_here; (with_reducible rename KtsDicts _ _ => kdX); k_dflt (first | (refine' leave_raiseS ?zqk1 ?zqk0 ?zqk2 ?zqk3 ?_; (case zqk0 => first | assumption | exact Heap.MadeExc.of (by assumption)); (case zqk2 => assumption); (case zqk1 => assumption); (case zqk3 => k_asm); k_whole; intro h' t' S' R' U'; (try dsimp only at S' R' U' ⊢)) | (refine' leave_onS ?zqk1 ?zqk2 ?zqk3 ?zqk4 ?_; (case zqk3 => assumption); (case zqk2 => assumption); (case zqk1 => assumption); (case zqk4 => assumption); k_whole; intro h' S' R' U'; (try dsimp only at S' R' U' ⊢)) | (refine' leave_newS ?zqk1 ?zqk0 ?zqk2 ?zqk3 ?_; (case zqk0 => assumption); (case zqk2 => assumption); (case zqk1 => assumption); (case zqk3 => k_asm); k_whole; intro h' S' R' U'; (try dsimp only at S' R' U' ⊢)) | (refine' leave_onSN ?zqk1 ?zqk2 ?zqk3 ?zqk4 ?_; (case zqk3 => assumption); (case zqk2 => assumption); (case zqk1 => assumption); (case zqk4 => assumption); k_whole; intro h' S' R' U'; (try dsimp only at S' R' U' ⊢)))))
  (k_with "!eval Name" => first | (k_here; (first | (with_reducible show wpAny _ _ (eval (Expr.Name _ _) (envOf _ _ _ _ _)) _ _ _) | (with_reducible show wpAny _ _ (eval (Expr.Name _ _) (envOfC _ _ _ _ _)) _ _ _)); k_dflt (first | (refine' nameX_L ?zqF ?zqv ?_ ?zqa ?zqb; (case zqF => k_asm); (case zqv => rfl); (case zqa => rfl); (case zqb => kernel_rfl); k_whole) | (refine' nameX_K ?zqF ?zqX ?zqT ?zqe ?_ ?zqa ?zqb; (case zqT => k_asm); (case zqX => k_asm); (case zqF => k_asm); (case zqe => k_is); (case zqa => rfl); (case zqb => kernel_rfl); k_whole) | (refine' nameX_B ?zqF ?zqX ?zqT ?zqe ?zqv ?zqn ?_ ?zqa ?zqb; (case zqT => k_asm); (case zqX => k_asm); (case zqF => k_asm); (case zqe => k_is); (case zqv => boot_fast); (case zqn => decide); (case zqa => rfl); (case zqb => kernel_rfl); k_whole))))
  (k_with "k_mem" => (assumption))
  (k_with "!execs cons" => (k_here; dsimp only))
  (k_with "!execs nil" => (k_here; dsimp only))
  trivial
section
variable {w : World} {s₁ s : Shared} {loose : List Str} {mean : ExcName → Option Value} {mg mb : Str → Option Value} {l : Addr} {vs : List Value} {ns : List Int} {h₁ : Heap} {tk : Nat} {oS oB oL oH : Obj} {Q : Flow → Shared → Prop}
  (X : (K0 w.params).In s₁.heap) (T : Top q1 loose mean mg mb s₁.heap) (hL : s₁.heap.IsList l vs.toArray) (hI : IntsAre vs ns) (hlen : ns.length ≤ 63) (hg : s₁.gens = #[]) (B : Below callerA s₁.heap [] s₁.heap)
include X T hL hI hlen hg B
theorem segB {sd : Int} {b : Bool} {t₃ : Tok}
  (F' : Fr s₁.heap s₁.heap.objs.size h₁ (fun y => mScr s₁.heap.objs.size l y))
  (N' : News s₁.heap s₁.heap.objs.size h₁ [(s₁.heap.objs.size + 1 + 1 + 1 + 1, oH), (s₁.heap.objs.size + 1 + 1 + 1, oL), (s₁.heap.objs.size + 1 + 1, oB), (s₁.heap.objs.size + 1, oS)])
  (dS : oS.data = .cell (some (.int sd t₃))) (dB : oB.data = .cell (some (.bool b))) (dL : oL.data = .cell none) (dH : oH.data = .cell none)
  (kont : ∀ (p : Int) (kd : Array UInt8) (t₁ t₂ : Tok) (h' : Heap) (tk' : Nat), Fr s₁.heap s₁.heap.objs.size h' (fun y => if y = "padding" then some (Value.int p t₁) else if y = "kind" then some (Value.bytes kd t₂) else mScr s₁.heap.objs.size l y) → News s₁.heap s₁.heap.objs.size h' [(s₁.heap.objs.size + 1 + 1 + 1 + 1, oH), (s₁.heap.objs.size + 1 + 1 + 1, oL), (s₁.heap.objs.size + 1 + 1, oB), (s₁.heap.objs.size + 1, oS)] → (0 ≤ p ∧ p ≤ 255) → KD b kd → wpAny (model P1 w) (callerA.deeper (envL s₁.heap.objs.size)) (execs (restS 4) (envL s₁.heap.objs.size)) Q (fun _ _ => False) { s₁ with heap := h', toks := tk' }) :
  wpAny (model P1 w) (callerA.deeper (envL s₁.heap.objs.size)) (execs (restS 2) (envL s₁.heap.objs.size)) Q (fun _ _ => False) { s₁ with heap := h₁, toks := tk } := by
  rw [restS_eq 2 2 4]
  refine execs_hold ?_
  dsimp only [lawS, List.drop, List.take]
  k_steps
  all_goals (refine' kont _ _ _ _ _ _ ?kF ?kN ?kp ?kK; (case kF => k_asm); (case kN => (first | k_asm | (refine' cb_drop ?cbN ?cbS; (case cbN => k_asm); (case cbS => (repeat (first | (intro p hp; (repeat (first | exact hp | exact List.mem_append_left _ hp | apply List.mem_cons_of_mem)); done) | (refine' sub_cons ?_ ?_; focus k_mem))))))); (case kp => first | exact le255 | exact fm8 _ | exact fm256 _); (case kK => first | exact Or.inl ⟨by assumption, rfl⟩ | exact Or.inr ⟨by assumption, rfl⟩))
end
end Mine
end
section
namespace Mine
theorem wdSC0 : True := by
  k_with_none
  (k_with "!ite" => first | (k_closed; k_dflt (first | refine PySem.W.ite_pos (by decide) ?_ | refine PySem.W.ite_neg (by decide) ?_)))
  (k_with "!eval Call" => first | (k_here; (with_reducible show wpAny _ _ (eval (Expr.Call _ _ [] _) _) _ _ _); k_dflt (refine Call_ ?_)))
  (k_with "!exec Raise some none" => first | (k_here; (with_reducible show wpAny _ _ (exec (Stmt.Raise (some (Expr.Call (Expr.Name (PySem.Str.ofString "ValueError") _) _ _ _)) none _) _) _ _ _); k_dflt (refine Raise_new rfl ?_)) | (k_here; (with_reducible show wpAny _ _ (exec (Stmt.Raise (some (Expr.Call (Expr.Name (PySem.Str.ofString "TypeError") _) _ _ _)) none _) _) _ _ _); k_dflt (refine Raise_new rfl ?_)))
  (k_with "!leaving ref" => first | (k_here; (with_reducible rename KtsDicts _ _ => kdX); k_dflt (first | (refine' leave_raiseS ?zqk1 ?zqk0 ?zqk2 ?zqk3 ?_; (case zqk0 => first | assumption | exact Heap.MadeExc.of (by assumption)); (case zqk2 => assumption); (case zqk1 => assumption); (case zqk3 => k_asm); k_whole; intro h' t' S' R' U'; (try dsimp only at S' R' U' ⊢)) | (refine' leave_onS ?zqk1 ?zqk2 ?zqk3 ?zqk4 ?_; (case zqk3 => assumption); (case zqk2 => assumption); (case zqk1 => assumption); (case zqk4 => assumption); k_whole; intro h' S' R' U'; (try dsimp only at S' R' U' ⊢)) | (refine' leave_newS ?zqk1 ?zqk0 ?zqk2 ?zqk3 ?_; (case zqk0 => assumption); (case zqk2 => assumption); (case zqk1 => assumption); (case zqk3 => k_asm); k_whole; intro h' S' R' U'; (try dsimp only at S' R' U' ⊢)) | (refine' leave_onSN ?zqk1 ?zqk2 ?zqk3 ?zqk4 ?_; (case zqk3 => assumption); (case zqk2 => assumption); (case zqk1 => assumption); (case zqk4 => assumption); k_whole; intro h' S' R' U'; (try dsimp only at S' R' U' ⊢)))))
  (k_with "!eval Name" => first | (k_here; (first | (with_reducible show wpAny _ _ (eval (Expr.Name _ _) (envOf _ _ _ _ _)) _ _ _) | (with_reducible show wpAny _ _ (eval (Expr.Name _ _) (envOfC _ _ _ _ _)) _ _ _)); k_dflt (first | (refine' nameX_L ?zqF ?zqv ?_ ?zqa ?zqb; (case zqF => k_asm); (case zqv => rfl); (case zqa => rfl); (case zqb => kernel_rfl); k_whole) | (refine' nameX_K ?zqF ?zqX ?zqT ?zqe ?_ ?zqa ?zqb; (case zqT => k_asm); (case zqX => k_asm); (case zqF => k_asm); (case zqe => k_is); (case zqa => rfl); (case zqb => kernel_rfl); k_whole) | (refine' nameX_B ?zqF ?zqX ?zqT ?zqe ?zqv ?zqn ?_ ?zqa ?zqb; (case zqT => k_asm); (case zqX => k_asm); (case zqF => k_asm); (case zqe => k_is); (case zqv => boot_fast); (case zqn => decide); (case zqa => rfl); (case zqb => kernel_rfl); k_whole))))
  (k_with "k_mem" => (assumption))
  (k_with "!execs cons" => (k_here; dsimp only))
  (k_with "!execs nil" => (k_here; dsimp only))
  (k_with "!call builtin:len" => (k_here; (with_reducible show wpAny _ _ (call (Value.builtin "len") [Value.bytes _ _]) _ _ _); (refine len_bytesV (by (try simp only [Array.size_append, List.size_toArray, octs_size, List.length_cons, List.length_nil, List.length_append]); omega) (by simp only [Array.size_append, List.size_toArray, octs_size, List.length_cons, List.length_nil, List.length_append]; rfl) ?_); intro _ _))
  (k_with "!SeqLeaf" => ((with_reducible show SeqLeaf ((_ = @ite _ _ _ _ _) ∧ Keeps _ _)); refine SeqLeaf.intro ⟨?_, ?_⟩; focus (first | (rw [if_neg (by assumption)]; done) | (rw [if_pos (by assumption)]; done) | (rw [if_neg (by assumption)]; exact rfl) | (rw [if_pos (by assumption)]; exact rfl)); focus (with_unfolding_all exact ⟨_, _, rfl, fun _ _ e => e⟩)))
  (k_with "!subscriptTail" => (k_here; (with_reducible show wpAny _ _ (subscriptTail _ _ (Value.ref _) (Value.int _ _)) _ _ _); refine' item_lst (ys := ys) ?zqk1 ?zqk2 ?zqk3 ?zqk4 ?zqk5 ?_ ?zqk6; (case zqk1 => exact News.isList (by assumption) (by k_mem)); (case zqk2 => assumption); (case zqk3 => omega); (case zqk4 => omega); (case zqk5 => omega); (case zqk6 => with_unfolding_all rfl); intro _))
  (k_with "!binaryOp Add bytes bytes" => (k_here; (with_reducible show wpAny _ _ (binaryOp Operator.Add (Value.bytes _ _) (Value.bytes _ _)) _ _ _); (refine KBy.add_bytes (by (try simp only [Array.size_append, List.size_toArray, byteArr_size, List.length_cons, List.length_nil, List.length_map]); omega) ?_); intro _ _))
  trivial
section
variable {w : World} {s₁ s : Shared} {loose : List Str} {mean : ExcName → Option Value} {mg mb : Str → Option Value} {l : Addr} {vs : List Value} {ns : List Int} {h₁ : Heap} {tk : Nat} {oS oB oL oH : Obj} {Q : Flow → Shared → Prop}
  (X : (K0 w.params).In s₁.heap) (T : Top q1 loose mean mg mb s₁.heap) (hL : s₁.heap.IsList l vs.toArray) (hI : IntsAre vs ns) (hlen : ns.length ≤ 63) (hg : s₁.gens = #[]) (B : Below callerA s₁.heap [] s₁.heap)
include X T hL hI hlen hg B
theorem segC {sd : Int} {b : Bool} {t₃ : Tok} {p : Int} {kd : Array UInt8} {t₁ t₂ : Tok}
  (F' : Fr s₁.heap s₁.heap.objs.size h₁ (fun y => if y = "padding" then some (Value.int p t₁) else if y = "kind" then some (Value.bytes kd t₂) else mScr s₁.heap.objs.size l y))
  (N' : News s₁.heap s₁.heap.objs.size h₁ [(s₁.heap.objs.size + 1 + 1 + 1 + 1, oH), (s₁.heap.objs.size + 1 + 1 + 1, oL), (s₁.heap.objs.size + 1 + 1, oB), (s₁.heap.objs.size + 1, oS)])
  (dS : oS.data = .cell (some (.int sd t₃))) (dB : oB.data = .cell (some (.bool b))) (dL : oL.data = .cell none) (dH : oH.data = .cell none) (hp : 0 ≤ p ∧ p ≤ 255) (hK : KD b kd)
  (kont : ∀ (ms : List Int) (ys : List Value) (D : Addr) (h' : Heap) (tk' : Nat), Fr s₁.heap s₁.heap.objs.size h' (fun y => if y = "numbers" then some (Value.ref D) else if y = "padding" then some (Value.int p t₁) else if y = "kind" then some (Value.bytes kd t₂) else mScr s₁.heap.objs.size l y) → News s₁.heap s₁.heap.objs.size h' [(D, LCg.lst ys), (s₁.heap.objs.size + 1 + 1 + 1 + 1, oH), (s₁.heap.objs.size + 1 + 1 + 1, oL), (s₁.heap.objs.size + 1 + 1, oB), (s₁.heap.objs.size + 1, oS)] → IntsAre ys ms → ms.length ≤ 8 → (s₁.heap.objs.size + 1 + 1 + 1 + 1 ≠ D ∧ s₁.heap.objs.size + 1 + 1 + 1 ≠ D ∧ s₁.heap.objs.size + 1 + 1 ≠ D ∧ s₁.heap.objs.size + 1 ≠ D) → wpAny (model P1 w) (callerA.deeper (envL s₁.heap.objs.size)) (execs (restS 5) (envL s₁.heap.objs.size)) Q (fun _ _ => False) { s₁ with heap := h', toks := tk' }) :
  wpAny (model P1 w) (callerA.deeper (envL s₁.heap.objs.size)) (execs (restS 4) (envL s₁.heap.objs.size)) Q (fun _ _ => False) { s₁ with heap := h₁, toks := tk } := by
  rw [restS_eq 4 1 5]
  refine execs_hold ?_
  dsimp only [lawS, List.drop, List.take]
  k_steps
  all_goals (refine' kont _ _ _ _ _ ?kF ?kN (by assumption) ?km ?kD; (case kF => k_asm); (case kN => (first | k_asm | (refine' cb_drop ?cbN ?cbS; (case cbN => k_asm); (case cbS => (repeat (first | (intro p hp; (repeat (first | exact hp | exact List.mem_append_left _ hp | apply List.mem_cons_of_mem)); done) | (refine' sub_cons ?_ ?_; focus k_mem))))))); (case kD => obtain ⟨_, h1, h2, h3, h4⟩ := (by assumption : _ ∧ _ ∧ _ ∧ _ ∧ _); exact ⟨h1, h2, h3, h4⟩); (case km => simp only [List.length_map]; omega))
end
end Mine
end
section
namespace Mine
theorem wdSD0 : True := by
  k_with_none
  (k_with "!ite" => first | (k_closed; k_dflt (first | refine PySem.W.ite_pos (by decide) ?_ | refine PySem.W.ite_neg (by decide) ?_)))
  (k_with "!eval Call" => first | (k_here; (with_reducible show wpAny _ _ (eval (Expr.Call _ _ [] _) _) _ _ _); k_dflt (refine Call_ ?_)))
  (k_with "!exec Raise some none" => first | (k_here; (with_reducible show wpAny _ _ (exec (Stmt.Raise (some (Expr.Call (Expr.Name (PySem.Str.ofString "ValueError") _) _ _ _)) none _) _) _ _ _); k_dflt (refine Raise_new rfl ?_)) | (k_here; (with_reducible show wpAny _ _ (exec (Stmt.Raise (some (Expr.Call (Expr.Name (PySem.Str.ofString "TypeError") _) _ _ _)) none _) _) _ _ _); k_dflt (refine Raise_new rfl ?_)))
  (k_with "!leaving ref" => first | (k_here; (with_reducible rename KtsDicts _ _ => kdX); k_dflt (first | (refine' leave_raiseS ?zqk1 ?zqk0 ?zqk2 ?zqk3 ?_; (case zqk0 => first | assumption | exact Heap.MadeExc.of (by assumption)); (case zqk2 => assumption); (case zqk1 => assumption); (case zqk3 => k_asm); k_whole; intro h' t' S' R' U'; (try dsimp only at S' R' U' ⊢)) | (refine' leave_onS ?zqk1 ?zqk2 ?zqk3 ?zqk4 ?_; (case zqk3 => assumption); (case zqk2 => assumption); (case zqk1 => assumption); (case zqk4 => assumption); k_whole; intro h' S' R' U'; (try dsimp only at S' R' U' ⊢)) | (refine' leave_newS ?zqk1 ?zqk0 ?zqk2 ?zqk3 ?_; (case zqk0 => assumption); (case zqk2 => assumption); (case zqk1 => assumption); (case zqk3 => k_asm); k_whole; intro h' S' R' U'; (try dsimp only at S' R' U' ⊢)) | (refine' leave_onSN ?zqk1 ?zqk2 ?zqk3 ?zqk4 ?_; (case zqk3 => assumption); (case zqk2 => assumption); (case zqk1 => assumption); (case zqk4 => assumption); k_whole; intro h' S' R' U'; (try dsimp only at S' R' U' ⊢)))))
  (k_with "!eval Name" => first | (k_here; (first | (with_reducible show wpAny _ _ (eval (Expr.Name _ _) (envOf _ _ _ _ _)) _ _ _) | (with_reducible show wpAny _ _ (eval (Expr.Name _ _) (envOfC _ _ _ _ _)) _ _ _)); k_dflt (first | (refine' nameX_L ?zqF ?zqv ?_ ?zqa ?zqb; (case zqF => k_asm); (case zqv => rfl); (case zqa => rfl); (case zqb => kernel_rfl); k_whole) | (refine' nameX_K ?zqF ?zqX ?zqT ?zqe ?_ ?zqa ?zqb; (case zqT => k_asm); (case zqX => k_asm); (case zqF => k_asm); (case zqe => k_is); (case zqa => rfl); (case zqb => kernel_rfl); k_whole) | (refine' nameX_B ?zqF ?zqX ?zqT ?zqe ?zqv ?zqn ?_ ?zqa ?zqb; (case zqT => k_asm); (case zqX => k_asm); (case zqF => k_asm); (case zqe => k_is); (case zqv => boot_fast); (case zqn => decide); (case zqa => rfl); (case zqb => kernel_rfl); k_whole))))
  (k_with "k_mem" => (assumption))
  (k_with "!execs cons" => (k_here; dsimp only))
  (k_with "!execs nil" => (k_here; dsimp only))
  (k_with "!call builtin:len" => (k_here; (with_reducible show wpAny _ _ (call (Value.builtin "len") [Value.bytes _ _]) _ _ _); (refine len_bytesV (by (try simp only [Array.size_append, List.size_toArray, octs_size, List.length_cons, List.length_nil, List.length_append]); omega) (by simp only [Array.size_append, List.size_toArray, octs_size, List.length_cons, List.length_nil, List.length_append]; rfl) ?_); intro _ _))
  (k_with "!SeqLeaf" => ((with_reducible show SeqLeaf ((_ = @ite _ _ _ _ _) ∧ Keeps _ _)); refine SeqLeaf.intro ⟨?_, ?_⟩; focus (first | (rw [if_neg (by assumption)]; done) | (rw [if_pos (by assumption)]; done) | (rw [if_neg (by assumption)]; exact rfl) | (rw [if_pos (by assumption)]; exact rfl)); focus (with_unfolding_all exact ⟨_, _, rfl, fun _ _ e => e⟩)))
  (k_with "!setItem ref int" => (k_here; (with_reducible show wpAny _ _ (setItem (Value.ref _) (Value.int _ _) (Value.int _ _)) _ _ _); k_dflt (refine' ksa_set ?zqk1 ?zqk2 ?zqk3 ?zqk4 ?zqk5 ?zqk6 ?zqk7 ?_; (case zqk1 => k_asm); (case zqk2 => k_asm); (case zqk3 => k_upd); (case zqk4 => with_reducible assumption); (case zqk5 => (have h7 := len_pos_of (by assumption); omega)); (case zqk6 => omega); (case zqk7 => omega); k_whole); intro h' F' N' hi' hl' hs'; (try k_sweep)))
  (k_with "!binaryOp Mult int int" => (k_here; (refine mul_int ?_ (mul_pow_ok (by omega)))))
  (k_with "!subscriptTail" => (k_here; (with_reducible show wpAny _ _ (subscriptTail _ _ (Value.ref _) (Value.int _ _)) _ _ _); refine' item_lst ?zqk1 ?zqk2 ?zqk3 ?zqk4 ?zqk5 ?_ ?zqk6; (case zqk1 => exact News.isList (by assumption) (by k_mem)); (case zqk2 => assumption); (case zqk3 => first | omega | (have h7 := len_pos_of (by assumption); omega)); (case zqk4 => omega); (case zqk5 => omega); (case zqk6 => with_unfolding_all rfl); intro _))
  (k_with "!binaryOp Add bytes bytes" => (k_here; (with_reducible show wpAny _ _ (binaryOp Operator.Add (Value.bytes _ _) (Value.bytes _ _)) _ _ _); (refine KBy.add_bytes (by (try simp only [Array.size_append, List.size_toArray, byteArr_size, List.length_cons, List.length_nil, List.length_map]); omega) ?_); intro _ _))
  trivial
section
variable {w : World} {s₁ s : Shared} {loose : List Str} {mean : ExcName → Option Value} {mg mb : Str → Option Value} {l : Addr} {vs : List Value} {ns : List Int} {h₁ : Heap} {tk : Nat} {oS oB oL oH : Obj} {Q : Flow → Shared → Prop}
  (X : (K0 w.params).In s₁.heap) (T : Top q1 loose mean mg mb s₁.heap) (hL : s₁.heap.IsList l vs.toArray) (hI : IntsAre vs ns) (hlen : ns.length ≤ 63) (hg : s₁.gens = #[]) (B : Below callerA s₁.heap [] s₁.heap)
include X T hL hI hlen hg B
theorem segD {sd : Int} {b : Bool} {t₃ : Tok} {p : Int} {kd : Array UInt8} {t₁ t₂ : Tok} {ms : List Int} {ys : List Value} {D : Addr}
  (F' : Fr s₁.heap s₁.heap.objs.size h₁ (fun y => if y = "numbers" then some (Value.ref D) else if y = "padding" then some (Value.int p t₁) else if y = "kind" then some (Value.bytes kd t₂) else mScr s₁.heap.objs.size l y))
  (N' : News s₁.heap s₁.heap.objs.size h₁ [(D, LCg.lst ys), (s₁.heap.objs.size + 1 + 1 + 1 + 1, oH), (s₁.heap.objs.size + 1 + 1 + 1, oL), (s₁.heap.objs.size + 1 + 1, oB), (s₁.heap.objs.size + 1, oS)])
  (dS : oS.data = .cell (some (.int sd t₃))) (dB : oB.data = .cell (some (.bool b))) (dL : oL.data = .cell none) (dH : oH.data = .cell none) (hp : 0 ≤ p ∧ p ≤ 255) (hK : KD b kd) (hY : IntsAre ys ms) (hm : ms.length ≤ 8) (hD : s₁.heap.objs.size + 1 + 1 + 1 + 1 ≠ D ∧ s₁.heap.objs.size + 1 + 1 + 1 ≠ D ∧ s₁.heap.objs.size + 1 + 1 ≠ D ∧ s₁.heap.objs.size + 1 ≠ D)
  (kont : ∀ (ms : List Int) (ys : List Value) (h' : Heap) (tk' : Nat), Fr s₁.heap s₁.heap.objs.size h' (fun y => if y = "numbers" then some (Value.ref D) else if y = "padding" then some (Value.int p t₁) else if y = "kind" then some (Value.bytes kd t₂) else mScr s₁.heap.objs.size l y) → News s₁.heap s₁.heap.objs.size h' [(D, LCg.lst ys), (s₁.heap.objs.size + 1 + 1 + 1 + 1, oH), (s₁.heap.objs.size + 1 + 1 + 1, oL), (s₁.heap.objs.size + 1 + 1, oB), (s₁.heap.objs.size + 1, oS)] → IntsAre ys ms → ms.length ≤ 8 → wpAny (model P1 w) (callerA.deeper (envL s₁.heap.objs.size)) (execs (restS 6) (envL s₁.heap.objs.size)) Q (fun _ _ => False) { s₁ with heap := h', toks := tk' }) :
  wpAny (model P1 w) (callerA.deeper (envL s₁.heap.objs.size)) (execs (restS 5) (envL s₁.heap.objs.size)) Q (fun _ _ => False) { s₁ with heap := h₁, toks := tk } := by
  rw [restS_eq 5 1 6]
  refine execs_hold ?_
  dsimp only [lawS, List.drop, List.take]
  k_steps
  all_goals (try simp only [lst_set] at *)
  all_goals (refine' kont _ _ _ _ ?kF ?kN (by assumption) ?km; (case kF => k_asm); (case kN => (first | k_asm | (refine' cb_drop ?cbN ?cbS; (case cbN => k_asm); (case cbS => (repeat (first | (intro p hp; (repeat (first | exact hp | exact List.mem_append_left _ hp | apply List.mem_cons_of_mem)); done) | (refine' sub_cons ?_ ?_; focus k_mem))))))); (case km => first | assumption | (simp only [List.length_set]; assumption)))
end
end Mine
end
section
namespace Mine
theorem wdSE0 : True := by
  k_with_none
  (k_with "!ite" => first | (k_closed; k_dflt (first | refine PySem.W.ite_pos (by decide) ?_ | refine PySem.W.ite_neg (by decide) ?_)))
  (k_with "!eval Call" => first | (k_here; (with_reducible show wpAny _ _ (eval (Expr.Call _ _ [] _) _) _ _ _); k_dflt (refine Call_ ?_)))
  (k_with "!exec Raise some none" => first | (k_here; (with_reducible show wpAny _ _ (exec (Stmt.Raise (some (Expr.Call (Expr.Name (PySem.Str.ofString "ValueError") _) _ _ _)) none _) _) _ _ _); k_dflt (refine Raise_new rfl ?_)) | (k_here; (with_reducible show wpAny _ _ (exec (Stmt.Raise (some (Expr.Call (Expr.Name (PySem.Str.ofString "TypeError") _) _ _ _)) none _) _) _ _ _); k_dflt (refine Raise_new rfl ?_)))
  (k_with "!leaving ref" => first | (k_here; (with_reducible rename KtsDicts _ _ => kdX); k_dflt (first | (refine' leave_raiseS ?zqk1 ?zqk0 ?zqk2 ?zqk3 ?_; (case zqk0 => first | assumption | exact Heap.MadeExc.of (by assumption)); (case zqk2 => assumption); (case zqk1 => assumption); (case zqk3 => k_asm); k_whole; intro h' t' S' R' U'; (try dsimp only at S' R' U' ⊢)) | (refine' leave_onS ?zqk1 ?zqk2 ?zqk3 ?zqk4 ?_; (case zqk3 => assumption); (case zqk2 => assumption); (case zqk1 => assumption); (case zqk4 => assumption); k_whole; intro h' S' R' U'; (try dsimp only at S' R' U' ⊢)) | (refine' leave_newS ?zqk1 ?zqk0 ?zqk2 ?zqk3 ?_; (case zqk0 => assumption); (case zqk2 => assumption); (case zqk1 => assumption); (case zqk3 => k_asm); k_whole; intro h' S' R' U'; (try dsimp only at S' R' U' ⊢)) | (refine' leave_onSN ?zqk1 ?zqk2 ?zqk3 ?zqk4 ?_; (case zqk3 => assumption); (case zqk2 => assumption); (case zqk1 => assumption); (case zqk4 => assumption); k_whole; intro h' S' R' U'; (try dsimp only at S' R' U' ⊢)))))
  (k_with "!eval Name" => first | (k_here; (first | (with_reducible show wpAny _ _ (eval (Expr.Name _ _) (envOf _ _ _ _ _)) _ _ _) | (with_reducible show wpAny _ _ (eval (Expr.Name _ _) (envOfC _ _ _ _ _)) _ _ _)); k_dflt (first | (refine' nameX_L ?zqF ?zqv ?_ ?zqa ?zqb; (case zqF => k_asm); (case zqv => rfl); (case zqa => rfl); (case zqb => kernel_rfl); k_whole) | (refine' nameX_K ?zqF ?zqX ?zqT ?zqe ?_ ?zqa ?zqb; (case zqT => k_asm); (case zqX => k_asm); (case zqF => k_asm); (case zqe => k_is); (case zqa => rfl); (case zqb => kernel_rfl); k_whole) | (refine' nameX_B ?zqF ?zqX ?zqT ?zqe ?zqv ?zqn ?_ ?zqa ?zqb; (case zqT => k_asm); (case zqX => k_asm); (case zqF => k_asm); (case zqe => k_is); (case zqv => boot_fast); (case zqn => decide); (case zqa => rfl); (case zqb => kernel_rfl); k_whole))))
  (k_with "k_mem" => (assumption))
  (k_with "!execs cons" => (k_here; dsimp only))
  (k_with "!execs nil" => (k_here; dsimp only))
  (k_with "!call builtin:len" => (k_here; (with_reducible show wpAny _ _ (call (Value.builtin "len") [Value.bytes _ _]) _ _ _); (refine len_bytesV (by (try simp only [Array.size_append, List.size_toArray, octs_size, List.length_cons, List.length_nil, List.length_append]); omega) (by simp only [Array.size_append, List.size_toArray, octs_size, List.length_cons, List.length_nil, List.length_append]; rfl) ?_); intro _ _))
  (k_with "!SeqLeaf" => ((with_reducible show SeqLeaf ((_ = @ite _ _ _ _ _) ∧ Keeps _ _)); refine SeqLeaf.intro ⟨?_, ?_⟩; focus (first | (rw [if_neg (by assumption)]; done) | (rw [if_pos (by assumption)]; done) | (rw [if_neg (by assumption)]; exact rfl) | (rw [if_pos (by assumption)]; exact rfl)); focus (with_unfolding_all exact ⟨_, _, rfl, fun _ _ e => e⟩)))
  (k_with "!setItem ref int" => (k_here; (with_reducible show wpAny _ _ (setItem (Value.ref _) (Value.int _ _) (Value.int _ _)) _ _ _); k_dflt (refine' ksa_set ?zqk1 ?zqk2 ?zqk3 ?zqk4 ?zqk5 ?zqk6 ?zqk7 ?_; (case zqk1 => k_asm); (case zqk2 => k_asm); (case zqk3 => k_upd); (case zqk4 => with_reducible assumption); (case zqk5 => (have h7 := len_pos_of (by assumption); omega)); (case zqk6 => omega); (case zqk7 => omega); k_whole); intro h' F' N' hi' hl' hs'; (try k_sweep)))
  (k_with "!binaryOp Mult int int" => (k_here; (refine mul_int ?_ (mul_pow_ok (by omega)))))
  (k_with "!subscriptTail" => (k_here; (with_reducible show wpAny _ _ (subscriptTail _ _ (Value.ref _) (Value.int _ _)) _ _ _); refine' item_lst ?zqk1 ?zqk2 ?zqk3 ?zqk4 ?zqk5 ?_ ?zqk6; (case zqk1 => exact News.isList (by assumption) (by k_mem)); (case zqk2 => assumption); (case zqk3 => first | omega | (have h7 := len_pos_of (by assumption); omega)); (case zqk4 => omega); (case zqk5 => omega); (case zqk6 => with_unfolding_all rfl); intro _))
  (k_with "!binaryOp Add bytes bytes" => (k_here; (with_reducible show wpAny _ _ (binaryOp Operator.Add (Value.bytes _ _) (Value.bytes _ _)) _ _ _); (refine KBy.add_bytes (by (try simp only [Array.size_append, List.size_toArray, byteArr_size, List.length_cons, List.length_nil, List.length_map]); omega) ?_); intro _ _))
  trivial
section
variable {w : World} {s₁ s : Shared} {loose : List Str} {mean : ExcName → Option Value} {mg mb : Str → Option Value} {l : Addr} {vs : List Value} {ns : List Int} {h₁ : Heap} {tk : Nat} {oS oB oL oH : Obj} {Q : Flow → Shared → Prop}
  (X : (K0 w.params).In s₁.heap) (T : Top q1 loose mean mg mb s₁.heap) (hL : s₁.heap.IsList l vs.toArray) (hI : IntsAre vs ns) (hlen : ns.length ≤ 63) (hg : s₁.gens = #[]) (B : Below callerA s₁.heap [] s₁.heap)
include X T hL hI hlen hg B
theorem segE {sd : Int} {b : Bool} {t₃ : Tok} {p : Int} {kd : Array UInt8} {t₁ t₂ : Tok} {ms : List Int} {ys : List Value} {D : Addr}
  (F' : Fr s₁.heap s₁.heap.objs.size h₁ (fun y => if y = "numbers" then some (Value.ref D) else if y = "padding" then some (Value.int p t₁) else if y = "kind" then some (Value.bytes kd t₂) else mScr s₁.heap.objs.size l y))
  (N' : News s₁.heap s₁.heap.objs.size h₁ [(D, LCg.lst ys), (s₁.heap.objs.size + 1 + 1 + 1 + 1, oH), (s₁.heap.objs.size + 1 + 1 + 1, oL), (s₁.heap.objs.size + 1 + 1, oB), (s₁.heap.objs.size + 1, oS)])
  (dS : oS.data = .cell (some (.int sd t₃))) (dB : oB.data = .cell (some (.bool b))) (dL : oL.data = .cell none) (dH : oH.data = .cell none) (hp : 0 ≤ p ∧ p ≤ 255) (hK : KD b kd) (hY : IntsAre ys ms) (hm : ms.length ≤ 8) (hD : s₁.heap.objs.size + 1 + 1 + 1 + 1 ≠ D ∧ s₁.heap.objs.size + 1 + 1 + 1 ≠ D ∧ s₁.heap.objs.size + 1 + 1 ≠ D ∧ s₁.heap.objs.size + 1 ≠ D)
  (kont : ∀ (lo hi : Int) (oL oH : Obj) (t₄ t₅ : Tok) (h' : Heap) (tk' : Nat), Fr s₁.heap s₁.heap.objs.size h' (fun y => if y = "numbers" then some (Value.ref D) else if y = "padding" then some (Value.int p t₁) else if y = "kind" then some (Value.bytes kd t₂) else mScr s₁.heap.objs.size l y) → News s₁.heap s₁.heap.objs.size h' [(D, LCg.lst ys), (s₁.heap.objs.size + 1 + 1 + 1 + 1, oH), (s₁.heap.objs.size + 1 + 1 + 1, oL), (s₁.heap.objs.size + 1 + 1, oB), (s₁.heap.objs.size + 1, oS)] → oL.data = .cell (some (.int lo t₄)) → oH.data = .cell (some (.int hi t₅)) → LH b lo hi → wpAny (model P1 w) (callerA.deeper (envL s₁.heap.objs.size)) (execs (restS 7) (envL s₁.heap.objs.size)) Q (fun _ _ => False) { s₁ with heap := h', toks := tk' }) :
  wpAny (model P1 w) (callerA.deeper (envL s₁.heap.objs.size)) (execs (restS 6) (envL s₁.heap.objs.size)) Q (fun _ _ => False) { s₁ with heap := h₁, toks := tk } := by
  rw [restS_eq 6 1 7]
  refine execs_hold ?_
  dsimp only [lawS, List.drop, List.take]
  k_steps
  all_goals (first
    | (refine' kont 0 255 _ _ _ _ _ _ ?kF ?kN (by assumption) (by assumption) (Or.inl ⟨by assumption, rfl, rfl⟩); (case kF => k_asm); (case kN => (first | k_asm | (refine' cb_drop ?cbN ?cbS; (case cbN => k_asm); (case cbS => (repeat (first | (intro p hp; (repeat (first | exact hp | exact List.mem_append_left _ hp | apply List.mem_cons_of_mem)); done) | (refine' sub_cons ?_ ?_; focus k_mem))))))))
    | (refine' kont (-128) 127 _ _ _ _ _ _ ?kF ?kN (by assumption) (by assumption) (Or.inr ⟨by assumption, rfl, rfl⟩); (case kF => k_asm); (case kN => (first | k_asm | (refine' cb_drop ?cbN ?cbS; (case cbN => k_asm); (case cbS => (repeat (first | (intro p hp; (repeat (first | exact hp | exact List.mem_append_left _ hp | apply List.mem_cons_of_mem)); done) | (refine' sub_cons ?_ ?_; focus k_mem)))))))))
end
end Mine
end
section
namespace Mine
theorem wdSF0 : True := by
  k_with_none
  (k_with "!ite" => first | (k_closed; k_dflt (first | refine PySem.W.ite_pos (by decide) ?_ | refine PySem.W.ite_neg (by decide) ?_)))
  (k_with "!eval Call" => first | (k_here; (with_reducible show wpAny _ _ (eval (Expr.Call _ _ [] _) _) _ _ _); k_dflt (refine Call_ ?_)))
  (k_with "!exec Raise some none" => first | (k_here; (with_reducible show wpAny _ _ (exec (Stmt.Raise (some (Expr.Call (Expr.Name (PySem.Str.ofString "ValueError") _) _ _ _)) none _) _) _ _ _); k_dflt (refine Raise_new rfl ?_)) | (k_here; (with_reducible show wpAny _ _ (exec (Stmt.Raise (some (Expr.Call (Expr.Name (PySem.Str.ofString "TypeError") _) _ _ _)) none _) _) _ _ _); k_dflt (refine Raise_new rfl ?_)))
  (k_with "!leaving ref" => first | (k_here; (with_reducible rename KtsDicts _ _ => kdX); k_dflt (first | (refine' leave_raiseS ?zqk1 ?zqk0 ?zqk2 ?zqk3 ?_; (case zqk0 => first | assumption | exact Heap.MadeExc.of (by assumption)); (case zqk2 => assumption); (case zqk1 => assumption); (case zqk3 => k_asm); k_whole; intro h' t' S' R' U'; (try dsimp only at S' R' U' ⊢)) | (refine' leave_onS ?zqk1 ?zqk2 ?zqk3 ?zqk4 ?_; (case zqk3 => assumption); (case zqk2 => assumption); (case zqk1 => assumption); (case zqk4 => assumption); k_whole; intro h' S' R' U'; (try dsimp only at S' R' U' ⊢)) | (refine' leave_newS ?zqk1 ?zqk0 ?zqk2 ?zqk3 ?_; (case zqk0 => assumption); (case zqk2 => assumption); (case zqk1 => assumption); (case zqk3 => k_asm); k_whole; intro h' S' R' U'; (try dsimp only at S' R' U' ⊢)) | (refine' leave_onSN ?zqk1 ?zqk2 ?zqk3 ?zqk4 ?_; (case zqk3 => assumption); (case zqk2 => assumption); (case zqk1 => assumption); (case zqk4 => assumption); k_whole; intro h' S' R' U'; (try dsimp only at S' R' U' ⊢)))))
  (k_with "!eval Name" => first | (k_here; (first | (with_reducible show wpAny _ _ (eval (Expr.Name _ _) (envOf _ _ _ _ _)) _ _ _) | (with_reducible show wpAny _ _ (eval (Expr.Name _ _) (envOfC _ _ _ _ _)) _ _ _)); k_dflt (first | (refine' nameX_L ?zqF ?zqv ?_ ?zqa ?zqb; (case zqF => k_asm); (case zqv => rfl); (case zqa => rfl); (case zqb => kernel_rfl); k_whole) | (refine' nameX_K ?zqF ?zqX ?zqT ?zqe ?_ ?zqa ?zqb; (case zqT => k_asm); (case zqX => k_asm); (case zqF => k_asm); (case zqe => k_is); (case zqa => rfl); (case zqb => kernel_rfl); k_whole) | (refine' nameX_B ?zqF ?zqX ?zqT ?zqe ?zqv ?zqn ?_ ?zqa ?zqb; (case zqT => k_asm); (case zqX => k_asm); (case zqF => k_asm); (case zqe => k_is); (case zqv => boot_fast); (case zqn => decide); (case zqa => rfl); (case zqb => kernel_rfl); k_whole))))
  (k_with "k_mem" => (assumption))
  (k_with "!execs cons" => (k_here; dsimp only))
  (k_with "!execs nil" => (k_here; dsimp only))
  (k_with "!call builtin:len" => (k_here; (with_reducible show wpAny _ _ (call (Value.builtin "len") [Value.bytes _ _]) _ _ _); (refine len_bytesV (by (try simp only [Array.size_append, List.size_toArray, octs_size, List.length_cons, List.length_nil, List.length_append]); omega) (by simp only [Array.size_append, List.size_toArray, octs_size, List.length_cons, List.length_nil, List.length_append]; rfl) ?_); intro _ _))
  (k_with "!SeqLeaf" => ((with_reducible show SeqLeaf ((_ = @ite _ _ _ _ _) ∧ Keeps _ _)); refine SeqLeaf.intro ⟨?_, ?_⟩; focus (first | (rw [if_neg (by assumption)]; done) | (rw [if_pos (by assumption)]; done) | (rw [if_neg (by assumption)]; exact rfl) | (rw [if_pos (by assumption)]; exact rfl)); focus (with_unfolding_all exact ⟨_, _, rfl, fun _ _ e => e⟩)))
  (k_with "!setItem ref int" => (k_here; (with_reducible show wpAny _ _ (setItem (Value.ref _) (Value.int _ _) (Value.int _ _)) _ _ _); k_dflt (refine' ksa_set ?zqk1 ?zqk2 ?zqk3 ?zqk4 ?zqk5 ?zqk6 ?zqk7 ?_; (case zqk1 => k_asm); (case zqk2 => k_asm); (case zqk3 => k_upd); (case zqk4 => with_reducible assumption); (case zqk5 => (have h7 := len_pos_of (by assumption); omega)); (case zqk6 => omega); (case zqk7 => omega); k_whole); intro h' F' N' hi' hl' hs'; (try k_sweep)))
  (k_with "!binaryOp Mult int int" => (k_here; (refine mul_int ?_ (mul_pow_ok (by omega)))))
  (k_with "!subscriptTail" => (k_here; (with_reducible show wpAny _ _ (subscriptTail _ _ (Value.ref _) (Value.int _ _)) _ _ _); refine' item_lst ?zqk1 ?zqk2 ?zqk3 ?zqk4 ?zqk5 ?_ ?zqk6; (case zqk1 => exact News.isList (by assumption) (by k_mem)); (case zqk2 => assumption); (case zqk3 => first | omega | (have h7 := len_pos_of (by assumption); omega)); (case zqk4 => omega); (case zqk5 => omega); (case zqk6 => with_unfolding_all rfl); intro _))
  (k_with "!binaryOp Add bytes bytes" => (k_here; (with_reducible show wpAny _ _ (binaryOp Operator.Add (Value.bytes _ _) (Value.bytes _ _)) _ _ _); (refine KBy.add_bytes (by (try simp only [Array.size_append, List.size_toArray, byteArr_size, List.length_cons, List.length_nil, List.length_map]); omega) ?_); intro _ _))
  trivial
section
variable {w : World} {s₁ s : Shared} {loose : List Str} {mean : ExcName → Option Value} {mg mb : Str → Option Value} {l : Addr} {vs : List Value} {ns : List Int} {h₁ : Heap} {tk : Nat} {oS oB oL oH : Obj} {Q : Flow → Shared → Prop}
  (X : (K0 w.params).In s₁.heap) (T : Top q1 loose mean mg mb s₁.heap) (hL : s₁.heap.IsList l vs.toArray) (hI : IntsAre vs ns) (hlen : ns.length ≤ 63) (hg : s₁.gens = #[]) (B : Below callerA s₁.heap [] s₁.heap)
include X T hL hI hlen hg B
theorem segF {sd : Int} {b : Bool} {t₃ : Tok} {p : Int} {kd : Array UInt8} {t₁ t₂ : Tok} {ms : List Int} {ys : List Value} {D : Addr} {lo hi : Int} {t₄ t₅ : Tok}
  (F' : Fr s₁.heap s₁.heap.objs.size h₁ (fun y => if y = "numbers" then some (Value.ref D) else if y = "padding" then some (Value.int p t₁) else if y = "kind" then some (Value.bytes kd t₂) else mScr s₁.heap.objs.size l y))
  (N' : News s₁.heap s₁.heap.objs.size h₁ [(D, LCg.lst ys), (s₁.heap.objs.size + 1 + 1 + 1 + 1, oH), (s₁.heap.objs.size + 1 + 1 + 1, oL), (s₁.heap.objs.size + 1 + 1, oB), (s₁.heap.objs.size + 1, oS)])
  (dS : oS.data = .cell (some (.int sd t₃))) (dB : oB.data = .cell (some (.bool b))) (dL : oL.data = .cell (some (.int lo t₄))) (dH : oH.data = .cell (some (.int hi t₅))) (hp : 0 ≤ p ∧ p ≤ 255) (hK : KD b kd) (hY : IntsAre ys ms) (hm : ms.length ≤ 8) (hD : s₁.heap.objs.size + 1 + 1 + 1 + 1 ≠ D ∧ s₁.heap.objs.size + 1 + 1 + 1 ≠ D ∧ s₁.heap.objs.size + 1 + 1 ≠ D ∧ s₁.heap.objs.size + 1 ≠ D)
  (kont : ∀ (g : Bool) (h' : Heap) (tk' : Nat), Fr s₁.heap s₁.heap.objs.size h' (fun y => if y = "good" then some (Value.bool g) else if y = "numbers" then some (Value.ref D) else if y = "padding" then some (Value.int p t₁) else if y = "kind" then some (Value.bytes kd t₂) else mScr s₁.heap.objs.size l y) → News s₁.heap s₁.heap.objs.size h' [(D, LCg.lst ys), (s₁.heap.objs.size + 1 + 1 + 1 + 1, oH), (s₁.heap.objs.size + 1 + 1 + 1, oL), (s₁.heap.objs.size + 1 + 1, oB), (s₁.heap.objs.size + 1, oS)] → (g = true ↔ ∀ n ∈ ms, lo ≤ n ∧ n ≤ hi) → wpAny (model P1 w) (callerA.deeper (envL s₁.heap.objs.size)) (execs (restS 8) (envL s₁.heap.objs.size)) Q (fun _ _ => False) { s₁ with heap := h', toks := tk' }) :
  wpAny (model P1 w) (callerA.deeper (envL s₁.heap.objs.size)) (execs (restS 7) (envL s₁.heap.objs.size)) Q (fun _ _ => False) { s₁ with heap := h₁, toks := tk } := by
  rw [restS_eq 7 1 8]
  refine execs_hold ?_
  dsimp only [lawS, List.drop, List.take]
  k_steps
  all_goals first
    | (with_reducible show SeqLeaf _; refine SeqLeaf.intro ⟨by first | rw [if_neg (by assumption)] | rw [if_pos (by assumption)], by with_unfolding_all exact ⟨_, _, rfl, fun _ _ e => e⟩⟩)
    | skip
  all_goals first
    | (refine' kont _ _ _ ?kF ?kN ?kg; (case kF => k_asm); (case kN => (first | k_asm | (refine' cb_drop ?cbN ?cbS; (case cbN => k_asm); (case cbS => (repeat (first | (intro p hp; (repeat (first | exact hp | exact List.mem_append_left _ hp | apply List.mem_cons_of_mem)); done) | (refine' sub_cons ?_ ?_; focus k_mem))))))); (case kg => exact good_iff))
    | exact default
end
end Mine
end
section
namespace Mine
theorem wdSG0 : True := by
  k_with_none
  (k_with "!ite" => first | (k_closed; k_dflt (first | refine PySem.W.ite_pos (by decide) ?_ | refine PySem.W.ite_neg (by decide) ?_)))
  (k_with "!eval Call" => first | (k_here; (with_reducible show wpAny _ _ (eval (Expr.Call _ _ [] _) _) _ _ _); k_dflt (refine Call_ ?_)))
  (k_with "!exec Raise some none" => first | (k_here; (with_reducible show wpAny _ _ (exec (Stmt.Raise (some (Expr.Call (Expr.Name (PySem.Str.ofString "ValueError") _) _ _ _)) none _) _) _ _ _); k_dflt (refine Raise_new rfl ?_)) | (k_here; (with_reducible show wpAny _ _ (exec (Stmt.Raise (some (Expr.Call (Expr.Name (PySem.Str.ofString "TypeError") _) _ _ _)) none _) _) _ _ _); k_dflt (refine Raise_new rfl ?_)))
  (k_with "!leaving ref" => first | (k_here; (with_reducible rename KtsDicts _ _ => kdX); k_dflt (first | (refine' leave_raiseS ?zqk1 ?zqk0 ?zqk2 ?zqk3 ?_; (case zqk0 => first | assumption | exact Heap.MadeExc.of (by assumption)); (case zqk2 => assumption); (case zqk1 => assumption); (case zqk3 => k_asm); k_whole; intro h' t' S' R' U'; (try dsimp only at S' R' U' ⊢)) | (refine' leave_onS ?zqk1 ?zqk2 ?zqk3 ?zqk4 ?_; (case zqk3 => assumption); (case zqk2 => assumption); (case zqk1 => assumption); (case zqk4 => assumption); k_whole; intro h' S' R' U'; (try dsimp only at S' R' U' ⊢)) | (refine' leave_newS ?zqk1 ?zqk0 ?zqk2 ?zqk3 ?_; (case zqk0 => assumption); (case zqk2 => assumption); (case zqk1 => assumption); (case zqk3 => k_asm); k_whole; intro h' S' R' U'; (try dsimp only at S' R' U' ⊢)) | (refine' leave_onSN ?zqk1 ?zqk2 ?zqk3 ?zqk4 ?_; (case zqk3 => assumption); (case zqk2 => assumption); (case zqk1 => assumption); (case zqk4 => assumption); k_whole; intro h' S' R' U'; (try dsimp only at S' R' U' ⊢)))))
  (k_with "!eval Name" => first | (k_here; (first | (with_reducible show wpAny _ _ (eval (Expr.Name _ _) (envOf _ _ _ _ _)) _ _ _) | (with_reducible show wpAny _ _ (eval (Expr.Name _ _) (envOfC _ _ _ _ _)) _ _ _)); k_dflt (first | (refine' nameX_L ?zqF ?zqv ?_ ?zqa ?zqb; (case zqF => k_asm); (case zqv => rfl); (case zqa => rfl); (case zqb => kernel_rfl); k_whole) | (refine' nameX_K ?zqF ?zqX ?zqT ?zqe ?_ ?zqa ?zqb; (case zqT => k_asm); (case zqX => k_asm); (case zqF => k_asm); (case zqe => k_is); (case zqa => rfl); (case zqb => kernel_rfl); k_whole) | (refine' nameX_B ?zqF ?zqX ?zqT ?zqe ?zqv ?zqn ?_ ?zqa ?zqb; (case zqT => k_asm); (case zqX => k_asm); (case zqF => k_asm); (case zqe => k_is); (case zqv => boot_fast); (case zqn => decide); (case zqa => rfl); (case zqb => kernel_rfl); k_whole))))
  (k_with "k_mem" => (assumption))
  (k_with "!execs cons" => (k_here; dsimp only))
  (k_with "!execs nil" => (k_here; dsimp only))
  (k_with "!call builtin:len" => (k_here; (with_reducible show wpAny _ _ (call (Value.builtin "len") [Value.bytes _ _]) _ _ _); (refine len_bytesV (by (try simp only [Array.size_append, List.size_toArray, octs_size, List.length_cons, List.length_nil, List.length_append]); omega) (by simp only [Array.size_append, List.size_toArray, octs_size, List.length_cons, List.length_nil, List.length_append]; rfl) ?_); intro _ _))
  (k_with "!SeqLeaf" => ((with_reducible show SeqLeaf ((_ = @ite _ _ _ _ _) ∧ Keeps _ _)); refine SeqLeaf.intro ⟨?_, ?_⟩; focus (first | (rw [if_neg (by assumption)]; done) | (rw [if_pos (by assumption)]; done) | (rw [if_neg (by assumption)]; exact rfl) | (rw [if_pos (by assumption)]; exact rfl)); focus (with_unfolding_all exact ⟨_, _, rfl, fun _ _ e => e⟩)))
  (k_with "!setItem ref int" => (k_here; (with_reducible show wpAny _ _ (setItem (Value.ref _) (Value.int _ _) (Value.int _ _)) _ _ _); k_dflt (refine' ksa_set ?zqk1 ?zqk2 ?zqk3 ?zqk4 ?zqk5 ?zqk6 ?zqk7 ?_; (case zqk1 => k_asm); (case zqk2 => k_asm); (case zqk3 => k_upd); (case zqk4 => with_reducible assumption); (case zqk5 => (have h7 := len_pos_of (by assumption); omega)); (case zqk6 => omega); (case zqk7 => omega); k_whole); intro h' F' N' hi' hl' hs'; (try k_sweep)))
  (k_with "!binaryOp Mult int int" => (k_here; (refine mul_int ?_ (mul_pow_ok (by omega)))))
  (k_with "!subscriptTail" => (k_here; (with_reducible show wpAny _ _ (subscriptTail _ _ (Value.ref _) (Value.int _ _)) _ _ _); refine' item_lst ?zqk1 ?zqk2 ?zqk3 ?zqk4 ?zqk5 ?_ ?zqk6; (case zqk1 => exact News.isList (by assumption) (by k_mem)); (case zqk2 => assumption); (case zqk3 => first | omega | (have h7 := len_pos_of (by assumption); omega)); (case zqk4 => omega); (case zqk5 => omega); (case zqk6 => with_unfolding_all rfl); intro _))
  (k_with "!binaryOp Add bytes bytes" => (k_here; (with_reducible show wpAny _ _ (binaryOp Operator.Add (Value.bytes _ _) (Value.bytes _ _)) _ _ _); (refine KBy.add_bytes (by (try simp only [Array.size_append, List.size_toArray, byteArr_size, List.length_cons, List.length_nil, List.length_map]); omega) ?_); intro _ _))
  trivial
section
variable {w : World} {s₁ s : Shared} {loose : List Str} {mean : ExcName → Option Value} {mg mb : Str → Option Value} {l : Addr} {vs : List Value} {ns : List Int} {h₁ : Heap} {tk : Nat} {oS oB oL oH : Obj} {Q : Flow → Shared → Prop}
  (X : (K0 w.params).In s₁.heap) (T : Top q1 loose mean mg mb s₁.heap) (hL : s₁.heap.IsList l vs.toArray) (hI : IntsAre vs ns) (hlen : ns.length ≤ 63) (hg : s₁.gens = #[]) (B : Below callerA s₁.heap [] s₁.heap)
include X T hL hI hlen hg B
theorem segG {sd : Int} {b : Bool} {t₃ : Tok} {p : Int} {kd : Array UInt8} {t₁ t₂ : Tok} {ms : List Int} {ys : List Value} {D : Addr} {lo hi : Int} {t₄ t₅ : Tok} {g : Bool}
  (F' : Fr s₁.heap s₁.heap.objs.size h₁ (fun y => if y = "good" then some (Value.bool g) else if y = "numbers" then some (Value.ref D) else if y = "padding" then some (Value.int p t₁) else if y = "kind" then some (Value.bytes kd t₂) else mScr s₁.heap.objs.size l y))
  (N' : News s₁.heap s₁.heap.objs.size h₁ [(D, LCg.lst ys), (s₁.heap.objs.size + 1 + 1 + 1 + 1, oH), (s₁.heap.objs.size + 1 + 1 + 1, oL), (s₁.heap.objs.size + 1 + 1, oB), (s₁.heap.objs.size + 1, oS)])
  (dS : oS.data = .cell (some (.int sd t₃))) (dB : oB.data = .cell (some (.bool b))) (dL : oL.data = .cell (some (.int lo t₄))) (dH : oH.data = .cell (some (.int hi t₅))) (hp : 0 ≤ p ∧ p ≤ 255) (hK : KD b kd) (hY : IntsAre ys ms) (hm : ms.length ≤ 8) (hD : s₁.heap.objs.size + 1 + 1 + 1 + 1 ≠ D ∧ s₁.heap.objs.size + 1 + 1 + 1 ≠ D ∧ s₁.heap.objs.size + 1 + 1 ≠ D ∧ s₁.heap.objs.size + 1 ≠ D) (hLH : LH b lo hi) (hG0 : g = true ↔ ∀ n ∈ ms, lo ≤ n ∧ n ≤ hi)
  (kont : ∀ (g : Bool) (h' : Heap) (tk' : Nat), Fr s₁.heap s₁.heap.objs.size h' (fun y => if y = "good" then some (Value.bool g) else if y = "numbers" then some (Value.ref D) else if y = "padding" then some (Value.int p t₁) else if y = "kind" then some (Value.bytes kd t₂) else mScr s₁.heap.objs.size l y) → News s₁.heap s₁.heap.objs.size h' [(D, LCg.lst ys), (s₁.heap.objs.size + 1 + 1 + 1 + 1, oH), (s₁.heap.objs.size + 1 + 1 + 1, oL), (s₁.heap.objs.size + 1 + 1, oB), (s₁.heap.objs.size + 1, oS)] → (g = true ↔ Good b p ms) → wpAny (model P1 w) (callerA.deeper (envL s₁.heap.objs.size)) (execs (restS 9) (envL s₁.heap.objs.size)) Q (fun _ _ => False) { s₁ with heap := h', toks := tk' }) :
  wpAny (model P1 w) (callerA.deeper (envL s₁.heap.objs.size)) (execs (restS 8) (envL s₁.heap.objs.size)) Q (fun _ _ => False) { s₁ with heap := h₁, toks := tk } := by
  rw [restS_eq 8 1 9]
  refine execs_hold ?_
  dsimp only [lawS, List.drop, List.take]
  k_steps
  all_goals (refine' kont _ _ _ ?kF ?kN ?kg; (case kN => (first | k_asm | (refine' cb_drop ?cbN ?cbS; (case cbN => k_asm); (case cbS => (repeat (first | (intro p hp; (repeat (first | exact hp | exact List.mem_append_left _ hp | apply List.mem_cons_of_mem)); done) | (refine' sub_cons ?_ ?_; focus k_mem))))))); (case kF => first | k_asm | exact fr_redo (by k_asm)); (case kg => first
    | exact good_e (by assumption) (by assumption) (by assumption)
    | exact good_l hG0 hLH (by assumption) (by assumption) (by assumption) (by assumption) (by assumption)
    | exact good_8 (by assumption) (by assumption)
    | exact good_b (by assumption) (by assumption) rfl
    | exact good_not hG0 hLH (by assumption) rfl
    | exact good_of hG0 hLH (by assumption) hp.1))
end
end Mine
end
section
namespace Mine
theorem wdSH0 : True := by
  k_with_none
  (k_with "!ite" => first | (k_closed; k_dflt (first | refine PySem.W.ite_pos (by decide) ?_ | refine PySem.W.ite_neg (by decide) ?_)))
  (k_with "!eval Call" => first | (k_here; (with_reducible show wpAny _ _ (eval (Expr.Call _ _ [] _) _) _ _ _); k_dflt (refine Call_ ?_)))
  (k_with "!exec Raise some none" => first | (k_here; (with_reducible show wpAny _ _ (exec (Stmt.Raise (some (Expr.Call (Expr.Name (PySem.Str.ofString "ValueError") _) _ _ _)) none _) _) _ _ _); k_dflt (refine Raise_new rfl ?_)) | (k_here; (with_reducible show wpAny _ _ (exec (Stmt.Raise (some (Expr.Call (Expr.Name (PySem.Str.ofString "TypeError") _) _ _ _)) none _) _) _ _ _); k_dflt (refine Raise_new rfl ?_)))
  (k_with "!leaving ref" => first | (k_here; (with_reducible rename KtsDicts _ _ => kdX); k_dflt (first | (refine' leave_raiseS ?zqk1 ?zqk0 ?zqk2 ?zqk3 ?_; (case zqk0 => first | assumption | exact Heap.MadeExc.of (by assumption)); (case zqk2 => assumption); (case zqk1 => assumption); (case zqk3 => k_asm); k_whole; intro h' t' S' R' U'; (try dsimp only at S' R' U' ⊢)) | (refine' leave_onS ?zqk1 ?zqk2 ?zqk3 ?zqk4 ?_; (case zqk3 => assumption); (case zqk2 => assumption); (case zqk1 => assumption); (case zqk4 => assumption); k_whole; intro h' S' R' U'; (try dsimp only at S' R' U' ⊢)) | (refine' leave_newS ?zqk1 ?zqk0 ?zqk2 ?zqk3 ?_; (case zqk0 => assumption); (case zqk2 => assumption); (case zqk1 => assumption); (case zqk3 => k_asm); k_whole; intro h' S' R' U'; (try dsimp only at S' R' U' ⊢)) | (refine' leave_onSN ?zqk1 ?zqk2 ?zqk3 ?zqk4 ?_; (case zqk3 => assumption); (case zqk2 => assumption); (case zqk1 => assumption); (case zqk4 => assumption); k_whole; intro h' S' R' U'; (try dsimp only at S' R' U' ⊢)))))
  (k_with "!eval Name" => first | (k_here; (first | (with_reducible show wpAny _ _ (eval (Expr.Name _ _) (envOf _ _ _ _ _)) _ _ _) | (with_reducible show wpAny _ _ (eval (Expr.Name _ _) (envOfC _ _ _ _ _)) _ _ _)); k_dflt (first | (refine' nameX_L ?zqF ?zqv ?_ ?zqa ?zqb; (case zqF => k_asm); (case zqv => rfl); (case zqa => rfl); (case zqb => kernel_rfl); k_whole) | (refine' nameX_K ?zqF ?zqX ?zqT ?zqe ?_ ?zqa ?zqb; (case zqT => k_asm); (case zqX => k_asm); (case zqF => k_asm); (case zqe => k_is); (case zqa => rfl); (case zqb => kernel_rfl); k_whole) | (refine' nameX_B ?zqF ?zqX ?zqT ?zqe ?zqv ?zqn ?_ ?zqa ?zqb; (case zqT => k_asm); (case zqX => k_asm); (case zqF => k_asm); (case zqe => k_is); (case zqv => boot_fast); (case zqn => decide); (case zqa => rfl); (case zqb => kernel_rfl); k_whole))))
  (k_with "k_mem" => (assumption))
  (k_with "!execs cons" => (k_here; dsimp only))
  (k_with "!execs nil" => (k_here; dsimp only))
  (k_with "!call builtin:len" => (k_here; (with_reducible show wpAny _ _ (call (Value.builtin "len") [Value.bytes _ _]) _ _ _); (refine len_bytesV (by (try simp only [Array.size_append, List.size_toArray, octs_size, List.length_cons, List.length_nil, List.length_append]); omega) (by simp only [Array.size_append, List.size_toArray, octs_size, List.length_cons, List.length_nil, List.length_append]; rfl) ?_); intro _ _))
  (k_with "!SeqLeaf" => ((with_reducible show SeqLeaf ((_ = @ite _ _ _ _ _) ∧ Keeps _ _)); refine SeqLeaf.intro ⟨?_, ?_⟩; focus (first | (rw [if_neg (by assumption)]; done) | (rw [if_pos (by assumption)]; done) | (rw [if_neg (by assumption)]; exact rfl) | (rw [if_pos (by assumption)]; exact rfl)); focus (with_unfolding_all exact ⟨_, _, rfl, fun _ _ e => e⟩)))
  (k_with "!setItem ref int" => (k_here; (with_reducible show wpAny _ _ (setItem (Value.ref _) (Value.int _ _) (Value.int _ _)) _ _ _); k_dflt (refine' ksa_set ?zqk1 ?zqk2 ?zqk3 ?zqk4 ?zqk5 ?zqk6 ?zqk7 ?_; (case zqk1 => k_asm); (case zqk2 => k_asm); (case zqk3 => k_upd); (case zqk4 => with_reducible assumption); (case zqk5 => (have h7 := len_pos_of (by assumption); omega)); (case zqk6 => omega); (case zqk7 => omega); k_whole); intro h' F' N' hi' hl' hs'; (try k_sweep)))
  (k_with "!binaryOp Mult int int" => (k_here; (refine mul_int ?_ (mul_pow_ok (by omega)))))
  (k_with "!subscriptTail" => (k_here; (with_reducible show wpAny _ _ (subscriptTail _ _ (Value.ref _) (Value.int _ _)) _ _ _); refine' item_lst ?zqk1 ?zqk2 ?zqk3 ?zqk4 ?zqk5 ?_ ?zqk6; (case zqk1 => exact News.isList (by assumption) (by k_mem)); (case zqk2 => assumption); (case zqk3 => first | omega | (have h7 := len_pos_of (by assumption); omega)); (case zqk4 => omega); (case zqk5 => omega); (case zqk6 => with_unfolding_all rfl); intro _))
  (k_with "!binaryOp Add bytes bytes" => (k_here; (with_reducible show wpAny _ _ (binaryOp Operator.Add (Value.bytes _ _) (Value.bytes _ _)) _ _ _); (refine KBy.add_bytes (by (try simp only [Array.size_append, List.size_toArray, byteArr_size, List.length_cons, List.length_nil, List.length_map]); omega) ?_); intro _ _))
  trivial
section
variable {w : World} {s₁ s : Shared} {loose : List Str} {mean : ExcName → Option Value} {mg mb : Str → Option Value} {l : Addr} {vs : List Value} {ns : List Int} {h₁ : Heap} {tk : Nat} {oS oB oL oH : Obj} {Q : Flow → Shared → Prop}
  (X : (K0 w.params).In s₁.heap) (T : Top q1 loose mean mg mb s₁.heap) (hL : s₁.heap.IsList l vs.toArray) (hI : IntsAre vs ns) (hlen : ns.length ≤ 63) (hg : s₁.gens = #[]) (B : Below callerA s₁.heap [] s₁.heap)
include X T hL hI hlen hg B
theorem segH {sd : Int} {b : Bool} {t₃ : Tok} {p : Int} {kd : Array UInt8} {t₁ t₂ : Tok} {ms : List Int} {ys : List Value} {D : Addr} {lo hi : Int} {t₄ t₅ : Tok} {g : Bool}
  (F' : Fr s₁.heap s₁.heap.objs.size h₁ (fun y => if y = "good" then some (Value.bool g) else if y = "numbers" then some (Value.ref D) else if y = "padding" then some (Value.int p t₁) else if y = "kind" then some (Value.bytes kd t₂) else mScr s₁.heap.objs.size l y))
  (N' : News s₁.heap s₁.heap.objs.size h₁ [(D, LCg.lst ys), (s₁.heap.objs.size + 1 + 1 + 1 + 1, oH), (s₁.heap.objs.size + 1 + 1 + 1, oL), (s₁.heap.objs.size + 1 + 1, oB), (s₁.heap.objs.size + 1, oS)])
  (dS : oS.data = .cell (some (.int sd t₃))) (dB : oB.data = .cell (some (.bool b))) (dL : oL.data = .cell (some (.int lo t₄))) (dH : oH.data = .cell (some (.int hi t₅))) (hp : 0 ≤ p ∧ p ≤ 255) (hK : KD b kd) (hY : IntsAre ys ms) (hm : ms.length ≤ 8) (hD : s₁.heap.objs.size + 1 + 1 + 1 + 1 ≠ D ∧ s₁.heap.objs.size + 1 + 1 + 1 ≠ D ∧ s₁.heap.objs.size + 1 + 1 ≠ D ∧ s₁.heap.objs.size + 1 ≠ D)
  (kont : ∀ (z : Addr) (ta tb : Tok) (h' : Heap) (tk' : Nat), Fr s₁.heap s₁.heap.objs.size h' (fun y => if y = "due" then some (Value.ref z) else if y = "good" then some (Value.bool g) else if y = "numbers" then some (Value.ref D) else if y = "padding" then some (Value.int p t₁) else if y = "kind" then some (Value.bytes kd t₂) else mScr s₁.heap.objs.size l y) → News s₁.heap s₁.heap.objs.size h' [(z, { cls := .type "tuple", data := .seq #[.int 9 ta, .bytes (vec kd p ms) tb] }), (D, LCg.lst ys), (s₁.heap.objs.size + 1 + 1 + 1 + 1, oH), (s₁.heap.objs.size + 1 + 1 + 1, oL), (s₁.heap.objs.size + 1 + 1, oB), (s₁.heap.objs.size + 1, oS)] → g = true → wpAny (model P1 w) (callerA.deeper (envL s₁.heap.objs.size)) (execs (restS 10) (envL s₁.heap.objs.size)) Q (fun _ _ => False) { s₁ with heap := h', toks := tk' })
  (kontB : ∀ (tv : Tok) (h' : Heap) (tk' : Nat), Fr s₁.heap s₁.heap.objs.size h' (fun y => if y = "due" then some (Value.str "value" tv) else if y = "good" then some (Value.bool g) else if y = "numbers" then some (Value.ref D) else if y = "padding" then some (Value.int p t₁) else if y = "kind" then some (Value.bytes kd t₂) else mScr s₁.heap.objs.size l y) → News s₁.heap s₁.heap.objs.size h' [(D, LCg.lst ys), (s₁.heap.objs.size + 1 + 1 + 1 + 1, oH), (s₁.heap.objs.size + 1 + 1 + 1, oL), (s₁.heap.objs.size + 1 + 1, oB), (s₁.heap.objs.size + 1, oS)] → g = false → wpAny (model P1 w) (callerA.deeper (envL s₁.heap.objs.size)) (execs (restS 10) (envL s₁.heap.objs.size)) Q (fun _ _ => False) { s₁ with heap := h', toks := tk' }) :
  wpAny (model P1 w) (callerA.deeper (envL s₁.heap.objs.size)) (execs (restS 9) (envL s₁.heap.objs.size)) Q (fun _ _ => False) { s₁ with heap := h₁, toks := tk } := by
  rw [restS_eq 9 1 10]
  refine execs_hold ?_
  dsimp only [lawS, List.drop, List.take]
  have hks := hK.size
  have he : kd ++ #[p.toNat.toUInt8] ++ byteArr (List.map (fun k' => k'.fmod 256) ms) = vec kd p ms := rfl
  k_steps
  · rename News _ _ _ _ => N9
    rw [he] at N9
    refine' kont _ _ _ _ _ ?kF ?kN (by assumption)
    case kF => k_asm
    case kN => (first | k_asm | (refine' cb_drop ?cbN ?cbS; (case cbN => k_asm); (case cbS => (repeat (first | (intro p hp; (repeat (first | exact hp | exact List.mem_append_left _ hp | apply List.mem_cons_of_mem)); done) | (refine' sub_cons ?_ ?_; focus k_mem))))))
  · refine' kontB _ _ _ ?kF ?kN (by assumption)
    case kF => k_asm
    case kN => (first | k_asm | (refine' cb_drop ?cbN ?cbS; (case cbN => k_asm); (case cbS => (repeat (first | (intro p hp; (repeat (first | exact hp | exact List.mem_append_left _ hp | apply List.mem_cons_of_mem)); done) | (refine' sub_cons ?_ ?_; focus k_mem))))))
end
end Mine
end
section
namespace Mine
theorem wdSJG0 : True := by
  k_with_none
  (k_with "!ite" => first | (k_closed; k_dflt (first | refine PySem.W.ite_pos (by decide) ?_ | refine PySem.W.ite_neg (by decide) ?_)))
  (k_with "!eval Call" => first | (k_here; (with_reducible show wpAny _ _ (eval (Expr.Call _ _ [] _) _) _ _ _); k_dflt (refine Call_ ?_)))
  (k_with "!exec Raise some none" => first | (k_here; (with_reducible show wpAny _ _ (exec (Stmt.Raise (some (Expr.Call (Expr.Name (PySem.Str.ofString "ValueError") _) _ _ _)) none _) _) _ _ _); k_dflt (refine Raise_new rfl ?_)) | (k_here; (with_reducible show wpAny _ _ (exec (Stmt.Raise (some (Expr.Call (Expr.Name (PySem.Str.ofString "TypeError") _) _ _ _)) none _) _) _ _ _); k_dflt (refine Raise_new rfl ?_)))
  (k_with "!leaving ref" => first | (k_here; (with_reducible rename KtsDicts _ _ => kdX); k_dflt (first | (refine' leave_raiseS ?zqk1 ?zqk0 ?zqk2 ?zqk3 ?_; (case zqk0 => first | assumption | exact Heap.MadeExc.of (by assumption)); (case zqk2 => assumption); (case zqk1 => assumption); (case zqk3 => k_asm); k_whole; intro h' t' S' R' U'; (try dsimp only at S' R' U' ⊢)) | (refine' leave_onS ?zqk1 ?zqk2 ?zqk3 ?zqk4 ?_; (case zqk3 => assumption); (case zqk2 => assumption); (case zqk1 => assumption); (case zqk4 => assumption); k_whole; intro h' S' R' U'; (try dsimp only at S' R' U' ⊢)) | (refine' leave_newS ?zqk1 ?zqk0 ?zqk2 ?zqk3 ?_; (case zqk0 => assumption); (case zqk2 => assumption); (case zqk1 => assumption); (case zqk3 => k_asm); k_whole; intro h' S' R' U'; (try dsimp only at S' R' U' ⊢)) | (refine' leave_onSN ?zqk1 ?zqk2 ?zqk3 ?zqk4 ?_; (case zqk3 => assumption); (case zqk2 => assumption); (case zqk1 => assumption); (case zqk4 => assumption); k_whole; intro h' S' R' U'; (try dsimp only at S' R' U' ⊢)))))
  (k_with "!eval Name" => first | (k_here; (first | (with_reducible show wpAny _ _ (eval (Expr.Name _ _) (envOf _ _ _ _ _)) _ _ _) | (with_reducible show wpAny _ _ (eval (Expr.Name _ _) (envOfC _ _ _ _ _)) _ _ _)); k_dflt (first | (refine' nameX_L ?zqF ?zqv ?_ ?zqa ?zqb; (case zqF => k_asm); (case zqv => rfl); (case zqa => rfl); (case zqb => kernel_rfl); k_whole) | (refine' nameX_K ?zqF ?zqX ?zqT ?zqe ?_ ?zqa ?zqb; (case zqT => k_asm); (case zqX => k_asm); (case zqF => k_asm); (case zqe => k_is); (case zqa => rfl); (case zqb => kernel_rfl); k_whole) | (refine' nameX_B ?zqF ?zqX ?zqT ?zqe ?zqv ?zqn ?_ ?zqa ?zqb; (case zqT => k_asm); (case zqX => k_asm); (case zqF => k_asm); (case zqe => k_is); (case zqv => boot_fast); (case zqn => decide); (case zqa => rfl); (case zqb => kernel_rfl); k_whole))))
  (k_with "k_mem" => (assumption))
  (k_with "!execs cons" => (k_here; dsimp only))
  (k_with "!execs nil" => (k_here; dsimp only))
  (k_with "!call builtin:len" => (k_here; (with_reducible show wpAny _ _ (call (Value.builtin "len") [Value.bytes _ _]) _ _ _); (refine len_bytesV (by (try simp only [Array.size_append, List.size_toArray, octs_size, List.length_cons, List.length_nil, List.length_append]); omega) (by simp only [Array.size_append, List.size_toArray, octs_size, List.length_cons, List.length_nil, List.length_append]; rfl) ?_); intro _ _))
  (k_with "!SeqLeaf" => ((with_reducible show SeqLeaf ((_ = @ite _ _ _ _ _) ∧ Keeps _ _)); refine SeqLeaf.intro ⟨?_, ?_⟩; focus (first | (rw [if_neg (by assumption)]; done) | (rw [if_pos (by assumption)]; done) | (rw [if_neg (by assumption)]; exact rfl) | (rw [if_pos (by assumption)]; exact rfl)); focus (with_unfolding_all exact ⟨_, _, rfl, fun _ _ e => e⟩)))
  (k_with "!setItem ref int" => (k_here; (with_reducible show wpAny _ _ (setItem (Value.ref _) (Value.int _ _) (Value.int _ _)) _ _ _); k_dflt (refine' ksa_set ?zqk1 ?zqk2 ?zqk3 ?zqk4 ?zqk5 ?zqk6 ?zqk7 ?_; (case zqk1 => k_asm); (case zqk2 => k_asm); (case zqk3 => k_upd); (case zqk4 => with_reducible assumption); (case zqk5 => (have h7 := len_pos_of (by assumption); omega)); (case zqk6 => omega); (case zqk7 => omega); k_whole); intro h' F' N' hi' hl' hs'; (try k_sweep)))
  (k_with "!binaryOp Mult int int" => (k_here; (refine mul_int ?_ (mul_pow_ok (by omega)))))
  (k_with "!subscriptTail" => (k_here; (with_reducible show wpAny _ _ (subscriptTail _ _ (Value.ref _) (Value.int _ _)) _ _ _); refine' item_lst ?zqk1 ?zqk2 ?zqk3 ?zqk4 ?zqk5 ?_ ?zqk6; (case zqk1 => exact News.isList (by assumption) (by k_mem)); (case zqk2 => assumption); (case zqk3 => first | omega | (have h7 := len_pos_of (by assumption); omega)); (case zqk4 => omega); (case zqk5 => omega); (case zqk6 => with_unfolding_all rfl); intro _))
  (k_with "!binaryOp Add bytes bytes" => (k_here; (with_reducible show wpAny _ _ (binaryOp Operator.Add (Value.bytes _ _) (Value.bytes _ _)) _ _ _); (refine KBy.add_bytes (by (try simp only [Array.size_append, List.size_toArray, byteArr_size, List.length_cons, List.length_nil, List.length_map]); omega) ?_); intro _ _))
  trivial
theorem wdSJG1 : True := by
  (k_with "!call ref" => first | (k_here; (try dsimp only [List.cons_append, List.nil_append]); (with_reducible show wpAny _ _ (call (Value.ref 1533) [Value.ref _, Value.int 3 _, Value.int _ _] _) _ _ _); k_dflt ((refine wpAny_call ?_); (refine' m_K3 ?zqcXB ?zqcTB ?zqcB ?zqcF ?zqcX ?zqcN ?zqcT ?zqck ?zqcd ?zqcu ?zqMD ?zqhp ?_); (case zqcN => k_asm); (case zqcB => k_asm); (case zqcXB => k_asm); (case zqcTB => k_asm); (case zqcF => k_asm); (case zqcX => k_asm); (case zqcT => k_asm); (case zqck => first | exact rfl | assumption); (case zqcd => k_room); (case zqcu => k_units); (case zqMD => k_mem); (case zqhp => assumption); intro t' h' tk' F' N'; (try dsimp only); (try k_sweep); (try k_fold))) | (k_here; (try dsimp only [List.cons_append, List.nil_append]); (with_reducible show wpAny _ _ (call (Value.ref 1533) [Value.ref _, Value.bytes (List.toArray [5]) _, Value.int _ _] _) _ _ _); k_dflt ((refine wpAny_call ?_); (refine' m_K5 ?zqcXB ?zqcTB ?zqcB ?zqcF ?zqcX ?zqcN ?zqcT ?zqck ?zqcd ?zqcu ?zqMD ?zqhp ?_); (case zqcN => k_asm); (case zqcB => k_asm); (case zqcXB => k_asm); (case zqcTB => k_asm); (case zqcF => k_asm); (case zqcX => k_asm); (case zqcT => k_asm); (case zqck => first | exact rfl | assumption); (case zqcd => k_room); (case zqcu => k_units); (case zqMD => k_mem); (case zqhp => assumption); intro t' h' tk' F' N'; (try dsimp only); (try k_sweep); (try k_fold))) | (k_here; (try dsimp only [List.cons_append, List.nil_append]); (with_reducible show wpAny _ _ (call (Value.ref 1533) [Value.ref _, Value.none, Value.int _ _] _) _ _ _); k_dflt ((refine wpAny_call ?_); (refine' m_madeVn ?zqcXB ?zqcTB ?zqcB ?zqcF ?zqcX ?zqcN ?zqcT ?zqck ?zqcd ?zqcu ?zqMV ?zqMW ?zqMD ?zqhK ?zqhq ?_); (case zqcN => k_asm); (case zqcB => k_asm); (case zqcXB => k_asm); (case zqcTB => k_asm); (case zqcF => k_asm); (case zqcX => k_asm); (case zqcT => k_asm); (case zqck => first | exact rfl | assumption); (case zqcd => k_room); (case zqcu => k_units); (case zqMV => k_mem); (case zqMW => k_mem); (case zqMD => k_mem); (case zqhK => assumption); (case zqhq => assumption); intro t' h' tk' F' N'; (try dsimp only); (try k_sweep); (try k_fold))) | (k_here; (try dsimp only [List.cons_append, List.nil_append]); (with_reducible show wpAny _ _ (call (Value.ref 1533) [Value.ref _, Value.bytes _ _, Value.int 0 _] _) _ _ _); k_dflt ((refine wpAny_call ?_); (refine' m_madeV ?zqcXB ?zqcTB ?zqcB ?zqcF ?zqcX ?zqcN ?zqcT ?zqck ?zqcd ?zqcu ?zqMV ?zqMW ?zqMD ?zqhK ?_); (case zqcN => k_asm); (case zqcB => k_asm); (case zqcXB => k_asm); (case zqcTB => k_asm); (case zqcF => k_asm); (case zqcX => k_asm); (case zqcT => k_asm); (case zqck => first | exact rfl | assumption); (case zqcd => k_room); (case zqcu => k_units); (case zqMV => k_mem); (case zqMW => k_mem); (case zqMD => k_mem); (case zqhK => assumption); intro t' h' tk' F' N'; (try dsimp only); (try k_sweep); (try k_fold))) | (k_here; (try dsimp only [List.cons_append, List.nil_append]); (with_reducible show wpAny _ _ (call (Value.ref 1533) [Value.ref _, Value.none, Value.int _ _] _) _ _ _); k_dflt ((refine wpAny_call ?_); (refine' m_madeVzG ?zqcXB ?zqcTB ?zqcB ?zqcF ?zqcX ?zqcN ?zqcT ?zqck ?zqcd ?zqcu ?zqMV ?zqMW ?zqMD ?zqhK ?zqhq ?zqhY ?zqhm ?zqhp ?zqhG ?_); (case zqcN => k_asm); (case zqcB => k_asm); (case zqcXB => k_asm); (case zqcTB => k_asm); (case zqcF => k_asm); (case zqcX => k_asm); (case zqcT => k_asm); (case zqck => first | exact rfl | assumption); (case zqcd => k_room); (case zqcu => k_units); (case zqMV => k_mem); (case zqMW => k_mem); (case zqMD => k_mem); (case zqhK => assumption); (case zqhq => assumption); (case zqhY => assumption); (case zqhm => assumption); (case zqhp => assumption); (case zqhG => assumption); intro z' ta' tb' h' tk' F' N'; (try dsimp only); (try k_sweep); (try k_fold))) | (k_here; (try dsimp only [List.cons_append, List.nil_append]); (with_reducible show wpAny _ _ (call (Value.ref 1540) [Value.ref _] _) _ _ _); k_dflt ((refine wpAny_call ?_); (refine' m_packedG ?zqcXB ?zqcTB ?zqcB ?zqcF ?zqcX ?zqcN ?zqcT ?zqck ?zqcd ?zqcu ?zqMV ?zqMW ?zqMD ?zqhK ?zqhY ?zqhm ?zqhp ?zqhG ?_); (case zqcN => k_asm); (case zqcB => k_asm); (case zqcXB => k_asm); (case zqcTB => k_asm); (case zqcF => k_asm); (case zqcX => k_asm); (case zqcT => k_asm); (case zqck => first | exact rfl | assumption); (case zqcd => k_room); (case zqcu => k_units); (case zqMV => k_mem); (case zqMW => k_mem); (case zqMD => k_mem); (case zqhK => assumption); (case zqhY => assumption); (case zqhm => assumption); (case zqhp => assumption); (case zqhG => assumption); intro z' ta' tb' h' tk' F' N'; (try dsimp only); (try k_sweep); (try k_fold))) | (k_here; (try dsimp only [List.cons_append, List.nil_append]); (with_reducible show wpAny _ _ (call (Value.ref 1533) [Value.ref _, Value.bytes _ _, Value.int _ _] _) _ _ _); k_dflt ((refine wpAny_call ?_); (refine' m_madeG ?zqcXB ?zqcTB ?zqcB ?zqcF ?zqcX ?zqcN ?zqcT ?zqck ?zqcd ?zqcu ?zqMD ?zqhK ?zqhY ?zqhm ?zqhp ?zqhG ?_); (case zqcN => k_asm); (case zqcB => k_asm); (case zqcXB => k_asm); (case zqcTB => k_asm); (case zqcF => k_asm); (case zqcX => k_asm); (case zqcT => k_asm); (case zqck => first | exact rfl | assumption); (case zqcd => k_room); (case zqcu => k_units); (case zqMD => k_mem); (case zqhK => assumption); (case zqhY => assumption); (case zqhm => assumption); (case zqhp => assumption); (case zqhG => assumption); intro z' ta' tb' h' tk' F' N'; (try dsimp only); (try k_sweep); (try k_fold))))
  (k_with "!compareOp NotEq ref ref" => (k_here; (with_reducible show wpAny _ _ (compareOp CmpOp.NotEq (Value.ref _) (Value.ref _)) _ _ _); first | (exfalso; omega) | k_dflt (refine' ne_sameL ?zql ?zqb ?zqu ?zqe ?_; (case zql => exact News.isList (by k_asm) (by k_mem)); (case zqb => exact News.isList (by k_asm) (by k_mem)); (case zqu => k_units); (case zqe => (repeat (first | exact True.intro | (refine And.intro ?_ ?_; focus (first | exact ea_str_same _ _ _ | exact PySem.SeqAt.EqAt.same _ | exact ea_tup9 (isTup_of (by k_asm) (by k_mem)) (isTup_of (by k_asm) (by k_mem)) (by k_units)))))))))
  trivial
section
variable {w : World} {s₁ s : Shared} {loose : List Str} {mean : ExcName → Option Value} {mg mb : Str → Option Value} {l : Addr} {vs : List Value} {ns : List Int} {h₁ : Heap} {tk : Nat} {oS oB oL oH : Obj} {Q : Flow → Shared → Prop}
  (X : (K0 w.params).In s₁.heap) (T : Top q1 loose mean mg mb s₁.heap) (hL : s₁.heap.IsList l vs.toArray) (hI : IntsAre vs ns) (hlen : ns.length ≤ 63) (hg : s₁.gens = #[]) (B : Below callerA s₁.heap [] s₁.heap)
include X T hL hI hlen hg B
theorem segJG {sd : Int} {b : Bool} {t₃ : Tok} {p : Int} {kd : Array UInt8} {t₁ t₂ : Tok} {ms : List Int} {ys : List Value} {D : Addr} {lo hi : Int} {t₄ t₅ : Tok} {g : Bool} {z : Addr} {ta tb : Tok}
  (F' : Fr s₁.heap s₁.heap.objs.size h₁ (fun y => if y = "due" then some (Value.ref z) else if y = "good" then some (Value.bool g) else if y = "numbers" then some (Value.ref D) else if y = "padding" then some (Value.int p t₁) else if y = "kind" then some (Value.bytes kd t₂) else mScr s₁.heap.objs.size l y))
  (N' : News s₁.heap s₁.heap.objs.size h₁ [(z, { cls := .type "tuple", data := .seq #[.int 9 ta, .bytes (vec kd p ms) tb] }), (D, LCg.lst ys), (s₁.heap.objs.size + 1 + 1 + 1 + 1, oH), (s₁.heap.objs.size + 1 + 1 + 1, oL), (s₁.heap.objs.size + 1 + 1, oB), (s₁.heap.objs.size + 1, oS)])
  (dS : oS.data = .cell (some (.int sd t₃))) (dB : oB.data = .cell (some (.bool b))) (dL : oL.data = .cell (some (.int lo t₄))) (dH : oH.data = .cell (some (.int hi t₅))) (hp : 0 ≤ p ∧ p ≤ 255) (hK : KD b kd) (hY : IntsAre ys ms) (hm : ms.length ≤ 8) (hD : s₁.heap.objs.size + 1 + 1 + 1 + 1 ≠ D ∧ s₁.heap.objs.size + 1 + 1 + 1 ≠ D ∧ s₁.heap.objs.size + 1 + 1 ≠ D ∧ s₁.heap.objs.size + 1 ≠ D) (hG : g = true ↔ Good b p ms) (hg1 : g = true)
  (kont : ∀ (dv : Value) (V dV : Addr) (va vb vc vd ve : Tok) (h' : Heap) (tk' : Nat), Fr s₁.heap s₁.heap.objs.size h' (fun y => if y = "vector" then some (Value.ref V) else if y = "due" then some (dv) else if y = "good" then some (Value.bool g) else if y = "numbers" then some (Value.ref D) else if y = "padding" then some (Value.int p t₁) else if y = "kind" then some (Value.bytes kd t₂) else mScr s₁.heap.objs.size l y) → News s₁.heap s₁.heap.objs.size h' [(V, instObj 141 dV), (dV, dictOf [⟨PyData.keyHash w.params "data", .str "data" va, .ref D⟩, ⟨PyData.keyHash w.params "dtype", .str "dtype" vb, .bytes kd vc⟩, ⟨PyData.keyHash w.params "padding", .str "padding" vd, .int p ve⟩] 3), (D, LCg.lst ys), (s₁.heap.objs.size + 1 + 1 + 1 + 1, oH), (s₁.heap.objs.size + 1 + 1 + 1, oL), (s₁.heap.objs.size + 1 + 1, oB), (s₁.heap.objs.size + 1, oS)] → (@LT.lt Nat _ D dV ∧ @LT.lt Nat _ dV V) → wpAny (model P1 w) (callerA.deeper (envL s₁.heap.objs.size)) (execs (restS 12) (envL s₁.heap.objs.size)) Q (fun _ _ => False) { s₁ with heap := h', toks := tk' }) :
  wpAny (model P1 w) (callerA.deeper (envL s₁.heap.objs.size)) (execs (restS 10) (envL s₁.heap.objs.size)) Q (fun _ _ => False) { s₁ with heap := h₁, toks := tk } := by
  rw [restS_eq 10 2 12]
  refine execs_hold ?_
  dsimp only [lawS, List.drop, List.take]
  have hG2 := hG.mp hg1
  by_cases hp0 : p = 0
  k_steps
  all_goals (refine' kont _ _ _ _ _ _ _ _ _ _ ?kF ?kN ?kD; (case kN => (first | k_asm | (refine' cb_drop ?cbN ?cbS; (case cbN => k_asm); (case cbS => (repeat (first | (intro p hp; (repeat (first | exact hp | exact List.mem_append_left _ hp | apply List.mem_cons_of_mem)); done) | (refine' sub_cons ?_ ?_; focus k_mem))))))); (case kF => k_asm); (case kD => omega))
end
end Mine
end
section
namespace Mine
theorem wdSJB0 : True := by
  k_with_none
  (k_with "!ite" => first | (k_closed; k_dflt (first | refine PySem.W.ite_pos (by decide) ?_ | refine PySem.W.ite_neg (by decide) ?_)))
  (k_with "!eval Call" => first | (k_here; (with_reducible show wpAny _ _ (eval (Expr.Call _ _ [] _) _) _ _ _); k_dflt (refine Call_ ?_)))
  (k_with "!exec Raise some none" => first | (k_here; (with_reducible show wpAny _ _ (exec (Stmt.Raise (some (Expr.Call (Expr.Name (PySem.Str.ofString "ValueError") _) _ _ _)) none _) _) _ _ _); k_dflt (refine Raise_new rfl ?_)) | (k_here; (with_reducible show wpAny _ _ (exec (Stmt.Raise (some (Expr.Call (Expr.Name (PySem.Str.ofString "TypeError") _) _ _ _)) none _) _) _ _ _); k_dflt (refine Raise_new rfl ?_)))
  (k_with "!leaving ref" => first | (k_here; (with_reducible rename KtsDicts _ _ => kdX); k_dflt (first | (refine' leave_raiseS ?zqk1 ?zqk0 ?zqk2 ?zqk3 ?_; (case zqk0 => first | assumption | exact Heap.MadeExc.of (by assumption)); (case zqk2 => assumption); (case zqk1 => assumption); (case zqk3 => k_asm); k_whole; intro h' t' S' R' U'; (try dsimp only at S' R' U' ⊢)) | (refine' leave_onS ?zqk1 ?zqk2 ?zqk3 ?zqk4 ?_; (case zqk3 => assumption); (case zqk2 => assumption); (case zqk1 => assumption); (case zqk4 => assumption); k_whole; intro h' S' R' U'; (try dsimp only at S' R' U' ⊢)) | (refine' leave_newS ?zqk1 ?zqk0 ?zqk2 ?zqk3 ?_; (case zqk0 => assumption); (case zqk2 => assumption); (case zqk1 => assumption); (case zqk3 => k_asm); k_whole; intro h' S' R' U'; (try dsimp only at S' R' U' ⊢)) | (refine' leave_onSN ?zqk1 ?zqk2 ?zqk3 ?zqk4 ?_; (case zqk3 => assumption); (case zqk2 => assumption); (case zqk1 => assumption); (case zqk4 => assumption); k_whole; intro h' S' R' U'; (try dsimp only at S' R' U' ⊢)))))
  (k_with "!eval Name" => first | (k_here; (first | (with_reducible show wpAny _ _ (eval (Expr.Name _ _) (envOf _ _ _ _ _)) _ _ _) | (with_reducible show wpAny _ _ (eval (Expr.Name _ _) (envOfC _ _ _ _ _)) _ _ _)); k_dflt (first | (refine' nameX_L ?zqF ?zqv ?_ ?zqa ?zqb; (case zqF => k_asm); (case zqv => rfl); (case zqa => rfl); (case zqb => kernel_rfl); k_whole) | (refine' nameX_K ?zqF ?zqX ?zqT ?zqe ?_ ?zqa ?zqb; (case zqT => k_asm); (case zqX => k_asm); (case zqF => k_asm); (case zqe => k_is); (case zqa => rfl); (case zqb => kernel_rfl); k_whole) | (refine' nameX_B ?zqF ?zqX ?zqT ?zqe ?zqv ?zqn ?_ ?zqa ?zqb; (case zqT => k_asm); (case zqX => k_asm); (case zqF => k_asm); (case zqe => k_is); (case zqv => boot_fast); (case zqn => decide); (case zqa => rfl); (case zqb => kernel_rfl); k_whole))))
  (k_with "k_mem" => (assumption))
  (k_with "!execs cons" => (k_here; dsimp only))
  (k_with "!execs nil" => (k_here; dsimp only))
  (k_with "!call builtin:len" => (k_here; (with_reducible show wpAny _ _ (call (Value.builtin "len") [Value.bytes _ _]) _ _ _); (refine len_bytesV (by (try simp only [Array.size_append, List.size_toArray, octs_size, List.length_cons, List.length_nil, List.length_append]); omega) (by simp only [Array.size_append, List.size_toArray, octs_size, List.length_cons, List.length_nil, List.length_append]; rfl) ?_); intro _ _))
  (k_with "!SeqLeaf" => ((with_reducible show SeqLeaf ((_ = @ite _ _ _ _ _) ∧ Keeps _ _)); refine SeqLeaf.intro ⟨?_, ?_⟩; focus (first | (rw [if_neg (by assumption)]; done) | (rw [if_pos (by assumption)]; done) | (rw [if_neg (by assumption)]; exact rfl) | (rw [if_pos (by assumption)]; exact rfl)); focus (with_unfolding_all exact ⟨_, _, rfl, fun _ _ e => e⟩)))
  (k_with "!setItem ref int" => (k_here; (with_reducible show wpAny _ _ (setItem (Value.ref _) (Value.int _ _) (Value.int _ _)) _ _ _); k_dflt (refine' ksa_set ?zqk1 ?zqk2 ?zqk3 ?zqk4 ?zqk5 ?zqk6 ?zqk7 ?_; (case zqk1 => k_asm); (case zqk2 => k_asm); (case zqk3 => k_upd); (case zqk4 => with_reducible assumption); (case zqk5 => (have h7 := len_pos_of (by assumption); omega)); (case zqk6 => omega); (case zqk7 => omega); k_whole); intro h' F' N' hi' hl' hs'; (try k_sweep)))
  (k_with "!binaryOp Mult int int" => (k_here; (refine mul_int ?_ (mul_pow_ok (by omega)))))
  (k_with "!subscriptTail" => (k_here; (with_reducible show wpAny _ _ (subscriptTail _ _ (Value.ref _) (Value.int _ _)) _ _ _); refine' item_lst ?zqk1 ?zqk2 ?zqk3 ?zqk4 ?zqk5 ?_ ?zqk6; (case zqk1 => exact News.isList (by assumption) (by k_mem)); (case zqk2 => assumption); (case zqk3 => first | omega | (have h7 := len_pos_of (by assumption); omega)); (case zqk4 => omega); (case zqk5 => omega); (case zqk6 => with_unfolding_all rfl); intro _))
  (k_with "!binaryOp Add bytes bytes" => (k_here; (with_reducible show wpAny _ _ (binaryOp Operator.Add (Value.bytes _ _) (Value.bytes _ _)) _ _ _); (refine KBy.add_bytes (by (try simp only [Array.size_append, List.size_toArray, byteArr_size, List.length_cons, List.length_nil, List.length_map]); omega) ?_); intro _ _))
  trivial
theorem wdSJB1 : True := by
  (k_with "!call ref" => first | (k_here; (try dsimp only [List.cons_append, List.nil_append]); (with_reducible show wpAny _ _ (call (Value.ref 1533) [Value.ref _, Value.int 3 _, Value.int _ _] _) _ _ _); k_dflt ((refine wpAny_call ?_); (refine' m_K3 ?zqcXB ?zqcTB ?zqcB ?zqcF ?zqcX ?zqcN ?zqcT ?zqck ?zqcd ?zqcu ?zqMD ?zqhp ?_); (case zqcN => k_asm); (case zqcB => k_asm); (case zqcXB => k_asm); (case zqcTB => k_asm); (case zqcF => k_asm); (case zqcX => k_asm); (case zqcT => k_asm); (case zqck => first | exact rfl | assumption); (case zqcd => k_room); (case zqcu => k_units); (case zqMD => k_mem); (case zqhp => assumption); intro t' h' tk' F' N'; (try dsimp only); (try k_sweep); (try k_fold))) | (k_here; (try dsimp only [List.cons_append, List.nil_append]); (with_reducible show wpAny _ _ (call (Value.ref 1533) [Value.ref _, Value.bytes (List.toArray [5]) _, Value.int _ _] _) _ _ _); k_dflt ((refine wpAny_call ?_); (refine' m_K5 ?zqcXB ?zqcTB ?zqcB ?zqcF ?zqcX ?zqcN ?zqcT ?zqck ?zqcd ?zqcu ?zqMD ?zqhp ?_); (case zqcN => k_asm); (case zqcB => k_asm); (case zqcXB => k_asm); (case zqcTB => k_asm); (case zqcF => k_asm); (case zqcX => k_asm); (case zqcT => k_asm); (case zqck => first | exact rfl | assumption); (case zqcd => k_room); (case zqcu => k_units); (case zqMD => k_mem); (case zqhp => assumption); intro t' h' tk' F' N'; (try dsimp only); (try k_sweep); (try k_fold))) | (k_here; (try dsimp only [List.cons_append, List.nil_append]); (with_reducible show wpAny _ _ (call (Value.ref 1533) [Value.ref _, Value.none, Value.int _ _] _) _ _ _); k_dflt ((refine wpAny_call ?_); (refine' m_madeVn ?zqcXB ?zqcTB ?zqcB ?zqcF ?zqcX ?zqcN ?zqcT ?zqck ?zqcd ?zqcu ?zqMV ?zqMW ?zqMD ?zqhK ?zqhq ?_); (case zqcN => k_asm); (case zqcB => k_asm); (case zqcXB => k_asm); (case zqcTB => k_asm); (case zqcF => k_asm); (case zqcX => k_asm); (case zqcT => k_asm); (case zqck => first | exact rfl | assumption); (case zqcd => k_room); (case zqcu => k_units); (case zqMV => k_mem); (case zqMW => k_mem); (case zqMD => k_mem); (case zqhK => assumption); (case zqhq => assumption); intro t' h' tk' F' N'; (try dsimp only); (try k_sweep); (try k_fold))) | (k_here; (try dsimp only [List.cons_append, List.nil_append]); (with_reducible show wpAny _ _ (call (Value.ref 1533) [Value.ref _, Value.bytes _ _, Value.int 0 _] _) _ _ _); k_dflt ((refine wpAny_call ?_); (refine' m_madeV ?zqcXB ?zqcTB ?zqcB ?zqcF ?zqcX ?zqcN ?zqcT ?zqck ?zqcd ?zqcu ?zqMV ?zqMW ?zqMD ?zqhK ?_); (case zqcN => k_asm); (case zqcB => k_asm); (case zqcXB => k_asm); (case zqcTB => k_asm); (case zqcF => k_asm); (case zqcX => k_asm); (case zqcT => k_asm); (case zqck => first | exact rfl | assumption); (case zqcd => k_room); (case zqcu => k_units); (case zqMV => k_mem); (case zqMW => k_mem); (case zqMD => k_mem); (case zqhK => assumption); intro t' h' tk' F' N'; (try dsimp only); (try k_sweep); (try k_fold))) | (k_here; (try dsimp only [List.cons_append, List.nil_append]); (with_reducible show wpAny _ _ (call (Value.ref 1533) [Value.ref _, Value.none, Value.int _ _] _) _ _ _); k_dflt ((refine wpAny_call ?_); (refine' m_madeVzB ?zqcXB ?zqcTB ?zqcB ?zqcF ?zqcX ?zqcN ?zqcT ?zqck ?zqcd ?zqcu ?zqMV ?zqMW ?zqMD ?zqhK ?zqhq ?zqhY ?zqhm ?zqhp ?zqhG ?_); (case zqcN => k_asm); (case zqcB => k_asm); (case zqcXB => k_asm); (case zqcTB => k_asm); (case zqcF => k_asm); (case zqcX => k_asm); (case zqcT => k_asm); (case zqck => first | exact rfl | assumption); (case zqcd => k_room); (case zqcu => k_units); (case zqMV => k_mem); (case zqMW => k_mem); (case zqMD => k_mem); (case zqhK => assumption); (case zqhq => assumption); (case zqhY => assumption); (case zqhm => assumption); (case zqhp => assumption); (case zqhG => assumption); intro t' h' tk' F' N'; (try dsimp only); (try k_sweep); (try k_fold))) | (k_here; (try dsimp only [List.cons_append, List.nil_append]); (with_reducible show wpAny _ _ (call (Value.ref 1540) [Value.ref _] _) _ _ _); k_dflt ((refine wpAny_call ?_); (refine' m_packedB ?zqcXB ?zqcTB ?zqcB ?zqcF ?zqcX ?zqcN ?zqcT ?zqck ?zqcd ?zqcu ?zqMV ?zqMW ?zqMD ?zqhK ?zqhY ?zqhm ?zqhp ?zqhG ?_); (case zqcN => k_asm); (case zqcB => k_asm); (case zqcXB => k_asm); (case zqcTB => k_asm); (case zqcF => k_asm); (case zqcX => k_asm); (case zqcT => k_asm); (case zqck => first | exact rfl | assumption); (case zqcd => k_room); (case zqcu => k_units); (case zqMV => k_mem); (case zqMW => k_mem); (case zqMD => k_mem); (case zqhK => assumption); (case zqhY => assumption); (case zqhm => assumption); (case zqhp => assumption); (case zqhG => assumption); intro t' h' tk' F' N'; (try dsimp only); (try k_sweep); (try k_fold))) | (k_here; (try dsimp only [List.cons_append, List.nil_append]); (with_reducible show wpAny _ _ (call (Value.ref 1533) [Value.ref _, Value.bytes _ _, Value.int _ _] _) _ _ _); k_dflt ((refine wpAny_call ?_); (refine' m_madeB ?zqcXB ?zqcTB ?zqcB ?zqcF ?zqcX ?zqcN ?zqcT ?zqck ?zqcd ?zqcu ?zqMD ?zqhK ?zqhY ?zqhm ?zqhp ?zqhG ?_); (case zqcN => k_asm); (case zqcB => k_asm); (case zqcXB => k_asm); (case zqcTB => k_asm); (case zqcF => k_asm); (case zqcX => k_asm); (case zqcT => k_asm); (case zqck => first | exact rfl | assumption); (case zqcd => k_room); (case zqcu => k_units); (case zqMD => k_mem); (case zqhK => assumption); (case zqhY => assumption); (case zqhm => assumption); (case zqhp => assumption); (case zqhG => assumption); intro t' h' tk' F' N'; (try dsimp only); (try k_sweep); (try k_fold))))
  (k_with "!compareOp NotEq ref ref" => (k_here; (with_reducible show wpAny _ _ (compareOp CmpOp.NotEq (Value.ref _) (Value.ref _)) _ _ _); first | (exfalso; omega) | k_dflt (refine' ne_sameL ?zql ?zqb ?zqu ?zqe ?_; (case zql => exact News.isList (by k_asm) (by k_mem)); (case zqb => exact News.isList (by k_asm) (by k_mem)); (case zqu => k_units); (case zqe => (repeat (first | exact True.intro | (refine And.intro ?_ ?_; focus (first | exact ea_str_same _ _ _ | exact PySem.SeqAt.EqAt.same _ | exact ea_tup9 (isTup_of (by k_asm) (by k_mem)) (isTup_of (by k_asm) (by k_mem)) (by k_units)))))))))
  trivial
section
variable {w : World} {s₁ s : Shared} {loose : List Str} {mean : ExcName → Option Value} {mg mb : Str → Option Value} {l : Addr} {vs : List Value} {ns : List Int} {h₁ : Heap} {tk : Nat} {oS oB oL oH : Obj} {Q : Flow → Shared → Prop}
  (X : (K0 w.params).In s₁.heap) (T : Top q1 loose mean mg mb s₁.heap) (hL : s₁.heap.IsList l vs.toArray) (hI : IntsAre vs ns) (hlen : ns.length ≤ 63) (hg : s₁.gens = #[]) (B : Below callerA s₁.heap [] s₁.heap)
include X T hL hI hlen hg B
theorem segJB {sd : Int} {b : Bool} {t₃ : Tok} {p : Int} {kd : Array UInt8} {t₁ t₂ : Tok} {ms : List Int} {ys : List Value} {D : Addr} {lo hi : Int} {t₄ t₅ : Tok} {g : Bool} {tv : Tok}
  (F' : Fr s₁.heap s₁.heap.objs.size h₁ (fun y => if y = "due" then some (Value.str "value" tv) else if y = "good" then some (Value.bool g) else if y = "numbers" then some (Value.ref D) else if y = "padding" then some (Value.int p t₁) else if y = "kind" then some (Value.bytes kd t₂) else mScr s₁.heap.objs.size l y))
  (N' : News s₁.heap s₁.heap.objs.size h₁ [(D, LCg.lst ys), (s₁.heap.objs.size + 1 + 1 + 1 + 1, oH), (s₁.heap.objs.size + 1 + 1 + 1, oL), (s₁.heap.objs.size + 1 + 1, oB), (s₁.heap.objs.size + 1, oS)])
  (dS : oS.data = .cell (some (.int sd t₃))) (dB : oB.data = .cell (some (.bool b))) (dL : oL.data = .cell (some (.int lo t₄))) (dH : oH.data = .cell (some (.int hi t₅))) (hp : 0 ≤ p ∧ p ≤ 255) (hK : KD b kd) (hY : IntsAre ys ms) (hm : ms.length ≤ 8) (hD : s₁.heap.objs.size + 1 + 1 + 1 + 1 ≠ D ∧ s₁.heap.objs.size + 1 + 1 + 1 ≠ D ∧ s₁.heap.objs.size + 1 + 1 ≠ D ∧ s₁.heap.objs.size + 1 ≠ D) (hG : g = true ↔ Good b p ms) (hg1 : g = false)
  (kont : ∀ (dv : Value) (V dV : Addr) (va vb vc vd ve : Tok) (h' : Heap) (tk' : Nat), Fr s₁.heap s₁.heap.objs.size h' (fun y => if y = "vector" then some (Value.ref V) else if y = "due" then some (dv) else if y = "good" then some (Value.bool g) else if y = "numbers" then some (Value.ref D) else if y = "padding" then some (Value.int p t₁) else if y = "kind" then some (Value.bytes kd t₂) else mScr s₁.heap.objs.size l y) → News s₁.heap s₁.heap.objs.size h' [(V, instObj 141 dV), (dV, dictOf [⟨PyData.keyHash w.params "data", .str "data" va, .ref D⟩, ⟨PyData.keyHash w.params "dtype", .str "dtype" vb, .bytes kd vc⟩, ⟨PyData.keyHash w.params "padding", .str "padding" vd, .int p ve⟩] 3), (D, LCg.lst ys), (s₁.heap.objs.size + 1 + 1 + 1 + 1, oH), (s₁.heap.objs.size + 1 + 1 + 1, oL), (s₁.heap.objs.size + 1 + 1, oB), (s₁.heap.objs.size + 1, oS)] → (@LT.lt Nat _ D dV ∧ @LT.lt Nat _ dV V) → wpAny (model P1 w) (callerA.deeper (envL s₁.heap.objs.size)) (execs (restS 12) (envL s₁.heap.objs.size)) Q (fun _ _ => False) { s₁ with heap := h', toks := tk' }) :
  wpAny (model P1 w) (callerA.deeper (envL s₁.heap.objs.size)) (execs (restS 10) (envL s₁.heap.objs.size)) Q (fun _ _ => False) { s₁ with heap := h₁, toks := tk } := by
  rw [restS_eq 10 2 12]
  refine execs_hold ?_
  dsimp only [lawS, List.drop, List.take]
  have hG2 : ¬ Good b p ms := fun h => by rw [hG.mpr h] at hg1; cases hg1
  by_cases hp0 : p = 0
  k_steps
  all_goals (refine' kont _ _ _ _ _ _ _ _ _ _ ?kF ?kN ?kD; (case kN => (first | k_asm | (refine' cb_drop ?cbN ?cbS; (case cbN => k_asm); (case cbS => (repeat (first | (intro p hp; (repeat (first | exact hp | exact List.mem_append_left _ hp | apply List.mem_cons_of_mem)); done) | (refine' sub_cons ?_ ?_; focus k_mem))))))); (case kF => k_asm); (case kD => omega))
end
end Mine
end
section
namespace Mine
theorem wdSK0 : True := by
  k_with_none
  (k_with "!ite" => first | (k_closed; k_dflt (first | refine PySem.W.ite_pos (by decide) ?_ | refine PySem.W.ite_neg (by decide) ?_)))
  (k_with "!eval Call" => first | (k_here; (with_reducible show wpAny _ _ (eval (Expr.Call _ _ [] _) _) _ _ _); k_dflt (refine Call_ ?_)))
  (k_with "!exec Raise some none" => first | (k_here; (with_reducible show wpAny _ _ (exec (Stmt.Raise (some (Expr.Call (Expr.Name (PySem.Str.ofString "ValueError") _) _ _ _)) none _) _) _ _ _); k_dflt (refine Raise_new rfl ?_)) | (k_here; (with_reducible show wpAny _ _ (exec (Stmt.Raise (some (Expr.Call (Expr.Name (PySem.Str.ofString "TypeError") _) _ _ _)) none _) _) _ _ _); k_dflt (refine Raise_new rfl ?_)))
  (k_with "!leaving ref" => first | (k_here; (with_reducible rename KtsDicts _ _ => kdX); k_dflt (first | (refine' leave_raiseS ?zqk1 ?zqk0 ?zqk2 ?zqk3 ?_; (case zqk0 => first | assumption | exact Heap.MadeExc.of (by assumption)); (case zqk2 => assumption); (case zqk1 => assumption); (case zqk3 => k_asm); k_whole; intro h' t' S' R' U'; (try dsimp only at S' R' U' ⊢)) | (refine' leave_onS ?zqk1 ?zqk2 ?zqk3 ?zqk4 ?_; (case zqk3 => assumption); (case zqk2 => assumption); (case zqk1 => assumption); (case zqk4 => assumption); k_whole; intro h' S' R' U'; (try dsimp only at S' R' U' ⊢)) | (refine' leave_newS ?zqk1 ?zqk0 ?zqk2 ?zqk3 ?_; (case zqk0 => assumption); (case zqk2 => assumption); (case zqk1 => assumption); (case zqk3 => k_asm); k_whole; intro h' S' R' U'; (try dsimp only at S' R' U' ⊢)) | (refine' leave_onSN ?zqk1 ?zqk2 ?zqk3 ?zqk4 ?_; (case zqk3 => assumption); (case zqk2 => assumption); (case zqk1 => assumption); (case zqk4 => assumption); k_whole; intro h' S' R' U'; (try dsimp only at S' R' U' ⊢)))))
  (k_with "!eval Name" => first | (k_here; (first | (with_reducible show wpAny _ _ (eval (Expr.Name _ _) (envOf _ _ _ _ _)) _ _ _) | (with_reducible show wpAny _ _ (eval (Expr.Name _ _) (envOfC _ _ _ _ _)) _ _ _)); k_dflt (first | (refine' nameX_L ?zqF ?zqv ?_ ?zqa ?zqb; (case zqF => k_asm); (case zqv => rfl); (case zqa => rfl); (case zqb => kernel_rfl); k_whole) | (refine' nameX_K ?zqF ?zqX ?zqT ?zqe ?_ ?zqa ?zqb; (case zqT => k_asm); (case zqX => k_asm); (case zqF => k_asm); (case zqe => k_is); (case zqa => rfl); (case zqb => kernel_rfl); k_whole) | (refine' nameX_B ?zqF ?zqX ?zqT ?zqe ?zqv ?zqn ?_ ?zqa ?zqb; (case zqT => k_asm); (case zqX => k_asm); (case zqF => k_asm); (case zqe => k_is); (case zqv => boot_fast); (case zqn => decide); (case zqa => rfl); (case zqb => kernel_rfl); k_whole))))
  (k_with "k_mem" => (assumption))
  (k_with "!execs cons" => (k_here; dsimp only))
  (k_with "!execs nil" => (k_here; dsimp only))
  (k_with "!call builtin:len" => (k_here; (with_reducible show wpAny _ _ (call (Value.builtin "len") [Value.bytes _ _]) _ _ _); (refine len_bytesV (by (try simp only [Array.size_append, List.size_toArray, octs_size, List.length_cons, List.length_nil, List.length_append]); omega) (by simp only [Array.size_append, List.size_toArray, octs_size, List.length_cons, List.length_nil, List.length_append]; rfl) ?_); intro _ _))
  (k_with "!SeqLeaf" => ((with_reducible show SeqLeaf ((_ = @ite _ _ _ _ _) ∧ Keeps _ _)); refine SeqLeaf.intro ⟨?_, ?_⟩; focus (first | (rw [if_neg (by assumption)]; done) | (rw [if_pos (by assumption)]; done) | (rw [if_neg (by assumption)]; exact rfl) | (rw [if_pos (by assumption)]; exact rfl)); focus (with_unfolding_all exact ⟨_, _, rfl, fun _ _ e => e⟩)))
  (k_with "!setItem ref int" => (k_here; (with_reducible show wpAny _ _ (setItem (Value.ref _) (Value.int _ _) (Value.int _ _)) _ _ _); k_dflt (refine' ksa_set ?zqk1 ?zqk2 ?zqk3 ?zqk4 ?zqk5 ?zqk6 ?zqk7 ?_; (case zqk1 => k_asm); (case zqk2 => k_asm); (case zqk3 => k_upd); (case zqk4 => with_reducible assumption); (case zqk5 => (have h7 := len_pos_of (by assumption); omega)); (case zqk6 => omega); (case zqk7 => omega); k_whole); intro h' F' N' hi' hl' hs'; (try k_sweep)))
  (k_with "!binaryOp Mult int int" => (k_here; (refine mul_int ?_ (mul_pow_ok (by omega)))))
  (k_with "!subscriptTail" => (k_here; (with_reducible show wpAny _ _ (subscriptTail _ _ (Value.ref _) (Value.int _ _)) _ _ _); refine' item_lst ?zqk1 ?zqk2 ?zqk3 ?zqk4 ?zqk5 ?_ ?zqk6; (case zqk1 => exact News.isList (by assumption) (by k_mem)); (case zqk2 => assumption); (case zqk3 => first | omega | (have h7 := len_pos_of (by assumption); omega)); (case zqk4 => omega); (case zqk5 => omega); (case zqk6 => with_unfolding_all rfl); intro _))
  (k_with "!binaryOp Add bytes bytes" => (k_here; (with_reducible show wpAny _ _ (binaryOp Operator.Add (Value.bytes _ _) (Value.bytes _ _)) _ _ _); (refine KBy.add_bytes (by (try simp only [Array.size_append, List.size_toArray, byteArr_size, List.length_cons, List.length_nil, List.length_map]); omega) ?_); intro _ _))
  trivial
section
variable {w : World} {s₁ s : Shared} {loose : List Str} {mean : ExcName → Option Value} {mg mb : Str → Option Value} {l : Addr} {vs : List Value} {ns : List Int} {h₁ : Heap} {tk : Nat} {oS oB oL oH : Obj} {Q : Flow → Shared → Prop}
  (X : (K0 w.params).In s₁.heap) (T : Top q1 loose mean mg mb s₁.heap) (hL : s₁.heap.IsList l vs.toArray) (hI : IntsAre vs ns) (hlen : ns.length ≤ 63) (hg : s₁.gens = #[]) (B : Below callerA s₁.heap [] s₁.heap)
include X T hL hI hlen hg B
theorem segK {sd : Int} {b : Bool} {t₃ : Tok} {p : Int} {kd : Array UInt8} {t₁ t₂ : Tok} {ms : List Int} {ys : List Value} {D : Addr} {lo hi : Int} {t₄ t₅ : Tok} {g : Bool} {dv : Value} {V dV : Addr} {va vb vc vd ve : Tok}
  (F' : Fr s₁.heap s₁.heap.objs.size h₁ (fun y => if y = "vector" then some (Value.ref V) else if y = "due" then some (dv) else if y = "good" then some (Value.bool g) else if y = "numbers" then some (Value.ref D) else if y = "padding" then some (Value.int p t₁) else if y = "kind" then some (Value.bytes kd t₂) else mScr s₁.heap.objs.size l y))
  (N' : News s₁.heap s₁.heap.objs.size h₁ [(V, instObj 141 dV), (dV, dictOf [⟨PyData.keyHash w.params "data", .str "data" va, .ref D⟩, ⟨PyData.keyHash w.params "dtype", .str "dtype" vb, .bytes kd vc⟩, ⟨PyData.keyHash w.params "padding", .str "padding" vd, .int p ve⟩] 3), (D, LCg.lst ys), (s₁.heap.objs.size + 1 + 1 + 1 + 1, oH), (s₁.heap.objs.size + 1 + 1 + 1, oL), (s₁.heap.objs.size + 1 + 1, oB), (s₁.heap.objs.size + 1, oS)])
  (dS : oS.data = .cell (some (.int sd t₃))) (dB : oB.data = .cell (some (.bool b))) (dL : oL.data = .cell (some (.int lo t₄))) (dH : oH.data = .cell (some (.int hi t₅))) (hp : 0 ≤ p ∧ p ≤ 255) (hK : KD b kd) (hY : IntsAre ys ms) (hm : ms.length ≤ 8) (hD : s₁.heap.objs.size + 1 + 1 + 1 + 1 ≠ D ∧ s₁.heap.objs.size + 1 + 1 + 1 ≠ D ∧ s₁.heap.objs.size + 1 + 1 ≠ D ∧ s₁.heap.objs.size + 1 ≠ D) (hG : g = true ↔ Good b p ms) (hV : @LT.lt Nat _ D dV ∧ @LT.lt Nat _ dV V) (hLH : LH b lo hi)
  (kont : ∀ (ko : Array UInt8) (g2 : Bool) (t₆ : Tok) (h' : Heap) (tk' : Nat), Fr s₁.heap s₁.heap.objs.size h' (fun y => if y = "plain" then some (Value.bool g2) else if y = "other" then some (Value.bytes ko t₆) else if y = "vector" then some (Value.ref V) else if y = "due" then some (dv) else if y = "good" then some (Value.bool g) else if y = "numbers" then some (Value.ref D) else if y = "padding" then some (Value.int p t₁) else if y = "kind" then some (Value.bytes kd t₂) else mScr s₁.heap.objs.size l y) → News s₁.heap s₁.heap.objs.size h' [(V, instObj 141 dV), (dV, dictOf [⟨PyData.keyHash w.params "data", .str "data" va, .ref D⟩, ⟨PyData.keyHash w.params "dtype", .str "dtype" vb, .bytes kd vc⟩, ⟨PyData.keyHash w.params "padding", .str "padding" vd, .int p ve⟩] 3), (D, LCg.lst ys), (s₁.heap.objs.size + 1 + 1 + 1 + 1, oH), (s₁.heap.objs.size + 1 + 1 + 1, oL), (s₁.heap.objs.size + 1 + 1, oB), (s₁.heap.objs.size + 1, oS)] → KD (!b) ko → (g2 = true ↔ Good b 0 ms) → wpAny (model P1 w) (callerA.deeper (envL s₁.heap.objs.size)) (execs (restS 14) (envL s₁.heap.objs.size)) Q (fun _ _ => False) { s₁ with heap := h', toks := tk' }) :
  wpAny (model P1 w) (callerA.deeper (envL s₁.heap.objs.size)) (execs (restS 12) (envL s₁.heap.objs.size)) Q (fun _ _ => False) { s₁ with heap := h₁, toks := tk } := by
  rw [restS_eq 12 2 14]
  refine execs_hold ?_
  dsimp only [lawS, List.drop, List.take]
  k_steps
  all_goals first
    | (with_reducible show SeqLeaf _; refine SeqLeaf.intro ⟨by first | rw [if_neg (by assumption)] | rw [if_pos (by assumption)], by with_unfolding_all exact ⟨_, _, rfl, fun _ _ e => e⟩⟩)
    | skip
  all_goals first
    | (refine' kont _ _ _ _ _ ?kF ?kN ?ko ?kg; (case kF => k_asm); (case kN => (first | k_asm | (refine' cb_drop ?cbN ?cbS; (case cbN => k_asm); (case cbS => (repeat (first | (intro p hp; (repeat (first | exact hp | exact List.mem_append_left _ hp | apply List.mem_cons_of_mem)); done) | (refine' sub_cons ?_ ?_; focus k_mem))))))); (case kg => exact plain_iff good_iff hLH); (case ko => first | exact ko_t (by assumption) | exact ko_f (by assumption)))
    | exact default
end
end Mine
end
section
namespace Mine
theorem wdSLG0 : True := by
  k_with_none
  (k_with "!ite" => first | (k_closed; k_dflt (first | refine PySem.W.ite_pos (by decide) ?_ | refine PySem.W.ite_neg (by decide) ?_)))
  (k_with "!eval Call" => first | (k_here; (with_reducible show wpAny _ _ (eval (Expr.Call _ _ [] _) _) _ _ _); k_dflt (refine Call_ ?_)))
  (k_with "!exec Raise some none" => first | (k_here; (with_reducible show wpAny _ _ (exec (Stmt.Raise (some (Expr.Call (Expr.Name (PySem.Str.ofString "ValueError") _) _ _ _)) none _) _) _ _ _); k_dflt (refine Raise_new rfl ?_)) | (k_here; (with_reducible show wpAny _ _ (exec (Stmt.Raise (some (Expr.Call (Expr.Name (PySem.Str.ofString "TypeError") _) _ _ _)) none _) _) _ _ _); k_dflt (refine Raise_new rfl ?_)))
  (k_with "!leaving ref" => first | (k_here; (with_reducible rename KtsDicts _ _ => kdX); k_dflt (first | (refine' leave_raiseS ?zqk1 ?zqk0 ?zqk2 ?zqk3 ?_; (case zqk0 => first | assumption | exact Heap.MadeExc.of (by assumption)); (case zqk2 => assumption); (case zqk1 => assumption); (case zqk3 => k_asm); k_whole; intro h' t' S' R' U'; (try dsimp only at S' R' U' ⊢)) | (refine' leave_onS ?zqk1 ?zqk2 ?zqk3 ?zqk4 ?_; (case zqk3 => assumption); (case zqk2 => assumption); (case zqk1 => assumption); (case zqk4 => assumption); k_whole; intro h' S' R' U'; (try dsimp only at S' R' U' ⊢)) | (refine' leave_newS ?zqk1 ?zqk0 ?zqk2 ?zqk3 ?_; (case zqk0 => assumption); (case zqk2 => assumption); (case zqk1 => assumption); (case zqk3 => k_asm); k_whole; intro h' S' R' U'; (try dsimp only at S' R' U' ⊢)) | (refine' leave_onSN ?zqk1 ?zqk2 ?zqk3 ?zqk4 ?_; (case zqk3 => assumption); (case zqk2 => assumption); (case zqk1 => assumption); (case zqk4 => assumption); k_whole; intro h' S' R' U'; (try dsimp only at S' R' U' ⊢)))))
  (k_with "!eval Name" => first | (k_here; (first | (with_reducible show wpAny _ _ (eval (Expr.Name _ _) (envOf _ _ _ _ _)) _ _ _) | (with_reducible show wpAny _ _ (eval (Expr.Name _ _) (envOfC _ _ _ _ _)) _ _ _)); k_dflt (first | (refine' nameX_L ?zqF ?zqv ?_ ?zqa ?zqb; (case zqF => k_asm); (case zqv => rfl); (case zqa => rfl); (case zqb => kernel_rfl); k_whole) | (refine' nameX_K ?zqF ?zqX ?zqT ?zqe ?_ ?zqa ?zqb; (case zqT => k_asm); (case zqX => k_asm); (case zqF => k_asm); (case zqe => k_is); (case zqa => rfl); (case zqb => kernel_rfl); k_whole) | (refine' nameX_B ?zqF ?zqX ?zqT ?zqe ?zqv ?zqn ?_ ?zqa ?zqb; (case zqT => k_asm); (case zqX => k_asm); (case zqF => k_asm); (case zqe => k_is); (case zqv => boot_fast); (case zqn => decide); (case zqa => rfl); (case zqb => kernel_rfl); k_whole))))
  (k_with "k_mem" => (assumption))
  (k_with "!execs cons" => (k_here; dsimp only))
  (k_with "!execs nil" => (k_here; dsimp only))
  (k_with "!call builtin:len" => (k_here; (with_reducible show wpAny _ _ (call (Value.builtin "len") [Value.bytes _ _]) _ _ _); (refine len_bytesV (by (try simp only [Array.size_append, List.size_toArray, octs_size, List.length_cons, List.length_nil, List.length_append]); omega) (by simp only [Array.size_append, List.size_toArray, octs_size, List.length_cons, List.length_nil, List.length_append]; rfl) ?_); intro _ _))
  (k_with "!SeqLeaf" => ((with_reducible show SeqLeaf ((_ = @ite _ _ _ _ _) ∧ Keeps _ _)); refine SeqLeaf.intro ⟨?_, ?_⟩; focus (first | (rw [if_neg (by assumption)]; done) | (rw [if_pos (by assumption)]; done) | (rw [if_neg (by assumption)]; exact rfl) | (rw [if_pos (by assumption)]; exact rfl)); focus (with_unfolding_all exact ⟨_, _, rfl, fun _ _ e => e⟩)))
  (k_with "!setItem ref int" => (k_here; (with_reducible show wpAny _ _ (setItem (Value.ref _) (Value.int _ _) (Value.int _ _)) _ _ _); k_dflt (refine' ksa_set ?zqk1 ?zqk2 ?zqk3 ?zqk4 ?zqk5 ?zqk6 ?zqk7 ?_; (case zqk1 => k_asm); (case zqk2 => k_asm); (case zqk3 => k_upd); (case zqk4 => with_reducible assumption); (case zqk5 => (have h7 := len_pos_of (by assumption); omega)); (case zqk6 => omega); (case zqk7 => omega); k_whole); intro h' F' N' hi' hl' hs'; (try k_sweep)))
  (k_with "!binaryOp Mult int int" => (k_here; (refine mul_int ?_ (mul_pow_ok (by omega)))))
  (k_with "!subscriptTail" => (k_here; (with_reducible show wpAny _ _ (subscriptTail _ _ (Value.ref _) (Value.int _ _)) _ _ _); refine' item_lst ?zqk1 ?zqk2 ?zqk3 ?zqk4 ?zqk5 ?_ ?zqk6; (case zqk1 => exact News.isList (by assumption) (by k_mem)); (case zqk2 => assumption); (case zqk3 => first | omega | (have h7 := len_pos_of (by assumption); omega)); (case zqk4 => omega); (case zqk5 => omega); (case zqk6 => with_unfolding_all rfl); intro _))
  (k_with "!binaryOp Add bytes bytes" => (k_here; (with_reducible show wpAny _ _ (binaryOp Operator.Add (Value.bytes _ _) (Value.bytes _ _)) _ _ _); (refine KBy.add_bytes (by (try simp only [Array.size_append, List.size_toArray, byteArr_size, List.length_cons, List.length_nil, List.length_map]); omega) ?_); intro _ _))
  trivial
theorem wdSLG1 : True := by
  (k_with "!call ref" => (k_here; (try dsimp only [List.cons_append, List.nil_append]); (with_reducible show wpAny _ _ (call (Value.ref _) [Value.ref _, Value.bytes _ _] _) _ _ _); k_dflt ((refine' call_meth ?zqkm ?zqkq ?_; (case zqkm => k_asm); (case zqkq => k_mem)); (refine' m_fvdG ?zqcXB ?zqcTB ?zqcB ?zqcF ?zqcX ?zqcN ?zqcT ?zqck ?zqcd ?zqcu ?zqMD ?zqhK ?zqhY ?zqhm ?zqhG ?_); (case zqcN => k_asm); (case zqcB => k_asm); (case zqcXB => k_asm); (case zqcTB => k_asm); (case zqcF => k_asm); (case zqcX => k_asm); (case zqcT => k_asm); (case zqck => first | exact rfl | assumption); (case zqcd => k_room); (case zqcu => k_units); (case zqMD => k_mem); (case zqhK => assumption); (case zqhY => assumption); (case zqhm => assumption); (case zqhG => assumption); intro x' dx' ta' tb' tc' td' h' tk' F' N'; (try dsimp only); (try k_sweep); (try k_fold))))
  (k_with "!exec Try" => (k_here; refine wpAny_Try_except ?_))
  (k_with "!noteFrame ref" => (k_here; (rename RaisedSN _ _ _ _ _ _ _ => rsX); (have rsY := rsX.toN); k_dflt (refine' caught_X0 (T' := "ValueError") ?zqK ?zqhf ?zqF ?zqU rsY ?zqT PyProof.Rows.Boot.«ValueError» PySem.F.isExc_ValueError PySem.F.notTuple_ValueError ?zqhs ?zqhE ?_ ?zqex ?zqhn; (case zqK => assumption); (case zqhf => exact rfl); (case zqF => assumption); (case zqU => assumption); (case zqT => exact topRead_of (by assumption)); (case zqhs => kts_sub); (case zqhE => first | passes_own | with_unfolding_all passes_own); (case zqex => exact mg_none_of (by assumption) (topRead_of (by assumption)).g (by k_is)); (case zqhn => decide); k_whole); intro h' F' N'; (try k_sweep)))
  trivial
section
variable {w : World} {s₁ s : Shared} {loose : List Str} {mean : ExcName → Option Value} {mg mb : Str → Option Value} {l : Addr} {vs : List Value} {ns : List Int} {h₁ : Heap} {tk : Nat} {oS oB oL oH : Obj} {Q : Flow → Shared → Prop}
  (X : (K0 w.params).In s₁.heap) (T : Top q1 loose mean mg mb s₁.heap) (hL : s₁.heap.IsList l vs.toArray) (hI : IntsAre vs ns) (hlen : ns.length ≤ 63) (hg : s₁.gens = #[]) (B : Below callerA s₁.heap [] s₁.heap)
include X T hL hI hlen hg B
theorem segLG {sd : Int} {b : Bool} {t₃ : Tok} {p : Int} {kd : Array UInt8} {t₁ t₂ : Tok} {ms : List Int} {ys : List Value} {D : Addr} {lo hi : Int} {t₄ t₅ : Tok} {g : Bool} {dv : Value} {V dV : Addr} {va vb vc vd ve : Tok} {ko : Array UInt8} {g2 : Bool} {t₆ : Tok}
  (F' : Fr s₁.heap s₁.heap.objs.size h₁ (fun y => if y = "plain" then some (Value.bool g2) else if y = "other" then some (Value.bytes ko t₆) else if y = "vector" then some (Value.ref V) else if y = "due" then some (dv) else if y = "good" then some (Value.bool g) else if y = "numbers" then some (Value.ref D) else if y = "padding" then some (Value.int p t₁) else if y = "kind" then some (Value.bytes kd t₂) else mScr s₁.heap.objs.size l y))
  (N' : News s₁.heap s₁.heap.objs.size h₁ [(V, instObj 141 dV), (dV, dictOf [⟨PyData.keyHash w.params "data", .str "data" va, .ref D⟩, ⟨PyData.keyHash w.params "dtype", .str "dtype" vb, .bytes kd vc⟩, ⟨PyData.keyHash w.params "padding", .str "padding" vd, .int p ve⟩] 3), (D, LCg.lst ys), (s₁.heap.objs.size + 1 + 1 + 1 + 1, oH), (s₁.heap.objs.size + 1 + 1 + 1, oL), (s₁.heap.objs.size + 1 + 1, oB), (s₁.heap.objs.size + 1, oS)])
  (dS : oS.data = .cell (some (.int sd t₃))) (dB : oB.data = .cell (some (.bool b))) (dL : oL.data = .cell (some (.int lo t₄))) (dH : oH.data = .cell (some (.int hi t₅))) (hp : 0 ≤ p ∧ p ≤ 255) (hK : KD b kd) (hY : IntsAre ys ms) (hm : ms.length ≤ 8) (hD : s₁.heap.objs.size + 1 + 1 + 1 + 1 ≠ D ∧ s₁.heap.objs.size + 1 + 1 + 1 ≠ D ∧ s₁.heap.objs.size + 1 + 1 ≠ D ∧ s₁.heap.objs.size + 1 ≠ D) (hG : g = true ↔ Good b p ms) (hV : @LT.lt Nat _ D dV ∧ @LT.lt Nat _ dV V) (hO : KD (!b) ko) (hP : g2 = true ↔ Good b 0 ms) (hg2 : g2 = true)
  (kont : ∀ (h' : Heap) (tk' : Nat), Fr s₁.heap s₁.heap.objs.size h' (fun y => if y = "plain" then some (Value.bool g2) else if y = "other" then some (Value.bytes ko t₆) else if y = "vector" then some (Value.ref V) else if y = "due" then some (dv) else if y = "good" then some (Value.bool g) else if y = "numbers" then some (Value.ref D) else if y = "padding" then some (Value.int p t₁) else if y = "kind" then some (Value.bytes kd t₂) else mScr s₁.heap.objs.size l y) → News s₁.heap s₁.heap.objs.size h' [(V, instObj 141 dV), (dV, dictOf [⟨PyData.keyHash w.params "data", .str "data" va, .ref D⟩, ⟨PyData.keyHash w.params "dtype", .str "dtype" vb, .bytes kd vc⟩, ⟨PyData.keyHash w.params "padding", .str "padding" vd, .int p ve⟩] 3), (D, LCg.lst ys), (s₁.heap.objs.size + 1 + 1 + 1 + 1, oH), (s₁.heap.objs.size + 1 + 1 + 1, oL), (s₁.heap.objs.size + 1 + 1, oB), (s₁.heap.objs.size + 1, oS)] → True → wpAny (model P1 w) (callerA.deeper (envL s₁.heap.objs.size)) (execs (restS 15) (envL s₁.heap.objs.size)) Q (fun _ _ => False) { s₁ with heap := h', toks := tk' }) :
  wpAny (model P1 w) (callerA.deeper (envL s₁.heap.objs.size)) (execs (restS 14) (envL s₁.heap.objs.size)) Q (fun _ _ => False) { s₁ with heap := h₁, toks := tk } := by
  rw [restS_eq 14 1 15]
  refine execs_hold ?_
  dsimp only [lawS, List.drop, List.take]
  have hG2 := hP.mp hg2
  have hks := hK.size
  k_steps
  all_goals first
    | (exfalso; exact vec0_ne (by assumption))
    | (exfalso; rename (g2 = false) => hx; rw [hg2] at hx; cases hx)
    | skip
  all_goals (refine' kont _ _ ?kF ?kN True.intro; (case kN => (first | k_asm | (refine' cb_drop ?cbN ?cbS; (case cbN => k_asm); (case cbS => (repeat (first | (intro p hp; (repeat (first | exact hp | exact List.mem_append_left _ hp | apply List.mem_cons_of_mem)); done) | (refine' sub_cons ?_ ?_; focus k_mem))))))); (case kF => k_asm))
end
end Mine
end
section
namespace Mine
theorem wdSLB0 : True := by
  k_with_none
  (k_with "!ite" => first | (k_closed; k_dflt (first | refine PySem.W.ite_pos (by decide) ?_ | refine PySem.W.ite_neg (by decide) ?_)))
  (k_with "!eval Call" => first | (k_here; (with_reducible show wpAny _ _ (eval (Expr.Call _ _ [] _) _) _ _ _); k_dflt (refine Call_ ?_)))
  (k_with "!exec Raise some none" => first | (k_here; (with_reducible show wpAny _ _ (exec (Stmt.Raise (some (Expr.Call (Expr.Name (PySem.Str.ofString "ValueError") _) _ _ _)) none _) _) _ _ _); k_dflt (refine Raise_new rfl ?_)) | (k_here; (with_reducible show wpAny _ _ (exec (Stmt.Raise (some (Expr.Call (Expr.Name (PySem.Str.ofString "TypeError") _) _ _ _)) none _) _) _ _ _); k_dflt (refine Raise_new rfl ?_)))
  (k_with "!leaving ref" => first | (k_here; (with_reducible rename KtsDicts _ _ => kdX); k_dflt (first | (refine' leave_raiseS ?zqk1 ?zqk0 ?zqk2 ?zqk3 ?_; (case zqk0 => first | assumption | exact Heap.MadeExc.of (by assumption)); (case zqk2 => assumption); (case zqk1 => assumption); (case zqk3 => k_asm); k_whole; intro h' t' S' R' U'; (try dsimp only at S' R' U' ⊢)) | (refine' leave_onS ?zqk1 ?zqk2 ?zqk3 ?zqk4 ?_; (case zqk3 => assumption); (case zqk2 => assumption); (case zqk1 => assumption); (case zqk4 => assumption); k_whole; intro h' S' R' U'; (try dsimp only at S' R' U' ⊢)) | (refine' leave_newS ?zqk1 ?zqk0 ?zqk2 ?zqk3 ?_; (case zqk0 => assumption); (case zqk2 => assumption); (case zqk1 => assumption); (case zqk3 => k_asm); k_whole; intro h' S' R' U'; (try dsimp only at S' R' U' ⊢)) | (refine' leave_onSN ?zqk1 ?zqk2 ?zqk3 ?zqk4 ?_; (case zqk3 => assumption); (case zqk2 => assumption); (case zqk1 => assumption); (case zqk4 => assumption); k_whole; intro h' S' R' U'; (try dsimp only at S' R' U' ⊢)))))
  (k_with "!eval Name" => first | (k_here; (first | (with_reducible show wpAny _ _ (eval (Expr.Name _ _) (envOf _ _ _ _ _)) _ _ _) | (with_reducible show wpAny _ _ (eval (Expr.Name _ _) (envOfC _ _ _ _ _)) _ _ _)); k_dflt (first | (refine' nameX_L ?zqF ?zqv ?_ ?zqa ?zqb; (case zqF => k_asm); (case zqv => rfl); (case zqa => rfl); (case zqb => kernel_rfl); k_whole) | (refine' nameX_K ?zqF ?zqX ?zqT ?zqe ?_ ?zqa ?zqb; (case zqT => k_asm); (case zqX => k_asm); (case zqF => k_asm); (case zqe => k_is); (case zqa => rfl); (case zqb => kernel_rfl); k_whole) | (refine' nameX_B ?zqF ?zqX ?zqT ?zqe ?zqv ?zqn ?_ ?zqa ?zqb; (case zqT => k_asm); (case zqX => k_asm); (case zqF => k_asm); (case zqe => k_is); (case zqv => boot_fast); (case zqn => decide); (case zqa => rfl); (case zqb => kernel_rfl); k_whole))))
  (k_with "k_mem" => (assumption))
  (k_with "!execs cons" => (k_here; dsimp only))
  (k_with "!execs nil" => (k_here; dsimp only))
  (k_with "!call builtin:len" => (k_here; (with_reducible show wpAny _ _ (call (Value.builtin "len") [Value.bytes _ _]) _ _ _); (refine len_bytesV (by (try simp only [Array.size_append, List.size_toArray, octs_size, List.length_cons, List.length_nil, List.length_append]); omega) (by simp only [Array.size_append, List.size_toArray, octs_size, List.length_cons, List.length_nil, List.length_append]; rfl) ?_); intro _ _))
  (k_with "!SeqLeaf" => ((with_reducible show SeqLeaf ((_ = @ite _ _ _ _ _) ∧ Keeps _ _)); refine SeqLeaf.intro ⟨?_, ?_⟩; focus (first | (rw [if_neg (by assumption)]; done) | (rw [if_pos (by assumption)]; done) | (rw [if_neg (by assumption)]; exact rfl) | (rw [if_pos (by assumption)]; exact rfl)); focus (with_unfolding_all exact ⟨_, _, rfl, fun _ _ e => e⟩)))
  (k_with "!setItem ref int" => (k_here; (with_reducible show wpAny _ _ (setItem (Value.ref _) (Value.int _ _) (Value.int _ _)) _ _ _); k_dflt (refine' ksa_set ?zqk1 ?zqk2 ?zqk3 ?zqk4 ?zqk5 ?zqk6 ?zqk7 ?_; (case zqk1 => k_asm); (case zqk2 => k_asm); (case zqk3 => k_upd); (case zqk4 => with_reducible assumption); (case zqk5 => (have h7 := len_pos_of (by assumption); omega)); (case zqk6 => omega); (case zqk7 => omega); k_whole); intro h' F' N' hi' hl' hs'; (try k_sweep)))
  (k_with "!binaryOp Mult int int" => (k_here; (refine mul_int ?_ (mul_pow_ok (by omega)))))
  (k_with "!subscriptTail" => (k_here; (with_reducible show wpAny _ _ (subscriptTail _ _ (Value.ref _) (Value.int _ _)) _ _ _); refine' item_lst ?zqk1 ?zqk2 ?zqk3 ?zqk4 ?zqk5 ?_ ?zqk6; (case zqk1 => exact News.isList (by assumption) (by k_mem)); (case zqk2 => assumption); (case zqk3 => first | omega | (have h7 := len_pos_of (by assumption); omega)); (case zqk4 => omega); (case zqk5 => omega); (case zqk6 => with_unfolding_all rfl); intro _))
  (k_with "!binaryOp Add bytes bytes" => (k_here; (with_reducible show wpAny _ _ (binaryOp Operator.Add (Value.bytes _ _) (Value.bytes _ _)) _ _ _); (refine KBy.add_bytes (by (try simp only [Array.size_append, List.size_toArray, byteArr_size, List.length_cons, List.length_nil, List.length_map]); omega) ?_); intro _ _))
  trivial
theorem wdSLB1 : True := by
  (k_with "!call ref" => (k_here; (try dsimp only [List.cons_append, List.nil_append]); (with_reducible show wpAny _ _ (call (Value.ref _) [Value.ref _, Value.bytes _ _] _) _ _ _); k_dflt ((refine' call_meth ?zqkm ?zqkq ?_; (case zqkm => k_asm); (case zqkq => k_mem)); (refine' m_fvdB ?zqcXB ?zqcTB ?zqcB ?zqcF ?zqcX ?zqcN ?zqcT ?zqck ?zqcd ?zqcu ?zqMD ?zqhK ?zqhY ?zqhm ?zqhG ?_); (case zqcN => k_asm); (case zqcB => k_asm); (case zqcXB => k_asm); (case zqcTB => k_asm); (case zqcF => k_asm); (case zqcX => k_asm); (case zqcT => k_asm); (case zqck => first | exact rfl | assumption); (case zqcd => k_room); (case zqcu => k_units); (case zqMD => k_mem); (case zqhK => assumption); (case zqhY => assumption); (case zqhm => assumption); (case zqhG => assumption); intro e' g' h' tk' Fg' U' R'; (try dsimp only); (try k_sweep); (try k_fold))))
  (k_with "!exec Try" => (k_here; refine wpAny_Try_except ?_))
  (k_with "!noteFrame ref" => (k_here; (rename RaisedSN _ _ _ _ _ _ _ => rsX); (have rsY := rsX.toN); k_dflt (refine' caught_X0 (T' := "ValueError") ?zqK ?zqhf ?zqF ?zqU rsY ?zqT PyProof.Rows.Boot.«ValueError» PySem.F.isExc_ValueError PySem.F.notTuple_ValueError ?zqhs ?zqhE ?_ ?zqex ?zqhn; (case zqK => assumption); (case zqhf => exact rfl); (case zqF => assumption); (case zqU => assumption); (case zqT => exact topRead_of (by assumption)); (case zqhs => kts_sub); (case zqhE => first | passes_own | with_unfolding_all passes_own); (case zqex => exact mg_none_of (by assumption) (topRead_of (by assumption)).g (by k_is)); (case zqhn => decide); k_whole); intro h' F' N'; (try k_sweep)))
  trivial
section
variable {w : World} {s₁ s : Shared} {loose : List Str} {mean : ExcName → Option Value} {mg mb : Str → Option Value} {l : Addr} {vs : List Value} {ns : List Int} {h₁ : Heap} {tk : Nat} {oS oB oL oH : Obj} {Q : Flow → Shared → Prop}
  (X : (K0 w.params).In s₁.heap) (T : Top q1 loose mean mg mb s₁.heap) (hL : s₁.heap.IsList l vs.toArray) (hI : IntsAre vs ns) (hlen : ns.length ≤ 63) (hg : s₁.gens = #[]) (B : Below callerA s₁.heap [] s₁.heap)
include X T hL hI hlen hg B
theorem segLB {sd : Int} {b : Bool} {t₃ : Tok} {p : Int} {kd : Array UInt8} {t₁ t₂ : Tok} {ms : List Int} {ys : List Value} {D : Addr} {lo hi : Int} {t₄ t₅ : Tok} {g : Bool} {dv : Value} {V dV : Addr} {va vb vc vd ve : Tok} {ko : Array UInt8} {g2 : Bool} {t₆ : Tok}
  (F' : Fr s₁.heap s₁.heap.objs.size h₁ (fun y => if y = "plain" then some (Value.bool g2) else if y = "other" then some (Value.bytes ko t₆) else if y = "vector" then some (Value.ref V) else if y = "due" then some (dv) else if y = "good" then some (Value.bool g) else if y = "numbers" then some (Value.ref D) else if y = "padding" then some (Value.int p t₁) else if y = "kind" then some (Value.bytes kd t₂) else mScr s₁.heap.objs.size l y))
  (N' : News s₁.heap s₁.heap.objs.size h₁ [(V, instObj 141 dV), (dV, dictOf [⟨PyData.keyHash w.params "data", .str "data" va, .ref D⟩, ⟨PyData.keyHash w.params "dtype", .str "dtype" vb, .bytes kd vc⟩, ⟨PyData.keyHash w.params "padding", .str "padding" vd, .int p ve⟩] 3), (D, LCg.lst ys), (s₁.heap.objs.size + 1 + 1 + 1 + 1, oH), (s₁.heap.objs.size + 1 + 1 + 1, oL), (s₁.heap.objs.size + 1 + 1, oB), (s₁.heap.objs.size + 1, oS)])
  (dS : oS.data = .cell (some (.int sd t₃))) (dB : oB.data = .cell (some (.bool b))) (dL : oL.data = .cell (some (.int lo t₄))) (dH : oH.data = .cell (some (.int hi t₅))) (hp : 0 ≤ p ∧ p ≤ 255) (hK : KD b kd) (hY : IntsAre ys ms) (hm : ms.length ≤ 8) (hD : s₁.heap.objs.size + 1 + 1 + 1 + 1 ≠ D ∧ s₁.heap.objs.size + 1 + 1 + 1 ≠ D ∧ s₁.heap.objs.size + 1 + 1 ≠ D ∧ s₁.heap.objs.size + 1 ≠ D) (hG : g = true ↔ Good b p ms) (hV : @LT.lt Nat _ D dV ∧ @LT.lt Nat _ dV V) (hO : KD (!b) ko) (hP : g2 = true ↔ Good b 0 ms) (hg2 : g2 = false)
  (kont : ∀ (h' : Heap) (tk' : Nat), Fr s₁.heap s₁.heap.objs.size h' (fun y => if y = "plain" then some (Value.bool g2) else if y = "other" then some (Value.bytes ko t₆) else if y = "vector" then some (Value.ref V) else if y = "due" then some (dv) else if y = "good" then some (Value.bool g) else if y = "numbers" then some (Value.ref D) else if y = "padding" then some (Value.int p t₁) else if y = "kind" then some (Value.bytes kd t₂) else mScr s₁.heap.objs.size l y) → News s₁.heap s₁.heap.objs.size h' [(V, instObj 141 dV), (dV, dictOf [⟨PyData.keyHash w.params "data", .str "data" va, .ref D⟩, ⟨PyData.keyHash w.params "dtype", .str "dtype" vb, .bytes kd vc⟩, ⟨PyData.keyHash w.params "padding", .str "padding" vd, .int p ve⟩] 3), (D, LCg.lst ys), (s₁.heap.objs.size + 1 + 1 + 1 + 1, oH), (s₁.heap.objs.size + 1 + 1 + 1, oL), (s₁.heap.objs.size + 1 + 1, oB), (s₁.heap.objs.size + 1, oS)] → True → wpAny (model P1 w) (callerA.deeper (envL s₁.heap.objs.size)) (execs (restS 15) (envL s₁.heap.objs.size)) Q (fun _ _ => False) { s₁ with heap := h', toks := tk' }) :
  wpAny (model P1 w) (callerA.deeper (envL s₁.heap.objs.size)) (execs (restS 14) (envL s₁.heap.objs.size)) Q (fun _ _ => False) { s₁ with heap := h₁, toks := tk } := by
  rw [restS_eq 14 1 15]
  refine execs_hold ?_
  dsimp only [lawS, List.drop, List.take]
  have hG2 : ¬ Good b 0 ms := fun h => by rw [hP.mpr h] at hg2; cases hg2
  k_steps
  all_goals first
    | (exfalso; rename (g2 = true) => hx; rw [hg2] at hx; cases hx)
    | skip
  all_goals (refine' kont _ _ ?kF ?kN True.intro; (case kN => (first | k_asm | (refine' cb_drop ?cbN ?cbS; (case cbN => k_asm); (case cbS => (repeat (first | (intro p hp; (repeat (first | exact hp | exact List.mem_append_left _ hp | apply List.mem_cons_of_mem)); done) | (refine' sub_cons ?_ ?_; focus k_mem))))))); (case kF => k_asm))
end
end Mine
end
section
namespace Mine
theorem wdSM0 : True := by
  k_with_none
  (k_with "!ite" => first | (k_closed; k_dflt (first | refine PySem.W.ite_pos (by decide) ?_ | refine PySem.W.ite_neg (by decide) ?_)))
  (k_with "!eval Call" => first | (k_here; (with_reducible show wpAny _ _ (eval (Expr.Call _ _ [] _) _) _ _ _); k_dflt (refine Call_ ?_)))
  (k_with "!exec Raise some none" => first | (k_here; (with_reducible show wpAny _ _ (exec (Stmt.Raise (some (Expr.Call (Expr.Name (PySem.Str.ofString "ValueError") _) _ _ _)) none _) _) _ _ _); k_dflt (refine Raise_new rfl ?_)) | (k_here; (with_reducible show wpAny _ _ (exec (Stmt.Raise (some (Expr.Call (Expr.Name (PySem.Str.ofString "TypeError") _) _ _ _)) none _) _) _ _ _); k_dflt (refine Raise_new rfl ?_)))
  (k_with "!leaving ref" => first | (k_here; (with_reducible rename KtsDicts _ _ => kdX); k_dflt (first | (refine' leave_raiseS ?zqk1 ?zqk0 ?zqk2 ?zqk3 ?_; (case zqk0 => first | assumption | exact Heap.MadeExc.of (by assumption)); (case zqk2 => assumption); (case zqk1 => assumption); (case zqk3 => k_asm); k_whole; intro h' t' S' R' U'; (try dsimp only at S' R' U' ⊢)) | (refine' leave_onS ?zqk1 ?zqk2 ?zqk3 ?zqk4 ?_; (case zqk3 => assumption); (case zqk2 => assumption); (case zqk1 => assumption); (case zqk4 => assumption); k_whole; intro h' S' R' U'; (try dsimp only at S' R' U' ⊢)) | (refine' leave_newS ?zqk1 ?zqk0 ?zqk2 ?zqk3 ?_; (case zqk0 => assumption); (case zqk2 => assumption); (case zqk1 => assumption); (case zqk3 => k_asm); k_whole; intro h' S' R' U'; (try dsimp only at S' R' U' ⊢)) | (refine' leave_onSN ?zqk1 ?zqk2 ?zqk3 ?zqk4 ?_; (case zqk3 => assumption); (case zqk2 => assumption); (case zqk1 => assumption); (case zqk4 => assumption); k_whole; intro h' S' R' U'; (try dsimp only at S' R' U' ⊢)))))
  (k_with "!eval Name" => first | (k_here; (first | (with_reducible show wpAny _ _ (eval (Expr.Name _ _) (envOf _ _ _ _ _)) _ _ _) | (with_reducible show wpAny _ _ (eval (Expr.Name _ _) (envOfC _ _ _ _ _)) _ _ _)); k_dflt (first | (refine' nameX_L ?zqF ?zqv ?_ ?zqa ?zqb; (case zqF => k_asm); (case zqv => rfl); (case zqa => rfl); (case zqb => kernel_rfl); k_whole) | (refine' nameX_K ?zqF ?zqX ?zqT ?zqe ?_ ?zqa ?zqb; (case zqT => k_asm); (case zqX => k_asm); (case zqF => k_asm); (case zqe => k_is); (case zqa => rfl); (case zqb => kernel_rfl); k_whole) | (refine' nameX_B ?zqF ?zqX ?zqT ?zqe ?zqv ?zqn ?_ ?zqa ?zqb; (case zqT => k_asm); (case zqX => k_asm); (case zqF => k_asm); (case zqe => k_is); (case zqv => boot_fast); (case zqn => decide); (case zqa => rfl); (case zqb => kernel_rfl); k_whole))))
  (k_with "k_mem" => (assumption))
  (k_with "!execs cons" => (k_here; dsimp only))
  (k_with "!execs nil" => (k_here; dsimp only))
  (k_with "!call builtin:len" => (k_here; (with_reducible show wpAny _ _ (call (Value.builtin "len") [Value.bytes _ _]) _ _ _); (refine len_bytesV (by (try simp only [Array.size_append, List.size_toArray, octs_size, List.length_cons, List.length_nil, List.length_append]); omega) (by simp only [Array.size_append, List.size_toArray, octs_size, List.length_cons, List.length_nil, List.length_append]; rfl) ?_); intro _ _))
  (k_with "!SeqLeaf" => ((with_reducible show SeqLeaf ((_ = @ite _ _ _ _ _) ∧ Keeps _ _)); refine SeqLeaf.intro ⟨?_, ?_⟩; focus (first | (rw [if_neg (by assumption)]; done) | (rw [if_pos (by assumption)]; done) | (rw [if_neg (by assumption)]; exact rfl) | (rw [if_pos (by assumption)]; exact rfl)); focus (with_unfolding_all exact ⟨_, _, rfl, fun _ _ e => e⟩)))
  (k_with "!setItem ref int" => (k_here; (with_reducible show wpAny _ _ (setItem (Value.ref _) (Value.int _ _) (Value.int _ _)) _ _ _); k_dflt (refine' ksa_set ?zqk1 ?zqk2 ?zqk3 ?zqk4 ?zqk5 ?zqk6 ?zqk7 ?_; (case zqk1 => k_asm); (case zqk2 => k_asm); (case zqk3 => k_upd); (case zqk4 => with_reducible assumption); (case zqk5 => (have h7 := len_pos_of (by assumption); omega)); (case zqk6 => omega); (case zqk7 => omega); k_whole); intro h' F' N' hi' hl' hs'; (try k_sweep)))
  (k_with "!binaryOp Mult int int" => (k_here; (refine mul_int ?_ (mul_pow_ok (by omega)))))
  (k_with "!subscriptTail" => (k_here; (with_reducible show wpAny _ _ (subscriptTail _ _ (Value.ref _) (Value.int _ _)) _ _ _); refine' item_lst ?zqk1 ?zqk2 ?zqk3 ?zqk4 ?zqk5 ?_ ?zqk6; (case zqk1 => exact News.isList (by assumption) (by k_mem)); (case zqk2 => assumption); (case zqk3 => first | omega | (have h7 := len_pos_of (by assumption); omega)); (case zqk4 => omega); (case zqk5 => omega); (case zqk6 => with_unfolding_all rfl); intro _))
  (k_with "!binaryOp Add bytes bytes" => (k_here; (with_reducible show wpAny _ _ (binaryOp Operator.Add (Value.bytes _ _) (Value.bytes _ _)) _ _ _); (refine KBy.add_bytes (by (try simp only [Array.size_append, List.size_toArray, byteArr_size, List.length_cons, List.length_nil, List.length_map]); omega) ?_); intro _ _))
  trivial
theorem wdSM1 : True := by
  (k_with "k_typeOf" => (exact kitAt_ty _ _ (kitAt_N (T := "list") (by k_asm) (by k_mem) rfl)))
  (k_with "!call ref" => first | (k_here; (try dsimp only [List.cons_append, List.nil_append]); (with_reducible show wpAny _ _ (call (Value.ref 131) [Value.ref _, Value.ref _] _) _ _ _); k_dflt ((refine wpAny_call ?_); (refine' c_bveq  ?zqcB ?zqcF ?zqcX ?zqcN ?zqcT ?zqck ?zqcd ?zqcu ?zqMA ?zqMB ?zqMC ?zqMD ?zqME ?zqMF ?zqhY1 ?zqhY2 ?zqhm1 ?zqhm2 ?_); (case zqcN => k_asm); (case zqcB => k_asm); (case zqcF => k_asm); (case zqcX => k_asm); (case zqcT => k_asm); (case zqck => first | exact rfl | assumption); (case zqcd => k_room); (case zqcu => k_units); (case zqMA => k_mem); (case zqMB => k_mem); (case zqMC => k_mem); (case zqMD => k_mem); (case zqME => k_mem); (case zqMF => k_mem); (case zqhY1 => assumption); (case zqhY2 => assumption); (case zqhm1 => first | assumption | omega | (simp only [List.length_append, List.length_cons, List.length_nil]; omega)); (case zqhm2 => first | assumption | omega | (simp only [List.length_append, List.length_cons, List.length_nil]; omega)); intro v' h' tk' hv' F' N'; (try dsimp only [PySem.W.CmpBack]); (try k_sweep); (try k_fold))) | (k_here; (try dsimp only [List.cons_append, List.nil_append]); (with_reducible show wpAny _ _ (call (Value.ref 131) [Value.ref _, Value.ref _] _) _ _ _); k_dflt ((refine wpAny_call ?_); (refine' c_bveqL  ?zqcB ?zqcF ?zqcX ?zqcN ?zqcT ?zqck ?zqcd ?zqcu ?zqMA ?zqMB ?zqMF  ?_); (case zqcN => k_asm); (case zqcB => k_asm); (case zqcF => k_asm); (case zqcX => k_asm); (case zqcT => k_asm); (case zqck => first | exact rfl | assumption); (case zqcd => k_room); (case zqcu => k_units); (case zqMA => k_mem); (case zqMB => k_mem); (case zqMF => k_mem); intro h' tk' F' N'; (try dsimp only [PySem.W.CmpBack]); (try k_sweep); (try k_fold))))
  trivial
section
variable {w : World} {s₁ s : Shared} {loose : List Str} {mean : ExcName → Option Value} {mg mb : Str → Option Value} {l : Addr} {vs : List Value} {ns : List Int} {h₁ : Heap} {tk : Nat} {oS oB oL oH : Obj} {Q : Flow → Shared → Prop}
  (X : (K0 w.params).In s₁.heap) (T : Top q1 loose mean mg mb s₁.heap) (hL : s₁.heap.IsList l vs.toArray) (hI : IntsAre vs ns) (hlen : ns.length ≤ 63) (hg : s₁.gens = #[]) (B : Below callerA s₁.heap [] s₁.heap)
include X T hL hI hlen hg B
theorem segM {sd : Int} {b : Bool} {t₃ : Tok} {p : Int} {kd : Array UInt8} {t₁ t₂ : Tok} {ms : List Int} {ys : List Value} {D : Addr} {lo hi : Int} {t₄ t₅ : Tok} {g : Bool} {dv : Value} {V dV : Addr} {va vb vc vd ve : Tok} {ko : Array UInt8} {g2 : Bool} {t₆ : Tok}
  (F' : Fr s₁.heap s₁.heap.objs.size h₁ (fun y => if y = "plain" then some (Value.bool g2) else if y = "other" then some (Value.bytes ko t₆) else if y = "vector" then some (Value.ref V) else if y = "due" then some (dv) else if y = "good" then some (Value.bool g) else if y = "numbers" then some (Value.ref D) else if y = "padding" then some (Value.int p t₁) else if y = "kind" then some (Value.bytes kd t₂) else mScr s₁.heap.objs.size l y))
  (N' : News s₁.heap s₁.heap.objs.size h₁ [(V, instObj 141 dV), (dV, dictOf [⟨PyData.keyHash w.params "data", .str "data" va, .ref D⟩, ⟨PyData.keyHash w.params "dtype", .str "dtype" vb, .bytes kd vc⟩, ⟨PyData.keyHash w.params "padding", .str "padding" vd, .int p ve⟩] 3), (D, LCg.lst ys), (s₁.heap.objs.size + 1 + 1 + 1 + 1, oH), (s₁.heap.objs.size + 1 + 1 + 1, oL), (s₁.heap.objs.size + 1 + 1, oB), (s₁.heap.objs.size + 1, oS)])
  (dS : oS.data = .cell (some (.int sd t₃))) (dB : oB.data = .cell (some (.bool b))) (dL : oL.data = .cell (some (.int lo t₄))) (dH : oH.data = .cell (some (.int hi t₅))) (hp : 0 ≤ p ∧ p ≤ 255) (hK : KD b kd) (hY : IntsAre ys ms) (hm : ms.length ≤ 8) (hD : s₁.heap.objs.size + 1 + 1 + 1 + 1 ≠ D ∧ s₁.heap.objs.size + 1 + 1 + 1 ≠ D ∧ s₁.heap.objs.size + 1 + 1 ≠ D ∧ s₁.heap.objs.size + 1 ≠ D) (hG : g = true ↔ Good b p ms) (hV : @LT.lt Nat _ D dV ∧ @LT.lt Nat _ dV V) (hO : KD (!b) ko) (hP : g2 = true ↔ Good b 0 ms)
  (kont : ∀ (h' : Heap) (tk' : Nat), Fr s₁.heap s₁.heap.objs.size h' (fun y => if y = "plain" then some (Value.bool g2) else if y = "other" then some (Value.bytes ko t₆) else if y = "vector" then some (Value.ref V) else if y = "due" then some (dv) else if y = "good" then some (Value.bool g) else if y = "numbers" then some (Value.ref D) else if y = "padding" then some (Value.int p t₁) else if y = "kind" then some (Value.bytes kd t₂) else mScr s₁.heap.objs.size l y) → News s₁.heap s₁.heap.objs.size h' [(V, instObj 141 dV), (dV, dictOf [⟨PyData.keyHash w.params "data", .str "data" va, .ref D⟩, ⟨PyData.keyHash w.params "dtype", .str "dtype" vb, .bytes kd vc⟩, ⟨PyData.keyHash w.params "padding", .str "padding" vd, .int p ve⟩] 3), (D, LCg.lst ys), (s₁.heap.objs.size + 1 + 1 + 1 + 1, oH), (s₁.heap.objs.size + 1 + 1 + 1, oL), (s₁.heap.objs.size + 1 + 1, oB), (s₁.heap.objs.size + 1, oS)] → True → wpAny (model P1 w) (callerA.deeper (envL s₁.heap.objs.size)) (execs (restS 16) (envL s₁.heap.objs.size)) Q (fun _ _ => False) { s₁ with heap := h', toks := tk' }) :
  wpAny (model P1 w) (callerA.deeper (envL s₁.heap.objs.size)) (execs (restS 15) (envL s₁.heap.objs.size)) Q (fun _ _ => False) { s₁ with heap := h₁, toks := tk } := by
  rw [restS_eq 15 1 16]
  refine execs_hold ?_
  dsimp only [lawS, List.drop, List.take]
  k_steps
  all_goals first
    | (exfalso; omega)
    | (exfalso; exact bv_t (by assumption) (by assumption))
    | (exfalso; exact bv_a (by assumption) (by assumption))
    | (exfalso; exact bv_p (by assumption) (by assumption))
    | (exfalso; exact bv_o (by assumption) (by assumption) hK hO)
    | skip
  all_goals (refine' kont _ _ ?kF ?kN True.intro; (case kN => (first | k_asm | (refine' cb_drop ?cbN ?cbS; (case cbN => k_asm); (case cbS => (repeat (first | (intro p hp; (repeat (first | exact hp | exact List.mem_append_left _ hp | apply List.mem_cons_of_mem)); done) | (refine' sub_cons ?_ ?_; focus k_mem))))))); (case kF => k_asm))
end
end Mine
end
section
namespace Mine
theorem wdSNG0 : True := by
  k_with_none
  (k_with "!ite" => first | (k_closed; k_dflt (first | refine PySem.W.ite_pos (by decide) ?_ | refine PySem.W.ite_neg (by decide) ?_)))
  (k_with "!eval Call" => first | (k_here; (with_reducible show wpAny _ _ (eval (Expr.Call _ _ [] _) _) _ _ _); k_dflt (refine Call_ ?_)))
  (k_with "!exec Raise some none" => first | (k_here; (with_reducible show wpAny _ _ (exec (Stmt.Raise (some (Expr.Call (Expr.Name (PySem.Str.ofString "ValueError") _) _ _ _)) none _) _) _ _ _); k_dflt (refine Raise_new rfl ?_)) | (k_here; (with_reducible show wpAny _ _ (exec (Stmt.Raise (some (Expr.Call (Expr.Name (PySem.Str.ofString "TypeError") _) _ _ _)) none _) _) _ _ _); k_dflt (refine Raise_new rfl ?_)))
  (k_with "!leaving ref" => first | (k_here; (with_reducible rename KtsDicts _ _ => kdX); k_dflt (first | (refine' leave_raiseS ?zqk1 ?zqk0 ?zqk2 ?zqk3 ?_; (case zqk0 => first | assumption | exact Heap.MadeExc.of (by assumption)); (case zqk2 => assumption); (case zqk1 => assumption); (case zqk3 => k_asm); k_whole; intro h' t' S' R' U'; (try dsimp only at S' R' U' ⊢)) | (refine' leave_onS ?zqk1 ?zqk2 ?zqk3 ?zqk4 ?_; (case zqk3 => assumption); (case zqk2 => assumption); (case zqk1 => assumption); (case zqk4 => assumption); k_whole; intro h' S' R' U'; (try dsimp only at S' R' U' ⊢)) | (refine' leave_newS ?zqk1 ?zqk0 ?zqk2 ?zqk3 ?_; (case zqk0 => assumption); (case zqk2 => assumption); (case zqk1 => assumption); (case zqk3 => k_asm); k_whole; intro h' S' R' U'; (try dsimp only at S' R' U' ⊢)) | (refine' leave_onSN ?zqk1 ?zqk2 ?zqk3 ?zqk4 ?_; (case zqk3 => assumption); (case zqk2 => assumption); (case zqk1 => assumption); (case zqk4 => assumption); k_whole; intro h' S' R' U'; (try dsimp only at S' R' U' ⊢)))))
  (k_with "!eval Name" => first | (k_here; (first | (with_reducible show wpAny _ _ (eval (Expr.Name _ _) (envOf _ _ _ _ _)) _ _ _) | (with_reducible show wpAny _ _ (eval (Expr.Name _ _) (envOfC _ _ _ _ _)) _ _ _)); k_dflt (first | (refine' nameX_L ?zqF ?zqv ?_ ?zqa ?zqb; (case zqF => k_asm); (case zqv => rfl); (case zqa => rfl); (case zqb => kernel_rfl); k_whole) | (refine' nameX_K ?zqF ?zqX ?zqT ?zqe ?_ ?zqa ?zqb; (case zqT => k_asm); (case zqX => k_asm); (case zqF => k_asm); (case zqe => k_is); (case zqa => rfl); (case zqb => kernel_rfl); k_whole) | (refine' nameX_B ?zqF ?zqX ?zqT ?zqe ?zqv ?zqn ?_ ?zqa ?zqb; (case zqT => k_asm); (case zqX => k_asm); (case zqF => k_asm); (case zqe => k_is); (case zqv => boot_fast); (case zqn => decide); (case zqa => rfl); (case zqb => kernel_rfl); k_whole))))
  (k_with "k_mem" => (assumption))
  (k_with "!execs cons" => (k_here; dsimp only))
  (k_with "!execs nil" => (k_here; dsimp only))
  (k_with "!call builtin:len" => (k_here; (with_reducible show wpAny _ _ (call (Value.builtin "len") [Value.bytes _ _]) _ _ _); (refine len_bytesV (by (try simp only [Array.size_append, List.size_toArray, octs_size, List.length_cons, List.length_nil, List.length_append]); omega) (by simp only [Array.size_append, List.size_toArray, octs_size, List.length_cons, List.length_nil, List.length_append]; rfl) ?_); intro _ _))
  (k_with "!SeqLeaf" => ((with_reducible show SeqLeaf ((_ = @ite _ _ _ _ _) ∧ Keeps _ _)); refine SeqLeaf.intro ⟨?_, ?_⟩; focus (first | (rw [if_neg (by assumption)]; done) | (rw [if_pos (by assumption)]; done) | (rw [if_neg (by assumption)]; exact rfl) | (rw [if_pos (by assumption)]; exact rfl)); focus (with_unfolding_all exact ⟨_, _, rfl, fun _ _ e => e⟩)))
  (k_with "!setItem ref int" => (k_here; (with_reducible show wpAny _ _ (setItem (Value.ref _) (Value.int _ _) (Value.int _ _)) _ _ _); k_dflt (refine' ksa_set ?zqk1 ?zqk2 ?zqk3 ?zqk4 ?zqk5 ?zqk6 ?zqk7 ?_; (case zqk1 => k_asm); (case zqk2 => k_asm); (case zqk3 => k_upd); (case zqk4 => with_reducible assumption); (case zqk5 => (have h7 := len_pos_of (by assumption); omega)); (case zqk6 => omega); (case zqk7 => omega); k_whole); intro h' F' N' hi' hl' hs'; (try k_sweep)))
  (k_with "!binaryOp Mult int int" => (k_here; (refine mul_int ?_ (mul_pow_ok (by omega)))))
  (k_with "!subscriptTail" => (k_here; (with_reducible show wpAny _ _ (subscriptTail _ _ (Value.ref _) (Value.int _ _)) _ _ _); refine' item_lst ?zqk1 ?zqk2 ?zqk3 ?zqk4 ?zqk5 ?_ ?zqk6; (case zqk1 => exact News.isList (by assumption) (by k_mem)); (case zqk2 => assumption); (case zqk3 => first | omega | (have h7 := len_pos_of (by assumption); omega)); (case zqk4 => omega); (case zqk5 => omega); (case zqk6 => with_unfolding_all rfl); intro _))
  (k_with "!binaryOp Add bytes bytes" => (k_here; (with_reducible show wpAny _ _ (binaryOp Operator.Add (Value.bytes _ _) (Value.bytes _ _)) _ _ _); (refine KBy.add_bytes (by (try simp only [Array.size_append, List.size_toArray, byteArr_size, List.length_cons, List.length_nil, List.length_map]); omega) ?_); intro _ _))
  trivial
theorem wdSNG1 : True := by
  (k_with "k_typeOf" => (exact kitAt_ty _ _ (kitAt_N (T := "list") (by k_asm) (by k_mem) rfl)))
  (k_with "!call ref" => first | (k_here; (try dsimp only [List.cons_append, List.nil_append]); (with_reducible show wpAny _ _ (call (Value.ref 1526) [Value.bytes _ _] _) _ _ _); k_dflt ((refine wpAny_call ?_); (refine' c_decV  ?zqcB ?zqcF ?zqcX ?zqcN ?zqcT ?zqck ?zqcd ?zqcu  ?zqhl ?_); (case zqcN => k_asm); (case zqcB => k_asm); (case zqcF => k_asm); (case zqcX => k_asm); (case zqcT => k_asm); (case zqck => first | exact rfl | assumption); (case zqcd => k_room); (case zqcu => k_units); (case zqhl => assumption); intro D' xB' dB' oD' ta' tb' tc' td' h' tk' hd' lo' F' N'; (try dsimp only); (try k_sweep); (try k_fold))) | (k_here; (try dsimp only [List.cons_append, List.nil_append]); (with_reducible show wpAny _ _ (call (Value.ref 1518) [Value.ref _] _) _ _ _); k_dflt ((refine wpAny_call ?_); (refine' m_enc  ?zqcB ?zqcF ?zqcX ?zqcN ?zqcT ?zqck ?zqcd ?zqcu ?zqMC ?zqMA ?zqMB ?zqhx ?zqhd ?zqlo ?_); (case zqcN => k_asm); (case zqcB => k_asm); (case zqcF => k_asm); (case zqcX => k_asm); (case zqcT => k_asm); (case zqck => first | exact rfl | assumption); (case zqcd => k_room); (case zqcu => k_units); (case zqMC => k_mem); (case zqMA => k_mem); (case zqMB => k_mem); (case zqhx => assumption); (case zqhd => k_asm); (case zqlo => k_asm); intro t' h' tk' F' N'; (try dsimp only); (try k_sweep); (try k_fold))) | (k_here; (try dsimp only [List.cons_append, List.nil_append]); (with_reducible show wpAny _ _ (call (Value.ref 220) [Value.ref _, Value.ref _] _) _ _ _); k_dflt ((refine wpAny_call ?_); (refine' c_bineq  ?zqcB ?zqcF ?zqcX ?zqcN ?zqcT ?zqck ?zqcd ?zqcu ?zqMA ?zqMB ?zqMC ?zqMD ?zqhe ?_); (case zqcN => k_asm); (case zqcB => k_asm); (case zqcF => k_asm); (case zqcX => k_asm); (case zqcT => k_asm); (case zqck => first | exact rfl | assumption); (case zqcd => k_room); (case zqcu => k_units); (case zqMA => k_mem); (case zqMB => k_mem); (case zqMC => k_mem); (case zqMD => k_mem); (case zqhe => exact ⟨by first | rfl | simp, rfl⟩); intro h' tk' F' N'; (try dsimp only [PySem.W.CmpBack]); (try k_sweep); (try k_fold))) | (k_here; (try dsimp only [List.cons_append, List.nil_append]); (with_reducible show wpAny _ _ (call (Value.ref 1547) [Value.ref _] _) _ _ _); k_dflt ((refine wpAny_call ?_); (refine' m_readG ?zqcXB ?zqcTB ?zqcB ?zqcF ?zqcX ?zqcN ?zqcT ?zqck ?zqcd ?zqcu ?zqMA ?zqMB ?zqhK ?zqhm ?zqhp ?zqhG ?_); (case zqcN => k_asm); (case zqcB => k_asm); (case zqcXB => k_asm); (case zqcTB => k_asm); (case zqcF => k_asm); (case zqcX => k_asm); (case zqcT => k_asm); (case zqck => first | exact rfl | assumption); (case zqcd => k_room); (case zqcu => k_units); (case zqMA => k_mem); (case zqMB => k_mem); (case zqhK => assumption); (case zqhm => assumption); (case zqhp => assumption); (case zqhG => assumption); intro z' T' zs' zk' vc' ve' h' tk' zI' F' N'; (try dsimp only); (try k_sweep); (try k_fold))) | (k_here; (try dsimp only [List.cons_append, List.nil_append]); (with_reducible show wpAny _ _ (call (Value.ref 198) [Value.ref _] _) _ _ _); k_dflt ((refine wpAny_call ?_); (refine' m_avG ?zqcXB ?zqcTB ?zqcB ?zqcF ?zqcX ?zqcN ?zqcT ?zqck ?zqcd ?zqcu ?zqMA ?zqMB ?zqhK ?zqhm ?zqhp ?zqhG ?_); (case zqcN => k_asm); (case zqcB => k_asm); (case zqcXB => k_asm); (case zqcTB => k_asm); (case zqcF => k_asm); (case zqcX => k_asm); (case zqcT => k_asm); (case zqck => first | exact rfl | assumption); (case zqcd => k_room); (case zqcu => k_units); (case zqMA => k_mem); (case zqMB => k_mem); (case zqhK => assumption); (case zqhm => assumption); (case zqhp => assumption); (case zqhG => assumption); intro V' dV' z' zs' zk' va' vb' vc' vd' ve' h' tk' zI' F' N'; (try dsimp only); (try k_sweep); (try k_fold))) | (k_here; (try dsimp only [List.cons_append, List.nil_append]); (with_reducible show wpAny _ _ (call (Value.ref _) [Value.ref _] _) _ _ _); k_dflt ((refine' call_meth ?zqkm ?zqkq ?_; (case zqkm => k_asm); (case zqkq => k_mem)); (refine' m_fvvG ?zqcXB ?zqcTB ?zqcB ?zqcF ?zqcX ?zqcN ?zqcT ?zqck ?zqcd ?zqcu ?zqMV ?zqMW ?zqMD ?zqhK ?zqhY ?zqhm ?zqhp ?zqhG ?_); (case zqcN => k_asm); (case zqcB => k_asm); (case zqcXB => k_asm); (case zqcTB => k_asm); (case zqcF => k_asm); (case zqcX => k_asm); (case zqcT => k_asm); (case zqck => first | exact rfl | assumption); (case zqcd => k_room); (case zqcu => k_units); (case zqMV => k_mem); (case zqMW => k_mem); (case zqMD => k_mem); (case zqhK => assumption); (case zqhY => assumption); (case zqhm => assumption); (case zqhp => assumption); (case zqhG => assumption); intro x' dx' ta' tb' tc' td' h' tk' F' N'; (try dsimp only); (try k_sweep); (try k_fold))) | (k_here; (try dsimp only [List.cons_append, List.nil_append]); (with_reducible show wpAny _ _ (call (Value.ref 131) [Value.ref _, Value.ref _] _) _ _ _); k_dflt ((refine wpAny_call ?_); (refine' c_bveq  ?zqcB ?zqcF ?zqcX ?zqcN ?zqcT ?zqck ?zqcd ?zqcu ?zqMA ?zqMB ?zqMC ?zqMD ?zqME ?zqMF ?zqhY1 ?zqhY2 ?zqhm1 ?zqhm2 ?_); (case zqcN => k_asm); (case zqcB => k_asm); (case zqcF => k_asm); (case zqcX => k_asm); (case zqcT => k_asm); (case zqck => first | exact rfl | assumption); (case zqcd => k_room); (case zqcu => k_units); (case zqMA => k_mem); (case zqMB => k_mem); (case zqMC => k_mem); (case zqMD => k_mem); (case zqME => k_mem); (case zqMF => k_mem); (case zqhY1 => assumption); (case zqhY2 => assumption); (case zqhm1 => first | assumption | omega | (simp only [List.length_append, List.length_cons, List.length_nil]; omega)); (case zqhm2 => first | assumption | omega | (simp only [List.length_append, List.length_cons, List.length_nil]; omega)); intro v' h' tk' hv' F' N'; (try dsimp only [PySem.W.CmpBack]); (try k_sweep); (try k_fold))) | (k_here; (try dsimp only [List.cons_append, List.nil_append]); (with_reducible show wpAny _ _ (call (Value.ref 131) [Value.ref _, Value.ref _] _) _ _ _); k_dflt ((refine wpAny_call ?_); (refine' c_bveqL  ?zqcB ?zqcF ?zqcX ?zqcN ?zqcT ?zqck ?zqcd ?zqcu ?zqMA ?zqMB ?zqMF  ?_); (case zqcN => k_asm); (case zqcB => k_asm); (case zqcF => k_asm); (case zqcX => k_asm); (case zqcT => k_asm); (case zqck => first | exact rfl | assumption); (case zqcd => k_room); (case zqcu => k_units); (case zqMA => k_mem); (case zqMB => k_mem); (case zqMF => k_mem); intro h' tk' F' N'; (try dsimp only [PySem.W.CmpBack]); (try k_sweep); (try k_fold))))
  (k_with "!compareOp NotEq ref ref" => (k_here; (with_reducible show wpAny _ _ (compareOp CmpOp.NotEq (Value.ref _) (Value.ref _)) _ _ _); k_dflt (refine' ne_sameT ?zql ?zqb ?zqu ?zqe ?_; (case zql => exact isTup_of (by k_asm) (by k_mem)); (case zqb => exact isTup_of (by k_asm) (by k_mem)); (case zqu => k_units); (case zqe => (refine ⟨ea_ints (News.isList (by k_asm) (by k_mem)) (News.isList (by k_asm) (by k_mem)) (by assumption) (by assumption) (by k_units), ea_bytes_same _ _ _, ea_int_same _ _ _, trivial⟩)))))
  trivial
section
variable {w : World} {s₁ s : Shared} {loose : List Str} {mean : ExcName → Option Value} {mg mb : Str → Option Value} {l : Addr} {vs : List Value} {ns : List Int} {h₁ : Heap} {tk : Nat} {oS oB oL oH : Obj} {Q : Flow → Shared → Prop}
  (X : (K0 w.params).In s₁.heap) (T : Top q1 loose mean mg mb s₁.heap) (hL : s₁.heap.IsList l vs.toArray) (hI : IntsAre vs ns) (hlen : ns.length ≤ 63) (hg : s₁.gens = #[]) (B : Below callerA s₁.heap [] s₁.heap)
include X T hL hI hlen hg B
theorem segNG {sd : Int} {b : Bool} {t₃ : Tok} {p : Int} {kd : Array UInt8} {t₁ t₂ : Tok} {ms : List Int} {ys : List Value} {D : Addr} {lo hi : Int} {t₄ t₅ : Tok} {g : Bool} {dv : Value} {V dV : Addr} {va vb vc vd ve : Tok} {ko : Array UInt8} {g2 : Bool} {t₆ : Tok}
  (F' : Fr s₁.heap s₁.heap.objs.size h₁ (fun y => if y = "plain" then some (Value.bool g2) else if y = "other" then some (Value.bytes ko t₆) else if y = "vector" then some (Value.ref V) else if y = "due" then some (dv) else if y = "good" then some (Value.bool g) else if y = "numbers" then some (Value.ref D) else if y = "padding" then some (Value.int p t₁) else if y = "kind" then some (Value.bytes kd t₂) else mScr s₁.heap.objs.size l y))
  (N' : News s₁.heap s₁.heap.objs.size h₁ [(V, instObj 141 dV), (dV, dictOf [⟨PyData.keyHash w.params "data", .str "data" va, .ref D⟩, ⟨PyData.keyHash w.params "dtype", .str "dtype" vb, .bytes kd vc⟩, ⟨PyData.keyHash w.params "padding", .str "padding" vd, .int p ve⟩] 3), (D, LCg.lst ys), (s₁.heap.objs.size + 1 + 1 + 1 + 1, oH), (s₁.heap.objs.size + 1 + 1 + 1, oL), (s₁.heap.objs.size + 1 + 1, oB), (s₁.heap.objs.size + 1, oS)])
  (dS : oS.data = .cell (some (.int sd t₃))) (dB : oB.data = .cell (some (.bool b))) (dL : oL.data = .cell (some (.int lo t₄))) (dH : oH.data = .cell (some (.int hi t₅))) (hp : 0 ≤ p ∧ p ≤ 255) (hK : KD b kd) (hY : IntsAre ys ms) (hm : ms.length ≤ 8) (hD : s₁.heap.objs.size + 1 + 1 + 1 + 1 ≠ D ∧ s₁.heap.objs.size + 1 + 1 + 1 ≠ D ∧ s₁.heap.objs.size + 1 + 1 ≠ D ∧ s₁.heap.objs.size + 1 ≠ D) (hG : g = true ↔ Good b p ms) (hV : @LT.lt Nat _ D dV ∧ @LT.lt Nat _ dV V) (hO : KD (!b) ko) (hP : g2 = true ↔ Good b 0 ms) (hg1 : g = true)
  (kont : ∀ (mv : Option Value) (h' : Heap) (tk' : Nat), Fr s₁.heap s₁.heap.objs.size h' (fun y => if y = "made" then mv else if y = "plain" then some (Value.bool g2) else if y = "other" then some (Value.bytes ko t₆) else if y = "vector" then some (Value.ref V) else if y = "due" then some (dv) else if y = "good" then some (Value.bool g) else if y = "numbers" then some (Value.ref D) else if y = "padding" then some (Value.int p t₁) else if y = "kind" then some (Value.bytes kd t₂) else mScr s₁.heap.objs.size l y) → News s₁.heap s₁.heap.objs.size h' [(V, instObj 141 dV), (dV, dictOf [⟨PyData.keyHash w.params "data", .str "data" va, .ref D⟩, ⟨PyData.keyHash w.params "dtype", .str "dtype" vb, .bytes kd vc⟩, ⟨PyData.keyHash w.params "padding", .str "padding" vd, .int p ve⟩] 3), (D, LCg.lst ys), (s₁.heap.objs.size + 1 + 1 + 1 + 1, oH), (s₁.heap.objs.size + 1 + 1 + 1, oL), (s₁.heap.objs.size + 1 + 1, oB), (s₁.heap.objs.size + 1, oS)] → True → wpAny (model P1 w) (callerA.deeper (envL s₁.heap.objs.size)) (execs (restS 17) (envL s₁.heap.objs.size)) Q (fun _ _ => False) { s₁ with heap := h', toks := tk' }) :
  wpAny (model P1 w) (callerA.deeper (envL s₁.heap.objs.size)) (execs (restS 16) (envL s₁.heap.objs.size)) Q (fun _ _ => False) { s₁ with heap := h₁, toks := tk } := by
  rw [restS_eq 16 1 17]
  refine execs_hold ?_
  dsimp only [lawS, List.drop, List.take]
  have hG2 := hG.mp hg1
  subst hg1
  have hvs : (vec kd p ms).size ≤ 100 := vec_small hK hm
  have hvl : (vec kd p ms).toList.length ≤ 100 := by simpa using hvs
  k_steps
  all_goals first
    | (exfalso; exact bv_t (by assumption) (by assumption))
    | skip
  all_goals (refine' kont _ _ _ ?kF ?kN True.intro; (case kF => k_asm); (case kN => (first | k_asm | (refine' cb_drop ?cbN ?cbS; (case cbN => k_asm); (case cbS => (repeat (first | (intro p hp; (repeat (first | exact hp | exact List.mem_append_left _ hp | apply List.mem_cons_of_mem)); done) | (refine' sub_cons ?_ ?_; focus k_mem))))))))
end
end Mine
end
section
namespace Mine
theorem wdSNB0 : True := by
  k_with_none
  (k_with "!ite" => first | (k_closed; k_dflt (first | refine PySem.W.ite_pos (by decide) ?_ | refine PySem.W.ite_neg (by decide) ?_)))
  (k_with "!eval Call" => first | (k_here; (with_reducible show wpAny _ _ (eval (Expr.Call _ _ [] _) _) _ _ _); k_dflt (refine Call_ ?_)))
  (k_with "!exec Raise some none" => first | (k_here; (with_reducible show wpAny _ _ (exec (Stmt.Raise (some (Expr.Call (Expr.Name (PySem.Str.ofString "ValueError") _) _ _ _)) none _) _) _ _ _); k_dflt (refine Raise_new rfl ?_)) | (k_here; (with_reducible show wpAny _ _ (exec (Stmt.Raise (some (Expr.Call (Expr.Name (PySem.Str.ofString "TypeError") _) _ _ _)) none _) _) _ _ _); k_dflt (refine Raise_new rfl ?_)))
  (k_with "!leaving ref" => first | (k_here; (with_reducible rename KtsDicts _ _ => kdX); k_dflt (first | (refine' leave_raiseS ?zqk1 ?zqk0 ?zqk2 ?zqk3 ?_; (case zqk0 => first | assumption | exact Heap.MadeExc.of (by assumption)); (case zqk2 => assumption); (case zqk1 => assumption); (case zqk3 => k_asm); k_whole; intro h' t' S' R' U'; (try dsimp only at S' R' U' ⊢)) | (refine' leave_onS ?zqk1 ?zqk2 ?zqk3 ?zqk4 ?_; (case zqk3 => assumption); (case zqk2 => assumption); (case zqk1 => assumption); (case zqk4 => assumption); k_whole; intro h' S' R' U'; (try dsimp only at S' R' U' ⊢)) | (refine' leave_newS ?zqk1 ?zqk0 ?zqk2 ?zqk3 ?_; (case zqk0 => assumption); (case zqk2 => assumption); (case zqk1 => assumption); (case zqk3 => k_asm); k_whole; intro h' S' R' U'; (try dsimp only at S' R' U' ⊢)) | (refine' leave_onSN ?zqk1 ?zqk2 ?zqk3 ?zqk4 ?_; (case zqk3 => assumption); (case zqk2 => assumption); (case zqk1 => assumption); (case zqk4 => assumption); k_whole; intro h' S' R' U'; (try dsimp only at S' R' U' ⊢)))))
  (k_with "!eval Name" => first | (k_here; (first | (with_reducible show wpAny _ _ (eval (Expr.Name _ _) (envOf _ _ _ _ _)) _ _ _) | (with_reducible show wpAny _ _ (eval (Expr.Name _ _) (envOfC _ _ _ _ _)) _ _ _)); k_dflt (first | (refine' nameX_L ?zqF ?zqv ?_ ?zqa ?zqb; (case zqF => k_asm); (case zqv => rfl); (case zqa => rfl); (case zqb => kernel_rfl); k_whole) | (refine' nameX_K ?zqF ?zqX ?zqT ?zqe ?_ ?zqa ?zqb; (case zqT => k_asm); (case zqX => k_asm); (case zqF => k_asm); (case zqe => k_is); (case zqa => rfl); (case zqb => kernel_rfl); k_whole) | (refine' nameX_B ?zqF ?zqX ?zqT ?zqe ?zqv ?zqn ?_ ?zqa ?zqb; (case zqT => k_asm); (case zqX => k_asm); (case zqF => k_asm); (case zqe => k_is); (case zqv => boot_fast); (case zqn => decide); (case zqa => rfl); (case zqb => kernel_rfl); k_whole))))
  (k_with "k_mem" => (assumption))
  (k_with "!execs cons" => (k_here; dsimp only))
  (k_with "!execs nil" => (k_here; dsimp only))
  (k_with "!call builtin:len" => (k_here; (with_reducible show wpAny _ _ (call (Value.builtin "len") [Value.bytes _ _]) _ _ _); (refine len_bytesV (by (try simp only [Array.size_append, List.size_toArray, octs_size, List.length_cons, List.length_nil, List.length_append]); omega) (by simp only [Array.size_append, List.size_toArray, octs_size, List.length_cons, List.length_nil, List.length_append]; rfl) ?_); intro _ _))
  (k_with "!SeqLeaf" => ((with_reducible show SeqLeaf ((_ = @ite _ _ _ _ _) ∧ Keeps _ _)); refine SeqLeaf.intro ⟨?_, ?_⟩; focus (first | (rw [if_neg (by assumption)]; done) | (rw [if_pos (by assumption)]; done) | (rw [if_neg (by assumption)]; exact rfl) | (rw [if_pos (by assumption)]; exact rfl)); focus (with_unfolding_all exact ⟨_, _, rfl, fun _ _ e => e⟩)))
  (k_with "!setItem ref int" => (k_here; (with_reducible show wpAny _ _ (setItem (Value.ref _) (Value.int _ _) (Value.int _ _)) _ _ _); k_dflt (refine' ksa_set ?zqk1 ?zqk2 ?zqk3 ?zqk4 ?zqk5 ?zqk6 ?zqk7 ?_; (case zqk1 => k_asm); (case zqk2 => k_asm); (case zqk3 => k_upd); (case zqk4 => with_reducible assumption); (case zqk5 => (have h7 := len_pos_of (by assumption); omega)); (case zqk6 => omega); (case zqk7 => omega); k_whole); intro h' F' N' hi' hl' hs'; (try k_sweep)))
  (k_with "!binaryOp Mult int int" => (k_here; (refine mul_int ?_ (mul_pow_ok (by omega)))))
  (k_with "!subscriptTail" => (k_here; (with_reducible show wpAny _ _ (subscriptTail _ _ (Value.ref _) (Value.int _ _)) _ _ _); refine' item_lst ?zqk1 ?zqk2 ?zqk3 ?zqk4 ?zqk5 ?_ ?zqk6; (case zqk1 => exact News.isList (by assumption) (by k_mem)); (case zqk2 => assumption); (case zqk3 => first | omega | (have h7 := len_pos_of (by assumption); omega)); (case zqk4 => omega); (case zqk5 => omega); (case zqk6 => with_unfolding_all rfl); intro _))
  (k_with "!binaryOp Add bytes bytes" => (k_here; (with_reducible show wpAny _ _ (binaryOp Operator.Add (Value.bytes _ _) (Value.bytes _ _)) _ _ _); (refine KBy.add_bytes (by (try simp only [Array.size_append, List.size_toArray, byteArr_size, List.length_cons, List.length_nil, List.length_map]); omega) ?_); intro _ _))
  trivial
section
variable {w : World} {s₁ s : Shared} {loose : List Str} {mean : ExcName → Option Value} {mg mb : Str → Option Value} {l : Addr} {vs : List Value} {ns : List Int} {h₁ : Heap} {tk : Nat} {oS oB oL oH : Obj} {Q : Flow → Shared → Prop}
  (X : (K0 w.params).In s₁.heap) (T : Top q1 loose mean mg mb s₁.heap) (hL : s₁.heap.IsList l vs.toArray) (hI : IntsAre vs ns) (hlen : ns.length ≤ 63) (hg : s₁.gens = #[]) (B : Below callerA s₁.heap [] s₁.heap)
include X T hL hI hlen hg B
theorem segNB {sd : Int} {b : Bool} {t₃ : Tok} {p : Int} {kd : Array UInt8} {t₁ t₂ : Tok} {ms : List Int} {ys : List Value} {D : Addr} {lo hi : Int} {t₄ t₅ : Tok} {g : Bool} {dv : Value} {V dV : Addr} {va vb vc vd ve : Tok} {ko : Array UInt8} {g2 : Bool} {t₆ : Tok}
  (F' : Fr s₁.heap s₁.heap.objs.size h₁ (fun y => if y = "plain" then some (Value.bool g2) else if y = "other" then some (Value.bytes ko t₆) else if y = "vector" then some (Value.ref V) else if y = "due" then some (dv) else if y = "good" then some (Value.bool g) else if y = "numbers" then some (Value.ref D) else if y = "padding" then some (Value.int p t₁) else if y = "kind" then some (Value.bytes kd t₂) else mScr s₁.heap.objs.size l y))
  (N' : News s₁.heap s₁.heap.objs.size h₁ [(V, instObj 141 dV), (dV, dictOf [⟨PyData.keyHash w.params "data", .str "data" va, .ref D⟩, ⟨PyData.keyHash w.params "dtype", .str "dtype" vb, .bytes kd vc⟩, ⟨PyData.keyHash w.params "padding", .str "padding" vd, .int p ve⟩] 3), (D, LCg.lst ys), (s₁.heap.objs.size + 1 + 1 + 1 + 1, oH), (s₁.heap.objs.size + 1 + 1 + 1, oL), (s₁.heap.objs.size + 1 + 1, oB), (s₁.heap.objs.size + 1, oS)])
  (dS : oS.data = .cell (some (.int sd t₃))) (dB : oB.data = .cell (some (.bool b))) (dL : oL.data = .cell (some (.int lo t₄))) (dH : oH.data = .cell (some (.int hi t₅))) (hp : 0 ≤ p ∧ p ≤ 255) (hK : KD b kd) (hY : IntsAre ys ms) (hm : ms.length ≤ 8) (hD : s₁.heap.objs.size + 1 + 1 + 1 + 1 ≠ D ∧ s₁.heap.objs.size + 1 + 1 + 1 ≠ D ∧ s₁.heap.objs.size + 1 + 1 ≠ D ∧ s₁.heap.objs.size + 1 ≠ D) (hG : g = true ↔ Good b p ms) (hV : @LT.lt Nat _ D dV ∧ @LT.lt Nat _ dV V) (hO : KD (!b) ko) (hP : g2 = true ↔ Good b 0 ms) (hg1 : g = false)
  (kont : ∀ (mv : Option Value) (h' : Heap) (tk' : Nat), Fr s₁.heap s₁.heap.objs.size h' (fun y => if y = "made" then mv else if y = "plain" then some (Value.bool g2) else if y = "other" then some (Value.bytes ko t₆) else if y = "vector" then some (Value.ref V) else if y = "due" then some (dv) else if y = "good" then some (Value.bool g) else if y = "numbers" then some (Value.ref D) else if y = "padding" then some (Value.int p t₁) else if y = "kind" then some (Value.bytes kd t₂) else mScr s₁.heap.objs.size l y) → News s₁.heap s₁.heap.objs.size h' [(V, instObj 141 dV), (dV, dictOf [⟨PyData.keyHash w.params "data", .str "data" va, .ref D⟩, ⟨PyData.keyHash w.params "dtype", .str "dtype" vb, .bytes kd vc⟩, ⟨PyData.keyHash w.params "padding", .str "padding" vd, .int p ve⟩] 3), (D, LCg.lst ys), (s₁.heap.objs.size + 1 + 1 + 1 + 1, oH), (s₁.heap.objs.size + 1 + 1 + 1, oL), (s₁.heap.objs.size + 1 + 1, oB), (s₁.heap.objs.size + 1, oS)] → True → wpAny (model P1 w) (callerA.deeper (envL s₁.heap.objs.size)) (execs (restS 17) (envL s₁.heap.objs.size)) Q (fun _ _ => False) { s₁ with heap := h', toks := tk' }) :
  wpAny (model P1 w) (callerA.deeper (envL s₁.heap.objs.size)) (execs (restS 16) (envL s₁.heap.objs.size)) Q (fun _ _ => False) { s₁ with heap := h₁, toks := tk } := by
  rw [restS_eq 16 1 17]
  refine execs_hold ?_
  dsimp only [lawS, List.drop, List.take]
  subst hg1
  k_steps
  all_goals (refine' kont none _ _ ?kF ?kN True.intro; (case kN => (first | k_asm | (refine' cb_drop ?cbN ?cbS; (case cbN => k_asm); (case cbS => (repeat (first | (intro p hp; (repeat (first | exact hp | exact List.mem_append_left _ hp | apply List.mem_cons_of_mem)); done) | (refine' sub_cons ?_ ?_; focus k_mem))))))); (case kF => exact fr_none (by k_asm) (by first | rfl | with_unfolding_all rfl | decide)))
end
end Mine
end
section
namespace Mine
theorem wdSO0 : True := by
  k_with_none
  (k_with "!ite" => first | (k_closed; k_dflt (first | refine PySem.W.ite_pos (by decide) ?_ | refine PySem.W.ite_neg (by decide) ?_)))
  (k_with "!eval Call" => first | (k_here; (with_reducible show wpAny _ _ (eval (Expr.Call _ _ [] _) _) _ _ _); k_dflt (refine Call_ ?_)))
  (k_with "!exec Raise some none" => first | (k_here; (with_reducible show wpAny _ _ (exec (Stmt.Raise (some (Expr.Call (Expr.Name (PySem.Str.ofString "ValueError") _) _ _ _)) none _) _) _ _ _); k_dflt (refine Raise_new rfl ?_)) | (k_here; (with_reducible show wpAny _ _ (exec (Stmt.Raise (some (Expr.Call (Expr.Name (PySem.Str.ofString "TypeError") _) _ _ _)) none _) _) _ _ _); k_dflt (refine Raise_new rfl ?_)))
  (k_with "!leaving ref" => first | (k_here; (with_reducible rename KtsDicts _ _ => kdX); k_dflt (first | (refine' leave_raiseS ?zqk1 ?zqk0 ?zqk2 ?zqk3 ?_; (case zqk0 => first | assumption | exact Heap.MadeExc.of (by assumption)); (case zqk2 => assumption); (case zqk1 => assumption); (case zqk3 => k_asm); k_whole; intro h' t' S' R' U'; (try dsimp only at S' R' U' ⊢)) | (refine' leave_onS ?zqk1 ?zqk2 ?zqk3 ?zqk4 ?_; (case zqk3 => assumption); (case zqk2 => assumption); (case zqk1 => assumption); (case zqk4 => assumption); k_whole; intro h' S' R' U'; (try dsimp only at S' R' U' ⊢)) | (refine' leave_newS ?zqk1 ?zqk0 ?zqk2 ?zqk3 ?_; (case zqk0 => assumption); (case zqk2 => assumption); (case zqk1 => assumption); (case zqk3 => k_asm); k_whole; intro h' S' R' U'; (try dsimp only at S' R' U' ⊢)) | (refine' leave_onSN ?zqk1 ?zqk2 ?zqk3 ?zqk4 ?_; (case zqk3 => assumption); (case zqk2 => assumption); (case zqk1 => assumption); (case zqk4 => assumption); k_whole; intro h' S' R' U'; (try dsimp only at S' R' U' ⊢)))))
  (k_with "!eval Name" => first | (k_here; (first | (with_reducible show wpAny _ _ (eval (Expr.Name _ _) (envOf _ _ _ _ _)) _ _ _) | (with_reducible show wpAny _ _ (eval (Expr.Name _ _) (envOfC _ _ _ _ _)) _ _ _)); k_dflt (first | (refine' nameX_L ?zqF ?zqv ?_ ?zqa ?zqb; (case zqF => k_asm); (case zqv => rfl); (case zqa => rfl); (case zqb => kernel_rfl); k_whole) | (refine' nameX_K ?zqF ?zqX ?zqT ?zqe ?_ ?zqa ?zqb; (case zqT => k_asm); (case zqX => k_asm); (case zqF => k_asm); (case zqe => k_is); (case zqa => rfl); (case zqb => kernel_rfl); k_whole) | (refine' nameX_B ?zqF ?zqX ?zqT ?zqe ?zqv ?zqn ?_ ?zqa ?zqb; (case zqT => k_asm); (case zqX => k_asm); (case zqF => k_asm); (case zqe => k_is); (case zqv => boot_fast); (case zqn => decide); (case zqa => rfl); (case zqb => kernel_rfl); k_whole))))
  (k_with "k_mem" => (assumption))
  (k_with "!execs cons" => (k_here; dsimp only))
  (k_with "!execs nil" => (k_here; dsimp only))
  (k_with "!call builtin:len" => (k_here; (with_reducible show wpAny _ _ (call (Value.builtin "len") [Value.bytes _ _]) _ _ _); (refine len_bytesV (by (try simp only [Array.size_append, List.size_toArray, octs_size, List.length_cons, List.length_nil, List.length_append]); omega) (by simp only [Array.size_append, List.size_toArray, octs_size, List.length_cons, List.length_nil, List.length_append]; rfl) ?_); intro _ _))
  (k_with "!SeqLeaf" => ((with_reducible show SeqLeaf ((_ = @ite _ _ _ _ _) ∧ Keeps _ _)); refine SeqLeaf.intro ⟨?_, ?_⟩; focus (first | (rw [if_neg (by assumption)]; done) | (rw [if_pos (by assumption)]; done) | (rw [if_neg (by assumption)]; exact rfl) | (rw [if_pos (by assumption)]; exact rfl)); focus (with_unfolding_all exact ⟨_, _, rfl, fun _ _ e => e⟩)))
  (k_with "!setItem ref int" => (k_here; (with_reducible show wpAny _ _ (setItem (Value.ref _) (Value.int _ _) (Value.int _ _)) _ _ _); k_dflt (refine' ksa_set ?zqk1 ?zqk2 ?zqk3 ?zqk4 ?zqk5 ?zqk6 ?zqk7 ?_; (case zqk1 => k_asm); (case zqk2 => k_asm); (case zqk3 => k_upd); (case zqk4 => with_reducible assumption); (case zqk5 => (have h7 := len_pos_of (by assumption); omega)); (case zqk6 => omega); (case zqk7 => omega); k_whole); intro h' F' N' hi' hl' hs'; (try k_sweep)))
  (k_with "!binaryOp Mult int int" => (k_here; (refine mul_int ?_ (mul_pow_ok (by omega)))))
  (k_with "!subscriptTail" => (k_here; (with_reducible show wpAny _ _ (subscriptTail _ _ (Value.ref _) (Value.int _ _)) _ _ _); refine' item_lst ?zqk1 ?zqk2 ?zqk3 ?zqk4 ?zqk5 ?_ ?zqk6; (case zqk1 => exact News.isList (by assumption) (by k_mem)); (case zqk2 => assumption); (case zqk3 => first | omega | (have h7 := len_pos_of (by assumption); omega)); (case zqk4 => omega); (case zqk5 => omega); (case zqk6 => with_unfolding_all rfl); intro _))
  (k_with "!binaryOp Add bytes bytes" => (k_here; (with_reducible show wpAny _ _ (binaryOp Operator.Add (Value.bytes _ _) (Value.bytes _ _)) _ _ _); (refine KBy.add_bytes (by (try simp only [Array.size_append, List.size_toArray, byteArr_size, List.length_cons, List.length_nil, List.length_map]); omega) ?_); intro _ _))
  trivial
section
variable {w : World} {s₁ s : Shared} {loose : List Str} {mean : ExcName → Option Value} {mg mb : Str → Option Value} {l : Addr} {vs : List Value} {ns : List Int} {h₁ : Heap} {tk : Nat} {oS oB oL oH : Obj} {Q : Flow → Shared → Prop}
  (X : (K0 w.params).In s₁.heap) (T : Top q1 loose mean mg mb s₁.heap) (hL : s₁.heap.IsList l vs.toArray) (hI : IntsAre vs ns) (hlen : ns.length ≤ 63) (hg : s₁.gens = #[]) (B : Below callerA s₁.heap [] s₁.heap)
include X T hL hI hlen hg B
theorem segO {sd : Int} {b : Bool} {t₃ : Tok} {p : Int} {kd : Array UInt8} {t₁ t₂ : Tok} {ms : List Int} {ys : List Value} {D : Addr} {lo hi : Int} {t₄ t₅ : Tok} {g : Bool} {dv : Value} {V dV : Addr} {va vb vc vd ve : Tok} {ko : Array UInt8} {g2 : Bool} {t₆ : Tok} {mv : Option Value}
  (F' : Fr s₁.heap s₁.heap.objs.size h₁ (fun y => if y = "made" then mv else if y = "plain" then some (Value.bool g2) else if y = "other" then some (Value.bytes ko t₆) else if y = "vector" then some (Value.ref V) else if y = "due" then some (dv) else if y = "good" then some (Value.bool g) else if y = "numbers" then some (Value.ref D) else if y = "padding" then some (Value.int p t₁) else if y = "kind" then some (Value.bytes kd t₂) else mScr s₁.heap.objs.size l y))
  (N' : News s₁.heap s₁.heap.objs.size h₁ [(V, instObj 141 dV), (dV, dictOf [⟨PyData.keyHash w.params "data", .str "data" va, .ref D⟩, ⟨PyData.keyHash w.params "dtype", .str "dtype" vb, .bytes kd vc⟩, ⟨PyData.keyHash w.params "padding", .str "padding" vd, .int p ve⟩] 3), (D, LCg.lst ys), (s₁.heap.objs.size + 1 + 1 + 1 + 1, oH), (s₁.heap.objs.size + 1 + 1 + 1, oL), (s₁.heap.objs.size + 1 + 1, oB), (s₁.heap.objs.size + 1, oS)])
  (dS : oS.data = .cell (some (.int sd t₃))) (dB : oB.data = .cell (some (.bool b))) (dL : oL.data = .cell (some (.int lo t₄))) (dH : oH.data = .cell (some (.int hi t₅))) (hp : 0 ≤ p ∧ p ≤ 255) (hK : KD b kd) (hY : IntsAre ys ms) (hm : ms.length ≤ 8) (hD : s₁.heap.objs.size + 1 + 1 + 1 + 1 ≠ D ∧ s₁.heap.objs.size + 1 + 1 + 1 ≠ D ∧ s₁.heap.objs.size + 1 + 1 ≠ D ∧ s₁.heap.objs.size + 1 ≠ D) (hG : g = true ↔ Good b p ms) (hV : @LT.lt Nat _ D dV ∧ @LT.lt Nat _ dV V) (hO : KD (!b) ko) (hP : g2 = true ↔ Good b 0 ms)
  (kont : ∀ (nr he : Array UInt8) (t₇ t₈ : Tok) (h' : Heap) (tk' : Nat), Fr s₁.heap s₁.heap.objs.size h' (fun y => if y = "head" then some (Value.bytes he t₈) else if y = "near" then some (Value.bytes nr t₇) else if y = "made" then mv else if y = "plain" then some (Value.bool g2) else if y = "other" then some (Value.bytes ko t₆) else if y = "vector" then some (Value.ref V) else if y = "due" then some (dv) else if y = "good" then some (Value.bool g) else if y = "numbers" then some (Value.ref D) else if y = "padding" then some (Value.int p t₁) else if y = "kind" then some (Value.bytes kd t₂) else mScr s₁.heap.objs.size l y) → News s₁.heap s₁.heap.objs.size h' [(V, instObj 141 dV), (dV, dictOf [⟨PyData.keyHash w.params "data", .str "data" va, .ref D⟩, ⟨PyData.keyHash w.params "dtype", .str "dtype" vb, .bytes kd vc⟩, ⟨PyData.keyHash w.params "padding", .str "padding" vd, .int p ve⟩] 3), (D, LCg.lst ys), (s₁.heap.objs.size + 1 + 1 + 1 + 1, oH), (s₁.heap.objs.size + 1 + 1 + 1, oL), (s₁.heap.objs.size + 1 + 1, oB), (s₁.heap.objs.size + 1, oS)] → nr.size ≤ 8 → he.size ≤ 2 → wpAny (model P1 w) (callerA.deeper (envL s₁.heap.objs.size)) (execs (restS 19) (envL s₁.heap.objs.size)) Q (fun _ _ => False) { s₁ with heap := h', toks := tk' }) :
  wpAny (model P1 w) (callerA.deeper (envL s₁.heap.objs.size)) (execs (restS 17) (envL s₁.heap.objs.size)) Q (fun _ _ => False) { s₁ with heap := h₁, toks := tk } := by
  rw [restS_eq 17 2 19]
  refine execs_hold ?_
  dsimp only [lawS, List.drop, List.take]
  k_steps
  all_goals (refine' kont _ _ _ _ _ _ ?kF ?kN ?kn ?kh; (case kF => k_asm); (case kN => (first | k_asm | (refine' cb_drop ?cbN ?cbS; (case cbN => k_asm); (case cbS => (repeat (first | (intro p hp; (repeat (first | exact hp | exact List.mem_append_left _ hp | apply List.mem_cons_of_mem)); done) | (refine' sub_cons ?_ ?_; focus k_mem))))))); (case kn => rw [byteArr_size, List.length_map]; omega); (case kh => simp))
end
end Mine
end
section
namespace Mine
theorem wdSP0 : True := by
  k_with_none
  (k_with "!ite" => first | (k_closed; k_dflt (first | refine PySem.W.ite_pos (by decide) ?_ | refine PySem.W.ite_neg (by decide) ?_)))
  (k_with "!eval Call" => first | (k_here; (with_reducible show wpAny _ _ (eval (Expr.Call _ _ [] _) _) _ _ _); k_dflt (refine Call_ ?_)))
  (k_with "!exec Raise some none" => first | (k_here; (with_reducible show wpAny _ _ (exec (Stmt.Raise (some (Expr.Call (Expr.Name (PySem.Str.ofString "ValueError") _) _ _ _)) none _) _) _ _ _); k_dflt (refine Raise_new rfl ?_)) | (k_here; (with_reducible show wpAny _ _ (exec (Stmt.Raise (some (Expr.Call (Expr.Name (PySem.Str.ofString "TypeError") _) _ _ _)) none _) _) _ _ _); k_dflt (refine Raise_new rfl ?_)))
  (k_with "!leaving ref" => first | (k_here; (with_reducible rename KtsDicts _ _ => kdX); k_dflt (first | (refine' leave_raiseS ?zqk1 ?zqk0 ?zqk2 ?zqk3 ?_; (case zqk0 => first | assumption | exact Heap.MadeExc.of (by assumption)); (case zqk2 => assumption); (case zqk1 => assumption); (case zqk3 => k_asm); k_whole; intro h' t' S' R' U'; (try dsimp only at S' R' U' ⊢)) | (refine' leave_onS ?zqk1 ?zqk2 ?zqk3 ?zqk4 ?_; (case zqk3 => assumption); (case zqk2 => assumption); (case zqk1 => assumption); (case zqk4 => assumption); k_whole; intro h' S' R' U'; (try dsimp only at S' R' U' ⊢)) | (refine' leave_newS ?zqk1 ?zqk0 ?zqk2 ?zqk3 ?_; (case zqk0 => assumption); (case zqk2 => assumption); (case zqk1 => assumption); (case zqk3 => k_asm); k_whole; intro h' S' R' U'; (try dsimp only at S' R' U' ⊢)) | (refine' leave_onSN ?zqk1 ?zqk2 ?zqk3 ?zqk4 ?_; (case zqk3 => assumption); (case zqk2 => assumption); (case zqk1 => assumption); (case zqk4 => assumption); k_whole; intro h' S' R' U'; (try dsimp only at S' R' U' ⊢)))))
  (k_with "!eval Name" => first | (k_here; (first | (with_reducible show wpAny _ _ (eval (Expr.Name _ _) (envOf _ _ _ _ _)) _ _ _) | (with_reducible show wpAny _ _ (eval (Expr.Name _ _) (envOfC _ _ _ _ _)) _ _ _)); k_dflt (first | (refine' nameX_L ?zqF ?zqv ?_ ?zqa ?zqb; (case zqF => k_asm); (case zqv => rfl); (case zqa => rfl); (case zqb => kernel_rfl); k_whole) | (refine' nameX_K ?zqF ?zqX ?zqT ?zqe ?_ ?zqa ?zqb; (case zqT => k_asm); (case zqX => k_asm); (case zqF => k_asm); (case zqe => k_is); (case zqa => rfl); (case zqb => kernel_rfl); k_whole) | (refine' nameX_B ?zqF ?zqX ?zqT ?zqe ?zqv ?zqn ?_ ?zqa ?zqb; (case zqT => k_asm); (case zqX => k_asm); (case zqF => k_asm); (case zqe => k_is); (case zqv => boot_fast); (case zqn => decide); (case zqa => rfl); (case zqb => kernel_rfl); k_whole))))
  (k_with "k_mem" => (assumption))
  (k_with "!execs cons" => (k_here; dsimp only))
  (k_with "!execs nil" => (k_here; dsimp only))
  (k_with "!call builtin:len" => (k_here; (with_reducible show wpAny _ _ (call (Value.builtin "len") [Value.bytes _ _]) _ _ _); (refine len_bytesV (by (try simp only [Array.size_append, List.size_toArray, octs_size, List.length_cons, List.length_nil, List.length_append]); omega) (by simp only [Array.size_append, List.size_toArray, octs_size, List.length_cons, List.length_nil, List.length_append]; rfl) ?_); intro _ _))
  (k_with "!SeqLeaf" => ((with_reducible show SeqLeaf ((_ = @ite _ _ _ _ _) ∧ Keeps _ _)); refine SeqLeaf.intro ⟨?_, ?_⟩; focus (first | (rw [if_neg (by assumption)]; done) | (rw [if_pos (by assumption)]; done) | (rw [if_neg (by assumption)]; exact rfl) | (rw [if_pos (by assumption)]; exact rfl)); focus (with_unfolding_all exact ⟨_, _, rfl, fun _ _ e => e⟩)))
  (k_with "!setItem ref int" => (k_here; (with_reducible show wpAny _ _ (setItem (Value.ref _) (Value.int _ _) (Value.int _ _)) _ _ _); k_dflt (refine' ksa_set ?zqk1 ?zqk2 ?zqk3 ?zqk4 ?zqk5 ?zqk6 ?zqk7 ?_; (case zqk1 => k_asm); (case zqk2 => k_asm); (case zqk3 => k_upd); (case zqk4 => with_reducible assumption); (case zqk5 => (have h7 := len_pos_of (by assumption); omega)); (case zqk6 => omega); (case zqk7 => omega); k_whole); intro h' F' N' hi' hl' hs'; (try k_sweep)))
  (k_with "!binaryOp Mult int int" => (k_here; (refine mul_int ?_ (mul_pow_ok (by omega)))))
  (k_with "!subscriptTail" => (k_here; (with_reducible show wpAny _ _ (subscriptTail _ _ (Value.ref _) (Value.int _ _)) _ _ _); refine' item_lst ?zqk1 ?zqk2 ?zqk3 ?zqk4 ?zqk5 ?_ ?zqk6; (case zqk1 => exact News.isList (by assumption) (by k_mem)); (case zqk2 => assumption); (case zqk3 => first | omega | (have h7 := len_pos_of (by assumption); omega)); (case zqk4 => omega); (case zqk5 => omega); (case zqk6 => with_unfolding_all rfl); intro _))
  (k_with "!binaryOp Add bytes bytes" => (k_here; (with_reducible show wpAny _ _ (binaryOp Operator.Add (Value.bytes _ _) (Value.bytes _ _)) _ _ _); (refine KBy.add_bytes (by (try simp only [Array.size_append, List.size_toArray, byteArr_size, List.length_cons, List.length_nil, List.length_map]); omega) ?_); intro _ _))
  trivial
theorem wdSP1 : True := by
  (k_with "!subscriptTail" => first | (k_here; (with_reducible show wpAny _ _ (subscriptTail _ (Expr.Slice _ _ none _) (Value.bytes _ _) (Value.ref _)) _ _ _); (with_reducible rename Fr _ _ _ _ => F'); (with_reducible rename News _ _ _ _ => N'); (refine slice_BV (s := ⟨_, _, _, _, _⟩) F' N' (by constructor) (by constructor) (by omega) rfl ?_); intro _ _ _ _ _) | (k_here; (with_reducible show wpAny _ _ (subscriptTail _ _ (Value.ref _) (Value.int _ _)) _ _ _); refine' item_lst ?zqk1 ?zqk2 ?zqk3 ?zqk4 ?zqk5 ?_ ?zqk6; (case zqk1 => exact News.isList (by assumption) (by k_mem)); (case zqk2 => assumption); (case zqk3 => first | omega | (have h7 := len_pos_of (by assumption); omega)); (case zqk4 => omega); (case zqk5 => omega); (case zqk6 => with_unfolding_all rfl); intro _))
  trivial
section
variable {w : World} {s₁ s : Shared} {loose : List Str} {mean : ExcName → Option Value} {mg mb : Str → Option Value} {l : Addr} {vs : List Value} {ns : List Int} {h₁ : Heap} {tk : Nat} {oS oB oL oH : Obj} {Q : Flow → Shared → Prop}
  (X : (K0 w.params).In s₁.heap) (T : Top q1 loose mean mg mb s₁.heap) (hL : s₁.heap.IsList l vs.toArray) (hI : IntsAre vs ns) (hlen : ns.length ≤ 63) (hg : s₁.gens = #[]) (B : Below callerA s₁.heap [] s₁.heap)
include X T hL hI hlen hg B
theorem segP {sd : Int} {b : Bool} {t₃ : Tok} {p : Int} {kd : Array UInt8} {t₁ t₂ : Tok} {ms : List Int} {ys : List Value} {D : Addr} {lo hi : Int} {t₄ t₅ : Tok} {g : Bool} {dv : Value} {V dV : Addr} {va vb vc vd ve : Tok} {ko : Array UInt8} {g2 : Bool} {t₆ : Tok} {mv : Option Value} {nr he : Array UInt8} {t₇ t₈ : Tok}
  (F' : Fr s₁.heap s₁.heap.objs.size h₁ (fun y => if y = "head" then some (Value.bytes he t₈) else if y = "near" then some (Value.bytes nr t₇) else if y = "made" then mv else if y = "plain" then some (Value.bool g2) else if y = "other" then some (Value.bytes ko t₆) else if y = "vector" then some (Value.ref V) else if y = "due" then some (dv) else if y = "good" then some (Value.bool g) else if y = "numbers" then some (Value.ref D) else if y = "padding" then some (Value.int p t₁) else if y = "kind" then some (Value.bytes kd t₂) else mScr s₁.heap.objs.size l y))
  (N' : News s₁.heap s₁.heap.objs.size h₁ [(V, instObj 141 dV), (dV, dictOf [⟨PyData.keyHash w.params "data", .str "data" va, .ref D⟩, ⟨PyData.keyHash w.params "dtype", .str "dtype" vb, .bytes kd vc⟩, ⟨PyData.keyHash w.params "padding", .str "padding" vd, .int p ve⟩] 3), (D, LCg.lst ys), (s₁.heap.objs.size + 1 + 1 + 1 + 1, oH), (s₁.heap.objs.size + 1 + 1 + 1, oL), (s₁.heap.objs.size + 1 + 1, oB), (s₁.heap.objs.size + 1, oS)])
  (dS : oS.data = .cell (some (.int sd t₃))) (dB : oB.data = .cell (some (.bool b))) (dL : oL.data = .cell (some (.int lo t₄))) (dH : oH.data = .cell (some (.int hi t₅))) (hp : 0 ≤ p ∧ p ≤ 255) (hK : KD b kd) (hY : IntsAre ys ms) (hm : ms.length ≤ 8) (hD : s₁.heap.objs.size + 1 + 1 + 1 + 1 ≠ D ∧ s₁.heap.objs.size + 1 + 1 + 1 ≠ D ∧ s₁.heap.objs.size + 1 + 1 ≠ D ∧ s₁.heap.objs.size + 1 ≠ D) (hG : g = true ↔ Good b p ms) (hV : @LT.lt Nat _ D dV ∧ @LT.lt Nat _ dV V) (hO : KD (!b) ko) (hP : g2 = true ↔ Good b 0 ms) (hn8 : nr.size ≤ 8) (hh2 : he.size ≤ 2) (hQ : ∀ (h' : Heap) (tk' : Nat) (m' : Str → Option Value), Fr s₁.heap s₁.heap.objs.size h' m' → Q (.ret (.bool true)) { s₁ with heap := h', toks := tk' })
  (kont : ∀ (h' : Heap) (tk' : Nat), Fr s₁.heap s₁.heap.objs.size h' (fun y => if y = "head" then some (Value.bytes he t₈) else if y = "near" then some (Value.bytes nr t₇) else if y = "made" then mv else if y = "plain" then some (Value.bool g2) else if y = "other" then some (Value.bytes ko t₆) else if y = "vector" then some (Value.ref V) else if y = "due" then some (dv) else if y = "good" then some (Value.bool g) else if y = "numbers" then some (Value.ref D) else if y = "padding" then some (Value.int p t₁) else if y = "kind" then some (Value.bytes kd t₂) else mScr s₁.heap.objs.size l y) → News s₁.heap s₁.heap.objs.size h' [(V, instObj 141 dV), (dV, dictOf [⟨PyData.keyHash w.params "data", .str "data" va, .ref D⟩, ⟨PyData.keyHash w.params "dtype", .str "dtype" vb, .bytes kd vc⟩, ⟨PyData.keyHash w.params "padding", .str "padding" vd, .int p ve⟩] 3), (D, LCg.lst ys), (s₁.heap.objs.size + 1 + 1 + 1 + 1, oH), (s₁.heap.objs.size + 1 + 1 + 1, oL), (s₁.heap.objs.size + 1 + 1, oB), (s₁.heap.objs.size + 1, oS)] → (∀ x1 l, he ++ nr ≠ (39 :: x1 :: l).toArray) → wpAny (model P1 w) (callerA.deeper (envL s₁.heap.objs.size)) (execs (restS 20) (envL s₁.heap.objs.size)) Q (fun _ _ => False) { s₁ with heap := h', toks := tk' }) :
  wpAny (model P1 w) (callerA.deeper (envL s₁.heap.objs.size)) (execs (restS 19) (envL s₁.heap.objs.size)) Q (fun _ _ => False) { s₁ with heap := h₁, toks := tk } := by
  rw [restS_eq 19 1 20]
  refine execs_hold ?_
  dsimp only [lawS, List.drop, List.take]
  k_steps
  all_goals first
    | exact hQ _ _ _ (by assumption)
    | (refine' kont _ _ ?kF ?kN ?kh; (case kF => k_asm); (case kN => (first | k_asm | (refine' cb_drop ?cbN ?cbS; (case cbN => k_asm); (case cbS => (repeat (first | (intro p hp; (repeat (first | exact hp | exact List.mem_append_left _ hp | apply List.mem_cons_of_mem)); done) | (refine' sub_cons ?_ ?_; focus k_mem))))))); (case kh => first | exact h39_a (by assumption) (by assumption) | exact h39_b (by assumption) (by assumption)))
end
end Mine
end
section
namespace Mine
theorem wdSQY0 : True := by
  k_with_none
  (k_with "!ite" => first | (k_closed; k_dflt (first | refine PySem.W.ite_pos (by decide) ?_ | refine PySem.W.ite_neg (by decide) ?_)))
  (k_with "!eval Call" => first | (k_here; (with_reducible show wpAny _ _ (eval (Expr.Call _ _ [] _) _) _ _ _); k_dflt (refine Call_ ?_)))
  (k_with "!exec Raise some none" => first | (k_here; (with_reducible show wpAny _ _ (exec (Stmt.Raise (some (Expr.Call (Expr.Name (PySem.Str.ofString "ValueError") _) _ _ _)) none _) _) _ _ _); k_dflt (refine Raise_new rfl ?_)) | (k_here; (with_reducible show wpAny _ _ (exec (Stmt.Raise (some (Expr.Call (Expr.Name (PySem.Str.ofString "TypeError") _) _ _ _)) none _) _) _ _ _); k_dflt (refine Raise_new rfl ?_)))
  (k_with "!leaving ref" => first | (k_here; (with_reducible rename KtsDicts _ _ => kdX); k_dflt (first | (refine' leave_raiseS ?zqk1 ?zqk0 ?zqk2 ?zqk3 ?_; (case zqk0 => first | assumption | exact Heap.MadeExc.of (by assumption)); (case zqk2 => assumption); (case zqk1 => assumption); (case zqk3 => k_asm); k_whole; intro h' t' S' R' U'; (try dsimp only at S' R' U' ⊢)) | (refine' leave_onS ?zqk1 ?zqk2 ?zqk3 ?zqk4 ?_; (case zqk3 => assumption); (case zqk2 => assumption); (case zqk1 => assumption); (case zqk4 => assumption); k_whole; intro h' S' R' U'; (try dsimp only at S' R' U' ⊢)) | (refine' leave_newS ?zqk1 ?zqk0 ?zqk2 ?zqk3 ?_; (case zqk0 => assumption); (case zqk2 => assumption); (case zqk1 => assumption); (case zqk3 => k_asm); k_whole; intro h' S' R' U'; (try dsimp only at S' R' U' ⊢)) | (refine' leave_onSN ?zqk1 ?zqk2 ?zqk3 ?zqk4 ?_; (case zqk3 => assumption); (case zqk2 => assumption); (case zqk1 => assumption); (case zqk4 => assumption); k_whole; intro h' S' R' U'; (try dsimp only at S' R' U' ⊢)))))
  (k_with "!eval Name" => first | (k_here; (first | (with_reducible show wpAny _ _ (eval (Expr.Name _ _) (envOf _ _ _ _ _)) _ _ _) | (with_reducible show wpAny _ _ (eval (Expr.Name _ _) (envOfC _ _ _ _ _)) _ _ _)); k_dflt (first | (refine' nameX_L ?zqF ?zqv ?_ ?zqa ?zqb; (case zqF => k_asm); (case zqv => rfl); (case zqa => rfl); (case zqb => kernel_rfl); k_whole) | (refine' nameX_K ?zqF ?zqX ?zqT ?zqe ?_ ?zqa ?zqb; (case zqT => k_asm); (case zqX => k_asm); (case zqF => k_asm); (case zqe => k_is); (case zqa => rfl); (case zqb => kernel_rfl); k_whole) | (refine' nameX_B ?zqF ?zqX ?zqT ?zqe ?zqv ?zqn ?_ ?zqa ?zqb; (case zqT => k_asm); (case zqX => k_asm); (case zqF => k_asm); (case zqe => k_is); (case zqv => boot_fast); (case zqn => decide); (case zqa => rfl); (case zqb => kernel_rfl); k_whole))))
  (k_with "k_mem" => (assumption))
  (k_with "!execs cons" => (k_here; dsimp only))
  (k_with "!execs nil" => (k_here; dsimp only))
  (k_with "!call builtin:len" => (k_here; (with_reducible show wpAny _ _ (call (Value.builtin "len") [Value.bytes _ _]) _ _ _); (refine len_bytesV (by (try simp only [Array.size_append, List.size_toArray, octs_size, List.length_cons, List.length_nil, List.length_append]); omega) (by simp only [Array.size_append, List.size_toArray, octs_size, List.length_cons, List.length_nil, List.length_append]; rfl) ?_); intro _ _))
  (k_with "!SeqLeaf" => ((with_reducible show SeqLeaf ((_ = @ite _ _ _ _ _) ∧ Keeps _ _)); refine SeqLeaf.intro ⟨?_, ?_⟩; focus (first | (rw [if_neg (by assumption)]; done) | (rw [if_pos (by assumption)]; done) | (rw [if_neg (by assumption)]; exact rfl) | (rw [if_pos (by assumption)]; exact rfl)); focus (with_unfolding_all exact ⟨_, _, rfl, fun _ _ e => e⟩)))
  (k_with "!setItem ref int" => (k_here; (with_reducible show wpAny _ _ (setItem (Value.ref _) (Value.int _ _) (Value.int _ _)) _ _ _); k_dflt (refine' ksa_set ?zqk1 ?zqk2 ?zqk3 ?zqk4 ?zqk5 ?zqk6 ?zqk7 ?_; (case zqk1 => k_asm); (case zqk2 => k_asm); (case zqk3 => k_upd); (case zqk4 => with_reducible assumption); (case zqk5 => (have h7 := len_pos_of (by assumption); omega)); (case zqk6 => omega); (case zqk7 => omega); k_whole); intro h' F' N' hi' hl' hs'; (try k_sweep)))
  (k_with "!binaryOp Mult int int" => (k_here; (refine mul_int ?_ (mul_pow_ok (by omega)))))
  (k_with "!subscriptTail" => (k_here; (with_reducible show wpAny _ _ (subscriptTail _ _ (Value.ref _) (Value.int _ _)) _ _ _); refine' item_lst ?zqk1 ?zqk2 ?zqk3 ?zqk4 ?zqk5 ?_ ?zqk6; (case zqk1 => exact News.isList (by assumption) (by k_mem)); (case zqk2 => assumption); (case zqk3 => first | omega | (have h7 := len_pos_of (by assumption); omega)); (case zqk4 => omega); (case zqk5 => omega); (case zqk6 => with_unfolding_all rfl); intro _))
  (k_with "!binaryOp Add bytes bytes" => (k_here; (with_reducible show wpAny _ _ (binaryOp Operator.Add (Value.bytes _ _) (Value.bytes _ _)) _ _ _); (refine KBy.add_bytes (by (try simp only [Array.size_append, List.size_toArray, byteArr_size, List.length_cons, List.length_nil, List.length_map]); omega) ?_); intro _ _))
  trivial
theorem wdSQY1 : True := by
  (k_with "!call type:bytes" => (k_here; (with_reducible show wpAny _ _ (call (Value.type "bytes") [Value.bytes _ _]) _ _ _); refine bytes_id ?_))
  (k_with "!call ref" => first | (k_here; (try dsimp only [List.cons_append, List.nil_append]); (with_reducible show wpAny _ _ (call (Value.ref 1552) [Value.bytes _ _] _) _ _ _); k_dflt ((refine wpAny_call ?_); (refine' m_dueY  ?zqcB ?zqcF ?zqcX ?zqcN ?zqcT ?zqck ?zqcd ?zqcu  ?zqhd ?zqhde ?zqhok ?_); (case zqcN => k_asm); (case zqcB => k_asm); (case zqcF => k_asm); (case zqcX => k_asm); (case zqcT => k_asm); (case zqck => first | exact rfl | assumption); (case zqcd => k_room); (case zqcu => k_units); (case zqhd => assumption); (case zqhde => assumption); (case zqhok => assumption); intro z' T' zs' zk' vc' ve' h' tk' zI' F' N'; (try dsimp only); (try k_sweep); (try k_fold))) | (k_here; (try dsimp only [List.cons_append, List.nil_append]); (with_reducible show wpAny _ _ (call (Value.ref 1547) [Value.ref _] _) _ _ _); k_dflt ((refine wpAny_call ?_); (refine' m_rdY ?zqcXB ?zqcTB ?zqcB ?zqcF ?zqcX ?zqcN ?zqcT ?zqck ?zqcd ?zqcu ?zqMA ?zqMB ?zqhd ?zqh39 ?zqhde ?zqhs ?zqhok ?_); (case zqcN => k_asm); (case zqcB => k_asm); (case zqcXB => k_asm); (case zqcTB => k_asm); (case zqcF => k_asm); (case zqcX => k_asm); (case zqcT => k_asm); (case zqck => first | exact rfl | assumption); (case zqcd => k_room); (case zqcu => k_units); (case zqMA => k_mem); (case zqMB => k_mem); (case zqhd => assumption); (case zqh39 => assumption); (case zqhde => assumption); (case zqhs => rfl); (case zqhok => assumption); intro z' T' zs' zk' vc' ve' h' tk' zI' F' N'; (try dsimp only); (try k_sweep); (try k_fold))) | (k_here; (try dsimp only [List.cons_append, List.nil_append]); (with_reducible show wpAny _ _ (call (Value.ref 1547) [Value.ref _] _) _ _ _); k_dflt ((refine wpAny_call ?_); (refine' m_rdN ?zqcXB ?zqcTB ?zqcB ?zqcF ?zqcX ?zqcN ?zqcT ?zqck ?zqcd ?zqcu ?zqMA ?zqMB ?zqhd ?zqh39 ?zqhn ?_); (case zqcN => k_asm); (case zqcB => k_asm); (case zqcXB => k_asm); (case zqcTB => k_asm); (case zqcF => k_asm); (case zqcX => k_asm); (case zqcT => k_asm); (case zqck => first | exact rfl | assumption); (case zqcd => k_room); (case zqcu => k_units); (case zqMA => k_mem); (case zqMB => k_mem); (case zqhd => assumption); (case zqh39 => assumption); (case zqhn => first | assumption | exact rd_no (by decide)); intro t' h' tk' F' N'; (try dsimp only); (try k_sweep); (try k_fold))))
  (k_with "!compareOp NotEq ref ref" => (k_here; (with_reducible show wpAny _ _ (compareOp CmpOp.NotEq (Value.ref _) (Value.ref _)) _ _ _); k_dflt (refine' ne_sameT ?zql ?zqb ?zqu ?zqe ?_; (case zql => exact isTup_of (by k_asm) (by k_mem)); (case zqb => exact isTup_of (by k_asm) (by k_mem)); (case zqu => k_units); (case zqe => (refine ⟨ea_ints (News.isList (by k_asm) (by k_mem)) (News.isList (by k_asm) (by k_mem)) (by assumption) (by assumption) (by k_units), ea_bytes_same _ _ _, ea_int_same _ _ _, trivial⟩)))))
  trivial
section
variable {w : World} {s₁ s : Shared} {loose : List Str} {mean : ExcName → Option Value} {mg mb : Str → Option Value} {l : Addr} {vs : List Value} {ns : List Int} {h₁ : Heap} {tk : Nat} {oS oB oL oH : Obj} {Q : Flow → Shared → Prop}
  (X : (K0 w.params).In s₁.heap) (T : Top q1 loose mean mg mb s₁.heap) (hL : s₁.heap.IsList l vs.toArray) (hI : IntsAre vs ns) (hlen : ns.length ≤ 63) (hg : s₁.gens = #[]) (B : Below callerA s₁.heap [] s₁.heap)
include X T hL hI hlen hg B
theorem segQY {sd : Int} {b : Bool} {t₃ : Tok} {p : Int} {kd : Array UInt8} {t₁ t₂ : Tok} {ms : List Int} {ys : List Value} {D : Addr} {lo hi : Int} {t₄ t₅ : Tok} {g : Bool} {dv : Value} {V dV : Addr} {va vb vc vd ve : Tok} {ko : Array UInt8} {g2 : Bool} {t₆ : Tok} {mv : Option Value} {nr he : Array UInt8} {t₇ t₈ : Tok} {x0 x1 : UInt8} {lq : List UInt8}
  (F' : Fr s₁.heap s₁.heap.objs.size h₁ (fun y => if y = "head" then some (Value.bytes he t₈) else if y = "near" then some (Value.bytes nr t₇) else if y = "made" then mv else if y = "plain" then some (Value.bool g2) else if y = "other" then some (Value.bytes ko t₆) else if y = "vector" then some (Value.ref V) else if y = "due" then some (dv) else if y = "good" then some (Value.bool g) else if y = "numbers" then some (Value.ref D) else if y = "padding" then some (Value.int p t₁) else if y = "kind" then some (Value.bytes kd t₂) else mScr s₁.heap.objs.size l y))
  (N' : News s₁.heap s₁.heap.objs.size h₁ [(V, instObj 141 dV), (dV, dictOf [⟨PyData.keyHash w.params "data", .str "data" va, .ref D⟩, ⟨PyData.keyHash w.params "dtype", .str "dtype" vb, .bytes kd vc⟩, ⟨PyData.keyHash w.params "padding", .str "padding" vd, .int p ve⟩] 3), (D, LCg.lst ys), (s₁.heap.objs.size + 1 + 1 + 1 + 1, oH), (s₁.heap.objs.size + 1 + 1 + 1, oL), (s₁.heap.objs.size + 1 + 1, oB), (s₁.heap.objs.size + 1, oS)])
  (dS : oS.data = .cell (some (.int sd t₃))) (dB : oB.data = .cell (some (.bool b))) (dL : oL.data = .cell (some (.int lo t₄))) (dH : oH.data = .cell (some (.int hi t₅))) (hp : 0 ≤ p ∧ p ≤ 255) (hK : KD b kd) (hY : IntsAre ys ms) (hm : ms.length ≤ 8) (hD : s₁.heap.objs.size + 1 + 1 + 1 + 1 ≠ D ∧ s₁.heap.objs.size + 1 + 1 + 1 ≠ D ∧ s₁.heap.objs.size + 1 + 1 ≠ D ∧ s₁.heap.objs.size + 1 ≠ D) (hG : g = true ↔ Good b p ms) (hV : @LT.lt Nat _ D dV ∧ @LT.lt Nat _ dV V) (hO : KD (!b) ko) (hP : g2 = true ↔ Good b 0 ms) (hn8 : nr.size ≤ 8) (hh2 : he.size ≤ 2) (hQ : ∀ (h' : Heap) (tk' : Nat) (m' : Str → Option Value), Fr s₁.heap s₁.heap.objs.size h' m' → Q (.ret (.bool true)) { s₁ with heap := h', toks := tk' }) (h39 : ∀ x1 l, he ++ nr ≠ (39 :: x1 :: l).toArray) (hde : he ++ nr = (x0 :: x1 :: lq).toArray) (hok : RdOk x0 x1 lq)
  (kont : True) :
  wpAny (model P1 w) (callerA.deeper (envL s₁.heap.objs.size)) (execs (restS 20) (envL s₁.heap.objs.size)) Q (fun _ _ => False) { s₁ with heap := h₁, toks := tk } := by
  rw [restS_eq 20 2 22]
  refine execs_hold ?_
  dsimp only [lawS, List.drop, List.take]
  have hsz : (he ++ nr).size ≤ 66 := by simp; omega
  k_steps
  all_goals
   (rw [show ((Str.ofString "value") == (Str.ofString "value")) = true from by decide +kernel]
    exact hQ _ _ _ (by k_asm))
end
end Mine
end
section
namespace Mine
theorem wdSQN0 : True := by
  k_with_none
  (k_with "!ite" => first | (k_closed; k_dflt (first | refine PySem.W.ite_pos (by decide) ?_ | refine PySem.W.ite_neg (by decide) ?_)))
  (k_with "!eval Call" => first | (k_here; (with_reducible show wpAny _ _ (eval (Expr.Call _ _ [] _) _) _ _ _); k_dflt (refine Call_ ?_)))
  (k_with "!exec Raise some none" => first | (k_here; (with_reducible show wpAny _ _ (exec (Stmt.Raise (some (Expr.Call (Expr.Name (PySem.Str.ofString "ValueError") _) _ _ _)) none _) _) _ _ _); k_dflt (refine Raise_new rfl ?_)) | (k_here; (with_reducible show wpAny _ _ (exec (Stmt.Raise (some (Expr.Call (Expr.Name (PySem.Str.ofString "TypeError") _) _ _ _)) none _) _) _ _ _); k_dflt (refine Raise_new rfl ?_)))
  (k_with "!leaving ref" => first | (k_here; (with_reducible rename KtsDicts _ _ => kdX); k_dflt (first | (refine' leave_raiseS ?zqk1 ?zqk0 ?zqk2 ?zqk3 ?_; (case zqk0 => first | assumption | exact Heap.MadeExc.of (by assumption)); (case zqk2 => assumption); (case zqk1 => assumption); (case zqk3 => k_asm); k_whole; intro h' t' S' R' U'; (try dsimp only at S' R' U' ⊢)) | (refine' leave_onS ?zqk1 ?zqk2 ?zqk3 ?zqk4 ?_; (case zqk3 => assumption); (case zqk2 => assumption); (case zqk1 => assumption); (case zqk4 => assumption); k_whole; intro h' S' R' U'; (try dsimp only at S' R' U' ⊢)) | (refine' leave_newS ?zqk1 ?zqk0 ?zqk2 ?zqk3 ?_; (case zqk0 => assumption); (case zqk2 => assumption); (case zqk1 => assumption); (case zqk3 => k_asm); k_whole; intro h' S' R' U'; (try dsimp only at S' R' U' ⊢)) | (refine' leave_onSN ?zqk1 ?zqk2 ?zqk3 ?zqk4 ?_; (case zqk3 => assumption); (case zqk2 => assumption); (case zqk1 => assumption); (case zqk4 => assumption); k_whole; intro h' S' R' U'; (try dsimp only at S' R' U' ⊢)))))
  (k_with "!eval Name" => first | (k_here; (first | (with_reducible show wpAny _ _ (eval (Expr.Name _ _) (envOf _ _ _ _ _)) _ _ _) | (with_reducible show wpAny _ _ (eval (Expr.Name _ _) (envOfC _ _ _ _ _)) _ _ _)); k_dflt (first | (refine' nameX_L ?zqF ?zqv ?_ ?zqa ?zqb; (case zqF => k_asm); (case zqv => rfl); (case zqa => rfl); (case zqb => kernel_rfl); k_whole) | (refine' nameX_K ?zqF ?zqX ?zqT ?zqe ?_ ?zqa ?zqb; (case zqT => k_asm); (case zqX => k_asm); (case zqF => k_asm); (case zqe => k_is); (case zqa => rfl); (case zqb => kernel_rfl); k_whole) | (refine' nameX_B ?zqF ?zqX ?zqT ?zqe ?zqv ?zqn ?_ ?zqa ?zqb; (case zqT => k_asm); (case zqX => k_asm); (case zqF => k_asm); (case zqe => k_is); (case zqv => boot_fast); (case zqn => decide); (case zqa => rfl); (case zqb => kernel_rfl); k_whole))))
  (k_with "k_mem" => (assumption))
  (k_with "!execs cons" => (k_here; dsimp only))
  (k_with "!execs nil" => (k_here; dsimp only))
  (k_with "!call builtin:len" => (k_here; (with_reducible show wpAny _ _ (call (Value.builtin "len") [Value.bytes _ _]) _ _ _); (refine len_bytesV (by (try simp only [Array.size_append, List.size_toArray, octs_size, List.length_cons, List.length_nil, List.length_append]); omega) (by simp only [Array.size_append, List.size_toArray, octs_size, List.length_cons, List.length_nil, List.length_append]; rfl) ?_); intro _ _))
  (k_with "!SeqLeaf" => ((with_reducible show SeqLeaf ((_ = @ite _ _ _ _ _) ∧ Keeps _ _)); refine SeqLeaf.intro ⟨?_, ?_⟩; focus (first | (rw [if_neg (by assumption)]; done) | (rw [if_pos (by assumption)]; done) | (rw [if_neg (by assumption)]; exact rfl) | (rw [if_pos (by assumption)]; exact rfl)); focus (with_unfolding_all exact ⟨_, _, rfl, fun _ _ e => e⟩)))
  (k_with "!setItem ref int" => (k_here; (with_reducible show wpAny _ _ (setItem (Value.ref _) (Value.int _ _) (Value.int _ _)) _ _ _); k_dflt (refine' ksa_set ?zqk1 ?zqk2 ?zqk3 ?zqk4 ?zqk5 ?zqk6 ?zqk7 ?_; (case zqk1 => k_asm); (case zqk2 => k_asm); (case zqk3 => k_upd); (case zqk4 => with_reducible assumption); (case zqk5 => (have h7 := len_pos_of (by assumption); omega)); (case zqk6 => omega); (case zqk7 => omega); k_whole); intro h' F' N' hi' hl' hs'; (try k_sweep)))
  (k_with "!binaryOp Mult int int" => (k_here; (refine mul_int ?_ (mul_pow_ok (by omega)))))
  (k_with "!subscriptTail" => (k_here; (with_reducible show wpAny _ _ (subscriptTail _ _ (Value.ref _) (Value.int _ _)) _ _ _); refine' item_lst ?zqk1 ?zqk2 ?zqk3 ?zqk4 ?zqk5 ?_ ?zqk6; (case zqk1 => exact News.isList (by assumption) (by k_mem)); (case zqk2 => assumption); (case zqk3 => first | omega | (have h7 := len_pos_of (by assumption); omega)); (case zqk4 => omega); (case zqk5 => omega); (case zqk6 => with_unfolding_all rfl); intro _))
  (k_with "!binaryOp Add bytes bytes" => (k_here; (with_reducible show wpAny _ _ (binaryOp Operator.Add (Value.bytes _ _) (Value.bytes _ _)) _ _ _); (refine KBy.add_bytes (by (try simp only [Array.size_append, List.size_toArray, byteArr_size, List.length_cons, List.length_nil, List.length_map]); omega) ?_); intro _ _))
  trivial
theorem wdSQN1 : True := by
  (k_with "!call type:bytes" => (k_here; (with_reducible show wpAny _ _ (call (Value.type "bytes") [Value.bytes _ _]) _ _ _); refine bytes_id ?_))
  (k_with "!call ref" => first | (k_here; (try dsimp only [List.cons_append, List.nil_append]); (with_reducible show wpAny _ _ (call (Value.ref 1552) [Value.bytes _ _] _) _ _ _); k_dflt ((refine wpAny_call ?_); (refine' m_dueN  ?zqcB ?zqcF ?zqcX ?zqcN ?zqcT ?zqck ?zqcd ?zqcu  ?zqhd ?zqhn ?_); (case zqcN => k_asm); (case zqcB => k_asm); (case zqcF => k_asm); (case zqcX => k_asm); (case zqcT => k_asm); (case zqck => first | exact rfl | assumption); (case zqcd => k_room); (case zqcu => k_units); (case zqhd => assumption); (case zqhn => assumption); intro t' h' tk' F' N'; (try dsimp only); (try k_sweep); (try k_fold))) | (k_here; (try dsimp only [List.cons_append, List.nil_append]); (with_reducible show wpAny _ _ (call (Value.ref 1547) [Value.ref _] _) _ _ _); k_dflt ((refine wpAny_call ?_); (refine' m_rdN ?zqcXB ?zqcTB ?zqcB ?zqcF ?zqcX ?zqcN ?zqcT ?zqck ?zqcd ?zqcu ?zqMA ?zqMB ?zqhd ?zqh39 ?zqhn ?_); (case zqcN => k_asm); (case zqcB => k_asm); (case zqcXB => k_asm); (case zqcTB => k_asm); (case zqcF => k_asm); (case zqcX => k_asm); (case zqcT => k_asm); (case zqck => first | exact rfl | assumption); (case zqcd => k_room); (case zqcu => k_units); (case zqMA => k_mem); (case zqMB => k_mem); (case zqhd => assumption); (case zqh39 => assumption); (case zqhn => first | assumption | exact rd_no (by decide)); intro t' h' tk' F' N'; (try dsimp only); (try k_sweep); (try k_fold))))
  trivial
section
variable {w : World} {s₁ s : Shared} {loose : List Str} {mean : ExcName → Option Value} {mg mb : Str → Option Value} {l : Addr} {vs : List Value} {ns : List Int} {h₁ : Heap} {tk : Nat} {oS oB oL oH : Obj} {Q : Flow → Shared → Prop}
  (X : (K0 w.params).In s₁.heap) (T : Top q1 loose mean mg mb s₁.heap) (hL : s₁.heap.IsList l vs.toArray) (hI : IntsAre vs ns) (hlen : ns.length ≤ 63) (hg : s₁.gens = #[]) (B : Below callerA s₁.heap [] s₁.heap)
include X T hL hI hlen hg B
theorem segQN {sd : Int} {b : Bool} {t₃ : Tok} {p : Int} {kd : Array UInt8} {t₁ t₂ : Tok} {ms : List Int} {ys : List Value} {D : Addr} {lo hi : Int} {t₄ t₅ : Tok} {g : Bool} {dv : Value} {V dV : Addr} {va vb vc vd ve : Tok} {ko : Array UInt8} {g2 : Bool} {t₆ : Tok} {mv : Option Value} {nr he : Array UInt8} {t₇ t₈ : Tok}
  (F' : Fr s₁.heap s₁.heap.objs.size h₁ (fun y => if y = "head" then some (Value.bytes he t₈) else if y = "near" then some (Value.bytes nr t₇) else if y = "made" then mv else if y = "plain" then some (Value.bool g2) else if y = "other" then some (Value.bytes ko t₆) else if y = "vector" then some (Value.ref V) else if y = "due" then some (dv) else if y = "good" then some (Value.bool g) else if y = "numbers" then some (Value.ref D) else if y = "padding" then some (Value.int p t₁) else if y = "kind" then some (Value.bytes kd t₂) else mScr s₁.heap.objs.size l y))
  (N' : News s₁.heap s₁.heap.objs.size h₁ [(V, instObj 141 dV), (dV, dictOf [⟨PyData.keyHash w.params "data", .str "data" va, .ref D⟩, ⟨PyData.keyHash w.params "dtype", .str "dtype" vb, .bytes kd vc⟩, ⟨PyData.keyHash w.params "padding", .str "padding" vd, .int p ve⟩] 3), (D, LCg.lst ys), (s₁.heap.objs.size + 1 + 1 + 1 + 1, oH), (s₁.heap.objs.size + 1 + 1 + 1, oL), (s₁.heap.objs.size + 1 + 1, oB), (s₁.heap.objs.size + 1, oS)])
  (dS : oS.data = .cell (some (.int sd t₃))) (dB : oB.data = .cell (some (.bool b))) (dL : oL.data = .cell (some (.int lo t₄))) (dH : oH.data = .cell (some (.int hi t₅))) (hp : 0 ≤ p ∧ p ≤ 255) (hK : KD b kd) (hY : IntsAre ys ms) (hm : ms.length ≤ 8) (hD : s₁.heap.objs.size + 1 + 1 + 1 + 1 ≠ D ∧ s₁.heap.objs.size + 1 + 1 + 1 ≠ D ∧ s₁.heap.objs.size + 1 + 1 ≠ D ∧ s₁.heap.objs.size + 1 ≠ D) (hG : g = true ↔ Good b p ms) (hV : @LT.lt Nat _ D dV ∧ @LT.lt Nat _ dV V) (hO : KD (!b) ko) (hP : g2 = true ↔ Good b 0 ms) (hn8 : nr.size ≤ 8) (hh2 : he.size ≤ 2) (hQ : ∀ (h' : Heap) (tk' : Nat) (m' : Str → Option Value), Fr s₁.heap s₁.heap.objs.size h' m' → Q (.ret (.bool true)) { s₁ with heap := h', toks := tk' }) (h39 : ∀ x1 l, he ++ nr ≠ (39 :: x1 :: l).toArray) (hRd : ¬ Rd (he ++ nr) 9)
  (kont : True) :
  wpAny (model P1 w) (callerA.deeper (envL s₁.heap.objs.size)) (execs (restS 20) (envL s₁.heap.objs.size)) Q (fun _ _ => False) { s₁ with heap := h₁, toks := tk } := by
  rw [restS_eq 20 2 22]
  refine execs_hold ?_
  dsimp only [lawS, List.drop, List.take]
  have hsz : (he ++ nr).size ≤ 66 := by simp; omega
  k_steps
  all_goals
   (rw [show ((Str.ofString "value") == (Str.ofString "value")) = true from by decide +kernel]
    exact hQ _ _ _ (by k_asm))
end
end Mine
end
section
namespace Mine
theorem law_goal (w : World) : LawGoal w := by
  intro s₁ loose mean mg mb l vs ns h₁ tk cells X T hL hI hlen hg B F' N' Y'
  k_cells Y'
  rename_i oH oL oB oS dH dL dB dS
  rw [lawS.2, show lawS.1 = restS 0 from rfl]
  have hQ : ∀ (h' : Heap) (tk' : Nat) (m' : Str → Option Value), Fr s₁.heap s₁.heap.objs.size h' m' → (fun (fl : Flow) (s' : Shared) => fl = .ret (.bool true) ∧ ∃ h' tk' m', Fr s₁.heap s₁.heap.objs.size h' m' ∧ s' = { s₁ with heap := h', toks := tk' }) (.ret (.bool true)) { s₁ with heap := h', toks := tk' } := fun h' tk' m' F => ⟨rfl, h', tk', m', F, rfl⟩
  revert hQ
  generalize (fun (fl : Flow) (s' : Shared) => fl = .ret (.bool true) ∧ ∃ h' tk' m', Fr s₁.heap s₁.heap.objs.size h' m' ∧ s' = { s₁ with heap := h', toks := tk' }) = Q
  intro hQ
  refine segA X T hL hI hlen hg B F' N' dS dB dL dH ?_
  intro sd b oS oB t₃ h₂ tk₂ F' N' dS dB
  refine segB X T hL hI hlen hg B F' N' dS dB dL dH ?_
  intro p kd t₁ t₂ h₂ tk₂ F' N' hp hK
  refine segC X T hL hI hlen hg B F' N' dS dB dL dH hp hK ?_
  intro ms ys D h₂ tk₂ F' N' hY hm hD
  refine segD X T hL hI hlen hg B F' N' dS dB dL dH hp hK hY hm hD ?_
  intro ms ys h₂ tk₂ F' N' hY hm
  refine segE X T hL hI hlen hg B F' N' dS dB dL dH hp hK hY hm hD ?_
  intro lo hi oL oH t₄ t₅ h₂ tk₂ F' N' dL dH hLH
  refine segF X T hL hI hlen hg B F' N' dS dB dL dH hp hK hY hm hD ?_
  intro g h₂ tk₂ F' N' hG0
  refine segG X T hL hI hlen hg B F' N' dS dB dL dH hp hK hY hm hD hLH hG0 ?_
  intro g h₂ tk₂ F' N' hG
  have K : ∀ (dv : Value) (V dV : Addr) (va vb vc vd ve : Tok) (h' : Heap) (tk' : Nat), Fr s₁.heap s₁.heap.objs.size h' (fun y => if y = "vector" then some (Value.ref V) else if y = "due" then some (dv) else if y = "good" then some (Value.bool g) else if y = "numbers" then some (Value.ref D) else if y = "padding" then some (Value.int p t₁) else if y = "kind" then some (Value.bytes kd t₂) else mScr s₁.heap.objs.size l y) → News s₁.heap s₁.heap.objs.size h' [(V, instObj 141 dV), (dV, dictOf [⟨PyData.keyHash w.params "data", .str "data" va, .ref D⟩, ⟨PyData.keyHash w.params "dtype", .str "dtype" vb, .bytes kd vc⟩, ⟨PyData.keyHash w.params "padding", .str "padding" vd, .int p ve⟩] 3), (D, LCg.lst ys), (s₁.heap.objs.size + 1 + 1 + 1 + 1, oH), (s₁.heap.objs.size + 1 + 1 + 1, oL), (s₁.heap.objs.size + 1 + 1, oB), (s₁.heap.objs.size + 1, oS)] → (@LT.lt Nat _ D dV ∧ @LT.lt Nat _ dV V) → wpAny (model P1 w) (callerA.deeper (envL s₁.heap.objs.size)) (execs (restS 12) (envL s₁.heap.objs.size)) Q (fun _ _ => False) { s₁ with heap := h', toks := tk' } := by
    intro dv V dV va vb vc vd ve h₂ tk₂ F' N' hV
    refine segK X T hL hI hlen hg B F' N' dS dB dL dH hp hK hY hm hD hG hV hLH ?_
    intro ko g2 t₆ h₂ tk₂ F' N' hO hP
    have K2 : ∀ (h' : Heap) (tk' : Nat), Fr s₁.heap s₁.heap.objs.size h' (fun y => if y = "plain" then some (Value.bool g2) else if y = "other" then some (Value.bytes ko t₆) else if y = "vector" then some (Value.ref V) else if y = "due" then some (dv) else if y = "good" then some (Value.bool g) else if y = "numbers" then some (Value.ref D) else if y = "padding" then some (Value.int p t₁) else if y = "kind" then some (Value.bytes kd t₂) else mScr s₁.heap.objs.size l y) → News s₁.heap s₁.heap.objs.size h' [(V, instObj 141 dV), (dV, dictOf [⟨PyData.keyHash w.params "data", .str "data" va, .ref D⟩, ⟨PyData.keyHash w.params "dtype", .str "dtype" vb, .bytes kd vc⟩, ⟨PyData.keyHash w.params "padding", .str "padding" vd, .int p ve⟩] 3), (D, LCg.lst ys), (s₁.heap.objs.size + 1 + 1 + 1 + 1, oH), (s₁.heap.objs.size + 1 + 1 + 1, oL), (s₁.heap.objs.size + 1 + 1, oB), (s₁.heap.objs.size + 1, oS)] → True → wpAny (model P1 w) (callerA.deeper (envL s₁.heap.objs.size)) (execs (restS 15) (envL s₁.heap.objs.size)) Q (fun _ _ => False) { s₁ with heap := h', toks := tk' } := by
      intro h₂ tk₂ F' N' _
      refine segM X T hL hI hlen hg B F' N' dS dB dL dH hp hK hY hm hD hG hV hO hP ?_
      intro h₂ tk₂ F' N' _
      have K3 : ∀ (mv : Option Value) (h' : Heap) (tk' : Nat), Fr s₁.heap s₁.heap.objs.size h' (fun y => if y = "made" then mv else if y = "plain" then some (Value.bool g2) else if y = "other" then some (Value.bytes ko t₆) else if y = "vector" then some (Value.ref V) else if y = "due" then some (dv) else if y = "good" then some (Value.bool g) else if y = "numbers" then some (Value.ref D) else if y = "padding" then some (Value.int p t₁) else if y = "kind" then some (Value.bytes kd t₂) else mScr s₁.heap.objs.size l y) → News s₁.heap s₁.heap.objs.size h' [(V, instObj 141 dV), (dV, dictOf [⟨PyData.keyHash w.params "data", .str "data" va, .ref D⟩, ⟨PyData.keyHash w.params "dtype", .str "dtype" vb, .bytes kd vc⟩, ⟨PyData.keyHash w.params "padding", .str "padding" vd, .int p ve⟩] 3), (D, LCg.lst ys), (s₁.heap.objs.size + 1 + 1 + 1 + 1, oH), (s₁.heap.objs.size + 1 + 1 + 1, oL), (s₁.heap.objs.size + 1 + 1, oB), (s₁.heap.objs.size + 1, oS)] → True → wpAny (model P1 w) (callerA.deeper (envL s₁.heap.objs.size)) (execs (restS 17) (envL s₁.heap.objs.size)) Q (fun _ _ => False) { s₁ with heap := h', toks := tk' } := by
        intro mv h₂ tk₂ F' N' _
        refine segO X T hL hI hlen hg B F' N' dS dB dL dH hp hK hY hm hD hG hV hO hP ?_
        intro nr he t₇ t₈ h₂ tk₂ F' N' hn8 hh2
        refine segP X T hL hI hlen hg B F' N' dS dB dL dH hp hK hY hm hD hG hV hO hP hn8 hh2 hQ ?_
        intro h₂ tk₂ F' N' h39
        by_cases hRd : Rd (he ++ nr) 9
        · obtain ⟨x0, x1, lq, hde, _, hok⟩ := hRd
          exact segQY X T hL hI hlen hg B F' N' dS dB dL dH hp hK hY hm hD hG hV hO hP hn8 hh2 hQ h39 hde hok trivial
        · exact segQN X T hL hI hlen hg B F' N' dS dB dL dH hp hK hY hm hD hG hV hO hP hn8 hh2 hQ h39 hRd trivial
      cases hg1 : g with
      | true => exact segNG X T hL hI hlen hg B F' N' dS dB dL dH hp hK hY hm hD hG hV hO hP hg1 K3
      | false => exact segNB X T hL hI hlen hg B F' N' dS dB dL dH hp hK hY hm hD hG hV hO hP hg1 K3
    cases hg2 : g2 with
    | true => exact segLG X T hL hI hlen hg B F' N' dS dB dL dH hp hK hY hm hD hG hV hO hP hg2 K2
    | false => exact segLB X T hL hI hlen hg B F' N' dS dB dL dH hp hK hY hm hD hG hV hO hP hg2 K2
  refine segH X T hL hI hlen hg B F' N' dS dB dL dH hp hK hY hm hD ?_ ?_
  · intro z ta tb h₂ tk₂ F' N' hg1
    exact segJG X T hL hI hlen hg B F' N' dS dB dL dH hp hK hY hm hD hG hg1 K
  · intro tv h₂ tk₂ F' N' hg1
    exact segJB X T hL hI hlen hg B F' N' dS dB dL dH hp hK hY hm hD hG hg1 K
end Mine
end
set_option maxRecDepth 100000 in
set_option maxHeartbeats 8000000 in
theorem PySem.Challenge.cw_ag0002_03_holds : PySem.Challenge.rw_ag0002_03.Holds := by
  exact Mine.hd (Mine.walk_of Mine.law_goal)
